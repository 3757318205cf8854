/- Part 5 of what the laws lean on: arithmetic, walks through the functions, the curve. -/
import Derived.Test.YtfkfljohhabldaaDoorT4
import Derived.Laws.Append
import Derived.Laws.IdiomCopy
import Derived.Laws.MakeOwn
import Derived.Lib.SliceRun
namespace Go.Proofs.YtfkfljohhabldaaDoor
open Go.RowKit Go.FourQ
set_option maxRecDepth 100000 in
set_option maxHeartbeats 1000000 in
theorem plusP_c {w : World} {X Y Z U V W : Zq} :
   Calls Tryd.prog 24 #[.agg (dgL [X.re.val, X.im.val, Y.re.val, Y.im.val, Z.re.val, Z.im.val]), .agg (dgL [U.re.val, U.im.val, V.re.val, V.im.val, W.re.val, W.im.val])] w fun e w' => e = .returned (.agg (dgL [(((Z * W) * ((((Z * W) * (Z * W)) - (dd * ((X * U) * (Y * V)))) * ((X + Y) * (U + V) - (X * U) - (Y * V))))).re.val, (((Z * W) * ((((Z * W) * (Z * W)) - (dd * ((X * U) * (Y * V)))) * ((X + Y) * (U + V) - (X * U) - (Y * V))))).im.val, (((Z * W) * ((((Z * W) * (Z * W)) + (dd * ((X * U) * (Y * V)))) * ((Y * V) + (X * U))))).re.val, (((Z * W) * ((((Z * W) * (Z * W)) + (dd * ((X * U) * (Y * V)))) * ((Y * V) + (X * U))))).im.val, (((((Z * W) * (Z * W)) - (dd * ((X * U) * (Y * V)))) * (((Z * W) * (Z * W)) + (dd * ((X * U) * (Y * V)))))).re.val, (((((Z * W) * (Z * W)) - (dd * ((X * U) * (Y * V)))) * (((Z * W) * (Z * W)) + (dd * ((X * U) * (Y * V)))))).im.val])) ∧ Below w.heap.size w w' := by
 go_enter Tryd.func24, Tryd.ntmps24
 go_upto_region 1 with (fail)
 refine wp_gen (fun WW => Kept w [(w.heap.size, (dgL [X.re.val, X.im.val, Y.re.val, Y.im.val, Z.re.val, Z.im.val])), (w.heap.size + 1, (dgL [U.re.val, U.im.val, V.re.val, V.im.val, W.re.val, W.im.val])), (w.heap.size + 1 + 1, (dgL [0, 0, 0, 0, 0, 0]))] [] WW) (Kept.zero (nb_alloc (nb_alloc (nb_alloc (Below.refl _ _) _) _) _) (rowsC (row_as (hp3_0 (w := w) _ _ _) (by kernel_rfl)) (rowsC (row_as (hp3_1 (w := w) _ _ _) (by kernel_rfl)) (rowsC (row_as (hp3_2 (w := w) _ _ _) (by kernel_rfl)) rows0)))) ?_
 intro W0 K0
 have K1 : Kept w [(w.heap.size, (dgL [X.re.val, X.im.val, Y.re.val, Y.im.val, Z.re.val, Z.im.val])), (w.heap.size + 1, (dgL [U.re.val, U.im.val, V.re.val, V.im.val, W.re.val, W.im.val])), (w.heap.size + 1 + 1, (dgL [0, 0, 0, 0, 0, 0]))] [] W0 := Kept.mks K0.nb (rowsC (K0.at 0 rfl) (rowsC (K0.at 1 rfl) (rowsC (K0.at 2 rfl) rows0))) rooms0
 refine wsA (opsAt Tryd.f24 1) ((true, 0) :: (true, 1) :: (true, 2) :: (true, 3) :: (false, 4) :: (false, 5) :: (false, 6) :: []) (Kept w [(w.heap.size, (dgL [X.re.val, X.im.val, Y.re.val, Y.im.val, Z.re.val, Z.im.val])), (w.heap.size + 1, (dgL [U.re.val, U.im.val, V.re.val, V.im.val, W.re.val, W.im.val])), (w.heap.size + 1 + 1, (dgL [0, 0, 0, 0, 0, 0]))] []) K1 ?_
 refine kp (d := some 13) (v := .pointer (some ⟨w.heap.size, 32, none⟩)) ?_
 refine k_part (by kernel_rfl) (d := (some 14)) (by kernel_rfl) (ty := 39) (x := (.tmp 13)) (by kernel_rfl) (b := w.heap.size) (off := 32) (by kernel_rfl) (all := (dgL [X.re.val, X.im.val, Y.re.val, Y.im.val, Z.re.val, Z.im.val])) (cs := (dgQ Z.re.val Z.im.val)) (fun _ hs => hs.at 0 rfl) (dgsub2 (k := 4) rfl rfl) Tryd.underlying39 rfl (by kernel_rfl) ?_
 refine kp (d := some 15) (v := .pointer (some ⟨w.heap.size + 1, 32, none⟩)) ?_
 refine k_part (by kernel_rfl) (d := (some 16)) (by kernel_rfl) (ty := 39) (x := (.tmp 15)) (by kernel_rfl) (b := w.heap.size + 1) (off := 32) (by kernel_rfl) (all := (dgL [U.re.val, U.im.val, V.re.val, V.im.val, W.re.val, W.im.val])) (cs := (dgQ W.re.val W.im.val)) (fun _ hs => hs.at 1 rfl) (dgsub2 (k := 4) rfl rfl) Tryd.underlying39 rfl (by kernel_rfl) ?_
 refine kc (d := some 17) (f := 25) (args := #[.agg (dgQ Z.re.val Z.im.val), .agg (dgQ W.re.val W.im.val)]) (v := .agg (dgQ (((Z * W)).re.val) (((Z * W)).im.val))) (mulQ_q) (fun w2 hb2 => ⟨K1.go hb2, ?_⟩)
 have K2 := K1.go hb2
 have L2 := hb2.size
 refine k_make (by kernel_rfl) (d := (some 5)) (by kernel_rfl) (v := .pointer (some ⟨w2.heap.size, 0, none⟩)) (w' := w2.alloc (.cells (dgQ 0 0) 39)) (by kernel_rfl) (K2.go ((Below.refl _ _).alloc (Nat.le_refl _) _)) ?_
 intro w3 hw3 K3
 have G3_n : w3.heap[w2.heap.size]? = some (.cells (dgQ 0 0) 39 (0, 0)) := hw3 ▸ heap_alloc_new _ _
 have S3 : w2.heap.size < w3.heap.size := lt_of_heap G3_n
 have R3_0 : w.heap.size < w2.heap.size := (by obtain ⟨T, h⟩ := K2.at 0 rfl; exact lt_of_heap h)
 have R3_1 : w.heap.size + 1 < w2.heap.size := (by obtain ⟨T, h⟩ := K2.at 1 rfl; exact lt_of_heap h)
 have R3_2 : w.heap.size + 1 + 1 < w2.heap.size := (by obtain ⟨T, h⟩ := K2.at 2 rfl; exact lt_of_heap h)
 have Z3 : w.heap.size ≤ w2.heap.size := K2.nb.size
 clear hw3
 refine k_put (by kernel_rfl) (d := none) (by kernel_rfl) (ty := 39) (x := (.tmp 5)) (y := (.tmp 17)) (by kernel_rfl) (g := w2.heap.size) (cells := (dgQ (((Z * W)).re.val) (((Z * W)).im.val))) (by kernel_rfl) (by kernel_rfl) G3_n (by kernel_rfl) (by kernel_rfl) (all_dgA _) (K3.puti (n := 16) (by kernel_rfl) (by omega) (neC (by omega) (neC (by omega) (neC (by omega) ne0))) ns0) ?_
 intro w4 hw4 K4
 have G4_s : w4.heap[w2.heap.size]? = some (.cells (dgQ (((Z * W)).re.val) (((Z * W)).im.val)) _ (0, 0)) := hw4 ▸ setRow_heap _ _ _ _ _ _ G3_n
 have L4 : w3.heap.size ≤ w4.heap.size := by rw [hw4]; exact Nat.le_of_eq (size_setRow _ _ _).symm
 clear hw4
 have K5 : Kept w [(w.heap.size, (dgL [X.re.val, X.im.val, Y.re.val, Y.im.val, Z.re.val, Z.im.val])), (w.heap.size + 1, (dgL [U.re.val, U.im.val, V.re.val, V.im.val, W.re.val, W.im.val])), (w.heap.size + 1 + 1, (dgL [0, 0, 0, 0, 0, 0])), (w2.heap.size, (dgQ (((Z * W)).re.val) (((Z * W)).im.val)))] [] w4 := Kept.zero K4.nb (rowsC (K4.at 0 rfl) (rowsC (K4.at 1 rfl) (rowsC (K4.at 2 rfl) (rowsC ⟨_, G4_s⟩ rows0))))
 clear G4_s G3_n
 refine k_end ?_
 go_simp
 go_upto_region 2 with (fail)
 have K6 : Kept w [(w.heap.size, (dgL [X.re.val, X.im.val, Y.re.val, Y.im.val, Z.re.val, Z.im.val])), (w.heap.size + 1, (dgL [U.re.val, U.im.val, V.re.val, V.im.val, W.re.val, W.im.val])), (w.heap.size + 1 + 1, (dgL [0, 0, 0, 0, 0, 0])), (w2.heap.size, (dgQ (((Z * W)).re.val) (((Z * W)).im.val)))] [] w4 := Kept.mks K5.nb (rowsC (K5.at 0 rfl) (rowsC (K5.at 1 rfl) (rowsC (K5.at 2 rfl) (rowsC (K5.at 3 rfl) rows0)))) rooms0
 refine wsA (opsAt Tryd.f24 2) ((true, 0) :: (true, 1) :: (false, 2) :: (false, 3) :: (false, 4) :: []) (Kept w [(w.heap.size, (dgL [X.re.val, X.im.val, Y.re.val, Y.im.val, Z.re.val, Z.im.val])), (w.heap.size + 1, (dgL [U.re.val, U.im.val, V.re.val, V.im.val, W.re.val, W.im.val])), (w.heap.size + 1 + 1, (dgL [0, 0, 0, 0, 0, 0])), (w2.heap.size, (dgQ (((Z * W)).re.val) (((Z * W)).im.val)))] []) K6 ?_
 refine k_row (by kernel_rfl) (d := (some 18)) (by kernel_rfl) (ty := 39) (x := (.tmp 5)) (by kernel_rfl) (b := w2.heap.size) (by kernel_rfl) (cs := (dgQ (((Z * W)).re.val) (((Z * W)).im.val))) (fun _ hs => hs.at 3 rfl) Tryd.underlying39 rfl (by kernel_rfl) ?_
 refine k_row (by kernel_rfl) (d := (some 19)) (by kernel_rfl) (ty := 39) (x := (.tmp 5)) (by kernel_rfl) (b := w2.heap.size) (by kernel_rfl) (cs := (dgQ (((Z * W)).re.val) (((Z * W)).im.val))) (fun _ hs => hs.at 3 rfl) Tryd.underlying39 rfl (by kernel_rfl) ?_
 refine kc (d := some 20) (f := 25) (args := #[.agg (dgQ (((Z * W)).re.val) (((Z * W)).im.val)), .agg (dgQ (((Z * W)).re.val) (((Z * W)).im.val))]) (v := .agg (dgQ ((((Z * W) * (Z * W))).re.val) ((((Z * W) * (Z * W))).im.val))) (mulQ_q) (fun w7 hb7 => ⟨K6.go hb7, ?_⟩)
 have K7 := K6.go hb7
 have L7 := hb7.size
 refine k_make (by kernel_rfl) (d := (some 6)) (by kernel_rfl) (v := .pointer (some ⟨w7.heap.size, 0, none⟩)) (w' := w7.alloc (.cells (dgQ 0 0) 39)) (by kernel_rfl) (K7.go ((Below.refl _ _).alloc (Nat.le_refl _) _)) ?_
 intro w8 hw8 K8
 have G8_n : w8.heap[w7.heap.size]? = some (.cells (dgQ 0 0) 39 (0, 0)) := hw8 ▸ heap_alloc_new _ _
 have S8 : w7.heap.size < w8.heap.size := lt_of_heap G8_n
 have R8_0 : w.heap.size < w7.heap.size := (by obtain ⟨T, h⟩ := K7.at 0 rfl; exact lt_of_heap h)
 have R8_1 : w.heap.size + 1 < w7.heap.size := (by obtain ⟨T, h⟩ := K7.at 1 rfl; exact lt_of_heap h)
 have R8_2 : w.heap.size + 1 + 1 < w7.heap.size := (by obtain ⟨T, h⟩ := K7.at 2 rfl; exact lt_of_heap h)
 have R8_3 : w2.heap.size < w7.heap.size := (by obtain ⟨T, h⟩ := K7.at 3 rfl; exact lt_of_heap h)
 have Z8 : w.heap.size ≤ w7.heap.size := K7.nb.size
 clear hw8
 refine k_put (by kernel_rfl) (d := none) (by kernel_rfl) (ty := 39) (x := (.tmp 6)) (y := (.tmp 20)) (by kernel_rfl) (g := w7.heap.size) (cells := (dgQ ((((Z * W) * (Z * W))).re.val) ((((Z * W) * (Z * W))).im.val))) (by kernel_rfl) (by kernel_rfl) G8_n (by kernel_rfl) (by kernel_rfl) (all_dgA _) (K8.puti (n := 16) (by kernel_rfl) (by omega) (neC (by omega) (neC (by omega) (neC (by omega) (neC (by omega) ne0)))) ns0) ?_
 intro w9 hw9 K9
 have G9_s : w9.heap[w7.heap.size]? = some (.cells (dgQ ((((Z * W) * (Z * W))).re.val) ((((Z * W) * (Z * W))).im.val)) _ (0, 0)) := hw9 ▸ setRow_heap _ _ _ _ _ _ G8_n
 have L9 : w8.heap.size ≤ w9.heap.size := by rw [hw9]; exact Nat.le_of_eq (size_setRow _ _ _).symm
 clear hw9
 have K10 : Kept w [(w.heap.size, (dgL [X.re.val, X.im.val, Y.re.val, Y.im.val, Z.re.val, Z.im.val])), (w.heap.size + 1, (dgL [U.re.val, U.im.val, V.re.val, V.im.val, W.re.val, W.im.val])), (w.heap.size + 1 + 1, (dgL [0, 0, 0, 0, 0, 0])), (w2.heap.size, (dgQ (((Z * W)).re.val) (((Z * W)).im.val))), (w7.heap.size, (dgQ ((((Z * W) * (Z * W))).re.val) ((((Z * W) * (Z * W))).im.val)))] [] w9 := Kept.zero K9.nb (rowsC (K9.at 0 rfl) (rowsC (K9.at 1 rfl) (rowsC (K9.at 2 rfl) (rowsC (K9.at 3 rfl) (rowsC ⟨_, G9_s⟩ rows0)))))
 clear G9_s G8_n
 refine k_end ?_
 go_simp
 go_upto_region 3 with (fail)
 have K11 : Kept w [(w.heap.size, (dgL [X.re.val, X.im.val, Y.re.val, Y.im.val, Z.re.val, Z.im.val])), (w.heap.size + 1, (dgL [U.re.val, U.im.val, V.re.val, V.im.val, W.re.val, W.im.val])), (w.heap.size + 1 + 1, (dgL [0, 0, 0, 0, 0, 0])), (w2.heap.size, (dgQ (((Z * W)).re.val) (((Z * W)).im.val))), (w7.heap.size, (dgQ ((((Z * W) * (Z * W))).re.val) ((((Z * W) * (Z * W))).im.val)))] [] w9 := Kept.mks K10.nb (rowsC (K10.at 0 rfl) (rowsC (K10.at 1 rfl) (rowsC (K10.at 2 rfl) (rowsC (K10.at 3 rfl) (rowsC (K10.at 4 rfl) rows0))))) rooms0
 have RK11_0 : w.heap.size < w9.heap.size := (by obtain ⟨T, h⟩ := K10.at 0 rfl; exact lt_of_heap h)
 have RK11_1 : w.heap.size + 1 < w9.heap.size := (by obtain ⟨T, h⟩ := K10.at 1 rfl; exact lt_of_heap h)
 have RK11_2 : w.heap.size + 1 + 1 < w9.heap.size := (by obtain ⟨T, h⟩ := K10.at 2 rfl; exact lt_of_heap h)
 have RK11_3 : w2.heap.size < w9.heap.size := (by obtain ⟨T, h⟩ := K10.at 3 rfl; exact lt_of_heap h)
 have RK11_4 : w7.heap.size < w9.heap.size := (by obtain ⟨T, h⟩ := K10.at 4 rfl; exact lt_of_heap h)
 refine wp_meet (fun a' w' => ∃ p7 p8 : Nat, a' = { tmps := #[.agg (dgL [X.re.val, X.im.val, Y.re.val, Y.im.val, Z.re.val, Z.im.val]), .agg (dgL [U.re.val, U.im.val, V.re.val, V.im.val, W.re.val, W.im.val]), .pointer (some ⟨w.heap.size, 0, none⟩), .pointer (some ⟨w.heap.size + 1, 0, none⟩), .pointer (some ⟨w.heap.size + 1 + 1, 0, none⟩), .pointer (some ⟨w2.heap.size, 0, none⟩), .pointer (some ⟨w7.heap.size, 0, none⟩), .pointer (some ⟨p7, 0, none⟩), .pointer (some ⟨p8, 0, none⟩), undef, undef, undef, undef, .pointer (some ⟨w.heap.size, 32, none⟩), .agg (dgQ Z.re.val Z.im.val), .pointer (some ⟨w.heap.size + 1, 32, none⟩), .agg (dgQ W.re.val W.im.val), .agg (dgQ (((Z * W)).re.val) (((Z * W)).im.val)), .agg (dgQ (((Z * W)).re.val) (((Z * W)).im.val)), .agg (dgQ (((Z * W)).re.val) (((Z * W)).im.val)), .agg (dgQ ((((Z * W) * (Z * W))).re.val) ((((Z * W) * (Z * W))).im.val)), .pointer (some ⟨w.heap.size, 0, none⟩), .agg (dgQ X.re.val X.im.val), .pointer (some ⟨w.heap.size + 1, 0, none⟩), .agg (dgQ U.re.val U.im.val), .agg (dgQ (((X * U)).re.val) (((X * U)).im.val)), .pointer (some ⟨w.heap.size, 16, none⟩), .agg (dgQ Y.re.val Y.im.val), .pointer (some ⟨w.heap.size + 1, 16, none⟩), .agg (dgQ V.re.val V.im.val), .agg (dgQ (((Y * V)).re.val) (((Y * V)).im.val)), undef, undef, undef, undef, undef, undef, undef, undef, undef, undef, undef, undef, undef, undef, undef, undef, undef, undef, undef, undef, undef, undef, undef, undef, undef, undef, undef, undef, undef, undef, undef, undef, undef, undef, undef, undef, undef, undef, undef, undef, undef, undef], defers := [] } ∧ Kept w [(w.heap.size, (dgL [X.re.val, X.im.val, Y.re.val, Y.im.val, Z.re.val, Z.im.val])), (w.heap.size + 1, (dgL [U.re.val, U.im.val, V.re.val, V.im.val, W.re.val, W.im.val])), (w.heap.size + 1 + 1, (dgL [0, 0, 0, 0, 0, 0])), (w2.heap.size, (dgQ (((Z * W)).re.val) (((Z * W)).im.val))), (w7.heap.size, (dgQ ((((Z * W) * (Z * W))).re.val) ((((Z * W) * (Z * W))).im.val))), (p7, (dgQ (((X * U)).re.val) (((X * U)).im.val))), (p8, (dgQ (((Y * V)).re.val) (((Y * V)).im.val)))] [] w' ∧ w9.heap.size ≤ p7 ∧ w9.heap.size ≤ p8 ∧ p7 ≠ p8) ?_ ?_
 · refine wp_tree_at (opsAt Tryd.f24 3) (.take 0 (.take 1 (.take 2 (.take 3 (.take 5 (.take 6 (.take 7 (.take 8 (.fork 4 (.fork 9 (.fork 10 (.fork 11 (.fork 12 (.fork 13 .done .nil) .nil) .nil) (.fork 11 (.fork 10 (.fork 12 (.fork 13 .done .nil) .nil) .nil) .nil)) (.fork 10 (.fork 9 (.fork 11 (.fork 12 (.fork 13 .done .nil) .nil) .nil) (.fork 11 (.fork 9 (.fork 12 (.fork 13 .done .nil) .nil) .nil) .nil)) (.fork 11 (.fork 9 (.fork 10 (.fork 12 (.fork 13 .done .nil) .nil) .nil) (.fork 10 (.fork 9 (.fork 12 (.fork 13 .done .nil) .nil) .nil) .nil)) .nil))) (.fork 10 (.fork 4 (.fork 9 (.fork 11 (.fork 12 (.fork 13 .done .nil) .nil) .nil) (.fork 11 (.fork 9 (.fork 12 (.fork 13 .done .nil) .nil) .nil) .nil)) (.fork 11 (.fork 4 (.fork 9 (.fork 12 (.fork 13 .done .nil) .nil) .nil) .nil) .nil)) (.fork 11 (.fork 4 (.fork 9 (.fork 10 (.fork 12 (.fork 13 .done .nil) .nil) .nil) (.fork 10 (.fork 9 (.fork 12 (.fork 13 .done .nil) .nil) .nil) .nil)) (.fork 10 (.fork 4 (.fork 9 (.fork 12 (.fork 13 .done .nil) .nil) .nil) .nil) .nil)) .nil))))))))))) (Kept w [(w.heap.size, (dgL [X.re.val, X.im.val, Y.re.val, Y.im.val, Z.re.val, Z.im.val])), (w.heap.size + 1, (dgL [U.re.val, U.im.val, V.re.val, V.im.val, W.re.val, W.im.val])), (w.heap.size + 1 + 1, (dgL [0, 0, 0, 0, 0, 0])), (w2.heap.size, (dgQ (((Z * W)).re.val) (((Z * W)).im.val))), (w7.heap.size, (dgQ ((((Z * W) * (Z * W))).re.val) ((((Z * W) * (Z * W))).im.val)))] []) (by kernel_rfl) rfl (by kernel_rfl) (by intro c a d v w h; exact absurd h.1 (by simp)) (by kernel_rfl) (by kernel_rfl) K11.drew ?_
   have K12 := K11.drew
   have DK12 : w9.heap.size ≤ w9.drew.heap.size := Nat.le_refl _
   refine t_pure (by kernel_rfl) (d := (some 21)) (by kernel_rfl) (v := .pointer (some ⟨w.heap.size, 0, none⟩)) (fun _ => by kernel_rfl) ?_
   refine t_part (by kernel_rfl) (d := (some 22)) (by kernel_rfl) (ty := 39) (x := (.tmp 21)) (by kernel_rfl) (b := w.heap.size) (off := 0) (by kernel_rfl) (all := (dgL [X.re.val, X.im.val, Y.re.val, Y.im.val, Z.re.val, Z.im.val])) (cs := (dgQ X.re.val X.im.val)) (fun _ hs => hs.at 0 rfl) (dgsub2 (k := 0) rfl rfl) Tryd.underlying39 rfl (by kernel_rfl) ?_
   refine t_pure (by kernel_rfl) (d := (some 23)) (by kernel_rfl) (v := .pointer (some ⟨w.heap.size + 1, 0, none⟩)) (fun _ => by kernel_rfl) ?_
   refine t_part (by kernel_rfl) (d := (some 24)) (by kernel_rfl) (ty := 39) (x := (.tmp 23)) (by kernel_rfl) (b := w.heap.size + 1) (off := 0) (by kernel_rfl) (all := (dgL [U.re.val, U.im.val, V.re.val, V.im.val, W.re.val, W.im.val])) (cs := (dgQ U.re.val U.im.val)) (fun _ hs => hs.at 1 rfl) (dgsub2 (k := 0) rfl rfl) Tryd.underlying39 rfl (by kernel_rfl) ?_
   refine t_pure (by kernel_rfl) (d := (some 26)) (by kernel_rfl) (v := .pointer (some ⟨w.heap.size, 16, none⟩)) (fun _ => by kernel_rfl) ?_
   refine t_part (by kernel_rfl) (d := (some 27)) (by kernel_rfl) (ty := 39) (x := (.tmp 26)) (by kernel_rfl) (b := w.heap.size) (off := 16) (by kernel_rfl) (all := (dgL [X.re.val, X.im.val, Y.re.val, Y.im.val, Z.re.val, Z.im.val])) (cs := (dgQ Y.re.val Y.im.val)) (fun _ hs => hs.at 0 rfl) (dgsub2 (k := 2) rfl rfl) Tryd.underlying39 rfl (by kernel_rfl) ?_
   refine t_pure (by kernel_rfl) (d := (some 28)) (by kernel_rfl) (v := .pointer (some ⟨w.heap.size + 1, 16, none⟩)) (fun _ => by kernel_rfl) ?_
   refine t_part (by kernel_rfl) (d := (some 29)) (by kernel_rfl) (ty := 39) (x := (.tmp 28)) (by kernel_rfl) (b := w.heap.size + 1) (off := 16) (by kernel_rfl) (all := (dgL [U.re.val, U.im.val, V.re.val, V.im.val, W.re.val, W.im.val])) (cs := (dgQ V.re.val V.im.val)) (fun _ hs => hs.at 1 rfl) (dgsub2 (k := 2) rfl rfl) Tryd.underlying39 rfl (by kernel_rfl) ?_
   refine tc (d := some 25) (f := 25) (args := #[.agg (dgQ X.re.val X.im.val), .agg (dgQ U.re.val U.im.val)]) (v := .agg (dgQ (((X * U)).re.val) (((X * U)).im.val))) (mulQ_q) (fun w13 hb13 => ⟨K12.go hb13, ?_⟩) ?_
   · have K13 := K12.go hb13
     have L13 := hb13.size
     refine tc (d := some 30) (f := 25) (args := #[.agg (dgQ Y.re.val Y.im.val), .agg (dgQ V.re.val V.im.val)]) (v := .agg (dgQ (((Y * V)).re.val) (((Y * V)).im.val))) (mulQ_q) (fun w14 hb14 => ⟨K13.go hb14, ?_⟩) ?_
     · have K14 := K13.go hb14
       have L14 := hb14.size
       refine t_make (by kernel_rfl) (d := (some 7)) (by kernel_rfl) (v := .pointer (some ⟨w14.heap.size, 0, none⟩)) (w' := w14.alloc (.cells (dgQ 0 0) 39)) (by kernel_rfl) (K14.go ((Below.refl _ _).alloc (Nat.le_refl _) _)) ?_ ?_
       · intro w15 hw15 K15
         have G15_n : w15.heap[w14.heap.size]? = some (.cells (dgQ 0 0) 39 (0, 0)) := hw15 ▸ heap_alloc_new _ _
         have S15 : w14.heap.size < w15.heap.size := lt_of_heap G15_n
         have R15_0 : w.heap.size < w14.heap.size := (by obtain ⟨T, h⟩ := K14.at 0 rfl; exact lt_of_heap h)
         have R15_1 : w.heap.size + 1 < w14.heap.size := (by obtain ⟨T, h⟩ := K14.at 1 rfl; exact lt_of_heap h)
         have R15_2 : w.heap.size + 1 + 1 < w14.heap.size := (by obtain ⟨T, h⟩ := K14.at 2 rfl; exact lt_of_heap h)
         have R15_3 : w2.heap.size < w14.heap.size := (by obtain ⟨T, h⟩ := K14.at 3 rfl; exact lt_of_heap h)
         have R15_4 : w7.heap.size < w14.heap.size := (by obtain ⟨T, h⟩ := K14.at 4 rfl; exact lt_of_heap h)
         have Z15 : w.heap.size ≤ w14.heap.size := K14.nb.size
         clear hw15
         refine t_make (by kernel_rfl) (d := (some 8)) (by kernel_rfl) (v := .pointer (some ⟨w15.heap.size, 0, none⟩)) (w' := w15.alloc (.cells (dgQ 0 0) 39)) (by kernel_rfl) (K15.go ((Below.refl _ _).alloc (Nat.le_refl _) _)) ?_ ?_
         · intro w16 hw16 K16
           have L16_0 := lt_of_heap G15_n
           have G16_0 : w16.heap[w14.heap.size]? = some (.cells (dgQ 0 0) _ (0, 0)) := hw16 ▸ hp_alloc G15_n _
           have G16_n : w16.heap[w15.heap.size]? = some (.cells (dgQ 0 0) 39 (0, 0)) := hw16 ▸ heap_alloc_new _ _
           have S16 : w15.heap.size < w16.heap.size := lt_of_heap G16_n
           have R16_0 : w.heap.size < w15.heap.size := (by obtain ⟨T, h⟩ := K15.at 0 rfl; exact lt_of_heap h)
           have R16_1 : w.heap.size + 1 < w15.heap.size := (by obtain ⟨T, h⟩ := K15.at 1 rfl; exact lt_of_heap h)
           have R16_2 : w.heap.size + 1 + 1 < w15.heap.size := (by obtain ⟨T, h⟩ := K15.at 2 rfl; exact lt_of_heap h)
           have R16_3 : w2.heap.size < w15.heap.size := (by obtain ⟨T, h⟩ := K15.at 3 rfl; exact lt_of_heap h)
           have R16_4 : w7.heap.size < w15.heap.size := (by obtain ⟨T, h⟩ := K15.at 4 rfl; exact lt_of_heap h)
           have Z16 : w.heap.size ≤ w15.heap.size := K15.nb.size
           clear hw16
           refine t_store (by kernel_rfl) (d := none) (by kernel_rfl) (ty := 39) (x := (.tmp 7)) (y := (.tmp 25)) (by kernel_rfl) (g := w14.heap.size) (cells := (dgQ (((X * U)).re.val) (((X * U)).im.val))) (by kernel_rfl) (by kernel_rfl) G16_0 (by kernel_rfl) (by kernel_rfl) (all_dgA _) (K16.puti (n := 16) (by kernel_rfl) (by omega) (neC (by omega) (neC (by omega) (neC (by omega) (neC (by omega) (neC (by omega) ne0))))) ns0) ?_ ?_
           · intro w17 hw17 K17
             have G17_s : w17.heap[w14.heap.size]? = some (.cells (dgQ (((X * U)).re.val) (((X * U)).im.val)) _ (0, 0)) := hw17 ▸ setRow_heap _ _ _ _ _ _ G16_0
             have G17_1 : w17.heap[w15.heap.size]? = some (.cells (dgQ 0 0) _ (0, 0)) := hw17 ▸ (setRow_other _ _ _ _ (by omega)).trans G16_n
             have L17 : w16.heap.size ≤ w17.heap.size := by rw [hw17]; exact Nat.le_of_eq (size_setRow _ _ _).symm
             clear hw17
             refine t_store (by kernel_rfl) (d := none) (by kernel_rfl) (ty := 39) (x := (.tmp 8)) (y := (.tmp 30)) (by kernel_rfl) (g := w15.heap.size) (cells := (dgQ (((Y * V)).re.val) (((Y * V)).im.val))) (by kernel_rfl) (by kernel_rfl) G17_1 (by kernel_rfl) (by kernel_rfl) (all_dgA _) (K17.puti (n := 16) (by kernel_rfl) (by omega) (neC (by omega) (neC (by omega) (neC (by omega) (neC (by omega) (neC (by omega) ne0))))) ns0) ?_ ?_
             · intro w18 hw18 K18
               have G18_s : w18.heap[w15.heap.size]? = some (.cells (dgQ (((Y * V)).re.val) (((Y * V)).im.val)) _ (0, 0)) := hw18 ▸ setRow_heap _ _ _ _ _ _ G17_1
               have G18_0 : w18.heap[w14.heap.size]? = some (.cells (dgQ (((X * U)).re.val) (((X * U)).im.val)) _ (0, 0)) := hw18 ▸ (setRow_other _ _ _ _ (by omega)).trans G17_s
               have L18 : w17.heap.size ≤ w18.heap.size := by rw [hw18]; exact Nat.le_of_eq (size_setRow _ _ _).symm
               clear hw18
               exact t_done ⟨rfl, w14.heap.size, w15.heap.size, by kernel_rfl, Kept.zero K18.nb (rowsC (K18.at 0 rfl) (rowsC (K18.at 1 rfl) (rowsC (K18.at 2 rfl) (rowsC (K18.at 3 rfl) (rowsC (K18.at 4 rfl) (rowsC ⟨_, G18_0⟩ (rowsC ⟨_, G18_s⟩ rows0))))))), (by omega), (by omega), (by omega)⟩
             ·
               exact t_nil
           ·
             exact t_nil
         ·
           exact t_nil
       ·
         refine t_make (by kernel_rfl) (d := (some 8)) (by kernel_rfl) (v := .pointer (some ⟨w14.heap.size, 0, none⟩)) (w' := w14.alloc (.cells (dgQ 0 0) 39)) (by kernel_rfl) (K14.go ((Below.refl _ _).alloc (Nat.le_refl _) _)) ?_ ?_
         · intro w19 hw19 K19
           have G19_n : w19.heap[w14.heap.size]? = some (.cells (dgQ 0 0) 39 (0, 0)) := hw19 ▸ heap_alloc_new _ _
           have S19 : w14.heap.size < w19.heap.size := lt_of_heap G19_n
           have R19_0 : w.heap.size < w14.heap.size := (by obtain ⟨T, h⟩ := K14.at 0 rfl; exact lt_of_heap h)
           have R19_1 : w.heap.size + 1 < w14.heap.size := (by obtain ⟨T, h⟩ := K14.at 1 rfl; exact lt_of_heap h)
           have R19_2 : w.heap.size + 1 + 1 < w14.heap.size := (by obtain ⟨T, h⟩ := K14.at 2 rfl; exact lt_of_heap h)
           have R19_3 : w2.heap.size < w14.heap.size := (by obtain ⟨T, h⟩ := K14.at 3 rfl; exact lt_of_heap h)
           have R19_4 : w7.heap.size < w14.heap.size := (by obtain ⟨T, h⟩ := K14.at 4 rfl; exact lt_of_heap h)
           have Z19 : w.heap.size ≤ w14.heap.size := K14.nb.size
           clear hw19
           refine t_make (by kernel_rfl) (d := (some 7)) (by kernel_rfl) (v := .pointer (some ⟨w19.heap.size, 0, none⟩)) (w' := w19.alloc (.cells (dgQ 0 0) 39)) (by kernel_rfl) (K19.go ((Below.refl _ _).alloc (Nat.le_refl _) _)) ?_ ?_
           · intro w20 hw20 K20
             have L20_0 := lt_of_heap G19_n
             have G20_0 : w20.heap[w14.heap.size]? = some (.cells (dgQ 0 0) _ (0, 0)) := hw20 ▸ hp_alloc G19_n _
             have G20_n : w20.heap[w19.heap.size]? = some (.cells (dgQ 0 0) 39 (0, 0)) := hw20 ▸ heap_alloc_new _ _
             have S20 : w19.heap.size < w20.heap.size := lt_of_heap G20_n
             have R20_0 : w.heap.size < w19.heap.size := (by obtain ⟨T, h⟩ := K19.at 0 rfl; exact lt_of_heap h)
             have R20_1 : w.heap.size + 1 < w19.heap.size := (by obtain ⟨T, h⟩ := K19.at 1 rfl; exact lt_of_heap h)
             have R20_2 : w.heap.size + 1 + 1 < w19.heap.size := (by obtain ⟨T, h⟩ := K19.at 2 rfl; exact lt_of_heap h)
             have R20_3 : w2.heap.size < w19.heap.size := (by obtain ⟨T, h⟩ := K19.at 3 rfl; exact lt_of_heap h)
             have R20_4 : w7.heap.size < w19.heap.size := (by obtain ⟨T, h⟩ := K19.at 4 rfl; exact lt_of_heap h)
             have Z20 : w.heap.size ≤ w19.heap.size := K19.nb.size
             clear hw20
             refine t_store (by kernel_rfl) (d := none) (by kernel_rfl) (ty := 39) (x := (.tmp 7)) (y := (.tmp 25)) (by kernel_rfl) (g := w19.heap.size) (cells := (dgQ (((X * U)).re.val) (((X * U)).im.val))) (by kernel_rfl) (by kernel_rfl) G20_n (by kernel_rfl) (by kernel_rfl) (all_dgA _) (K20.puti (n := 16) (by kernel_rfl) (by omega) (neC (by omega) (neC (by omega) (neC (by omega) (neC (by omega) (neC (by omega) ne0))))) ns0) ?_ ?_
             · intro w21 hw21 K21
               have G21_s : w21.heap[w19.heap.size]? = some (.cells (dgQ (((X * U)).re.val) (((X * U)).im.val)) _ (0, 0)) := hw21 ▸ setRow_heap _ _ _ _ _ _ G20_n
               have G21_0 : w21.heap[w14.heap.size]? = some (.cells (dgQ 0 0) _ (0, 0)) := hw21 ▸ (setRow_other _ _ _ _ (by omega)).trans G20_0
               have L21 : w20.heap.size ≤ w21.heap.size := by rw [hw21]; exact Nat.le_of_eq (size_setRow _ _ _).symm
               clear hw21
               refine t_store (by kernel_rfl) (d := none) (by kernel_rfl) (ty := 39) (x := (.tmp 8)) (y := (.tmp 30)) (by kernel_rfl) (g := w14.heap.size) (cells := (dgQ (((Y * V)).re.val) (((Y * V)).im.val))) (by kernel_rfl) (by kernel_rfl) G21_0 (by kernel_rfl) (by kernel_rfl) (all_dgA _) (K21.puti (n := 16) (by kernel_rfl) (by omega) (neC (by omega) (neC (by omega) (neC (by omega) (neC (by omega) (neC (by omega) ne0))))) ns0) ?_ ?_
               · intro w22 hw22 K22
                 have G22_s : w22.heap[w14.heap.size]? = some (.cells (dgQ (((Y * V)).re.val) (((Y * V)).im.val)) _ (0, 0)) := hw22 ▸ setRow_heap _ _ _ _ _ _ G21_0
                 have G22_1 : w22.heap[w19.heap.size]? = some (.cells (dgQ (((X * U)).re.val) (((X * U)).im.val)) _ (0, 0)) := hw22 ▸ (setRow_other _ _ _ _ (by omega)).trans G21_s
                 have L22 : w21.heap.size ≤ w22.heap.size := by rw [hw22]; exact Nat.le_of_eq (size_setRow _ _ _).symm
                 clear hw22
                 exact t_done ⟨rfl, w19.heap.size, w14.heap.size, by kernel_rfl, Kept.zero K22.nb (rowsC (K22.at 0 rfl) (rowsC (K22.at 1 rfl) (rowsC (K22.at 2 rfl) (rowsC (K22.at 3 rfl) (rowsC (K22.at 4 rfl) (rowsC ⟨_, G22_1⟩ (rowsC ⟨_, G22_s⟩ rows0))))))), (by omega), (by omega), (by omega)⟩
               ·
                 exact t_nil
             ·
               exact t_nil
           ·
             exact t_nil
         ·
           exact t_nil
     ·
       refine t_make (by kernel_rfl) (d := (some 7)) (by kernel_rfl) (v := .pointer (some ⟨w13.heap.size, 0, none⟩)) (w' := w13.alloc (.cells (dgQ 0 0) 39)) (by kernel_rfl) (K13.go ((Below.refl _ _).alloc (Nat.le_refl _) _)) ?_ ?_
       · intro w23 hw23 K23
         have G23_n : w23.heap[w13.heap.size]? = some (.cells (dgQ 0 0) 39 (0, 0)) := hw23 ▸ heap_alloc_new _ _
         have S23 : w13.heap.size < w23.heap.size := lt_of_heap G23_n
         have R23_0 : w.heap.size < w13.heap.size := (by obtain ⟨T, h⟩ := K13.at 0 rfl; exact lt_of_heap h)
         have R23_1 : w.heap.size + 1 < w13.heap.size := (by obtain ⟨T, h⟩ := K13.at 1 rfl; exact lt_of_heap h)
         have R23_2 : w.heap.size + 1 + 1 < w13.heap.size := (by obtain ⟨T, h⟩ := K13.at 2 rfl; exact lt_of_heap h)
         have R23_3 : w2.heap.size < w13.heap.size := (by obtain ⟨T, h⟩ := K13.at 3 rfl; exact lt_of_heap h)
         have R23_4 : w7.heap.size < w13.heap.size := (by obtain ⟨T, h⟩ := K13.at 4 rfl; exact lt_of_heap h)
         have Z23 : w.heap.size ≤ w13.heap.size := K13.nb.size
         clear hw23
         refine tc (d := some 30) (f := 25) (args := #[.agg (dgQ Y.re.val Y.im.val), .agg (dgQ V.re.val V.im.val)]) (v := .agg (dgQ (((Y * V)).re.val) (((Y * V)).im.val))) (mulQ_q) (fun w24 hb24 => ⟨K23.go hb24, ?_⟩) ?_
         · have K24 := K23.go hb24
           have G24_10 := nb_heap G23_n _ hb24
           have L24 := hb24.size
           refine t_make (by kernel_rfl) (d := (some 8)) (by kernel_rfl) (v := .pointer (some ⟨w24.heap.size, 0, none⟩)) (w' := w24.alloc (.cells (dgQ 0 0) 39)) (by kernel_rfl) (K24.go ((Below.refl _ _).alloc (Nat.le_refl _) _)) ?_ ?_
           · intro w25 hw25 K25
             have L25_0 := lt_of_heap G24_10
             have G25_0 : w25.heap[w13.heap.size]? = some (.cells (dgQ 0 0) _ (0, 0)) := hw25 ▸ hp_alloc G24_10 _
             have G25_n : w25.heap[w24.heap.size]? = some (.cells (dgQ 0 0) 39 (0, 0)) := hw25 ▸ heap_alloc_new _ _
             have S25 : w24.heap.size < w25.heap.size := lt_of_heap G25_n
             have R25_0 : w.heap.size < w24.heap.size := (by obtain ⟨T, h⟩ := K24.at 0 rfl; exact lt_of_heap h)
             have R25_1 : w.heap.size + 1 < w24.heap.size := (by obtain ⟨T, h⟩ := K24.at 1 rfl; exact lt_of_heap h)
             have R25_2 : w.heap.size + 1 + 1 < w24.heap.size := (by obtain ⟨T, h⟩ := K24.at 2 rfl; exact lt_of_heap h)
             have R25_3 : w2.heap.size < w24.heap.size := (by obtain ⟨T, h⟩ := K24.at 3 rfl; exact lt_of_heap h)
             have R25_4 : w7.heap.size < w24.heap.size := (by obtain ⟨T, h⟩ := K24.at 4 rfl; exact lt_of_heap h)
             have Z25 : w.heap.size ≤ w24.heap.size := K24.nb.size
             clear hw25
             refine t_store (by kernel_rfl) (d := none) (by kernel_rfl) (ty := 39) (x := (.tmp 7)) (y := (.tmp 25)) (by kernel_rfl) (g := w13.heap.size) (cells := (dgQ (((X * U)).re.val) (((X * U)).im.val))) (by kernel_rfl) (by kernel_rfl) G25_0 (by kernel_rfl) (by kernel_rfl) (all_dgA _) (K25.puti (n := 16) (by kernel_rfl) (by omega) (neC (by omega) (neC (by omega) (neC (by omega) (neC (by omega) (neC (by omega) ne0))))) ns0) ?_ ?_
             · intro w26 hw26 K26
               have G26_s : w26.heap[w13.heap.size]? = some (.cells (dgQ (((X * U)).re.val) (((X * U)).im.val)) _ (0, 0)) := hw26 ▸ setRow_heap _ _ _ _ _ _ G25_0
               have G26_1 : w26.heap[w24.heap.size]? = some (.cells (dgQ 0 0) _ (0, 0)) := hw26 ▸ (setRow_other _ _ _ _ (by omega)).trans G25_n
               have L26 : w25.heap.size ≤ w26.heap.size := by rw [hw26]; exact Nat.le_of_eq (size_setRow _ _ _).symm
               clear hw26
               refine t_store (by kernel_rfl) (d := none) (by kernel_rfl) (ty := 39) (x := (.tmp 8)) (y := (.tmp 30)) (by kernel_rfl) (g := w24.heap.size) (cells := (dgQ (((Y * V)).re.val) (((Y * V)).im.val))) (by kernel_rfl) (by kernel_rfl) G26_1 (by kernel_rfl) (by kernel_rfl) (all_dgA _) (K26.puti (n := 16) (by kernel_rfl) (by omega) (neC (by omega) (neC (by omega) (neC (by omega) (neC (by omega) (neC (by omega) ne0))))) ns0) ?_ ?_
               · intro w27 hw27 K27
                 have G27_s : w27.heap[w24.heap.size]? = some (.cells (dgQ (((Y * V)).re.val) (((Y * V)).im.val)) _ (0, 0)) := hw27 ▸ setRow_heap _ _ _ _ _ _ G26_1
                 have G27_0 : w27.heap[w13.heap.size]? = some (.cells (dgQ (((X * U)).re.val) (((X * U)).im.val)) _ (0, 0)) := hw27 ▸ (setRow_other _ _ _ _ (by omega)).trans G26_s
                 have L27 : w26.heap.size ≤ w27.heap.size := by rw [hw27]; exact Nat.le_of_eq (size_setRow _ _ _).symm
                 clear hw27
                 exact t_done ⟨rfl, w13.heap.size, w24.heap.size, by kernel_rfl, Kept.zero K27.nb (rowsC (K27.at 0 rfl) (rowsC (K27.at 1 rfl) (rowsC (K27.at 2 rfl) (rowsC (K27.at 3 rfl) (rowsC (K27.at 4 rfl) (rowsC ⟨_, G27_0⟩ (rowsC ⟨_, G27_s⟩ rows0))))))), (by omega), (by omega), (by omega)⟩
               ·
                 exact t_nil
             ·
               exact t_nil
           ·
             exact t_nil
         ·
           refine t_make (by kernel_rfl) (d := (some 8)) (by kernel_rfl) (v := .pointer (some ⟨w23.heap.size, 0, none⟩)) (w' := w23.alloc (.cells (dgQ 0 0) 39)) (by kernel_rfl) (K23.go ((Below.refl _ _).alloc (Nat.le_refl _) _)) ?_ ?_
           · intro w28 hw28 K28
             have L28_0 := lt_of_heap G23_n
             have G28_0 : w28.heap[w13.heap.size]? = some (.cells (dgQ 0 0) _ (0, 0)) := hw28 ▸ hp_alloc G23_n _
             have G28_n : w28.heap[w23.heap.size]? = some (.cells (dgQ 0 0) 39 (0, 0)) := hw28 ▸ heap_alloc_new _ _
             have S28 : w23.heap.size < w28.heap.size := lt_of_heap G28_n
             have R28_0 : w.heap.size < w23.heap.size := (by obtain ⟨T, h⟩ := K23.at 0 rfl; exact lt_of_heap h)
             have R28_1 : w.heap.size + 1 < w23.heap.size := (by obtain ⟨T, h⟩ := K23.at 1 rfl; exact lt_of_heap h)
             have R28_2 : w.heap.size + 1 + 1 < w23.heap.size := (by obtain ⟨T, h⟩ := K23.at 2 rfl; exact lt_of_heap h)
             have R28_3 : w2.heap.size < w23.heap.size := (by obtain ⟨T, h⟩ := K23.at 3 rfl; exact lt_of_heap h)
             have R28_4 : w7.heap.size < w23.heap.size := (by obtain ⟨T, h⟩ := K23.at 4 rfl; exact lt_of_heap h)
             have Z28 : w.heap.size ≤ w23.heap.size := K23.nb.size
             clear hw28
             refine tc (d := some 30) (f := 25) (args := #[.agg (dgQ Y.re.val Y.im.val), .agg (dgQ V.re.val V.im.val)]) (v := .agg (dgQ (((Y * V)).re.val) (((Y * V)).im.val))) (mulQ_q) (fun w29 hb29 => ⟨K28.go hb29, ?_⟩) ?_
             · have K29 := K28.go hb29
               have G29_20 := nb_heap G28_0 _ hb29
               have G29_21 := nb_heap G28_n _ hb29
               have L29 := hb29.size
               refine t_store (by kernel_rfl) (d := none) (by kernel_rfl) (ty := 39) (x := (.tmp 7)) (y := (.tmp 25)) (by kernel_rfl) (g := w13.heap.size) (cells := (dgQ (((X * U)).re.val) (((X * U)).im.val))) (by kernel_rfl) (by kernel_rfl) G29_20 (by kernel_rfl) (by kernel_rfl) (all_dgA _) (K29.puti (n := 16) (by kernel_rfl) (by omega) (neC (by omega) (neC (by omega) (neC (by omega) (neC (by omega) (neC (by omega) ne0))))) ns0) ?_ ?_
               · intro w30 hw30 K30
                 have G30_s : w30.heap[w13.heap.size]? = some (.cells (dgQ (((X * U)).re.val) (((X * U)).im.val)) _ (0, 0)) := hw30 ▸ setRow_heap _ _ _ _ _ _ G29_20
                 have G30_1 : w30.heap[w23.heap.size]? = some (.cells (dgQ 0 0) _ (0, 0)) := hw30 ▸ (setRow_other _ _ _ _ (by omega)).trans G29_21
                 have L30 : w29.heap.size ≤ w30.heap.size := by rw [hw30]; exact Nat.le_of_eq (size_setRow _ _ _).symm
                 clear hw30
                 refine t_store (by kernel_rfl) (d := none) (by kernel_rfl) (ty := 39) (x := (.tmp 8)) (y := (.tmp 30)) (by kernel_rfl) (g := w23.heap.size) (cells := (dgQ (((Y * V)).re.val) (((Y * V)).im.val))) (by kernel_rfl) (by kernel_rfl) G30_1 (by kernel_rfl) (by kernel_rfl) (all_dgA _) (K30.puti (n := 16) (by kernel_rfl) (by omega) (neC (by omega) (neC (by omega) (neC (by omega) (neC (by omega) (neC (by omega) ne0))))) ns0) ?_ ?_
                 · intro w31 hw31 K31
                   have G31_s : w31.heap[w23.heap.size]? = some (.cells (dgQ (((Y * V)).re.val) (((Y * V)).im.val)) _ (0, 0)) := hw31 ▸ setRow_heap _ _ _ _ _ _ G30_1
                   have G31_0 : w31.heap[w13.heap.size]? = some (.cells (dgQ (((X * U)).re.val) (((X * U)).im.val)) _ (0, 0)) := hw31 ▸ (setRow_other _ _ _ _ (by omega)).trans G30_s
                   have L31 : w30.heap.size ≤ w31.heap.size := by rw [hw31]; exact Nat.le_of_eq (size_setRow _ _ _).symm
                   clear hw31
                   exact t_done ⟨rfl, w13.heap.size, w23.heap.size, by kernel_rfl, Kept.zero K31.nb (rowsC (K31.at 0 rfl) (rowsC (K31.at 1 rfl) (rowsC (K31.at 2 rfl) (rowsC (K31.at 3 rfl) (rowsC (K31.at 4 rfl) (rowsC ⟨_, G31_0⟩ (rowsC ⟨_, G31_s⟩ rows0))))))), (by omega), (by omega), (by omega)⟩
                 ·
                   exact t_nil
               ·
                 exact t_nil
             ·
               exact t_nil
           ·
             exact t_nil
       ·
         refine t_make (by kernel_rfl) (d := (some 8)) (by kernel_rfl) (v := .pointer (some ⟨w13.heap.size, 0, none⟩)) (w' := w13.alloc (.cells (dgQ 0 0) 39)) (by kernel_rfl) (K13.go ((Below.refl _ _).alloc (Nat.le_refl _) _)) ?_ ?_
         · intro w32 hw32 K32
           have G32_n : w32.heap[w13.heap.size]? = some (.cells (dgQ 0 0) 39 (0, 0)) := hw32 ▸ heap_alloc_new _ _
           have S32 : w13.heap.size < w32.heap.size := lt_of_heap G32_n
           have R32_0 : w.heap.size < w13.heap.size := (by obtain ⟨T, h⟩ := K13.at 0 rfl; exact lt_of_heap h)
           have R32_1 : w.heap.size + 1 < w13.heap.size := (by obtain ⟨T, h⟩ := K13.at 1 rfl; exact lt_of_heap h)
           have R32_2 : w.heap.size + 1 + 1 < w13.heap.size := (by obtain ⟨T, h⟩ := K13.at 2 rfl; exact lt_of_heap h)
           have R32_3 : w2.heap.size < w13.heap.size := (by obtain ⟨T, h⟩ := K13.at 3 rfl; exact lt_of_heap h)
           have R32_4 : w7.heap.size < w13.heap.size := (by obtain ⟨T, h⟩ := K13.at 4 rfl; exact lt_of_heap h)
           have Z32 : w.heap.size ≤ w13.heap.size := K13.nb.size
           clear hw32
           refine tc (d := some 30) (f := 25) (args := #[.agg (dgQ Y.re.val Y.im.val), .agg (dgQ V.re.val V.im.val)]) (v := .agg (dgQ (((Y * V)).re.val) (((Y * V)).im.val))) (mulQ_q) (fun w33 hb33 => ⟨K32.go hb33, ?_⟩) ?_
           · have K33 := K32.go hb33
             have G33_10 := nb_heap G32_n _ hb33
             have L33 := hb33.size
             refine t_make (by kernel_rfl) (d := (some 7)) (by kernel_rfl) (v := .pointer (some ⟨w33.heap.size, 0, none⟩)) (w' := w33.alloc (.cells (dgQ 0 0) 39)) (by kernel_rfl) (K33.go ((Below.refl _ _).alloc (Nat.le_refl _) _)) ?_ ?_
             · intro w34 hw34 K34
               have L34_0 := lt_of_heap G33_10
               have G34_0 : w34.heap[w13.heap.size]? = some (.cells (dgQ 0 0) _ (0, 0)) := hw34 ▸ hp_alloc G33_10 _
               have G34_n : w34.heap[w33.heap.size]? = some (.cells (dgQ 0 0) 39 (0, 0)) := hw34 ▸ heap_alloc_new _ _
               have S34 : w33.heap.size < w34.heap.size := lt_of_heap G34_n
               have R34_0 : w.heap.size < w33.heap.size := (by obtain ⟨T, h⟩ := K33.at 0 rfl; exact lt_of_heap h)
               have R34_1 : w.heap.size + 1 < w33.heap.size := (by obtain ⟨T, h⟩ := K33.at 1 rfl; exact lt_of_heap h)
               have R34_2 : w.heap.size + 1 + 1 < w33.heap.size := (by obtain ⟨T, h⟩ := K33.at 2 rfl; exact lt_of_heap h)
               have R34_3 : w2.heap.size < w33.heap.size := (by obtain ⟨T, h⟩ := K33.at 3 rfl; exact lt_of_heap h)
               have R34_4 : w7.heap.size < w33.heap.size := (by obtain ⟨T, h⟩ := K33.at 4 rfl; exact lt_of_heap h)
               have Z34 : w.heap.size ≤ w33.heap.size := K33.nb.size
               clear hw34
               refine t_store (by kernel_rfl) (d := none) (by kernel_rfl) (ty := 39) (x := (.tmp 7)) (y := (.tmp 25)) (by kernel_rfl) (g := w33.heap.size) (cells := (dgQ (((X * U)).re.val) (((X * U)).im.val))) (by kernel_rfl) (by kernel_rfl) G34_n (by kernel_rfl) (by kernel_rfl) (all_dgA _) (K34.puti (n := 16) (by kernel_rfl) (by omega) (neC (by omega) (neC (by omega) (neC (by omega) (neC (by omega) (neC (by omega) ne0))))) ns0) ?_ ?_
               · intro w35 hw35 K35
                 have G35_s : w35.heap[w33.heap.size]? = some (.cells (dgQ (((X * U)).re.val) (((X * U)).im.val)) _ (0, 0)) := hw35 ▸ setRow_heap _ _ _ _ _ _ G34_n
                 have G35_0 : w35.heap[w13.heap.size]? = some (.cells (dgQ 0 0) _ (0, 0)) := hw35 ▸ (setRow_other _ _ _ _ (by omega)).trans G34_0
                 have L35 : w34.heap.size ≤ w35.heap.size := by rw [hw35]; exact Nat.le_of_eq (size_setRow _ _ _).symm
                 clear hw35
                 refine t_store (by kernel_rfl) (d := none) (by kernel_rfl) (ty := 39) (x := (.tmp 8)) (y := (.tmp 30)) (by kernel_rfl) (g := w13.heap.size) (cells := (dgQ (((Y * V)).re.val) (((Y * V)).im.val))) (by kernel_rfl) (by kernel_rfl) G35_0 (by kernel_rfl) (by kernel_rfl) (all_dgA _) (K35.puti (n := 16) (by kernel_rfl) (by omega) (neC (by omega) (neC (by omega) (neC (by omega) (neC (by omega) (neC (by omega) ne0))))) ns0) ?_ ?_
                 · intro w36 hw36 K36
                   have G36_s : w36.heap[w13.heap.size]? = some (.cells (dgQ (((Y * V)).re.val) (((Y * V)).im.val)) _ (0, 0)) := hw36 ▸ setRow_heap _ _ _ _ _ _ G35_0
                   have G36_1 : w36.heap[w33.heap.size]? = some (.cells (dgQ (((X * U)).re.val) (((X * U)).im.val)) _ (0, 0)) := hw36 ▸ (setRow_other _ _ _ _ (by omega)).trans G35_s
                   have L36 : w35.heap.size ≤ w36.heap.size := by rw [hw36]; exact Nat.le_of_eq (size_setRow _ _ _).symm
                   clear hw36
                   exact t_done ⟨rfl, w33.heap.size, w13.heap.size, by kernel_rfl, Kept.zero K36.nb (rowsC (K36.at 0 rfl) (rowsC (K36.at 1 rfl) (rowsC (K36.at 2 rfl) (rowsC (K36.at 3 rfl) (rowsC (K36.at 4 rfl) (rowsC ⟨_, G36_1⟩ (rowsC ⟨_, G36_s⟩ rows0))))))), (by omega), (by omega), (by omega)⟩
                 ·
                   exact t_nil
               ·
                 exact t_nil
             ·
               exact t_nil
           ·
             refine t_make (by kernel_rfl) (d := (some 7)) (by kernel_rfl) (v := .pointer (some ⟨w32.heap.size, 0, none⟩)) (w' := w32.alloc (.cells (dgQ 0 0) 39)) (by kernel_rfl) (K32.go ((Below.refl _ _).alloc (Nat.le_refl _) _)) ?_ ?_
             · intro w37 hw37 K37
               have L37_0 := lt_of_heap G32_n
               have G37_0 : w37.heap[w13.heap.size]? = some (.cells (dgQ 0 0) _ (0, 0)) := hw37 ▸ hp_alloc G32_n _
               have G37_n : w37.heap[w32.heap.size]? = some (.cells (dgQ 0 0) 39 (0, 0)) := hw37 ▸ heap_alloc_new _ _
               have S37 : w32.heap.size < w37.heap.size := lt_of_heap G37_n
               have R37_0 : w.heap.size < w32.heap.size := (by obtain ⟨T, h⟩ := K32.at 0 rfl; exact lt_of_heap h)
               have R37_1 : w.heap.size + 1 < w32.heap.size := (by obtain ⟨T, h⟩ := K32.at 1 rfl; exact lt_of_heap h)
               have R37_2 : w.heap.size + 1 + 1 < w32.heap.size := (by obtain ⟨T, h⟩ := K32.at 2 rfl; exact lt_of_heap h)
               have R37_3 : w2.heap.size < w32.heap.size := (by obtain ⟨T, h⟩ := K32.at 3 rfl; exact lt_of_heap h)
               have R37_4 : w7.heap.size < w32.heap.size := (by obtain ⟨T, h⟩ := K32.at 4 rfl; exact lt_of_heap h)
               have Z37 : w.heap.size ≤ w32.heap.size := K32.nb.size
               clear hw37
               refine tc (d := some 30) (f := 25) (args := #[.agg (dgQ Y.re.val Y.im.val), .agg (dgQ V.re.val V.im.val)]) (v := .agg (dgQ (((Y * V)).re.val) (((Y * V)).im.val))) (mulQ_q) (fun w38 hb38 => ⟨K37.go hb38, ?_⟩) ?_
               · have K38 := K37.go hb38
                 have G38_20 := nb_heap G37_0 _ hb38
                 have G38_21 := nb_heap G37_n _ hb38
                 have L38 := hb38.size
                 refine t_store (by kernel_rfl) (d := none) (by kernel_rfl) (ty := 39) (x := (.tmp 7)) (y := (.tmp 25)) (by kernel_rfl) (g := w32.heap.size) (cells := (dgQ (((X * U)).re.val) (((X * U)).im.val))) (by kernel_rfl) (by kernel_rfl) G38_21 (by kernel_rfl) (by kernel_rfl) (all_dgA _) (K38.puti (n := 16) (by kernel_rfl) (by omega) (neC (by omega) (neC (by omega) (neC (by omega) (neC (by omega) (neC (by omega) ne0))))) ns0) ?_ ?_
                 · intro w39 hw39 K39
                   have G39_s : w39.heap[w32.heap.size]? = some (.cells (dgQ (((X * U)).re.val) (((X * U)).im.val)) _ (0, 0)) := hw39 ▸ setRow_heap _ _ _ _ _ _ G38_21
                   have G39_0 : w39.heap[w13.heap.size]? = some (.cells (dgQ 0 0) _ (0, 0)) := hw39 ▸ (setRow_other _ _ _ _ (by omega)).trans G38_20
                   have L39 : w38.heap.size ≤ w39.heap.size := by rw [hw39]; exact Nat.le_of_eq (size_setRow _ _ _).symm
                   clear hw39
                   refine t_store (by kernel_rfl) (d := none) (by kernel_rfl) (ty := 39) (x := (.tmp 8)) (y := (.tmp 30)) (by kernel_rfl) (g := w13.heap.size) (cells := (dgQ (((Y * V)).re.val) (((Y * V)).im.val))) (by kernel_rfl) (by kernel_rfl) G39_0 (by kernel_rfl) (by kernel_rfl) (all_dgA _) (K39.puti (n := 16) (by kernel_rfl) (by omega) (neC (by omega) (neC (by omega) (neC (by omega) (neC (by omega) (neC (by omega) ne0))))) ns0) ?_ ?_
                   · intro w40 hw40 K40
                     have G40_s : w40.heap[w13.heap.size]? = some (.cells (dgQ (((Y * V)).re.val) (((Y * V)).im.val)) _ (0, 0)) := hw40 ▸ setRow_heap _ _ _ _ _ _ G39_0
                     have G40_1 : w40.heap[w32.heap.size]? = some (.cells (dgQ (((X * U)).re.val) (((X * U)).im.val)) _ (0, 0)) := hw40 ▸ (setRow_other _ _ _ _ (by omega)).trans G39_s
                     have L40 : w39.heap.size ≤ w40.heap.size := by rw [hw40]; exact Nat.le_of_eq (size_setRow _ _ _).symm
                     clear hw40
                     exact t_done ⟨rfl, w32.heap.size, w13.heap.size, by kernel_rfl, Kept.zero K40.nb (rowsC (K40.at 0 rfl) (rowsC (K40.at 1 rfl) (rowsC (K40.at 2 rfl) (rowsC (K40.at 3 rfl) (rowsC (K40.at 4 rfl) (rowsC ⟨_, G40_1⟩ (rowsC ⟨_, G40_s⟩ rows0))))))), (by omega), (by omega), (by omega)⟩
                   ·
                     exact t_nil
                 ·
                   exact t_nil
               ·
                 exact t_nil
             ·
               exact t_nil
         ·
           exact t_nil
   ·
     refine t_make (by kernel_rfl) (d := (some 7)) (by kernel_rfl) (v := .pointer (some ⟨w9.drew.heap.size, 0, none⟩)) (w' := w9.drew.alloc (.cells (dgQ 0 0) 39)) (by kernel_rfl) (K12.go ((Below.refl _ _).alloc (Nat.le_refl _) _)) ?_ ?_
     · intro w41 hw41 K41
       have G41_n : w41.heap[w9.drew.heap.size]? = some (.cells (dgQ 0 0) 39 (0, 0)) := hw41 ▸ heap_alloc_new _ _
       have S41 : w9.drew.heap.size < w41.heap.size := lt_of_heap G41_n
       have R41_0 : w.heap.size < w9.drew.heap.size := (by obtain ⟨T, h⟩ := K12.at 0 rfl; exact lt_of_heap h)
       have R41_1 : w.heap.size + 1 < w9.drew.heap.size := (by obtain ⟨T, h⟩ := K12.at 1 rfl; exact lt_of_heap h)
       have R41_2 : w.heap.size + 1 + 1 < w9.drew.heap.size := (by obtain ⟨T, h⟩ := K12.at 2 rfl; exact lt_of_heap h)
       have R41_3 : w2.heap.size < w9.drew.heap.size := (by obtain ⟨T, h⟩ := K12.at 3 rfl; exact lt_of_heap h)
       have R41_4 : w7.heap.size < w9.drew.heap.size := (by obtain ⟨T, h⟩ := K12.at 4 rfl; exact lt_of_heap h)
       have Z41 : w.heap.size ≤ w9.drew.heap.size := K12.nb.size
       clear hw41
       refine tc (d := some 25) (f := 25) (args := #[.agg (dgQ X.re.val X.im.val), .agg (dgQ U.re.val U.im.val)]) (v := .agg (dgQ (((X * U)).re.val) (((X * U)).im.val))) (mulQ_q) (fun w42 hb42 => ⟨K41.go hb42, ?_⟩) ?_
       · have K42 := K41.go hb42
         have G42_10 := nb_heap G41_n _ hb42
         have L42 := hb42.size
         refine tc (d := some 30) (f := 25) (args := #[.agg (dgQ Y.re.val Y.im.val), .agg (dgQ V.re.val V.im.val)]) (v := .agg (dgQ (((Y * V)).re.val) (((Y * V)).im.val))) (mulQ_q) (fun w43 hb43 => ⟨K42.go hb43, ?_⟩) ?_
         · have K43 := K42.go hb43
           have G43_10 := nb_heap G42_10 _ hb43
           have L43 := hb43.size
           refine t_make (by kernel_rfl) (d := (some 8)) (by kernel_rfl) (v := .pointer (some ⟨w43.heap.size, 0, none⟩)) (w' := w43.alloc (.cells (dgQ 0 0) 39)) (by kernel_rfl) (K43.go ((Below.refl _ _).alloc (Nat.le_refl _) _)) ?_ ?_
           · intro w44 hw44 K44
             have L44_0 := lt_of_heap G43_10
             have G44_0 : w44.heap[w9.drew.heap.size]? = some (.cells (dgQ 0 0) _ (0, 0)) := hw44 ▸ hp_alloc G43_10 _
             have G44_n : w44.heap[w43.heap.size]? = some (.cells (dgQ 0 0) 39 (0, 0)) := hw44 ▸ heap_alloc_new _ _
             have S44 : w43.heap.size < w44.heap.size := lt_of_heap G44_n
             have R44_0 : w.heap.size < w43.heap.size := (by obtain ⟨T, h⟩ := K43.at 0 rfl; exact lt_of_heap h)
             have R44_1 : w.heap.size + 1 < w43.heap.size := (by obtain ⟨T, h⟩ := K43.at 1 rfl; exact lt_of_heap h)
             have R44_2 : w.heap.size + 1 + 1 < w43.heap.size := (by obtain ⟨T, h⟩ := K43.at 2 rfl; exact lt_of_heap h)
             have R44_3 : w2.heap.size < w43.heap.size := (by obtain ⟨T, h⟩ := K43.at 3 rfl; exact lt_of_heap h)
             have R44_4 : w7.heap.size < w43.heap.size := (by obtain ⟨T, h⟩ := K43.at 4 rfl; exact lt_of_heap h)
             have Z44 : w.heap.size ≤ w43.heap.size := K43.nb.size
             clear hw44
             refine t_store (by kernel_rfl) (d := none) (by kernel_rfl) (ty := 39) (x := (.tmp 7)) (y := (.tmp 25)) (by kernel_rfl) (g := w9.drew.heap.size) (cells := (dgQ (((X * U)).re.val) (((X * U)).im.val))) (by kernel_rfl) (by kernel_rfl) G44_0 (by kernel_rfl) (by kernel_rfl) (all_dgA _) (K44.puti (n := 16) (by kernel_rfl) (by omega) (neC (by omega) (neC (by omega) (neC (by omega) (neC (by omega) (neC (by omega) ne0))))) ns0) ?_ ?_
             · intro w45 hw45 K45
               have G45_s : w45.heap[w9.drew.heap.size]? = some (.cells (dgQ (((X * U)).re.val) (((X * U)).im.val)) _ (0, 0)) := hw45 ▸ setRow_heap _ _ _ _ _ _ G44_0
               have G45_1 : w45.heap[w43.heap.size]? = some (.cells (dgQ 0 0) _ (0, 0)) := hw45 ▸ (setRow_other _ _ _ _ (by omega)).trans G44_n
               have L45 : w44.heap.size ≤ w45.heap.size := by rw [hw45]; exact Nat.le_of_eq (size_setRow _ _ _).symm
               clear hw45
               refine t_store (by kernel_rfl) (d := none) (by kernel_rfl) (ty := 39) (x := (.tmp 8)) (y := (.tmp 30)) (by kernel_rfl) (g := w43.heap.size) (cells := (dgQ (((Y * V)).re.val) (((Y * V)).im.val))) (by kernel_rfl) (by kernel_rfl) G45_1 (by kernel_rfl) (by kernel_rfl) (all_dgA _) (K45.puti (n := 16) (by kernel_rfl) (by omega) (neC (by omega) (neC (by omega) (neC (by omega) (neC (by omega) (neC (by omega) ne0))))) ns0) ?_ ?_
               · intro w46 hw46 K46
                 have G46_s : w46.heap[w43.heap.size]? = some (.cells (dgQ (((Y * V)).re.val) (((Y * V)).im.val)) _ (0, 0)) := hw46 ▸ setRow_heap _ _ _ _ _ _ G45_1
                 have G46_0 : w46.heap[w9.drew.heap.size]? = some (.cells (dgQ (((X * U)).re.val) (((X * U)).im.val)) _ (0, 0)) := hw46 ▸ (setRow_other _ _ _ _ (by omega)).trans G45_s
                 have L46 : w45.heap.size ≤ w46.heap.size := by rw [hw46]; exact Nat.le_of_eq (size_setRow _ _ _).symm
                 clear hw46
                 exact t_done ⟨rfl, w9.drew.heap.size, w43.heap.size, by kernel_rfl, Kept.zero K46.nb (rowsC (K46.at 0 rfl) (rowsC (K46.at 1 rfl) (rowsC (K46.at 2 rfl) (rowsC (K46.at 3 rfl) (rowsC (K46.at 4 rfl) (rowsC ⟨_, G46_0⟩ (rowsC ⟨_, G46_s⟩ rows0))))))), (by omega), (by omega), (by omega)⟩
               ·
                 exact t_nil
             ·
               exact t_nil
           ·
             exact t_nil
         ·
           refine t_make (by kernel_rfl) (d := (some 8)) (by kernel_rfl) (v := .pointer (some ⟨w42.heap.size, 0, none⟩)) (w' := w42.alloc (.cells (dgQ 0 0) 39)) (by kernel_rfl) (K42.go ((Below.refl _ _).alloc (Nat.le_refl _) _)) ?_ ?_
           · intro w47 hw47 K47
             have L47_0 := lt_of_heap G42_10
             have G47_0 : w47.heap[w9.drew.heap.size]? = some (.cells (dgQ 0 0) _ (0, 0)) := hw47 ▸ hp_alloc G42_10 _
             have G47_n : w47.heap[w42.heap.size]? = some (.cells (dgQ 0 0) 39 (0, 0)) := hw47 ▸ heap_alloc_new _ _
             have S47 : w42.heap.size < w47.heap.size := lt_of_heap G47_n
             have R47_0 : w.heap.size < w42.heap.size := (by obtain ⟨T, h⟩ := K42.at 0 rfl; exact lt_of_heap h)
             have R47_1 : w.heap.size + 1 < w42.heap.size := (by obtain ⟨T, h⟩ := K42.at 1 rfl; exact lt_of_heap h)
             have R47_2 : w.heap.size + 1 + 1 < w42.heap.size := (by obtain ⟨T, h⟩ := K42.at 2 rfl; exact lt_of_heap h)
             have R47_3 : w2.heap.size < w42.heap.size := (by obtain ⟨T, h⟩ := K42.at 3 rfl; exact lt_of_heap h)
             have R47_4 : w7.heap.size < w42.heap.size := (by obtain ⟨T, h⟩ := K42.at 4 rfl; exact lt_of_heap h)
             have Z47 : w.heap.size ≤ w42.heap.size := K42.nb.size
             clear hw47
             refine tc (d := some 30) (f := 25) (args := #[.agg (dgQ Y.re.val Y.im.val), .agg (dgQ V.re.val V.im.val)]) (v := .agg (dgQ (((Y * V)).re.val) (((Y * V)).im.val))) (mulQ_q) (fun w48 hb48 => ⟨K47.go hb48, ?_⟩) ?_
             · have K48 := K47.go hb48
               have G48_20 := nb_heap G47_0 _ hb48
               have G48_21 := nb_heap G47_n _ hb48
               have L48 := hb48.size
               refine t_store (by kernel_rfl) (d := none) (by kernel_rfl) (ty := 39) (x := (.tmp 7)) (y := (.tmp 25)) (by kernel_rfl) (g := w9.drew.heap.size) (cells := (dgQ (((X * U)).re.val) (((X * U)).im.val))) (by kernel_rfl) (by kernel_rfl) G48_20 (by kernel_rfl) (by kernel_rfl) (all_dgA _) (K48.puti (n := 16) (by kernel_rfl) (by omega) (neC (by omega) (neC (by omega) (neC (by omega) (neC (by omega) (neC (by omega) ne0))))) ns0) ?_ ?_
               · intro w49 hw49 K49
                 have G49_s : w49.heap[w9.drew.heap.size]? = some (.cells (dgQ (((X * U)).re.val) (((X * U)).im.val)) _ (0, 0)) := hw49 ▸ setRow_heap _ _ _ _ _ _ G48_20
                 have G49_1 : w49.heap[w42.heap.size]? = some (.cells (dgQ 0 0) _ (0, 0)) := hw49 ▸ (setRow_other _ _ _ _ (by omega)).trans G48_21
                 have L49 : w48.heap.size ≤ w49.heap.size := by rw [hw49]; exact Nat.le_of_eq (size_setRow _ _ _).symm
                 clear hw49
                 refine t_store (by kernel_rfl) (d := none) (by kernel_rfl) (ty := 39) (x := (.tmp 8)) (y := (.tmp 30)) (by kernel_rfl) (g := w42.heap.size) (cells := (dgQ (((Y * V)).re.val) (((Y * V)).im.val))) (by kernel_rfl) (by kernel_rfl) G49_1 (by kernel_rfl) (by kernel_rfl) (all_dgA _) (K49.puti (n := 16) (by kernel_rfl) (by omega) (neC (by omega) (neC (by omega) (neC (by omega) (neC (by omega) (neC (by omega) ne0))))) ns0) ?_ ?_
                 · intro w50 hw50 K50
                   have G50_s : w50.heap[w42.heap.size]? = some (.cells (dgQ (((Y * V)).re.val) (((Y * V)).im.val)) _ (0, 0)) := hw50 ▸ setRow_heap _ _ _ _ _ _ G49_1
                   have G50_0 : w50.heap[w9.drew.heap.size]? = some (.cells (dgQ (((X * U)).re.val) (((X * U)).im.val)) _ (0, 0)) := hw50 ▸ (setRow_other _ _ _ _ (by omega)).trans G49_s
                   have L50 : w49.heap.size ≤ w50.heap.size := by rw [hw50]; exact Nat.le_of_eq (size_setRow _ _ _).symm
                   clear hw50
                   exact t_done ⟨rfl, w9.drew.heap.size, w42.heap.size, by kernel_rfl, Kept.zero K50.nb (rowsC (K50.at 0 rfl) (rowsC (K50.at 1 rfl) (rowsC (K50.at 2 rfl) (rowsC (K50.at 3 rfl) (rowsC (K50.at 4 rfl) (rowsC ⟨_, G50_0⟩ (rowsC ⟨_, G50_s⟩ rows0))))))), (by omega), (by omega), (by omega)⟩
                 ·
                   exact t_nil
               ·
                 exact t_nil
             ·
               exact t_nil
           ·
             exact t_nil
       ·
         refine t_make (by kernel_rfl) (d := (some 8)) (by kernel_rfl) (v := .pointer (some ⟨w41.heap.size, 0, none⟩)) (w' := w41.alloc (.cells (dgQ 0 0) 39)) (by kernel_rfl) (K41.go ((Below.refl _ _).alloc (Nat.le_refl _) _)) ?_ ?_
         · intro w51 hw51 K51
           have L51_0 := lt_of_heap G41_n
           have G51_0 : w51.heap[w9.drew.heap.size]? = some (.cells (dgQ 0 0) _ (0, 0)) := hw51 ▸ hp_alloc G41_n _
           have G51_n : w51.heap[w41.heap.size]? = some (.cells (dgQ 0 0) 39 (0, 0)) := hw51 ▸ heap_alloc_new _ _
           have S51 : w41.heap.size < w51.heap.size := lt_of_heap G51_n
           have R51_0 : w.heap.size < w41.heap.size := (by obtain ⟨T, h⟩ := K41.at 0 rfl; exact lt_of_heap h)
           have R51_1 : w.heap.size + 1 < w41.heap.size := (by obtain ⟨T, h⟩ := K41.at 1 rfl; exact lt_of_heap h)
           have R51_2 : w.heap.size + 1 + 1 < w41.heap.size := (by obtain ⟨T, h⟩ := K41.at 2 rfl; exact lt_of_heap h)
           have R51_3 : w2.heap.size < w41.heap.size := (by obtain ⟨T, h⟩ := K41.at 3 rfl; exact lt_of_heap h)
           have R51_4 : w7.heap.size < w41.heap.size := (by obtain ⟨T, h⟩ := K41.at 4 rfl; exact lt_of_heap h)
           have Z51 : w.heap.size ≤ w41.heap.size := K41.nb.size
           clear hw51
           refine tc (d := some 25) (f := 25) (args := #[.agg (dgQ X.re.val X.im.val), .agg (dgQ U.re.val U.im.val)]) (v := .agg (dgQ (((X * U)).re.val) (((X * U)).im.val))) (mulQ_q) (fun w52 hb52 => ⟨K51.go hb52, ?_⟩) ?_
           · have K52 := K51.go hb52
             have G52_20 := nb_heap G51_0 _ hb52
             have G52_21 := nb_heap G51_n _ hb52
             have L52 := hb52.size
             refine tc (d := some 30) (f := 25) (args := #[.agg (dgQ Y.re.val Y.im.val), .agg (dgQ V.re.val V.im.val)]) (v := .agg (dgQ (((Y * V)).re.val) (((Y * V)).im.val))) (mulQ_q) (fun w53 hb53 => ⟨K52.go hb53, ?_⟩) ?_
             · have K53 := K52.go hb53
               have G53_20 := nb_heap G52_20 _ hb53
               have G53_21 := nb_heap G52_21 _ hb53
               have L53 := hb53.size
               refine t_store (by kernel_rfl) (d := none) (by kernel_rfl) (ty := 39) (x := (.tmp 7)) (y := (.tmp 25)) (by kernel_rfl) (g := w9.drew.heap.size) (cells := (dgQ (((X * U)).re.val) (((X * U)).im.val))) (by kernel_rfl) (by kernel_rfl) G53_20 (by kernel_rfl) (by kernel_rfl) (all_dgA _) (K53.puti (n := 16) (by kernel_rfl) (by omega) (neC (by omega) (neC (by omega) (neC (by omega) (neC (by omega) (neC (by omega) ne0))))) ns0) ?_ ?_
               · intro w54 hw54 K54
                 have G54_s : w54.heap[w9.drew.heap.size]? = some (.cells (dgQ (((X * U)).re.val) (((X * U)).im.val)) _ (0, 0)) := hw54 ▸ setRow_heap _ _ _ _ _ _ G53_20
                 have G54_1 : w54.heap[w41.heap.size]? = some (.cells (dgQ 0 0) _ (0, 0)) := hw54 ▸ (setRow_other _ _ _ _ (by omega)).trans G53_21
                 have L54 : w53.heap.size ≤ w54.heap.size := by rw [hw54]; exact Nat.le_of_eq (size_setRow _ _ _).symm
                 clear hw54
                 refine t_store (by kernel_rfl) (d := none) (by kernel_rfl) (ty := 39) (x := (.tmp 8)) (y := (.tmp 30)) (by kernel_rfl) (g := w41.heap.size) (cells := (dgQ (((Y * V)).re.val) (((Y * V)).im.val))) (by kernel_rfl) (by kernel_rfl) G54_1 (by kernel_rfl) (by kernel_rfl) (all_dgA _) (K54.puti (n := 16) (by kernel_rfl) (by omega) (neC (by omega) (neC (by omega) (neC (by omega) (neC (by omega) (neC (by omega) ne0))))) ns0) ?_ ?_
                 · intro w55 hw55 K55
                   have G55_s : w55.heap[w41.heap.size]? = some (.cells (dgQ (((Y * V)).re.val) (((Y * V)).im.val)) _ (0, 0)) := hw55 ▸ setRow_heap _ _ _ _ _ _ G54_1
                   have G55_0 : w55.heap[w9.drew.heap.size]? = some (.cells (dgQ (((X * U)).re.val) (((X * U)).im.val)) _ (0, 0)) := hw55 ▸ (setRow_other _ _ _ _ (by omega)).trans G54_s
                   have L55 : w54.heap.size ≤ w55.heap.size := by rw [hw55]; exact Nat.le_of_eq (size_setRow _ _ _).symm
                   clear hw55
                   exact t_done ⟨rfl, w9.drew.heap.size, w41.heap.size, by kernel_rfl, Kept.zero K55.nb (rowsC (K55.at 0 rfl) (rowsC (K55.at 1 rfl) (rowsC (K55.at 2 rfl) (rowsC (K55.at 3 rfl) (rowsC (K55.at 4 rfl) (rowsC ⟨_, G55_0⟩ (rowsC ⟨_, G55_s⟩ rows0))))))), (by omega), (by omega), (by omega)⟩
                 ·
                   exact t_nil
               ·
                 exact t_nil
             ·
               exact t_nil
           ·
             exact t_nil
         ·
           exact t_nil
     ·
       refine t_make (by kernel_rfl) (d := (some 8)) (by kernel_rfl) (v := .pointer (some ⟨w9.drew.heap.size, 0, none⟩)) (w' := w9.drew.alloc (.cells (dgQ 0 0) 39)) (by kernel_rfl) (K12.go ((Below.refl _ _).alloc (Nat.le_refl _) _)) ?_ ?_
       · intro w56 hw56 K56
         have G56_n : w56.heap[w9.drew.heap.size]? = some (.cells (dgQ 0 0) 39 (0, 0)) := hw56 ▸ heap_alloc_new _ _
         have S56 : w9.drew.heap.size < w56.heap.size := lt_of_heap G56_n
         have R56_0 : w.heap.size < w9.drew.heap.size := (by obtain ⟨T, h⟩ := K12.at 0 rfl; exact lt_of_heap h)
         have R56_1 : w.heap.size + 1 < w9.drew.heap.size := (by obtain ⟨T, h⟩ := K12.at 1 rfl; exact lt_of_heap h)
         have R56_2 : w.heap.size + 1 + 1 < w9.drew.heap.size := (by obtain ⟨T, h⟩ := K12.at 2 rfl; exact lt_of_heap h)
         have R56_3 : w2.heap.size < w9.drew.heap.size := (by obtain ⟨T, h⟩ := K12.at 3 rfl; exact lt_of_heap h)
         have R56_4 : w7.heap.size < w9.drew.heap.size := (by obtain ⟨T, h⟩ := K12.at 4 rfl; exact lt_of_heap h)
         have Z56 : w.heap.size ≤ w9.drew.heap.size := K12.nb.size
         clear hw56
         refine tc (d := some 25) (f := 25) (args := #[.agg (dgQ X.re.val X.im.val), .agg (dgQ U.re.val U.im.val)]) (v := .agg (dgQ (((X * U)).re.val) (((X * U)).im.val))) (mulQ_q) (fun w57 hb57 => ⟨K56.go hb57, ?_⟩) ?_
         · have K57 := K56.go hb57
           have G57_10 := nb_heap G56_n _ hb57
           have L57 := hb57.size
           refine tc (d := some 30) (f := 25) (args := #[.agg (dgQ Y.re.val Y.im.val), .agg (dgQ V.re.val V.im.val)]) (v := .agg (dgQ (((Y * V)).re.val) (((Y * V)).im.val))) (mulQ_q) (fun w58 hb58 => ⟨K57.go hb58, ?_⟩) ?_
           · have K58 := K57.go hb58
             have G58_10 := nb_heap G57_10 _ hb58
             have L58 := hb58.size
             refine t_make (by kernel_rfl) (d := (some 7)) (by kernel_rfl) (v := .pointer (some ⟨w58.heap.size, 0, none⟩)) (w' := w58.alloc (.cells (dgQ 0 0) 39)) (by kernel_rfl) (K58.go ((Below.refl _ _).alloc (Nat.le_refl _) _)) ?_ ?_
             · intro w59 hw59 K59
               have L59_0 := lt_of_heap G58_10
               have G59_0 : w59.heap[w9.drew.heap.size]? = some (.cells (dgQ 0 0) _ (0, 0)) := hw59 ▸ hp_alloc G58_10 _
               have G59_n : w59.heap[w58.heap.size]? = some (.cells (dgQ 0 0) 39 (0, 0)) := hw59 ▸ heap_alloc_new _ _
               have S59 : w58.heap.size < w59.heap.size := lt_of_heap G59_n
               have R59_0 : w.heap.size < w58.heap.size := (by obtain ⟨T, h⟩ := K58.at 0 rfl; exact lt_of_heap h)
               have R59_1 : w.heap.size + 1 < w58.heap.size := (by obtain ⟨T, h⟩ := K58.at 1 rfl; exact lt_of_heap h)
               have R59_2 : w.heap.size + 1 + 1 < w58.heap.size := (by obtain ⟨T, h⟩ := K58.at 2 rfl; exact lt_of_heap h)
               have R59_3 : w2.heap.size < w58.heap.size := (by obtain ⟨T, h⟩ := K58.at 3 rfl; exact lt_of_heap h)
               have R59_4 : w7.heap.size < w58.heap.size := (by obtain ⟨T, h⟩ := K58.at 4 rfl; exact lt_of_heap h)
               have Z59 : w.heap.size ≤ w58.heap.size := K58.nb.size
               clear hw59
               refine t_store (by kernel_rfl) (d := none) (by kernel_rfl) (ty := 39) (x := (.tmp 7)) (y := (.tmp 25)) (by kernel_rfl) (g := w58.heap.size) (cells := (dgQ (((X * U)).re.val) (((X * U)).im.val))) (by kernel_rfl) (by kernel_rfl) G59_n (by kernel_rfl) (by kernel_rfl) (all_dgA _) (K59.puti (n := 16) (by kernel_rfl) (by omega) (neC (by omega) (neC (by omega) (neC (by omega) (neC (by omega) (neC (by omega) ne0))))) ns0) ?_ ?_
               · intro w60 hw60 K60
                 have G60_s : w60.heap[w58.heap.size]? = some (.cells (dgQ (((X * U)).re.val) (((X * U)).im.val)) _ (0, 0)) := hw60 ▸ setRow_heap _ _ _ _ _ _ G59_n
                 have G60_0 : w60.heap[w9.drew.heap.size]? = some (.cells (dgQ 0 0) _ (0, 0)) := hw60 ▸ (setRow_other _ _ _ _ (by omega)).trans G59_0
                 have L60 : w59.heap.size ≤ w60.heap.size := by rw [hw60]; exact Nat.le_of_eq (size_setRow _ _ _).symm
                 clear hw60
                 refine t_store (by kernel_rfl) (d := none) (by kernel_rfl) (ty := 39) (x := (.tmp 8)) (y := (.tmp 30)) (by kernel_rfl) (g := w9.drew.heap.size) (cells := (dgQ (((Y * V)).re.val) (((Y * V)).im.val))) (by kernel_rfl) (by kernel_rfl) G60_0 (by kernel_rfl) (by kernel_rfl) (all_dgA _) (K60.puti (n := 16) (by kernel_rfl) (by omega) (neC (by omega) (neC (by omega) (neC (by omega) (neC (by omega) (neC (by omega) ne0))))) ns0) ?_ ?_
                 · intro w61 hw61 K61
                   have G61_s : w61.heap[w9.drew.heap.size]? = some (.cells (dgQ (((Y * V)).re.val) (((Y * V)).im.val)) _ (0, 0)) := hw61 ▸ setRow_heap _ _ _ _ _ _ G60_0
                   have G61_1 : w61.heap[w58.heap.size]? = some (.cells (dgQ (((X * U)).re.val) (((X * U)).im.val)) _ (0, 0)) := hw61 ▸ (setRow_other _ _ _ _ (by omega)).trans G60_s
                   have L61 : w60.heap.size ≤ w61.heap.size := by rw [hw61]; exact Nat.le_of_eq (size_setRow _ _ _).symm
                   clear hw61
                   exact t_done ⟨rfl, w58.heap.size, w9.drew.heap.size, by kernel_rfl, Kept.zero K61.nb (rowsC (K61.at 0 rfl) (rowsC (K61.at 1 rfl) (rowsC (K61.at 2 rfl) (rowsC (K61.at 3 rfl) (rowsC (K61.at 4 rfl) (rowsC ⟨_, G61_1⟩ (rowsC ⟨_, G61_s⟩ rows0))))))), (by omega), (by omega), (by omega)⟩
                 ·
                   exact t_nil
               ·
                 exact t_nil
             ·
               exact t_nil
           ·
             refine t_make (by kernel_rfl) (d := (some 7)) (by kernel_rfl) (v := .pointer (some ⟨w57.heap.size, 0, none⟩)) (w' := w57.alloc (.cells (dgQ 0 0) 39)) (by kernel_rfl) (K57.go ((Below.refl _ _).alloc (Nat.le_refl _) _)) ?_ ?_
             · intro w62 hw62 K62
               have L62_0 := lt_of_heap G57_10
               have G62_0 : w62.heap[w9.drew.heap.size]? = some (.cells (dgQ 0 0) _ (0, 0)) := hw62 ▸ hp_alloc G57_10 _
               have G62_n : w62.heap[w57.heap.size]? = some (.cells (dgQ 0 0) 39 (0, 0)) := hw62 ▸ heap_alloc_new _ _
               have S62 : w57.heap.size < w62.heap.size := lt_of_heap G62_n
               have R62_0 : w.heap.size < w57.heap.size := (by obtain ⟨T, h⟩ := K57.at 0 rfl; exact lt_of_heap h)
               have R62_1 : w.heap.size + 1 < w57.heap.size := (by obtain ⟨T, h⟩ := K57.at 1 rfl; exact lt_of_heap h)
               have R62_2 : w.heap.size + 1 + 1 < w57.heap.size := (by obtain ⟨T, h⟩ := K57.at 2 rfl; exact lt_of_heap h)
               have R62_3 : w2.heap.size < w57.heap.size := (by obtain ⟨T, h⟩ := K57.at 3 rfl; exact lt_of_heap h)
               have R62_4 : w7.heap.size < w57.heap.size := (by obtain ⟨T, h⟩ := K57.at 4 rfl; exact lt_of_heap h)
               have Z62 : w.heap.size ≤ w57.heap.size := K57.nb.size
               clear hw62
               refine tc (d := some 30) (f := 25) (args := #[.agg (dgQ Y.re.val Y.im.val), .agg (dgQ V.re.val V.im.val)]) (v := .agg (dgQ (((Y * V)).re.val) (((Y * V)).im.val))) (mulQ_q) (fun w63 hb63 => ⟨K62.go hb63, ?_⟩) ?_
               · have K63 := K62.go hb63
                 have G63_20 := nb_heap G62_0 _ hb63
                 have G63_21 := nb_heap G62_n _ hb63
                 have L63 := hb63.size
                 refine t_store (by kernel_rfl) (d := none) (by kernel_rfl) (ty := 39) (x := (.tmp 7)) (y := (.tmp 25)) (by kernel_rfl) (g := w57.heap.size) (cells := (dgQ (((X * U)).re.val) (((X * U)).im.val))) (by kernel_rfl) (by kernel_rfl) G63_21 (by kernel_rfl) (by kernel_rfl) (all_dgA _) (K63.puti (n := 16) (by kernel_rfl) (by omega) (neC (by omega) (neC (by omega) (neC (by omega) (neC (by omega) (neC (by omega) ne0))))) ns0) ?_ ?_
                 · intro w64 hw64 K64
                   have G64_s : w64.heap[w57.heap.size]? = some (.cells (dgQ (((X * U)).re.val) (((X * U)).im.val)) _ (0, 0)) := hw64 ▸ setRow_heap _ _ _ _ _ _ G63_21
                   have G64_0 : w64.heap[w9.drew.heap.size]? = some (.cells (dgQ 0 0) _ (0, 0)) := hw64 ▸ (setRow_other _ _ _ _ (by omega)).trans G63_20
                   have L64 : w63.heap.size ≤ w64.heap.size := by rw [hw64]; exact Nat.le_of_eq (size_setRow _ _ _).symm
                   clear hw64
                   refine t_store (by kernel_rfl) (d := none) (by kernel_rfl) (ty := 39) (x := (.tmp 8)) (y := (.tmp 30)) (by kernel_rfl) (g := w9.drew.heap.size) (cells := (dgQ (((Y * V)).re.val) (((Y * V)).im.val))) (by kernel_rfl) (by kernel_rfl) G64_0 (by kernel_rfl) (by kernel_rfl) (all_dgA _) (K64.puti (n := 16) (by kernel_rfl) (by omega) (neC (by omega) (neC (by omega) (neC (by omega) (neC (by omega) (neC (by omega) ne0))))) ns0) ?_ ?_
                   · intro w65 hw65 K65
                     have G65_s : w65.heap[w9.drew.heap.size]? = some (.cells (dgQ (((Y * V)).re.val) (((Y * V)).im.val)) _ (0, 0)) := hw65 ▸ setRow_heap _ _ _ _ _ _ G64_0
                     have G65_1 : w65.heap[w57.heap.size]? = some (.cells (dgQ (((X * U)).re.val) (((X * U)).im.val)) _ (0, 0)) := hw65 ▸ (setRow_other _ _ _ _ (by omega)).trans G64_s
                     have L65 : w64.heap.size ≤ w65.heap.size := by rw [hw65]; exact Nat.le_of_eq (size_setRow _ _ _).symm
                     clear hw65
                     exact t_done ⟨rfl, w57.heap.size, w9.drew.heap.size, by kernel_rfl, Kept.zero K65.nb (rowsC (K65.at 0 rfl) (rowsC (K65.at 1 rfl) (rowsC (K65.at 2 rfl) (rowsC (K65.at 3 rfl) (rowsC (K65.at 4 rfl) (rowsC ⟨_, G65_1⟩ (rowsC ⟨_, G65_s⟩ rows0))))))), (by omega), (by omega), (by omega)⟩
                   ·
                     exact t_nil
                 ·
                   exact t_nil
               ·
                 exact t_nil
             ·
               exact t_nil
         ·
           refine t_make (by kernel_rfl) (d := (some 7)) (by kernel_rfl) (v := .pointer (some ⟨w56.heap.size, 0, none⟩)) (w' := w56.alloc (.cells (dgQ 0 0) 39)) (by kernel_rfl) (K56.go ((Below.refl _ _).alloc (Nat.le_refl _) _)) ?_ ?_
           · intro w66 hw66 K66
             have L66_0 := lt_of_heap G56_n
             have G66_0 : w66.heap[w9.drew.heap.size]? = some (.cells (dgQ 0 0) _ (0, 0)) := hw66 ▸ hp_alloc G56_n _
             have G66_n : w66.heap[w56.heap.size]? = some (.cells (dgQ 0 0) 39 (0, 0)) := hw66 ▸ heap_alloc_new _ _
             have S66 : w56.heap.size < w66.heap.size := lt_of_heap G66_n
             have R66_0 : w.heap.size < w56.heap.size := (by obtain ⟨T, h⟩ := K56.at 0 rfl; exact lt_of_heap h)
             have R66_1 : w.heap.size + 1 < w56.heap.size := (by obtain ⟨T, h⟩ := K56.at 1 rfl; exact lt_of_heap h)
             have R66_2 : w.heap.size + 1 + 1 < w56.heap.size := (by obtain ⟨T, h⟩ := K56.at 2 rfl; exact lt_of_heap h)
             have R66_3 : w2.heap.size < w56.heap.size := (by obtain ⟨T, h⟩ := K56.at 3 rfl; exact lt_of_heap h)
             have R66_4 : w7.heap.size < w56.heap.size := (by obtain ⟨T, h⟩ := K56.at 4 rfl; exact lt_of_heap h)
             have Z66 : w.heap.size ≤ w56.heap.size := K56.nb.size
             clear hw66
             refine tc (d := some 25) (f := 25) (args := #[.agg (dgQ X.re.val X.im.val), .agg (dgQ U.re.val U.im.val)]) (v := .agg (dgQ (((X * U)).re.val) (((X * U)).im.val))) (mulQ_q) (fun w67 hb67 => ⟨K66.go hb67, ?_⟩) ?_
             · have K67 := K66.go hb67
               have G67_20 := nb_heap G66_0 _ hb67
               have G67_21 := nb_heap G66_n _ hb67
               have L67 := hb67.size
               refine tc (d := some 30) (f := 25) (args := #[.agg (dgQ Y.re.val Y.im.val), .agg (dgQ V.re.val V.im.val)]) (v := .agg (dgQ (((Y * V)).re.val) (((Y * V)).im.val))) (mulQ_q) (fun w68 hb68 => ⟨K67.go hb68, ?_⟩) ?_
               · have K68 := K67.go hb68
                 have G68_20 := nb_heap G67_20 _ hb68
                 have G68_21 := nb_heap G67_21 _ hb68
                 have L68 := hb68.size
                 refine t_store (by kernel_rfl) (d := none) (by kernel_rfl) (ty := 39) (x := (.tmp 7)) (y := (.tmp 25)) (by kernel_rfl) (g := w56.heap.size) (cells := (dgQ (((X * U)).re.val) (((X * U)).im.val))) (by kernel_rfl) (by kernel_rfl) G68_21 (by kernel_rfl) (by kernel_rfl) (all_dgA _) (K68.puti (n := 16) (by kernel_rfl) (by omega) (neC (by omega) (neC (by omega) (neC (by omega) (neC (by omega) (neC (by omega) ne0))))) ns0) ?_ ?_
                 · intro w69 hw69 K69
                   have G69_s : w69.heap[w56.heap.size]? = some (.cells (dgQ (((X * U)).re.val) (((X * U)).im.val)) _ (0, 0)) := hw69 ▸ setRow_heap _ _ _ _ _ _ G68_21
                   have G69_0 : w69.heap[w9.drew.heap.size]? = some (.cells (dgQ 0 0) _ (0, 0)) := hw69 ▸ (setRow_other _ _ _ _ (by omega)).trans G68_20
                   have L69 : w68.heap.size ≤ w69.heap.size := by rw [hw69]; exact Nat.le_of_eq (size_setRow _ _ _).symm
                   clear hw69
                   refine t_store (by kernel_rfl) (d := none) (by kernel_rfl) (ty := 39) (x := (.tmp 8)) (y := (.tmp 30)) (by kernel_rfl) (g := w9.drew.heap.size) (cells := (dgQ (((Y * V)).re.val) (((Y * V)).im.val))) (by kernel_rfl) (by kernel_rfl) G69_0 (by kernel_rfl) (by kernel_rfl) (all_dgA _) (K69.puti (n := 16) (by kernel_rfl) (by omega) (neC (by omega) (neC (by omega) (neC (by omega) (neC (by omega) (neC (by omega) ne0))))) ns0) ?_ ?_
                   · intro w70 hw70 K70
                     have G70_s : w70.heap[w9.drew.heap.size]? = some (.cells (dgQ (((Y * V)).re.val) (((Y * V)).im.val)) _ (0, 0)) := hw70 ▸ setRow_heap _ _ _ _ _ _ G69_0
                     have G70_1 : w70.heap[w56.heap.size]? = some (.cells (dgQ (((X * U)).re.val) (((X * U)).im.val)) _ (0, 0)) := hw70 ▸ (setRow_other _ _ _ _ (by omega)).trans G69_s
                     have L70 : w69.heap.size ≤ w70.heap.size := by rw [hw70]; exact Nat.le_of_eq (size_setRow _ _ _).symm
                     clear hw70
                     exact t_done ⟨rfl, w56.heap.size, w9.drew.heap.size, by kernel_rfl, Kept.zero K70.nb (rowsC (K70.at 0 rfl) (rowsC (K70.at 1 rfl) (rowsC (K70.at 2 rfl) (rowsC (K70.at 3 rfl) (rowsC (K70.at 4 rfl) (rowsC ⟨_, G70_1⟩ (rowsC ⟨_, G70_s⟩ rows0))))))), (by omega), (by omega), (by omega)⟩
                   ·
                     exact t_nil
                 ·
                   exact t_nil
               ·
                 exact t_nil
             ·
               exact t_nil
           ·
             exact t_nil
       ·
         exact t_nil
 · rintro _ W71 ⟨p7, p8, rfl, K72, l73, l74, n75⟩
   go_upto_region 4 with (fail)
   have K76 : Kept w [(w.heap.size, (dgL [X.re.val, X.im.val, Y.re.val, Y.im.val, Z.re.val, Z.im.val])), (w.heap.size + 1, (dgL [U.re.val, U.im.val, V.re.val, V.im.val, W.re.val, W.im.val])), (w.heap.size + 1 + 1, (dgL [0, 0, 0, 0, 0, 0])), (w2.heap.size, (dgQ (((Z * W)).re.val) (((Z * W)).im.val))), (w7.heap.size, (dgQ ((((Z * W) * (Z * W))).re.val) ((((Z * W) * (Z * W))).im.val))), (p7, (dgQ (((X * U)).re.val) (((X * U)).im.val))), (p8, (dgQ (((Y * V)).re.val) (((Y * V)).im.val)))] [] W71 := Kept.mks K72.nb (rowsC (K72.at 0 rfl) (rowsC (K72.at 1 rfl) (rowsC (K72.at 2 rfl) (rowsC (K72.at 3 rfl) (rowsC (K72.at 4 rfl) (rowsC (K72.at 5 rfl) (rowsC (K72.at 6 rfl) rows0))))))) rooms0
   have RK76_0 : w.heap.size < W71.heap.size := (by obtain ⟨T, h⟩ := K72.at 0 rfl; exact lt_of_heap h)
   have RK76_1 : w.heap.size + 1 < W71.heap.size := (by obtain ⟨T, h⟩ := K72.at 1 rfl; exact lt_of_heap h)
   have RK76_2 : w.heap.size + 1 + 1 < W71.heap.size := (by obtain ⟨T, h⟩ := K72.at 2 rfl; exact lt_of_heap h)
   have RK76_3 : w2.heap.size < W71.heap.size := (by obtain ⟨T, h⟩ := K72.at 3 rfl; exact lt_of_heap h)
   have RK76_4 : w7.heap.size < W71.heap.size := (by obtain ⟨T, h⟩ := K72.at 4 rfl; exact lt_of_heap h)
   have RK76_5 : p7 < W71.heap.size := (by obtain ⟨T, h⟩ := K72.at 5 rfl; exact lt_of_heap h)
   have RK76_6 : p8 < W71.heap.size := (by obtain ⟨T, h⟩ := K72.at 6 rfl; exact lt_of_heap h)
   refine wp_meet (fun a' w' => ∃ p9 : Nat, a' = { tmps := #[.agg (dgL [X.re.val, X.im.val, Y.re.val, Y.im.val, Z.re.val, Z.im.val]), .agg (dgL [U.re.val, U.im.val, V.re.val, V.im.val, W.re.val, W.im.val]), .pointer (some ⟨w.heap.size, 0, none⟩), .pointer (some ⟨w.heap.size + 1, 0, none⟩), .pointer (some ⟨w.heap.size + 1 + 1, 0, none⟩), .pointer (some ⟨w2.heap.size, 0, none⟩), .pointer (some ⟨w7.heap.size, 0, none⟩), .pointer (some ⟨p7, 0, none⟩), .pointer (some ⟨p8, 0, none⟩), .pointer (some ⟨p9, 0, none⟩), undef, undef, undef, .pointer (some ⟨w.heap.size, 32, none⟩), .agg (dgQ Z.re.val Z.im.val), .pointer (some ⟨w.heap.size + 1, 32, none⟩), .agg (dgQ W.re.val W.im.val), .agg (dgQ (((Z * W)).re.val) (((Z * W)).im.val)), .agg (dgQ (((Z * W)).re.val) (((Z * W)).im.val)), .agg (dgQ (((Z * W)).re.val) (((Z * W)).im.val)), .agg (dgQ ((((Z * W) * (Z * W))).re.val) ((((Z * W) * (Z * W))).im.val)), .pointer (some ⟨w.heap.size, 0, none⟩), .agg (dgQ X.re.val X.im.val), .pointer (some ⟨w.heap.size + 1, 0, none⟩), .agg (dgQ U.re.val U.im.val), .agg (dgQ (((X * U)).re.val) (((X * U)).im.val)), .pointer (some ⟨w.heap.size, 16, none⟩), .agg (dgQ Y.re.val Y.im.val), .pointer (some ⟨w.heap.size + 1, 16, none⟩), .agg (dgQ V.re.val V.im.val), .agg (dgQ (((Y * V)).re.val) (((Y * V)).im.val)), .agg (dgQ dd.re.val dd.im.val), .agg (dgQ (((X * U)).re.val) (((X * U)).im.val)), .agg (dgQ (((Y * V)).re.val) (((Y * V)).im.val)), .agg (dgQ ((((X * U) * (Y * V))).re.val) ((((X * U) * (Y * V))).im.val)), .agg (dgQ (((dd * ((X * U) * (Y * V)))).re.val) (((dd * ((X * U) * (Y * V)))).im.val)), undef, undef, undef, undef, undef, undef, undef, undef, undef, undef, undef, undef, undef, undef, undef, undef, undef, undef, undef, undef, undef, undef, undef, undef, undef, undef, undef, undef, undef, undef, undef, undef, undef, undef, undef, undef, undef], defers := [] } ∧ Kept w [(w.heap.size, (dgL [X.re.val, X.im.val, Y.re.val, Y.im.val, Z.re.val, Z.im.val])), (w.heap.size + 1, (dgL [U.re.val, U.im.val, V.re.val, V.im.val, W.re.val, W.im.val])), (w.heap.size + 1 + 1, (dgL [0, 0, 0, 0, 0, 0])), (w2.heap.size, (dgQ (((Z * W)).re.val) (((Z * W)).im.val))), (w7.heap.size, (dgQ ((((Z * W) * (Z * W))).re.val) ((((Z * W) * (Z * W))).im.val))), (p7, (dgQ (((X * U)).re.val) (((X * U)).im.val))), (p8, (dgQ (((Y * V)).re.val) (((Y * V)).im.val))), (p9, (dgQ (((dd * ((X * U) * (Y * V)))).re.val) (((dd * ((X * U) * (Y * V)))).im.val)))] [] w' ∧ W71.heap.size ≤ p9) ?_ ?_
   · refine wp_tree_at (opsAt Tryd.f24 4) (.take 1 (.take 2 (.fork 0 (.fork 3 (.fork 4 (.fork 5 (.fork 6 .done .nil) .nil) (.fork 5 (.fork 4 (.fork 6 .done .nil) .nil) .nil)) (.fork 5 (.fork 3 (.fork 4 (.fork 6 .done .nil) .nil) .nil) .nil)) (.fork 5 (.fork 0 (.fork 3 (.fork 4 (.fork 6 .done .nil) .nil) .nil) .nil) .nil)))) (Kept w [(w.heap.size, (dgL [X.re.val, X.im.val, Y.re.val, Y.im.val, Z.re.val, Z.im.val])), (w.heap.size + 1, (dgL [U.re.val, U.im.val, V.re.val, V.im.val, W.re.val, W.im.val])), (w.heap.size + 1 + 1, (dgL [0, 0, 0, 0, 0, 0])), (w2.heap.size, (dgQ (((Z * W)).re.val) (((Z * W)).im.val))), (w7.heap.size, (dgQ ((((Z * W) * (Z * W))).re.val) ((((Z * W) * (Z * W))).im.val))), (p7, (dgQ (((X * U)).re.val) (((X * U)).im.val))), (p8, (dgQ (((Y * V)).re.val) (((Y * V)).im.val)))] []) (by kernel_rfl) rfl (by kernel_rfl) (by intro c a d v w h; exact absurd h.1 (by simp)) (by kernel_rfl) (by kernel_rfl) K76.drew ?_
     have K77 := K76.drew
     have DK77 : W71.heap.size ≤ W71.drew.heap.size := Nat.le_refl _
     refine t_row (by kernel_rfl) (d := (some 32)) (by kernel_rfl) (ty := 39) (x := (.tmp 7)) (by kernel_rfl) (b := p7) (by kernel_rfl) (cs := (dgQ (((X * U)).re.val) (((X * U)).im.val))) (fun _ hs => hs.at 5 rfl) Tryd.underlying39 rfl (by kernel_rfl) ?_
     refine t_row (by kernel_rfl) (d := (some 33)) (by kernel_rfl) (ty := 39) (x := (.tmp 8)) (by kernel_rfl) (b := p8) (by kernel_rfl) (cs := (dgQ (((Y * V)).re.val) (((Y * V)).im.val))) (fun _ hs => hs.at 6 rfl) Tryd.underlying39 rfl (by kernel_rfl) ?_
     refine tc (d := some 31) (f := 32) (args := #[]) (v := .agg (dgQ dd.re.val dd.im.val)) (dD_c) (fun w78 hb78 => ⟨K77.go hb78, ?_⟩) ?_
     · have K78 := K77.go hb78
       have L78 := hb78.size
       refine tc (d := some 34) (f := 25) (args := #[.agg (dgQ (((X * U)).re.val) (((X * U)).im.val)), .agg (dgQ (((Y * V)).re.val) (((Y * V)).im.val))]) (v := .agg (dgQ ((((X * U) * (Y * V))).re.val) ((((X * U) * (Y * V))).im.val))) (mulQ_q) (fun w79 hb79 => ⟨K78.go hb79, ?_⟩) ?_
       · have K79 := K78.go hb79
         have L79 := hb79.size
         refine tc (d := some 35) (f := 25) (args := #[.agg (dgQ dd.re.val dd.im.val), .agg (dgQ ((((X * U) * (Y * V))).re.val) ((((X * U) * (Y * V))).im.val))]) (v := .agg (dgQ (((dd * ((X * U) * (Y * V)))).re.val) (((dd * ((X * U) * (Y * V)))).im.val))) (mulQ_q) (fun w80 hb80 => ⟨K79.go hb80, ?_⟩) ?_
         · have K80 := K79.go hb80
           have L80 := hb80.size
           refine t_make (by kernel_rfl) (d := (some 9)) (by kernel_rfl) (v := .pointer (some ⟨w80.heap.size, 0, none⟩)) (w' := w80.alloc (.cells (dgQ 0 0) 39)) (by kernel_rfl) (K80.go ((Below.refl _ _).alloc (Nat.le_refl _) _)) ?_ ?_
           · intro w81 hw81 K81
             have G81_n : w81.heap[w80.heap.size]? = some (.cells (dgQ 0 0) 39 (0, 0)) := hw81 ▸ heap_alloc_new _ _
             have S81 : w80.heap.size < w81.heap.size := lt_of_heap G81_n
             have R81_0 : w.heap.size < w80.heap.size := (by obtain ⟨T, h⟩ := K80.at 0 rfl; exact lt_of_heap h)
             have R81_1 : w.heap.size + 1 < w80.heap.size := (by obtain ⟨T, h⟩ := K80.at 1 rfl; exact lt_of_heap h)
             have R81_2 : w.heap.size + 1 + 1 < w80.heap.size := (by obtain ⟨T, h⟩ := K80.at 2 rfl; exact lt_of_heap h)
             have R81_3 : w2.heap.size < w80.heap.size := (by obtain ⟨T, h⟩ := K80.at 3 rfl; exact lt_of_heap h)
             have R81_4 : w7.heap.size < w80.heap.size := (by obtain ⟨T, h⟩ := K80.at 4 rfl; exact lt_of_heap h)
             have R81_5 : p7 < w80.heap.size := (by obtain ⟨T, h⟩ := K80.at 5 rfl; exact lt_of_heap h)
             have R81_6 : p8 < w80.heap.size := (by obtain ⟨T, h⟩ := K80.at 6 rfl; exact lt_of_heap h)
             have Z81 : w.heap.size ≤ w80.heap.size := K80.nb.size
             clear hw81
             refine t_store (by kernel_rfl) (d := none) (by kernel_rfl) (ty := 39) (x := (.tmp 9)) (y := (.tmp 35)) (by kernel_rfl) (g := w80.heap.size) (cells := (dgQ (((dd * ((X * U) * (Y * V)))).re.val) (((dd * ((X * U) * (Y * V)))).im.val))) (by kernel_rfl) (by kernel_rfl) G81_n (by kernel_rfl) (by kernel_rfl) (all_dgA _) (K81.puti (n := 16) (by kernel_rfl) (by omega) (neC (by omega) (neC (by omega) (neC (by omega) (neC (by omega) (neC (by omega) (neC (by omega) (neC (by omega) ne0))))))) ns0) ?_ ?_
             · intro w82 hw82 K82
               have G82_s : w82.heap[w80.heap.size]? = some (.cells (dgQ (((dd * ((X * U) * (Y * V)))).re.val) (((dd * ((X * U) * (Y * V)))).im.val)) _ (0, 0)) := hw82 ▸ setRow_heap _ _ _ _ _ _ G81_n
               have L82 : w81.heap.size ≤ w82.heap.size := by rw [hw82]; exact Nat.le_of_eq (size_setRow _ _ _).symm
               clear hw82
               exact t_done ⟨rfl, w80.heap.size, by kernel_rfl, Kept.zero K82.nb (rowsC (K82.at 0 rfl) (rowsC (K82.at 1 rfl) (rowsC (K82.at 2 rfl) (rowsC (K82.at 3 rfl) (rowsC (K82.at 4 rfl) (rowsC (K82.at 5 rfl) (rowsC (K82.at 6 rfl) (rowsC ⟨_, G82_s⟩ rows0)))))))), (by omega)⟩
             ·
               exact t_nil
           ·
             exact t_nil
         ·
           refine t_make (by kernel_rfl) (d := (some 9)) (by kernel_rfl) (v := .pointer (some ⟨w79.heap.size, 0, none⟩)) (w' := w79.alloc (.cells (dgQ 0 0) 39)) (by kernel_rfl) (K79.go ((Below.refl _ _).alloc (Nat.le_refl _) _)) ?_ ?_
           · intro w83 hw83 K83
             have G83_n : w83.heap[w79.heap.size]? = some (.cells (dgQ 0 0) 39 (0, 0)) := hw83 ▸ heap_alloc_new _ _
             have S83 : w79.heap.size < w83.heap.size := lt_of_heap G83_n
             have R83_0 : w.heap.size < w79.heap.size := (by obtain ⟨T, h⟩ := K79.at 0 rfl; exact lt_of_heap h)
             have R83_1 : w.heap.size + 1 < w79.heap.size := (by obtain ⟨T, h⟩ := K79.at 1 rfl; exact lt_of_heap h)
             have R83_2 : w.heap.size + 1 + 1 < w79.heap.size := (by obtain ⟨T, h⟩ := K79.at 2 rfl; exact lt_of_heap h)
             have R83_3 : w2.heap.size < w79.heap.size := (by obtain ⟨T, h⟩ := K79.at 3 rfl; exact lt_of_heap h)
             have R83_4 : w7.heap.size < w79.heap.size := (by obtain ⟨T, h⟩ := K79.at 4 rfl; exact lt_of_heap h)
             have R83_5 : p7 < w79.heap.size := (by obtain ⟨T, h⟩ := K79.at 5 rfl; exact lt_of_heap h)
             have R83_6 : p8 < w79.heap.size := (by obtain ⟨T, h⟩ := K79.at 6 rfl; exact lt_of_heap h)
             have Z83 : w.heap.size ≤ w79.heap.size := K79.nb.size
             clear hw83
             refine tc (d := some 35) (f := 25) (args := #[.agg (dgQ dd.re.val dd.im.val), .agg (dgQ ((((X * U) * (Y * V))).re.val) ((((X * U) * (Y * V))).im.val))]) (v := .agg (dgQ (((dd * ((X * U) * (Y * V)))).re.val) (((dd * ((X * U) * (Y * V)))).im.val))) (mulQ_q) (fun w84 hb84 => ⟨K83.go hb84, ?_⟩) ?_
             · have K84 := K83.go hb84
               have G84_10 := nb_heap G83_n _ hb84
               have L84 := hb84.size
               refine t_store (by kernel_rfl) (d := none) (by kernel_rfl) (ty := 39) (x := (.tmp 9)) (y := (.tmp 35)) (by kernel_rfl) (g := w79.heap.size) (cells := (dgQ (((dd * ((X * U) * (Y * V)))).re.val) (((dd * ((X * U) * (Y * V)))).im.val))) (by kernel_rfl) (by kernel_rfl) G84_10 (by kernel_rfl) (by kernel_rfl) (all_dgA _) (K84.puti (n := 16) (by kernel_rfl) (by omega) (neC (by omega) (neC (by omega) (neC (by omega) (neC (by omega) (neC (by omega) (neC (by omega) (neC (by omega) ne0))))))) ns0) ?_ ?_
               · intro w85 hw85 K85
                 have G85_s : w85.heap[w79.heap.size]? = some (.cells (dgQ (((dd * ((X * U) * (Y * V)))).re.val) (((dd * ((X * U) * (Y * V)))).im.val)) _ (0, 0)) := hw85 ▸ setRow_heap _ _ _ _ _ _ G84_10
                 have L85 : w84.heap.size ≤ w85.heap.size := by rw [hw85]; exact Nat.le_of_eq (size_setRow _ _ _).symm
                 clear hw85
                 exact t_done ⟨rfl, w79.heap.size, by kernel_rfl, Kept.zero K85.nb (rowsC (K85.at 0 rfl) (rowsC (K85.at 1 rfl) (rowsC (K85.at 2 rfl) (rowsC (K85.at 3 rfl) (rowsC (K85.at 4 rfl) (rowsC (K85.at 5 rfl) (rowsC (K85.at 6 rfl) (rowsC ⟨_, G85_s⟩ rows0)))))))), (by omega)⟩
               ·
                 exact t_nil
             ·
               exact t_nil
           ·
             exact t_nil
       ·
         refine t_make (by kernel_rfl) (d := (some 9)) (by kernel_rfl) (v := .pointer (some ⟨w78.heap.size, 0, none⟩)) (w' := w78.alloc (.cells (dgQ 0 0) 39)) (by kernel_rfl) (K78.go ((Below.refl _ _).alloc (Nat.le_refl _) _)) ?_ ?_
         · intro w86 hw86 K86
           have G86_n : w86.heap[w78.heap.size]? = some (.cells (dgQ 0 0) 39 (0, 0)) := hw86 ▸ heap_alloc_new _ _
           have S86 : w78.heap.size < w86.heap.size := lt_of_heap G86_n
           have R86_0 : w.heap.size < w78.heap.size := (by obtain ⟨T, h⟩ := K78.at 0 rfl; exact lt_of_heap h)
           have R86_1 : w.heap.size + 1 < w78.heap.size := (by obtain ⟨T, h⟩ := K78.at 1 rfl; exact lt_of_heap h)
           have R86_2 : w.heap.size + 1 + 1 < w78.heap.size := (by obtain ⟨T, h⟩ := K78.at 2 rfl; exact lt_of_heap h)
           have R86_3 : w2.heap.size < w78.heap.size := (by obtain ⟨T, h⟩ := K78.at 3 rfl; exact lt_of_heap h)
           have R86_4 : w7.heap.size < w78.heap.size := (by obtain ⟨T, h⟩ := K78.at 4 rfl; exact lt_of_heap h)
           have R86_5 : p7 < w78.heap.size := (by obtain ⟨T, h⟩ := K78.at 5 rfl; exact lt_of_heap h)
           have R86_6 : p8 < w78.heap.size := (by obtain ⟨T, h⟩ := K78.at 6 rfl; exact lt_of_heap h)
           have Z86 : w.heap.size ≤ w78.heap.size := K78.nb.size
           clear hw86
           refine tc (d := some 34) (f := 25) (args := #[.agg (dgQ (((X * U)).re.val) (((X * U)).im.val)), .agg (dgQ (((Y * V)).re.val) (((Y * V)).im.val))]) (v := .agg (dgQ ((((X * U) * (Y * V))).re.val) ((((X * U) * (Y * V))).im.val))) (mulQ_q) (fun w87 hb87 => ⟨K86.go hb87, ?_⟩) ?_
           · have K87 := K86.go hb87
             have G87_10 := nb_heap G86_n _ hb87
             have L87 := hb87.size
             refine tc (d := some 35) (f := 25) (args := #[.agg (dgQ dd.re.val dd.im.val), .agg (dgQ ((((X * U) * (Y * V))).re.val) ((((X * U) * (Y * V))).im.val))]) (v := .agg (dgQ (((dd * ((X * U) * (Y * V)))).re.val) (((dd * ((X * U) * (Y * V)))).im.val))) (mulQ_q) (fun w88 hb88 => ⟨K87.go hb88, ?_⟩) ?_
             · have K88 := K87.go hb88
               have G88_10 := nb_heap G87_10 _ hb88
               have L88 := hb88.size
               refine t_store (by kernel_rfl) (d := none) (by kernel_rfl) (ty := 39) (x := (.tmp 9)) (y := (.tmp 35)) (by kernel_rfl) (g := w78.heap.size) (cells := (dgQ (((dd * ((X * U) * (Y * V)))).re.val) (((dd * ((X * U) * (Y * V)))).im.val))) (by kernel_rfl) (by kernel_rfl) G88_10 (by kernel_rfl) (by kernel_rfl) (all_dgA _) (K88.puti (n := 16) (by kernel_rfl) (by omega) (neC (by omega) (neC (by omega) (neC (by omega) (neC (by omega) (neC (by omega) (neC (by omega) (neC (by omega) ne0))))))) ns0) ?_ ?_
               · intro w89 hw89 K89
                 have G89_s : w89.heap[w78.heap.size]? = some (.cells (dgQ (((dd * ((X * U) * (Y * V)))).re.val) (((dd * ((X * U) * (Y * V)))).im.val)) _ (0, 0)) := hw89 ▸ setRow_heap _ _ _ _ _ _ G88_10
                 have L89 : w88.heap.size ≤ w89.heap.size := by rw [hw89]; exact Nat.le_of_eq (size_setRow _ _ _).symm
                 clear hw89
                 exact t_done ⟨rfl, w78.heap.size, by kernel_rfl, Kept.zero K89.nb (rowsC (K89.at 0 rfl) (rowsC (K89.at 1 rfl) (rowsC (K89.at 2 rfl) (rowsC (K89.at 3 rfl) (rowsC (K89.at 4 rfl) (rowsC (K89.at 5 rfl) (rowsC (K89.at 6 rfl) (rowsC ⟨_, G89_s⟩ rows0)))))))), (by omega)⟩
               ·
                 exact t_nil
             ·
               exact t_nil
           ·
             exact t_nil
         ·
           exact t_nil
     ·
       refine t_make (by kernel_rfl) (d := (some 9)) (by kernel_rfl) (v := .pointer (some ⟨W71.drew.heap.size, 0, none⟩)) (w' := W71.drew.alloc (.cells (dgQ 0 0) 39)) (by kernel_rfl) (K77.go ((Below.refl _ _).alloc (Nat.le_refl _) _)) ?_ ?_
       · intro w90 hw90 K90
         have G90_n : w90.heap[W71.drew.heap.size]? = some (.cells (dgQ 0 0) 39 (0, 0)) := hw90 ▸ heap_alloc_new _ _
         have S90 : W71.drew.heap.size < w90.heap.size := lt_of_heap G90_n
         have R90_0 : w.heap.size < W71.drew.heap.size := (by obtain ⟨T, h⟩ := K77.at 0 rfl; exact lt_of_heap h)
         have R90_1 : w.heap.size + 1 < W71.drew.heap.size := (by obtain ⟨T, h⟩ := K77.at 1 rfl; exact lt_of_heap h)
         have R90_2 : w.heap.size + 1 + 1 < W71.drew.heap.size := (by obtain ⟨T, h⟩ := K77.at 2 rfl; exact lt_of_heap h)
         have R90_3 : w2.heap.size < W71.drew.heap.size := (by obtain ⟨T, h⟩ := K77.at 3 rfl; exact lt_of_heap h)
         have R90_4 : w7.heap.size < W71.drew.heap.size := (by obtain ⟨T, h⟩ := K77.at 4 rfl; exact lt_of_heap h)
         have R90_5 : p7 < W71.drew.heap.size := (by obtain ⟨T, h⟩ := K77.at 5 rfl; exact lt_of_heap h)
         have R90_6 : p8 < W71.drew.heap.size := (by obtain ⟨T, h⟩ := K77.at 6 rfl; exact lt_of_heap h)
         have Z90 : w.heap.size ≤ W71.drew.heap.size := K77.nb.size
         clear hw90
         refine tc (d := some 31) (f := 32) (args := #[]) (v := .agg (dgQ dd.re.val dd.im.val)) (dD_c) (fun w91 hb91 => ⟨K90.go hb91, ?_⟩) ?_
         · have K91 := K90.go hb91
           have G91_10 := nb_heap G90_n _ hb91
           have L91 := hb91.size
           refine tc (d := some 34) (f := 25) (args := #[.agg (dgQ (((X * U)).re.val) (((X * U)).im.val)), .agg (dgQ (((Y * V)).re.val) (((Y * V)).im.val))]) (v := .agg (dgQ ((((X * U) * (Y * V))).re.val) ((((X * U) * (Y * V))).im.val))) (mulQ_q) (fun w92 hb92 => ⟨K91.go hb92, ?_⟩) ?_
           · have K92 := K91.go hb92
             have G92_10 := nb_heap G91_10 _ hb92
             have L92 := hb92.size
             refine tc (d := some 35) (f := 25) (args := #[.agg (dgQ dd.re.val dd.im.val), .agg (dgQ ((((X * U) * (Y * V))).re.val) ((((X * U) * (Y * V))).im.val))]) (v := .agg (dgQ (((dd * ((X * U) * (Y * V)))).re.val) (((dd * ((X * U) * (Y * V)))).im.val))) (mulQ_q) (fun w93 hb93 => ⟨K92.go hb93, ?_⟩) ?_
             · have K93 := K92.go hb93
               have G93_10 := nb_heap G92_10 _ hb93
               have L93 := hb93.size
               refine t_store (by kernel_rfl) (d := none) (by kernel_rfl) (ty := 39) (x := (.tmp 9)) (y := (.tmp 35)) (by kernel_rfl) (g := W71.drew.heap.size) (cells := (dgQ (((dd * ((X * U) * (Y * V)))).re.val) (((dd * ((X * U) * (Y * V)))).im.val))) (by kernel_rfl) (by kernel_rfl) G93_10 (by kernel_rfl) (by kernel_rfl) (all_dgA _) (K93.puti (n := 16) (by kernel_rfl) (by omega) (neC (by omega) (neC (by omega) (neC (by omega) (neC (by omega) (neC (by omega) (neC (by omega) (neC (by omega) ne0))))))) ns0) ?_ ?_
               · intro w94 hw94 K94
                 have G94_s : w94.heap[W71.drew.heap.size]? = some (.cells (dgQ (((dd * ((X * U) * (Y * V)))).re.val) (((dd * ((X * U) * (Y * V)))).im.val)) _ (0, 0)) := hw94 ▸ setRow_heap _ _ _ _ _ _ G93_10
                 have L94 : w93.heap.size ≤ w94.heap.size := by rw [hw94]; exact Nat.le_of_eq (size_setRow _ _ _).symm
                 clear hw94
                 exact t_done ⟨rfl, W71.drew.heap.size, by kernel_rfl, Kept.zero K94.nb (rowsC (K94.at 0 rfl) (rowsC (K94.at 1 rfl) (rowsC (K94.at 2 rfl) (rowsC (K94.at 3 rfl) (rowsC (K94.at 4 rfl) (rowsC (K94.at 5 rfl) (rowsC (K94.at 6 rfl) (rowsC ⟨_, G94_s⟩ rows0)))))))), (by omega)⟩
               ·
                 exact t_nil
             ·
               exact t_nil
           ·
             exact t_nil
         ·
           exact t_nil
       ·
         exact t_nil
   · rintro _ W95 ⟨p9, rfl, K96, l97⟩
     go_upto_region 5 with (fail)
     have K98 : Kept w [(w.heap.size, (dgL [X.re.val, X.im.val, Y.re.val, Y.im.val, Z.re.val, Z.im.val])), (w.heap.size + 1, (dgL [U.re.val, U.im.val, V.re.val, V.im.val, W.re.val, W.im.val])), (w.heap.size + 1 + 1, (dgL [0, 0, 0, 0, 0, 0])), (w2.heap.size, (dgQ (((Z * W)).re.val) (((Z * W)).im.val))), (w7.heap.size, (dgQ ((((Z * W) * (Z * W))).re.val) ((((Z * W) * (Z * W))).im.val))), (p7, (dgQ (((X * U)).re.val) (((X * U)).im.val))), (p8, (dgQ (((Y * V)).re.val) (((Y * V)).im.val))), (p9, (dgQ (((dd * ((X * U) * (Y * V)))).re.val) (((dd * ((X * U) * (Y * V)))).im.val)))] [] W95 := Kept.mks K96.nb (rowsC (K96.at 0 rfl) (rowsC (K96.at 1 rfl) (rowsC (K96.at 2 rfl) (rowsC (K96.at 3 rfl) (rowsC (K96.at 4 rfl) (rowsC (K96.at 5 rfl) (rowsC (K96.at 6 rfl) (rowsC (K96.at 7 rfl) rows0)))))))) rooms0
     have RK98_0 : w.heap.size < W95.heap.size := (by obtain ⟨T, h⟩ := K96.at 0 rfl; exact lt_of_heap h)
     have RK98_1 : w.heap.size + 1 < W95.heap.size := (by obtain ⟨T, h⟩ := K96.at 1 rfl; exact lt_of_heap h)
     have RK98_2 : w.heap.size + 1 + 1 < W95.heap.size := (by obtain ⟨T, h⟩ := K96.at 2 rfl; exact lt_of_heap h)
     have RK98_3 : w2.heap.size < W95.heap.size := (by obtain ⟨T, h⟩ := K96.at 3 rfl; exact lt_of_heap h)
     have RK98_4 : w7.heap.size < W95.heap.size := (by obtain ⟨T, h⟩ := K96.at 4 rfl; exact lt_of_heap h)
     have RK98_5 : p7 < W95.heap.size := (by obtain ⟨T, h⟩ := K96.at 5 rfl; exact lt_of_heap h)
     have RK98_6 : p8 < W95.heap.size := (by obtain ⟨T, h⟩ := K96.at 6 rfl; exact lt_of_heap h)
     have RK98_7 : p9 < W95.heap.size := (by obtain ⟨T, h⟩ := K96.at 7 rfl; exact lt_of_heap h)
     refine wp_meet (fun a' w' => ∃ p10 p11 : Nat, a' = { tmps := #[.agg (dgL [X.re.val, X.im.val, Y.re.val, Y.im.val, Z.re.val, Z.im.val]), .agg (dgL [U.re.val, U.im.val, V.re.val, V.im.val, W.re.val, W.im.val]), .pointer (some ⟨w.heap.size, 0, none⟩), .pointer (some ⟨w.heap.size + 1, 0, none⟩), .pointer (some ⟨w.heap.size + 1 + 1, 0, none⟩), .pointer (some ⟨w2.heap.size, 0, none⟩), .pointer (some ⟨w7.heap.size, 0, none⟩), .pointer (some ⟨p7, 0, none⟩), .pointer (some ⟨p8, 0, none⟩), .pointer (some ⟨p9, 0, none⟩), .pointer (some ⟨p10, 0, none⟩), .pointer (some ⟨p11, 0, none⟩), undef, .pointer (some ⟨w.heap.size, 32, none⟩), .agg (dgQ Z.re.val Z.im.val), .pointer (some ⟨w.heap.size + 1, 32, none⟩), .agg (dgQ W.re.val W.im.val), .agg (dgQ (((Z * W)).re.val) (((Z * W)).im.val)), .agg (dgQ (((Z * W)).re.val) (((Z * W)).im.val)), .agg (dgQ (((Z * W)).re.val) (((Z * W)).im.val)), .agg (dgQ ((((Z * W) * (Z * W))).re.val) ((((Z * W) * (Z * W))).im.val)), .pointer (some ⟨w.heap.size, 0, none⟩), .agg (dgQ X.re.val X.im.val), .pointer (some ⟨w.heap.size + 1, 0, none⟩), .agg (dgQ U.re.val U.im.val), .agg (dgQ (((X * U)).re.val) (((X * U)).im.val)), .pointer (some ⟨w.heap.size, 16, none⟩), .agg (dgQ Y.re.val Y.im.val), .pointer (some ⟨w.heap.size + 1, 16, none⟩), .agg (dgQ V.re.val V.im.val), .agg (dgQ (((Y * V)).re.val) (((Y * V)).im.val)), .agg (dgQ dd.re.val dd.im.val), .agg (dgQ (((X * U)).re.val) (((X * U)).im.val)), .agg (dgQ (((Y * V)).re.val) (((Y * V)).im.val)), .agg (dgQ ((((X * U) * (Y * V))).re.val) ((((X * U) * (Y * V))).im.val)), .agg (dgQ (((dd * ((X * U) * (Y * V)))).re.val) (((dd * ((X * U) * (Y * V)))).im.val)), .agg (dgQ ((((Z * W) * (Z * W))).re.val) ((((Z * W) * (Z * W))).im.val)), .agg (dgQ (((dd * ((X * U) * (Y * V)))).re.val) (((dd * ((X * U) * (Y * V)))).im.val)), .agg (dgQ (((((Z * W) * (Z * W)) - (dd * ((X * U) * (Y * V))))).re.val) (((((Z * W) * (Z * W)) - (dd * ((X * U) * (Y * V))))).im.val)), .agg (dgQ ((((Z * W) * (Z * W))).re.val) ((((Z * W) * (Z * W))).im.val)), .agg (dgQ (((dd * ((X * U) * (Y * V)))).re.val) (((dd * ((X * U) * (Y * V)))).im.val)), .agg (dgQ (((((Z * W) * (Z * W)) + (dd * ((X * U) * (Y * V))))).re.val) (((((Z * W) * (Z * W)) + (dd * ((X * U) * (Y * V))))).im.val)), undef, undef, undef, undef, undef, undef, undef, undef, undef, undef, undef, undef, undef, undef, undef, undef, undef, undef, undef, undef, undef, undef, undef, undef, undef, undef, undef, undef, undef, undef, undef], defers := [] } ∧ Kept w [(w.heap.size, (dgL [X.re.val, X.im.val, Y.re.val, Y.im.val, Z.re.val, Z.im.val])), (w.heap.size + 1, (dgL [U.re.val, U.im.val, V.re.val, V.im.val, W.re.val, W.im.val])), (w.heap.size + 1 + 1, (dgL [0, 0, 0, 0, 0, 0])), (w2.heap.size, (dgQ (((Z * W)).re.val) (((Z * W)).im.val))), (w7.heap.size, (dgQ ((((Z * W) * (Z * W))).re.val) ((((Z * W) * (Z * W))).im.val))), (p7, (dgQ (((X * U)).re.val) (((X * U)).im.val))), (p8, (dgQ (((Y * V)).re.val) (((Y * V)).im.val))), (p9, (dgQ (((dd * ((X * U) * (Y * V)))).re.val) (((dd * ((X * U) * (Y * V)))).im.val))), (p10, (dgQ (((((Z * W) * (Z * W)) - (dd * ((X * U) * (Y * V))))).re.val) (((((Z * W) * (Z * W)) - (dd * ((X * U) * (Y * V))))).im.val))), (p11, (dgQ (((((Z * W) * (Z * W)) + (dd * ((X * U) * (Y * V))))).re.val) (((((Z * W) * (Z * W)) + (dd * ((X * U) * (Y * V))))).im.val)))] [] w' ∧ W95.heap.size ≤ p10 ∧ W95.heap.size ≤ p11 ∧ p10 ≠ p11) ?_ ?_
     · refine wp_tree_at (opsAt Tryd.f24 5) (.take 0 (.take 1 (.take 3 (.take 4 (.fork 2 (.fork 5 (.fork 6 (.fork 7 (.fork 8 (.fork 9 .done .nil) .nil) .nil) (.fork 7 (.fork 6 (.fork 8 (.fork 9 .done .nil) .nil) .nil) .nil)) (.fork 6 (.fork 5 (.fork 7 (.fork 8 (.fork 9 .done .nil) .nil) .nil) (.fork 7 (.fork 5 (.fork 8 (.fork 9 .done .nil) .nil) .nil) .nil)) (.fork 7 (.fork 5 (.fork 6 (.fork 8 (.fork 9 .done .nil) .nil) .nil) (.fork 6 (.fork 5 (.fork 8 (.fork 9 .done .nil) .nil) .nil) .nil)) .nil))) (.fork 6 (.fork 2 (.fork 5 (.fork 7 (.fork 8 (.fork 9 .done .nil) .nil) .nil) (.fork 7 (.fork 5 (.fork 8 (.fork 9 .done .nil) .nil) .nil) .nil)) (.fork 7 (.fork 2 (.fork 5 (.fork 8 (.fork 9 .done .nil) .nil) .nil) .nil) .nil)) (.fork 7 (.fork 2 (.fork 5 (.fork 6 (.fork 8 (.fork 9 .done .nil) .nil) .nil) (.fork 6 (.fork 5 (.fork 8 (.fork 9 .done .nil) .nil) .nil) .nil)) (.fork 6 (.fork 2 (.fork 5 (.fork 8 (.fork 9 .done .nil) .nil) .nil) .nil) .nil)) .nil))))))) (Kept w [(w.heap.size, (dgL [X.re.val, X.im.val, Y.re.val, Y.im.val, Z.re.val, Z.im.val])), (w.heap.size + 1, (dgL [U.re.val, U.im.val, V.re.val, V.im.val, W.re.val, W.im.val])), (w.heap.size + 1 + 1, (dgL [0, 0, 0, 0, 0, 0])), (w2.heap.size, (dgQ (((Z * W)).re.val) (((Z * W)).im.val))), (w7.heap.size, (dgQ ((((Z * W) * (Z * W))).re.val) ((((Z * W) * (Z * W))).im.val))), (p7, (dgQ (((X * U)).re.val) (((X * U)).im.val))), (p8, (dgQ (((Y * V)).re.val) (((Y * V)).im.val))), (p9, (dgQ (((dd * ((X * U) * (Y * V)))).re.val) (((dd * ((X * U) * (Y * V)))).im.val)))] []) (by kernel_rfl) rfl (by kernel_rfl) (by intro c a d v w h; exact absurd h.1 (by simp)) (by kernel_rfl) (by kernel_rfl) K98.drew ?_
       have K99 := K98.drew
       have DK99 : W95.heap.size ≤ W95.drew.heap.size := Nat.le_refl _
       refine t_row (by kernel_rfl) (d := (some 36)) (by kernel_rfl) (ty := 39) (x := (.tmp 6)) (by kernel_rfl) (b := w7.heap.size) (by kernel_rfl) (cs := (dgQ ((((Z * W) * (Z * W))).re.val) ((((Z * W) * (Z * W))).im.val))) (fun _ hs => hs.at 4 rfl) Tryd.underlying39 rfl (by kernel_rfl) ?_
       refine t_row (by kernel_rfl) (d := (some 37)) (by kernel_rfl) (ty := 39) (x := (.tmp 9)) (by kernel_rfl) (b := p9) (by kernel_rfl) (cs := (dgQ (((dd * ((X * U) * (Y * V)))).re.val) (((dd * ((X * U) * (Y * V)))).im.val))) (fun _ hs => hs.at 7 rfl) Tryd.underlying39 rfl (by kernel_rfl) ?_
       refine t_row (by kernel_rfl) (d := (some 39)) (by kernel_rfl) (ty := 39) (x := (.tmp 6)) (by kernel_rfl) (b := w7.heap.size) (by kernel_rfl) (cs := (dgQ ((((Z * W) * (Z * W))).re.val) ((((Z * W) * (Z * W))).im.val))) (fun _ hs => hs.at 4 rfl) Tryd.underlying39 rfl (by kernel_rfl) ?_
       refine t_row (by kernel_rfl) (d := (some 40)) (by kernel_rfl) (ty := 39) (x := (.tmp 9)) (by kernel_rfl) (b := p9) (by kernel_rfl) (cs := (dgQ (((dd * ((X * U) * (Y * V)))).re.val) (((dd * ((X * U) * (Y * V)))).im.val))) (fun _ hs => hs.at 7 rfl) Tryd.underlying39 rfl (by kernel_rfl) ?_
       refine tc (d := some 38) (f := 57) (args := #[.agg (dgQ ((((Z * W) * (Z * W))).re.val) ((((Z * W) * (Z * W))).im.val)), .agg (dgQ (((dd * ((X * U) * (Y * V)))).re.val) (((dd * ((X * U) * (Y * V)))).im.val))]) (v := .agg (dgQ (((((Z * W) * (Z * W)) - (dd * ((X * U) * (Y * V))))).re.val) (((((Z * W) * (Z * W)) - (dd * ((X * U) * (Y * V))))).im.val))) (subQ_q) (fun w100 hb100 => ⟨K99.go hb100, ?_⟩) ?_
       · have K100 := K99.go hb100
         have L100 := hb100.size
         refine tc (d := some 41) (f := 58) (args := #[.agg (dgQ ((((Z * W) * (Z * W))).re.val) ((((Z * W) * (Z * W))).im.val)), .agg (dgQ (((dd * ((X * U) * (Y * V)))).re.val) (((dd * ((X * U) * (Y * V)))).im.val))]) (v := .agg (dgQ (((((Z * W) * (Z * W)) + (dd * ((X * U) * (Y * V))))).re.val) (((((Z * W) * (Z * W)) + (dd * ((X * U) * (Y * V))))).im.val))) (addQ_q) (fun w101 hb101 => ⟨K100.go hb101, ?_⟩) ?_
         · have K101 := K100.go hb101
           have L101 := hb101.size
           refine t_make (by kernel_rfl) (d := (some 10)) (by kernel_rfl) (v := .pointer (some ⟨w101.heap.size, 0, none⟩)) (w' := w101.alloc (.cells (dgQ 0 0) 39)) (by kernel_rfl) (K101.go ((Below.refl _ _).alloc (Nat.le_refl _) _)) ?_ ?_
           · intro w102 hw102 K102
             have G102_n : w102.heap[w101.heap.size]? = some (.cells (dgQ 0 0) 39 (0, 0)) := hw102 ▸ heap_alloc_new _ _
             have S102 : w101.heap.size < w102.heap.size := lt_of_heap G102_n
             have R102_0 : w.heap.size < w101.heap.size := (by obtain ⟨T, h⟩ := K101.at 0 rfl; exact lt_of_heap h)
             have R102_1 : w.heap.size + 1 < w101.heap.size := (by obtain ⟨T, h⟩ := K101.at 1 rfl; exact lt_of_heap h)
             have R102_2 : w.heap.size + 1 + 1 < w101.heap.size := (by obtain ⟨T, h⟩ := K101.at 2 rfl; exact lt_of_heap h)
             have R102_3 : w2.heap.size < w101.heap.size := (by obtain ⟨T, h⟩ := K101.at 3 rfl; exact lt_of_heap h)
             have R102_4 : w7.heap.size < w101.heap.size := (by obtain ⟨T, h⟩ := K101.at 4 rfl; exact lt_of_heap h)
             have R102_5 : p7 < w101.heap.size := (by obtain ⟨T, h⟩ := K101.at 5 rfl; exact lt_of_heap h)
             have R102_6 : p8 < w101.heap.size := (by obtain ⟨T, h⟩ := K101.at 6 rfl; exact lt_of_heap h)
             have R102_7 : p9 < w101.heap.size := (by obtain ⟨T, h⟩ := K101.at 7 rfl; exact lt_of_heap h)
             have Z102 : w.heap.size ≤ w101.heap.size := K101.nb.size
             clear hw102
             refine t_make (by kernel_rfl) (d := (some 11)) (by kernel_rfl) (v := .pointer (some ⟨w102.heap.size, 0, none⟩)) (w' := w102.alloc (.cells (dgQ 0 0) 39)) (by kernel_rfl) (K102.go ((Below.refl _ _).alloc (Nat.le_refl _) _)) ?_ ?_
             · intro w103 hw103 K103
               have L103_0 := lt_of_heap G102_n
               have G103_0 : w103.heap[w101.heap.size]? = some (.cells (dgQ 0 0) _ (0, 0)) := hw103 ▸ hp_alloc G102_n _
               have G103_n : w103.heap[w102.heap.size]? = some (.cells (dgQ 0 0) 39 (0, 0)) := hw103 ▸ heap_alloc_new _ _
               have S103 : w102.heap.size < w103.heap.size := lt_of_heap G103_n
               have R103_0 : w.heap.size < w102.heap.size := (by obtain ⟨T, h⟩ := K102.at 0 rfl; exact lt_of_heap h)
               have R103_1 : w.heap.size + 1 < w102.heap.size := (by obtain ⟨T, h⟩ := K102.at 1 rfl; exact lt_of_heap h)
               have R103_2 : w.heap.size + 1 + 1 < w102.heap.size := (by obtain ⟨T, h⟩ := K102.at 2 rfl; exact lt_of_heap h)
               have R103_3 : w2.heap.size < w102.heap.size := (by obtain ⟨T, h⟩ := K102.at 3 rfl; exact lt_of_heap h)
               have R103_4 : w7.heap.size < w102.heap.size := (by obtain ⟨T, h⟩ := K102.at 4 rfl; exact lt_of_heap h)
               have R103_5 : p7 < w102.heap.size := (by obtain ⟨T, h⟩ := K102.at 5 rfl; exact lt_of_heap h)
               have R103_6 : p8 < w102.heap.size := (by obtain ⟨T, h⟩ := K102.at 6 rfl; exact lt_of_heap h)
               have R103_7 : p9 < w102.heap.size := (by obtain ⟨T, h⟩ := K102.at 7 rfl; exact lt_of_heap h)
               have Z103 : w.heap.size ≤ w102.heap.size := K102.nb.size
               clear hw103
               refine t_store (by kernel_rfl) (d := none) (by kernel_rfl) (ty := 39) (x := (.tmp 10)) (y := (.tmp 38)) (by kernel_rfl) (g := w101.heap.size) (cells := (dgQ (((((Z * W) * (Z * W)) - (dd * ((X * U) * (Y * V))))).re.val) (((((Z * W) * (Z * W)) - (dd * ((X * U) * (Y * V))))).im.val))) (by kernel_rfl) (by kernel_rfl) G103_0 (by kernel_rfl) (by kernel_rfl) (all_dgA _) (K103.puti (n := 16) (by kernel_rfl) (by omega) (neC (by omega) (neC (by omega) (neC (by omega) (neC (by omega) (neC (by omega) (neC (by omega) (neC (by omega) (neC (by omega) ne0)))))))) ns0) ?_ ?_
               · intro w104 hw104 K104
                 have G104_s : w104.heap[w101.heap.size]? = some (.cells (dgQ (((((Z * W) * (Z * W)) - (dd * ((X * U) * (Y * V))))).re.val) (((((Z * W) * (Z * W)) - (dd * ((X * U) * (Y * V))))).im.val)) _ (0, 0)) := hw104 ▸ setRow_heap _ _ _ _ _ _ G103_0
                 have G104_1 : w104.heap[w102.heap.size]? = some (.cells (dgQ 0 0) _ (0, 0)) := hw104 ▸ (setRow_other _ _ _ _ (by omega)).trans G103_n
                 have L104 : w103.heap.size ≤ w104.heap.size := by rw [hw104]; exact Nat.le_of_eq (size_setRow _ _ _).symm
                 clear hw104
                 refine t_store (by kernel_rfl) (d := none) (by kernel_rfl) (ty := 39) (x := (.tmp 11)) (y := (.tmp 41)) (by kernel_rfl) (g := w102.heap.size) (cells := (dgQ (((((Z * W) * (Z * W)) + (dd * ((X * U) * (Y * V))))).re.val) (((((Z * W) * (Z * W)) + (dd * ((X * U) * (Y * V))))).im.val))) (by kernel_rfl) (by kernel_rfl) G104_1 (by kernel_rfl) (by kernel_rfl) (all_dgA _) (K104.puti (n := 16) (by kernel_rfl) (by omega) (neC (by omega) (neC (by omega) (neC (by omega) (neC (by omega) (neC (by omega) (neC (by omega) (neC (by omega) (neC (by omega) ne0)))))))) ns0) ?_ ?_
                 · intro w105 hw105 K105
                   have G105_s : w105.heap[w102.heap.size]? = some (.cells (dgQ (((((Z * W) * (Z * W)) + (dd * ((X * U) * (Y * V))))).re.val) (((((Z * W) * (Z * W)) + (dd * ((X * U) * (Y * V))))).im.val)) _ (0, 0)) := hw105 ▸ setRow_heap _ _ _ _ _ _ G104_1
                   have G105_0 : w105.heap[w101.heap.size]? = some (.cells (dgQ (((((Z * W) * (Z * W)) - (dd * ((X * U) * (Y * V))))).re.val) (((((Z * W) * (Z * W)) - (dd * ((X * U) * (Y * V))))).im.val)) _ (0, 0)) := hw105 ▸ (setRow_other _ _ _ _ (by omega)).trans G104_s
                   have L105 : w104.heap.size ≤ w105.heap.size := by rw [hw105]; exact Nat.le_of_eq (size_setRow _ _ _).symm
                   clear hw105
                   exact t_done ⟨rfl, w101.heap.size, w102.heap.size, by kernel_rfl, Kept.zero K105.nb (rowsC (K105.at 0 rfl) (rowsC (K105.at 1 rfl) (rowsC (K105.at 2 rfl) (rowsC (K105.at 3 rfl) (rowsC (K105.at 4 rfl) (rowsC (K105.at 5 rfl) (rowsC (K105.at 6 rfl) (rowsC (K105.at 7 rfl) (rowsC ⟨_, G105_0⟩ (rowsC ⟨_, G105_s⟩ rows0)))))))))), (by omega), (by omega), (by omega)⟩
                 ·
                   exact t_nil
               ·
                 exact t_nil
             ·
               exact t_nil
           ·
             refine t_make (by kernel_rfl) (d := (some 11)) (by kernel_rfl) (v := .pointer (some ⟨w101.heap.size, 0, none⟩)) (w' := w101.alloc (.cells (dgQ 0 0) 39)) (by kernel_rfl) (K101.go ((Below.refl _ _).alloc (Nat.le_refl _) _)) ?_ ?_
             · intro w106 hw106 K106
               have G106_n : w106.heap[w101.heap.size]? = some (.cells (dgQ 0 0) 39 (0, 0)) := hw106 ▸ heap_alloc_new _ _
               have S106 : w101.heap.size < w106.heap.size := lt_of_heap G106_n
               have R106_0 : w.heap.size < w101.heap.size := (by obtain ⟨T, h⟩ := K101.at 0 rfl; exact lt_of_heap h)
               have R106_1 : w.heap.size + 1 < w101.heap.size := (by obtain ⟨T, h⟩ := K101.at 1 rfl; exact lt_of_heap h)
               have R106_2 : w.heap.size + 1 + 1 < w101.heap.size := (by obtain ⟨T, h⟩ := K101.at 2 rfl; exact lt_of_heap h)
               have R106_3 : w2.heap.size < w101.heap.size := (by obtain ⟨T, h⟩ := K101.at 3 rfl; exact lt_of_heap h)
               have R106_4 : w7.heap.size < w101.heap.size := (by obtain ⟨T, h⟩ := K101.at 4 rfl; exact lt_of_heap h)
               have R106_5 : p7 < w101.heap.size := (by obtain ⟨T, h⟩ := K101.at 5 rfl; exact lt_of_heap h)
               have R106_6 : p8 < w101.heap.size := (by obtain ⟨T, h⟩ := K101.at 6 rfl; exact lt_of_heap h)
               have R106_7 : p9 < w101.heap.size := (by obtain ⟨T, h⟩ := K101.at 7 rfl; exact lt_of_heap h)
               have Z106 : w.heap.size ≤ w101.heap.size := K101.nb.size
               clear hw106
               refine t_make (by kernel_rfl) (d := (some 10)) (by kernel_rfl) (v := .pointer (some ⟨w106.heap.size, 0, none⟩)) (w' := w106.alloc (.cells (dgQ 0 0) 39)) (by kernel_rfl) (K106.go ((Below.refl _ _).alloc (Nat.le_refl _) _)) ?_ ?_
               · intro w107 hw107 K107
                 have L107_0 := lt_of_heap G106_n
                 have G107_0 : w107.heap[w101.heap.size]? = some (.cells (dgQ 0 0) _ (0, 0)) := hw107 ▸ hp_alloc G106_n _
                 have G107_n : w107.heap[w106.heap.size]? = some (.cells (dgQ 0 0) 39 (0, 0)) := hw107 ▸ heap_alloc_new _ _
                 have S107 : w106.heap.size < w107.heap.size := lt_of_heap G107_n
                 have R107_0 : w.heap.size < w106.heap.size := (by obtain ⟨T, h⟩ := K106.at 0 rfl; exact lt_of_heap h)
                 have R107_1 : w.heap.size + 1 < w106.heap.size := (by obtain ⟨T, h⟩ := K106.at 1 rfl; exact lt_of_heap h)
                 have R107_2 : w.heap.size + 1 + 1 < w106.heap.size := (by obtain ⟨T, h⟩ := K106.at 2 rfl; exact lt_of_heap h)
                 have R107_3 : w2.heap.size < w106.heap.size := (by obtain ⟨T, h⟩ := K106.at 3 rfl; exact lt_of_heap h)
                 have R107_4 : w7.heap.size < w106.heap.size := (by obtain ⟨T, h⟩ := K106.at 4 rfl; exact lt_of_heap h)
                 have R107_5 : p7 < w106.heap.size := (by obtain ⟨T, h⟩ := K106.at 5 rfl; exact lt_of_heap h)
                 have R107_6 : p8 < w106.heap.size := (by obtain ⟨T, h⟩ := K106.at 6 rfl; exact lt_of_heap h)
                 have R107_7 : p9 < w106.heap.size := (by obtain ⟨T, h⟩ := K106.at 7 rfl; exact lt_of_heap h)
                 have Z107 : w.heap.size ≤ w106.heap.size := K106.nb.size
                 clear hw107
                 refine t_store (by kernel_rfl) (d := none) (by kernel_rfl) (ty := 39) (x := (.tmp 10)) (y := (.tmp 38)) (by kernel_rfl) (g := w106.heap.size) (cells := (dgQ (((((Z * W) * (Z * W)) - (dd * ((X * U) * (Y * V))))).re.val) (((((Z * W) * (Z * W)) - (dd * ((X * U) * (Y * V))))).im.val))) (by kernel_rfl) (by kernel_rfl) G107_n (by kernel_rfl) (by kernel_rfl) (all_dgA _) (K107.puti (n := 16) (by kernel_rfl) (by omega) (neC (by omega) (neC (by omega) (neC (by omega) (neC (by omega) (neC (by omega) (neC (by omega) (neC (by omega) (neC (by omega) ne0)))))))) ns0) ?_ ?_
                 · intro w108 hw108 K108
                   have G108_s : w108.heap[w106.heap.size]? = some (.cells (dgQ (((((Z * W) * (Z * W)) - (dd * ((X * U) * (Y * V))))).re.val) (((((Z * W) * (Z * W)) - (dd * ((X * U) * (Y * V))))).im.val)) _ (0, 0)) := hw108 ▸ setRow_heap _ _ _ _ _ _ G107_n
                   have G108_0 : w108.heap[w101.heap.size]? = some (.cells (dgQ 0 0) _ (0, 0)) := hw108 ▸ (setRow_other _ _ _ _ (by omega)).trans G107_0
                   have L108 : w107.heap.size ≤ w108.heap.size := by rw [hw108]; exact Nat.le_of_eq (size_setRow _ _ _).symm
                   clear hw108
                   refine t_store (by kernel_rfl) (d := none) (by kernel_rfl) (ty := 39) (x := (.tmp 11)) (y := (.tmp 41)) (by kernel_rfl) (g := w101.heap.size) (cells := (dgQ (((((Z * W) * (Z * W)) + (dd * ((X * U) * (Y * V))))).re.val) (((((Z * W) * (Z * W)) + (dd * ((X * U) * (Y * V))))).im.val))) (by kernel_rfl) (by kernel_rfl) G108_0 (by kernel_rfl) (by kernel_rfl) (all_dgA _) (K108.puti (n := 16) (by kernel_rfl) (by omega) (neC (by omega) (neC (by omega) (neC (by omega) (neC (by omega) (neC (by omega) (neC (by omega) (neC (by omega) (neC (by omega) ne0)))))))) ns0) ?_ ?_
                   · intro w109 hw109 K109
                     have G109_s : w109.heap[w101.heap.size]? = some (.cells (dgQ (((((Z * W) * (Z * W)) + (dd * ((X * U) * (Y * V))))).re.val) (((((Z * W) * (Z * W)) + (dd * ((X * U) * (Y * V))))).im.val)) _ (0, 0)) := hw109 ▸ setRow_heap _ _ _ _ _ _ G108_0
                     have G109_1 : w109.heap[w106.heap.size]? = some (.cells (dgQ (((((Z * W) * (Z * W)) - (dd * ((X * U) * (Y * V))))).re.val) (((((Z * W) * (Z * W)) - (dd * ((X * U) * (Y * V))))).im.val)) _ (0, 0)) := hw109 ▸ (setRow_other _ _ _ _ (by omega)).trans G108_s
                     have L109 : w108.heap.size ≤ w109.heap.size := by rw [hw109]; exact Nat.le_of_eq (size_setRow _ _ _).symm
                     clear hw109
                     exact t_done ⟨rfl, w106.heap.size, w101.heap.size, by kernel_rfl, Kept.zero K109.nb (rowsC (K109.at 0 rfl) (rowsC (K109.at 1 rfl) (rowsC (K109.at 2 rfl) (rowsC (K109.at 3 rfl) (rowsC (K109.at 4 rfl) (rowsC (K109.at 5 rfl) (rowsC (K109.at 6 rfl) (rowsC (K109.at 7 rfl) (rowsC ⟨_, G109_1⟩ (rowsC ⟨_, G109_s⟩ rows0)))))))))), (by omega), (by omega), (by omega)⟩
                   ·
                     exact t_nil
                 ·
                   exact t_nil
               ·
                 exact t_nil
             ·
               exact t_nil
         ·
           refine t_make (by kernel_rfl) (d := (some 10)) (by kernel_rfl) (v := .pointer (some ⟨w100.heap.size, 0, none⟩)) (w' := w100.alloc (.cells (dgQ 0 0) 39)) (by kernel_rfl) (K100.go ((Below.refl _ _).alloc (Nat.le_refl _) _)) ?_ ?_
           · intro w110 hw110 K110
             have G110_n : w110.heap[w100.heap.size]? = some (.cells (dgQ 0 0) 39 (0, 0)) := hw110 ▸ heap_alloc_new _ _
             have S110 : w100.heap.size < w110.heap.size := lt_of_heap G110_n
             have R110_0 : w.heap.size < w100.heap.size := (by obtain ⟨T, h⟩ := K100.at 0 rfl; exact lt_of_heap h)
             have R110_1 : w.heap.size + 1 < w100.heap.size := (by obtain ⟨T, h⟩ := K100.at 1 rfl; exact lt_of_heap h)
             have R110_2 : w.heap.size + 1 + 1 < w100.heap.size := (by obtain ⟨T, h⟩ := K100.at 2 rfl; exact lt_of_heap h)
             have R110_3 : w2.heap.size < w100.heap.size := (by obtain ⟨T, h⟩ := K100.at 3 rfl; exact lt_of_heap h)
             have R110_4 : w7.heap.size < w100.heap.size := (by obtain ⟨T, h⟩ := K100.at 4 rfl; exact lt_of_heap h)
             have R110_5 : p7 < w100.heap.size := (by obtain ⟨T, h⟩ := K100.at 5 rfl; exact lt_of_heap h)
             have R110_6 : p8 < w100.heap.size := (by obtain ⟨T, h⟩ := K100.at 6 rfl; exact lt_of_heap h)
             have R110_7 : p9 < w100.heap.size := (by obtain ⟨T, h⟩ := K100.at 7 rfl; exact lt_of_heap h)
             have Z110 : w.heap.size ≤ w100.heap.size := K100.nb.size
             clear hw110
             refine tc (d := some 41) (f := 58) (args := #[.agg (dgQ ((((Z * W) * (Z * W))).re.val) ((((Z * W) * (Z * W))).im.val)), .agg (dgQ (((dd * ((X * U) * (Y * V)))).re.val) (((dd * ((X * U) * (Y * V)))).im.val))]) (v := .agg (dgQ (((((Z * W) * (Z * W)) + (dd * ((X * U) * (Y * V))))).re.val) (((((Z * W) * (Z * W)) + (dd * ((X * U) * (Y * V))))).im.val))) (addQ_q) (fun w111 hb111 => ⟨K110.go hb111, ?_⟩) ?_
             · have K111 := K110.go hb111
               have G111_10 := nb_heap G110_n _ hb111
               have L111 := hb111.size
               refine t_make (by kernel_rfl) (d := (some 11)) (by kernel_rfl) (v := .pointer (some ⟨w111.heap.size, 0, none⟩)) (w' := w111.alloc (.cells (dgQ 0 0) 39)) (by kernel_rfl) (K111.go ((Below.refl _ _).alloc (Nat.le_refl _) _)) ?_ ?_
               · intro w112 hw112 K112
                 have L112_0 := lt_of_heap G111_10
                 have G112_0 : w112.heap[w100.heap.size]? = some (.cells (dgQ 0 0) _ (0, 0)) := hw112 ▸ hp_alloc G111_10 _
                 have G112_n : w112.heap[w111.heap.size]? = some (.cells (dgQ 0 0) 39 (0, 0)) := hw112 ▸ heap_alloc_new _ _
                 have S112 : w111.heap.size < w112.heap.size := lt_of_heap G112_n
                 have R112_0 : w.heap.size < w111.heap.size := (by obtain ⟨T, h⟩ := K111.at 0 rfl; exact lt_of_heap h)
                 have R112_1 : w.heap.size + 1 < w111.heap.size := (by obtain ⟨T, h⟩ := K111.at 1 rfl; exact lt_of_heap h)
                 have R112_2 : w.heap.size + 1 + 1 < w111.heap.size := (by obtain ⟨T, h⟩ := K111.at 2 rfl; exact lt_of_heap h)
                 have R112_3 : w2.heap.size < w111.heap.size := (by obtain ⟨T, h⟩ := K111.at 3 rfl; exact lt_of_heap h)
                 have R112_4 : w7.heap.size < w111.heap.size := (by obtain ⟨T, h⟩ := K111.at 4 rfl; exact lt_of_heap h)
                 have R112_5 : p7 < w111.heap.size := (by obtain ⟨T, h⟩ := K111.at 5 rfl; exact lt_of_heap h)
                 have R112_6 : p8 < w111.heap.size := (by obtain ⟨T, h⟩ := K111.at 6 rfl; exact lt_of_heap h)
                 have R112_7 : p9 < w111.heap.size := (by obtain ⟨T, h⟩ := K111.at 7 rfl; exact lt_of_heap h)
                 have Z112 : w.heap.size ≤ w111.heap.size := K111.nb.size
                 clear hw112
                 refine t_store (by kernel_rfl) (d := none) (by kernel_rfl) (ty := 39) (x := (.tmp 10)) (y := (.tmp 38)) (by kernel_rfl) (g := w100.heap.size) (cells := (dgQ (((((Z * W) * (Z * W)) - (dd * ((X * U) * (Y * V))))).re.val) (((((Z * W) * (Z * W)) - (dd * ((X * U) * (Y * V))))).im.val))) (by kernel_rfl) (by kernel_rfl) G112_0 (by kernel_rfl) (by kernel_rfl) (all_dgA _) (K112.puti (n := 16) (by kernel_rfl) (by omega) (neC (by omega) (neC (by omega) (neC (by omega) (neC (by omega) (neC (by omega) (neC (by omega) (neC (by omega) (neC (by omega) ne0)))))))) ns0) ?_ ?_
                 · intro w113 hw113 K113
                   have G113_s : w113.heap[w100.heap.size]? = some (.cells (dgQ (((((Z * W) * (Z * W)) - (dd * ((X * U) * (Y * V))))).re.val) (((((Z * W) * (Z * W)) - (dd * ((X * U) * (Y * V))))).im.val)) _ (0, 0)) := hw113 ▸ setRow_heap _ _ _ _ _ _ G112_0
                   have G113_1 : w113.heap[w111.heap.size]? = some (.cells (dgQ 0 0) _ (0, 0)) := hw113 ▸ (setRow_other _ _ _ _ (by omega)).trans G112_n
                   have L113 : w112.heap.size ≤ w113.heap.size := by rw [hw113]; exact Nat.le_of_eq (size_setRow _ _ _).symm
                   clear hw113
                   refine t_store (by kernel_rfl) (d := none) (by kernel_rfl) (ty := 39) (x := (.tmp 11)) (y := (.tmp 41)) (by kernel_rfl) (g := w111.heap.size) (cells := (dgQ (((((Z * W) * (Z * W)) + (dd * ((X * U) * (Y * V))))).re.val) (((((Z * W) * (Z * W)) + (dd * ((X * U) * (Y * V))))).im.val))) (by kernel_rfl) (by kernel_rfl) G113_1 (by kernel_rfl) (by kernel_rfl) (all_dgA _) (K113.puti (n := 16) (by kernel_rfl) (by omega) (neC (by omega) (neC (by omega) (neC (by omega) (neC (by omega) (neC (by omega) (neC (by omega) (neC (by omega) (neC (by omega) ne0)))))))) ns0) ?_ ?_
                   · intro w114 hw114 K114
                     have G114_s : w114.heap[w111.heap.size]? = some (.cells (dgQ (((((Z * W) * (Z * W)) + (dd * ((X * U) * (Y * V))))).re.val) (((((Z * W) * (Z * W)) + (dd * ((X * U) * (Y * V))))).im.val)) _ (0, 0)) := hw114 ▸ setRow_heap _ _ _ _ _ _ G113_1
                     have G114_0 : w114.heap[w100.heap.size]? = some (.cells (dgQ (((((Z * W) * (Z * W)) - (dd * ((X * U) * (Y * V))))).re.val) (((((Z * W) * (Z * W)) - (dd * ((X * U) * (Y * V))))).im.val)) _ (0, 0)) := hw114 ▸ (setRow_other _ _ _ _ (by omega)).trans G113_s
                     have L114 : w113.heap.size ≤ w114.heap.size := by rw [hw114]; exact Nat.le_of_eq (size_setRow _ _ _).symm
                     clear hw114
                     exact t_done ⟨rfl, w100.heap.size, w111.heap.size, by kernel_rfl, Kept.zero K114.nb (rowsC (K114.at 0 rfl) (rowsC (K114.at 1 rfl) (rowsC (K114.at 2 rfl) (rowsC (K114.at 3 rfl) (rowsC (K114.at 4 rfl) (rowsC (K114.at 5 rfl) (rowsC (K114.at 6 rfl) (rowsC (K114.at 7 rfl) (rowsC ⟨_, G114_0⟩ (rowsC ⟨_, G114_s⟩ rows0)))))))))), (by omega), (by omega), (by omega)⟩
                   ·
                     exact t_nil
                 ·
                   exact t_nil
               ·
                 exact t_nil
             ·
               refine t_make (by kernel_rfl) (d := (some 11)) (by kernel_rfl) (v := .pointer (some ⟨w110.heap.size, 0, none⟩)) (w' := w110.alloc (.cells (dgQ 0 0) 39)) (by kernel_rfl) (K110.go ((Below.refl _ _).alloc (Nat.le_refl _) _)) ?_ ?_
               · intro w115 hw115 K115
                 have L115_0 := lt_of_heap G110_n
                 have G115_0 : w115.heap[w100.heap.size]? = some (.cells (dgQ 0 0) _ (0, 0)) := hw115 ▸ hp_alloc G110_n _
                 have G115_n : w115.heap[w110.heap.size]? = some (.cells (dgQ 0 0) 39 (0, 0)) := hw115 ▸ heap_alloc_new _ _
                 have S115 : w110.heap.size < w115.heap.size := lt_of_heap G115_n
                 have R115_0 : w.heap.size < w110.heap.size := (by obtain ⟨T, h⟩ := K110.at 0 rfl; exact lt_of_heap h)
                 have R115_1 : w.heap.size + 1 < w110.heap.size := (by obtain ⟨T, h⟩ := K110.at 1 rfl; exact lt_of_heap h)
                 have R115_2 : w.heap.size + 1 + 1 < w110.heap.size := (by obtain ⟨T, h⟩ := K110.at 2 rfl; exact lt_of_heap h)
                 have R115_3 : w2.heap.size < w110.heap.size := (by obtain ⟨T, h⟩ := K110.at 3 rfl; exact lt_of_heap h)
                 have R115_4 : w7.heap.size < w110.heap.size := (by obtain ⟨T, h⟩ := K110.at 4 rfl; exact lt_of_heap h)
                 have R115_5 : p7 < w110.heap.size := (by obtain ⟨T, h⟩ := K110.at 5 rfl; exact lt_of_heap h)
                 have R115_6 : p8 < w110.heap.size := (by obtain ⟨T, h⟩ := K110.at 6 rfl; exact lt_of_heap h)
                 have R115_7 : p9 < w110.heap.size := (by obtain ⟨T, h⟩ := K110.at 7 rfl; exact lt_of_heap h)
                 have Z115 : w.heap.size ≤ w110.heap.size := K110.nb.size
                 clear hw115
                 refine tc (d := some 41) (f := 58) (args := #[.agg (dgQ ((((Z * W) * (Z * W))).re.val) ((((Z * W) * (Z * W))).im.val)), .agg (dgQ (((dd * ((X * U) * (Y * V)))).re.val) (((dd * ((X * U) * (Y * V)))).im.val))]) (v := .agg (dgQ (((((Z * W) * (Z * W)) + (dd * ((X * U) * (Y * V))))).re.val) (((((Z * W) * (Z * W)) + (dd * ((X * U) * (Y * V))))).im.val))) (addQ_q) (fun w116 hb116 => ⟨K115.go hb116, ?_⟩) ?_
                 · have K116 := K115.go hb116
                   have G116_20 := nb_heap G115_0 _ hb116
                   have G116_21 := nb_heap G115_n _ hb116
                   have L116 := hb116.size
                   refine t_store (by kernel_rfl) (d := none) (by kernel_rfl) (ty := 39) (x := (.tmp 10)) (y := (.tmp 38)) (by kernel_rfl) (g := w100.heap.size) (cells := (dgQ (((((Z * W) * (Z * W)) - (dd * ((X * U) * (Y * V))))).re.val) (((((Z * W) * (Z * W)) - (dd * ((X * U) * (Y * V))))).im.val))) (by kernel_rfl) (by kernel_rfl) G116_20 (by kernel_rfl) (by kernel_rfl) (all_dgA _) (K116.puti (n := 16) (by kernel_rfl) (by omega) (neC (by omega) (neC (by omega) (neC (by omega) (neC (by omega) (neC (by omega) (neC (by omega) (neC (by omega) (neC (by omega) ne0)))))))) ns0) ?_ ?_
                   · intro w117 hw117 K117
                     have G117_s : w117.heap[w100.heap.size]? = some (.cells (dgQ (((((Z * W) * (Z * W)) - (dd * ((X * U) * (Y * V))))).re.val) (((((Z * W) * (Z * W)) - (dd * ((X * U) * (Y * V))))).im.val)) _ (0, 0)) := hw117 ▸ setRow_heap _ _ _ _ _ _ G116_20
                     have G117_1 : w117.heap[w110.heap.size]? = some (.cells (dgQ 0 0) _ (0, 0)) := hw117 ▸ (setRow_other _ _ _ _ (by omega)).trans G116_21
                     have L117 : w116.heap.size ≤ w117.heap.size := by rw [hw117]; exact Nat.le_of_eq (size_setRow _ _ _).symm
                     clear hw117
                     refine t_store (by kernel_rfl) (d := none) (by kernel_rfl) (ty := 39) (x := (.tmp 11)) (y := (.tmp 41)) (by kernel_rfl) (g := w110.heap.size) (cells := (dgQ (((((Z * W) * (Z * W)) + (dd * ((X * U) * (Y * V))))).re.val) (((((Z * W) * (Z * W)) + (dd * ((X * U) * (Y * V))))).im.val))) (by kernel_rfl) (by kernel_rfl) G117_1 (by kernel_rfl) (by kernel_rfl) (all_dgA _) (K117.puti (n := 16) (by kernel_rfl) (by omega) (neC (by omega) (neC (by omega) (neC (by omega) (neC (by omega) (neC (by omega) (neC (by omega) (neC (by omega) (neC (by omega) ne0)))))))) ns0) ?_ ?_
                     · intro w118 hw118 K118
                       have G118_s : w118.heap[w110.heap.size]? = some (.cells (dgQ (((((Z * W) * (Z * W)) + (dd * ((X * U) * (Y * V))))).re.val) (((((Z * W) * (Z * W)) + (dd * ((X * U) * (Y * V))))).im.val)) _ (0, 0)) := hw118 ▸ setRow_heap _ _ _ _ _ _ G117_1
                       have G118_0 : w118.heap[w100.heap.size]? = some (.cells (dgQ (((((Z * W) * (Z * W)) - (dd * ((X * U) * (Y * V))))).re.val) (((((Z * W) * (Z * W)) - (dd * ((X * U) * (Y * V))))).im.val)) _ (0, 0)) := hw118 ▸ (setRow_other _ _ _ _ (by omega)).trans G117_s
                       have L118 : w117.heap.size ≤ w118.heap.size := by rw [hw118]; exact Nat.le_of_eq (size_setRow _ _ _).symm
                       clear hw118
                       exact t_done ⟨rfl, w100.heap.size, w110.heap.size, by kernel_rfl, Kept.zero K118.nb (rowsC (K118.at 0 rfl) (rowsC (K118.at 1 rfl) (rowsC (K118.at 2 rfl) (rowsC (K118.at 3 rfl) (rowsC (K118.at 4 rfl) (rowsC (K118.at 5 rfl) (rowsC (K118.at 6 rfl) (rowsC (K118.at 7 rfl) (rowsC ⟨_, G118_0⟩ (rowsC ⟨_, G118_s⟩ rows0)))))))))), (by omega), (by omega), (by omega)⟩
                     ·
                       exact t_nil
                   ·
                     exact t_nil
                 ·
                   exact t_nil
               ·
                 exact t_nil
           ·
             refine t_make (by kernel_rfl) (d := (some 11)) (by kernel_rfl) (v := .pointer (some ⟨w100.heap.size, 0, none⟩)) (w' := w100.alloc (.cells (dgQ 0 0) 39)) (by kernel_rfl) (K100.go ((Below.refl _ _).alloc (Nat.le_refl _) _)) ?_ ?_
             · intro w119 hw119 K119
               have G119_n : w119.heap[w100.heap.size]? = some (.cells (dgQ 0 0) 39 (0, 0)) := hw119 ▸ heap_alloc_new _ _
               have S119 : w100.heap.size < w119.heap.size := lt_of_heap G119_n
               have R119_0 : w.heap.size < w100.heap.size := (by obtain ⟨T, h⟩ := K100.at 0 rfl; exact lt_of_heap h)
               have R119_1 : w.heap.size + 1 < w100.heap.size := (by obtain ⟨T, h⟩ := K100.at 1 rfl; exact lt_of_heap h)
               have R119_2 : w.heap.size + 1 + 1 < w100.heap.size := (by obtain ⟨T, h⟩ := K100.at 2 rfl; exact lt_of_heap h)
               have R119_3 : w2.heap.size < w100.heap.size := (by obtain ⟨T, h⟩ := K100.at 3 rfl; exact lt_of_heap h)
               have R119_4 : w7.heap.size < w100.heap.size := (by obtain ⟨T, h⟩ := K100.at 4 rfl; exact lt_of_heap h)
               have R119_5 : p7 < w100.heap.size := (by obtain ⟨T, h⟩ := K100.at 5 rfl; exact lt_of_heap h)
               have R119_6 : p8 < w100.heap.size := (by obtain ⟨T, h⟩ := K100.at 6 rfl; exact lt_of_heap h)
               have R119_7 : p9 < w100.heap.size := (by obtain ⟨T, h⟩ := K100.at 7 rfl; exact lt_of_heap h)
               have Z119 : w.heap.size ≤ w100.heap.size := K100.nb.size
               clear hw119
               refine tc (d := some 41) (f := 58) (args := #[.agg (dgQ ((((Z * W) * (Z * W))).re.val) ((((Z * W) * (Z * W))).im.val)), .agg (dgQ (((dd * ((X * U) * (Y * V)))).re.val) (((dd * ((X * U) * (Y * V)))).im.val))]) (v := .agg (dgQ (((((Z * W) * (Z * W)) + (dd * ((X * U) * (Y * V))))).re.val) (((((Z * W) * (Z * W)) + (dd * ((X * U) * (Y * V))))).im.val))) (addQ_q) (fun w120 hb120 => ⟨K119.go hb120, ?_⟩) ?_
               · have K120 := K119.go hb120
                 have G120_10 := nb_heap G119_n _ hb120
                 have L120 := hb120.size
                 refine t_make (by kernel_rfl) (d := (some 10)) (by kernel_rfl) (v := .pointer (some ⟨w120.heap.size, 0, none⟩)) (w' := w120.alloc (.cells (dgQ 0 0) 39)) (by kernel_rfl) (K120.go ((Below.refl _ _).alloc (Nat.le_refl _) _)) ?_ ?_
                 · intro w121 hw121 K121
                   have L121_0 := lt_of_heap G120_10
                   have G121_0 : w121.heap[w100.heap.size]? = some (.cells (dgQ 0 0) _ (0, 0)) := hw121 ▸ hp_alloc G120_10 _
                   have G121_n : w121.heap[w120.heap.size]? = some (.cells (dgQ 0 0) 39 (0, 0)) := hw121 ▸ heap_alloc_new _ _
                   have S121 : w120.heap.size < w121.heap.size := lt_of_heap G121_n
                   have R121_0 : w.heap.size < w120.heap.size := (by obtain ⟨T, h⟩ := K120.at 0 rfl; exact lt_of_heap h)
                   have R121_1 : w.heap.size + 1 < w120.heap.size := (by obtain ⟨T, h⟩ := K120.at 1 rfl; exact lt_of_heap h)
                   have R121_2 : w.heap.size + 1 + 1 < w120.heap.size := (by obtain ⟨T, h⟩ := K120.at 2 rfl; exact lt_of_heap h)
                   have R121_3 : w2.heap.size < w120.heap.size := (by obtain ⟨T, h⟩ := K120.at 3 rfl; exact lt_of_heap h)
                   have R121_4 : w7.heap.size < w120.heap.size := (by obtain ⟨T, h⟩ := K120.at 4 rfl; exact lt_of_heap h)
                   have R121_5 : p7 < w120.heap.size := (by obtain ⟨T, h⟩ := K120.at 5 rfl; exact lt_of_heap h)
                   have R121_6 : p8 < w120.heap.size := (by obtain ⟨T, h⟩ := K120.at 6 rfl; exact lt_of_heap h)
                   have R121_7 : p9 < w120.heap.size := (by obtain ⟨T, h⟩ := K120.at 7 rfl; exact lt_of_heap h)
                   have Z121 : w.heap.size ≤ w120.heap.size := K120.nb.size
                   clear hw121
                   refine t_store (by kernel_rfl) (d := none) (by kernel_rfl) (ty := 39) (x := (.tmp 10)) (y := (.tmp 38)) (by kernel_rfl) (g := w120.heap.size) (cells := (dgQ (((((Z * W) * (Z * W)) - (dd * ((X * U) * (Y * V))))).re.val) (((((Z * W) * (Z * W)) - (dd * ((X * U) * (Y * V))))).im.val))) (by kernel_rfl) (by kernel_rfl) G121_n (by kernel_rfl) (by kernel_rfl) (all_dgA _) (K121.puti (n := 16) (by kernel_rfl) (by omega) (neC (by omega) (neC (by omega) (neC (by omega) (neC (by omega) (neC (by omega) (neC (by omega) (neC (by omega) (neC (by omega) ne0)))))))) ns0) ?_ ?_
                   · intro w122 hw122 K122
                     have G122_s : w122.heap[w120.heap.size]? = some (.cells (dgQ (((((Z * W) * (Z * W)) - (dd * ((X * U) * (Y * V))))).re.val) (((((Z * W) * (Z * W)) - (dd * ((X * U) * (Y * V))))).im.val)) _ (0, 0)) := hw122 ▸ setRow_heap _ _ _ _ _ _ G121_n
                     have G122_0 : w122.heap[w100.heap.size]? = some (.cells (dgQ 0 0) _ (0, 0)) := hw122 ▸ (setRow_other _ _ _ _ (by omega)).trans G121_0
                     have L122 : w121.heap.size ≤ w122.heap.size := by rw [hw122]; exact Nat.le_of_eq (size_setRow _ _ _).symm
                     clear hw122
                     refine t_store (by kernel_rfl) (d := none) (by kernel_rfl) (ty := 39) (x := (.tmp 11)) (y := (.tmp 41)) (by kernel_rfl) (g := w100.heap.size) (cells := (dgQ (((((Z * W) * (Z * W)) + (dd * ((X * U) * (Y * V))))).re.val) (((((Z * W) * (Z * W)) + (dd * ((X * U) * (Y * V))))).im.val))) (by kernel_rfl) (by kernel_rfl) G122_0 (by kernel_rfl) (by kernel_rfl) (all_dgA _) (K122.puti (n := 16) (by kernel_rfl) (by omega) (neC (by omega) (neC (by omega) (neC (by omega) (neC (by omega) (neC (by omega) (neC (by omega) (neC (by omega) (neC (by omega) ne0)))))))) ns0) ?_ ?_
                     · intro w123 hw123 K123
                       have G123_s : w123.heap[w100.heap.size]? = some (.cells (dgQ (((((Z * W) * (Z * W)) + (dd * ((X * U) * (Y * V))))).re.val) (((((Z * W) * (Z * W)) + (dd * ((X * U) * (Y * V))))).im.val)) _ (0, 0)) := hw123 ▸ setRow_heap _ _ _ _ _ _ G122_0
                       have G123_1 : w123.heap[w120.heap.size]? = some (.cells (dgQ (((((Z * W) * (Z * W)) - (dd * ((X * U) * (Y * V))))).re.val) (((((Z * W) * (Z * W)) - (dd * ((X * U) * (Y * V))))).im.val)) _ (0, 0)) := hw123 ▸ (setRow_other _ _ _ _ (by omega)).trans G122_s
                       have L123 : w122.heap.size ≤ w123.heap.size := by rw [hw123]; exact Nat.le_of_eq (size_setRow _ _ _).symm
                       clear hw123
                       exact t_done ⟨rfl, w120.heap.size, w100.heap.size, by kernel_rfl, Kept.zero K123.nb (rowsC (K123.at 0 rfl) (rowsC (K123.at 1 rfl) (rowsC (K123.at 2 rfl) (rowsC (K123.at 3 rfl) (rowsC (K123.at 4 rfl) (rowsC (K123.at 5 rfl) (rowsC (K123.at 6 rfl) (rowsC (K123.at 7 rfl) (rowsC ⟨_, G123_1⟩ (rowsC ⟨_, G123_s⟩ rows0)))))))))), (by omega), (by omega), (by omega)⟩
                     ·
                       exact t_nil
                   ·
                     exact t_nil
                 ·
                   exact t_nil
               ·
                 refine t_make (by kernel_rfl) (d := (some 10)) (by kernel_rfl) (v := .pointer (some ⟨w119.heap.size, 0, none⟩)) (w' := w119.alloc (.cells (dgQ 0 0) 39)) (by kernel_rfl) (K119.go ((Below.refl _ _).alloc (Nat.le_refl _) _)) ?_ ?_
                 · intro w124 hw124 K124
                   have L124_0 := lt_of_heap G119_n
                   have G124_0 : w124.heap[w100.heap.size]? = some (.cells (dgQ 0 0) _ (0, 0)) := hw124 ▸ hp_alloc G119_n _
                   have G124_n : w124.heap[w119.heap.size]? = some (.cells (dgQ 0 0) 39 (0, 0)) := hw124 ▸ heap_alloc_new _ _
                   have S124 : w119.heap.size < w124.heap.size := lt_of_heap G124_n
                   have R124_0 : w.heap.size < w119.heap.size := (by obtain ⟨T, h⟩ := K119.at 0 rfl; exact lt_of_heap h)
                   have R124_1 : w.heap.size + 1 < w119.heap.size := (by obtain ⟨T, h⟩ := K119.at 1 rfl; exact lt_of_heap h)
                   have R124_2 : w.heap.size + 1 + 1 < w119.heap.size := (by obtain ⟨T, h⟩ := K119.at 2 rfl; exact lt_of_heap h)
                   have R124_3 : w2.heap.size < w119.heap.size := (by obtain ⟨T, h⟩ := K119.at 3 rfl; exact lt_of_heap h)
                   have R124_4 : w7.heap.size < w119.heap.size := (by obtain ⟨T, h⟩ := K119.at 4 rfl; exact lt_of_heap h)
                   have R124_5 : p7 < w119.heap.size := (by obtain ⟨T, h⟩ := K119.at 5 rfl; exact lt_of_heap h)
                   have R124_6 : p8 < w119.heap.size := (by obtain ⟨T, h⟩ := K119.at 6 rfl; exact lt_of_heap h)
                   have R124_7 : p9 < w119.heap.size := (by obtain ⟨T, h⟩ := K119.at 7 rfl; exact lt_of_heap h)
                   have Z124 : w.heap.size ≤ w119.heap.size := K119.nb.size
                   clear hw124
                   refine tc (d := some 41) (f := 58) (args := #[.agg (dgQ ((((Z * W) * (Z * W))).re.val) ((((Z * W) * (Z * W))).im.val)), .agg (dgQ (((dd * ((X * U) * (Y * V)))).re.val) (((dd * ((X * U) * (Y * V)))).im.val))]) (v := .agg (dgQ (((((Z * W) * (Z * W)) + (dd * ((X * U) * (Y * V))))).re.val) (((((Z * W) * (Z * W)) + (dd * ((X * U) * (Y * V))))).im.val))) (addQ_q) (fun w125 hb125 => ⟨K124.go hb125, ?_⟩) ?_
                   · have K125 := K124.go hb125
                     have G125_20 := nb_heap G124_0 _ hb125
                     have G125_21 := nb_heap G124_n _ hb125
                     have L125 := hb125.size
                     refine t_store (by kernel_rfl) (d := none) (by kernel_rfl) (ty := 39) (x := (.tmp 10)) (y := (.tmp 38)) (by kernel_rfl) (g := w119.heap.size) (cells := (dgQ (((((Z * W) * (Z * W)) - (dd * ((X * U) * (Y * V))))).re.val) (((((Z * W) * (Z * W)) - (dd * ((X * U) * (Y * V))))).im.val))) (by kernel_rfl) (by kernel_rfl) G125_21 (by kernel_rfl) (by kernel_rfl) (all_dgA _) (K125.puti (n := 16) (by kernel_rfl) (by omega) (neC (by omega) (neC (by omega) (neC (by omega) (neC (by omega) (neC (by omega) (neC (by omega) (neC (by omega) (neC (by omega) ne0)))))))) ns0) ?_ ?_
                     · intro w126 hw126 K126
                       have G126_s : w126.heap[w119.heap.size]? = some (.cells (dgQ (((((Z * W) * (Z * W)) - (dd * ((X * U) * (Y * V))))).re.val) (((((Z * W) * (Z * W)) - (dd * ((X * U) * (Y * V))))).im.val)) _ (0, 0)) := hw126 ▸ setRow_heap _ _ _ _ _ _ G125_21
                       have G126_0 : w126.heap[w100.heap.size]? = some (.cells (dgQ 0 0) _ (0, 0)) := hw126 ▸ (setRow_other _ _ _ _ (by omega)).trans G125_20
                       have L126 : w125.heap.size ≤ w126.heap.size := by rw [hw126]; exact Nat.le_of_eq (size_setRow _ _ _).symm
                       clear hw126
                       refine t_store (by kernel_rfl) (d := none) (by kernel_rfl) (ty := 39) (x := (.tmp 11)) (y := (.tmp 41)) (by kernel_rfl) (g := w100.heap.size) (cells := (dgQ (((((Z * W) * (Z * W)) + (dd * ((X * U) * (Y * V))))).re.val) (((((Z * W) * (Z * W)) + (dd * ((X * U) * (Y * V))))).im.val))) (by kernel_rfl) (by kernel_rfl) G126_0 (by kernel_rfl) (by kernel_rfl) (all_dgA _) (K126.puti (n := 16) (by kernel_rfl) (by omega) (neC (by omega) (neC (by omega) (neC (by omega) (neC (by omega) (neC (by omega) (neC (by omega) (neC (by omega) (neC (by omega) ne0)))))))) ns0) ?_ ?_
                       · intro w127 hw127 K127
                         have G127_s : w127.heap[w100.heap.size]? = some (.cells (dgQ (((((Z * W) * (Z * W)) + (dd * ((X * U) * (Y * V))))).re.val) (((((Z * W) * (Z * W)) + (dd * ((X * U) * (Y * V))))).im.val)) _ (0, 0)) := hw127 ▸ setRow_heap _ _ _ _ _ _ G126_0
                         have G127_1 : w127.heap[w119.heap.size]? = some (.cells (dgQ (((((Z * W) * (Z * W)) - (dd * ((X * U) * (Y * V))))).re.val) (((((Z * W) * (Z * W)) - (dd * ((X * U) * (Y * V))))).im.val)) _ (0, 0)) := hw127 ▸ (setRow_other _ _ _ _ (by omega)).trans G126_s
                         have L127 : w126.heap.size ≤ w127.heap.size := by rw [hw127]; exact Nat.le_of_eq (size_setRow _ _ _).symm
                         clear hw127
                         exact t_done ⟨rfl, w119.heap.size, w100.heap.size, by kernel_rfl, Kept.zero K127.nb (rowsC (K127.at 0 rfl) (rowsC (K127.at 1 rfl) (rowsC (K127.at 2 rfl) (rowsC (K127.at 3 rfl) (rowsC (K127.at 4 rfl) (rowsC (K127.at 5 rfl) (rowsC (K127.at 6 rfl) (rowsC (K127.at 7 rfl) (rowsC ⟨_, G127_1⟩ (rowsC ⟨_, G127_s⟩ rows0)))))))))), (by omega), (by omega), (by omega)⟩
                       ·
                         exact t_nil
                     ·
                       exact t_nil
                   ·
                     exact t_nil
                 ·
                   exact t_nil
             ·
               exact t_nil
       ·
         refine t_make (by kernel_rfl) (d := (some 10)) (by kernel_rfl) (v := .pointer (some ⟨W95.drew.heap.size, 0, none⟩)) (w' := W95.drew.alloc (.cells (dgQ 0 0) 39)) (by kernel_rfl) (K99.go ((Below.refl _ _).alloc (Nat.le_refl _) _)) ?_ ?_
         · intro w128 hw128 K128
           have G128_n : w128.heap[W95.drew.heap.size]? = some (.cells (dgQ 0 0) 39 (0, 0)) := hw128 ▸ heap_alloc_new _ _
           have S128 : W95.drew.heap.size < w128.heap.size := lt_of_heap G128_n
           have R128_0 : w.heap.size < W95.drew.heap.size := (by obtain ⟨T, h⟩ := K99.at 0 rfl; exact lt_of_heap h)
           have R128_1 : w.heap.size + 1 < W95.drew.heap.size := (by obtain ⟨T, h⟩ := K99.at 1 rfl; exact lt_of_heap h)
           have R128_2 : w.heap.size + 1 + 1 < W95.drew.heap.size := (by obtain ⟨T, h⟩ := K99.at 2 rfl; exact lt_of_heap h)
           have R128_3 : w2.heap.size < W95.drew.heap.size := (by obtain ⟨T, h⟩ := K99.at 3 rfl; exact lt_of_heap h)
           have R128_4 : w7.heap.size < W95.drew.heap.size := (by obtain ⟨T, h⟩ := K99.at 4 rfl; exact lt_of_heap h)
           have R128_5 : p7 < W95.drew.heap.size := (by obtain ⟨T, h⟩ := K99.at 5 rfl; exact lt_of_heap h)
           have R128_6 : p8 < W95.drew.heap.size := (by obtain ⟨T, h⟩ := K99.at 6 rfl; exact lt_of_heap h)
           have R128_7 : p9 < W95.drew.heap.size := (by obtain ⟨T, h⟩ := K99.at 7 rfl; exact lt_of_heap h)
           have Z128 : w.heap.size ≤ W95.drew.heap.size := K99.nb.size
           clear hw128
           refine tc (d := some 38) (f := 57) (args := #[.agg (dgQ ((((Z * W) * (Z * W))).re.val) ((((Z * W) * (Z * W))).im.val)), .agg (dgQ (((dd * ((X * U) * (Y * V)))).re.val) (((dd * ((X * U) * (Y * V)))).im.val))]) (v := .agg (dgQ (((((Z * W) * (Z * W)) - (dd * ((X * U) * (Y * V))))).re.val) (((((Z * W) * (Z * W)) - (dd * ((X * U) * (Y * V))))).im.val))) (subQ_q) (fun w129 hb129 => ⟨K128.go hb129, ?_⟩) ?_
           · have K129 := K128.go hb129
             have G129_10 := nb_heap G128_n _ hb129
             have L129 := hb129.size
             refine tc (d := some 41) (f := 58) (args := #[.agg (dgQ ((((Z * W) * (Z * W))).re.val) ((((Z * W) * (Z * W))).im.val)), .agg (dgQ (((dd * ((X * U) * (Y * V)))).re.val) (((dd * ((X * U) * (Y * V)))).im.val))]) (v := .agg (dgQ (((((Z * W) * (Z * W)) + (dd * ((X * U) * (Y * V))))).re.val) (((((Z * W) * (Z * W)) + (dd * ((X * U) * (Y * V))))).im.val))) (addQ_q) (fun w130 hb130 => ⟨K129.go hb130, ?_⟩) ?_
             · have K130 := K129.go hb130
               have G130_10 := nb_heap G129_10 _ hb130
               have L130 := hb130.size
               refine t_make (by kernel_rfl) (d := (some 11)) (by kernel_rfl) (v := .pointer (some ⟨w130.heap.size, 0, none⟩)) (w' := w130.alloc (.cells (dgQ 0 0) 39)) (by kernel_rfl) (K130.go ((Below.refl _ _).alloc (Nat.le_refl _) _)) ?_ ?_
               · intro w131 hw131 K131
                 have L131_0 := lt_of_heap G130_10
                 have G131_0 : w131.heap[W95.drew.heap.size]? = some (.cells (dgQ 0 0) _ (0, 0)) := hw131 ▸ hp_alloc G130_10 _
                 have G131_n : w131.heap[w130.heap.size]? = some (.cells (dgQ 0 0) 39 (0, 0)) := hw131 ▸ heap_alloc_new _ _
                 have S131 : w130.heap.size < w131.heap.size := lt_of_heap G131_n
                 have R131_0 : w.heap.size < w130.heap.size := (by obtain ⟨T, h⟩ := K130.at 0 rfl; exact lt_of_heap h)
                 have R131_1 : w.heap.size + 1 < w130.heap.size := (by obtain ⟨T, h⟩ := K130.at 1 rfl; exact lt_of_heap h)
                 have R131_2 : w.heap.size + 1 + 1 < w130.heap.size := (by obtain ⟨T, h⟩ := K130.at 2 rfl; exact lt_of_heap h)
                 have R131_3 : w2.heap.size < w130.heap.size := (by obtain ⟨T, h⟩ := K130.at 3 rfl; exact lt_of_heap h)
                 have R131_4 : w7.heap.size < w130.heap.size := (by obtain ⟨T, h⟩ := K130.at 4 rfl; exact lt_of_heap h)
                 have R131_5 : p7 < w130.heap.size := (by obtain ⟨T, h⟩ := K130.at 5 rfl; exact lt_of_heap h)
                 have R131_6 : p8 < w130.heap.size := (by obtain ⟨T, h⟩ := K130.at 6 rfl; exact lt_of_heap h)
                 have R131_7 : p9 < w130.heap.size := (by obtain ⟨T, h⟩ := K130.at 7 rfl; exact lt_of_heap h)
                 have Z131 : w.heap.size ≤ w130.heap.size := K130.nb.size
                 clear hw131
                 refine t_store (by kernel_rfl) (d := none) (by kernel_rfl) (ty := 39) (x := (.tmp 10)) (y := (.tmp 38)) (by kernel_rfl) (g := W95.drew.heap.size) (cells := (dgQ (((((Z * W) * (Z * W)) - (dd * ((X * U) * (Y * V))))).re.val) (((((Z * W) * (Z * W)) - (dd * ((X * U) * (Y * V))))).im.val))) (by kernel_rfl) (by kernel_rfl) G131_0 (by kernel_rfl) (by kernel_rfl) (all_dgA _) (K131.puti (n := 16) (by kernel_rfl) (by omega) (neC (by omega) (neC (by omega) (neC (by omega) (neC (by omega) (neC (by omega) (neC (by omega) (neC (by omega) (neC (by omega) ne0)))))))) ns0) ?_ ?_
                 · intro w132 hw132 K132
                   have G132_s : w132.heap[W95.drew.heap.size]? = some (.cells (dgQ (((((Z * W) * (Z * W)) - (dd * ((X * U) * (Y * V))))).re.val) (((((Z * W) * (Z * W)) - (dd * ((X * U) * (Y * V))))).im.val)) _ (0, 0)) := hw132 ▸ setRow_heap _ _ _ _ _ _ G131_0
                   have G132_1 : w132.heap[w130.heap.size]? = some (.cells (dgQ 0 0) _ (0, 0)) := hw132 ▸ (setRow_other _ _ _ _ (by omega)).trans G131_n
                   have L132 : w131.heap.size ≤ w132.heap.size := by rw [hw132]; exact Nat.le_of_eq (size_setRow _ _ _).symm
                   clear hw132
                   refine t_store (by kernel_rfl) (d := none) (by kernel_rfl) (ty := 39) (x := (.tmp 11)) (y := (.tmp 41)) (by kernel_rfl) (g := w130.heap.size) (cells := (dgQ (((((Z * W) * (Z * W)) + (dd * ((X * U) * (Y * V))))).re.val) (((((Z * W) * (Z * W)) + (dd * ((X * U) * (Y * V))))).im.val))) (by kernel_rfl) (by kernel_rfl) G132_1 (by kernel_rfl) (by kernel_rfl) (all_dgA _) (K132.puti (n := 16) (by kernel_rfl) (by omega) (neC (by omega) (neC (by omega) (neC (by omega) (neC (by omega) (neC (by omega) (neC (by omega) (neC (by omega) (neC (by omega) ne0)))))))) ns0) ?_ ?_
                   · intro w133 hw133 K133
                     have G133_s : w133.heap[w130.heap.size]? = some (.cells (dgQ (((((Z * W) * (Z * W)) + (dd * ((X * U) * (Y * V))))).re.val) (((((Z * W) * (Z * W)) + (dd * ((X * U) * (Y * V))))).im.val)) _ (0, 0)) := hw133 ▸ setRow_heap _ _ _ _ _ _ G132_1
                     have G133_0 : w133.heap[W95.drew.heap.size]? = some (.cells (dgQ (((((Z * W) * (Z * W)) - (dd * ((X * U) * (Y * V))))).re.val) (((((Z * W) * (Z * W)) - (dd * ((X * U) * (Y * V))))).im.val)) _ (0, 0)) := hw133 ▸ (setRow_other _ _ _ _ (by omega)).trans G132_s
                     have L133 : w132.heap.size ≤ w133.heap.size := by rw [hw133]; exact Nat.le_of_eq (size_setRow _ _ _).symm
                     clear hw133
                     exact t_done ⟨rfl, W95.drew.heap.size, w130.heap.size, by kernel_rfl, Kept.zero K133.nb (rowsC (K133.at 0 rfl) (rowsC (K133.at 1 rfl) (rowsC (K133.at 2 rfl) (rowsC (K133.at 3 rfl) (rowsC (K133.at 4 rfl) (rowsC (K133.at 5 rfl) (rowsC (K133.at 6 rfl) (rowsC (K133.at 7 rfl) (rowsC ⟨_, G133_0⟩ (rowsC ⟨_, G133_s⟩ rows0)))))))))), (by omega), (by omega), (by omega)⟩
                   ·
                     exact t_nil
                 ·
                   exact t_nil
               ·
                 exact t_nil
             ·
               refine t_make (by kernel_rfl) (d := (some 11)) (by kernel_rfl) (v := .pointer (some ⟨w129.heap.size, 0, none⟩)) (w' := w129.alloc (.cells (dgQ 0 0) 39)) (by kernel_rfl) (K129.go ((Below.refl _ _).alloc (Nat.le_refl _) _)) ?_ ?_
               · intro w134 hw134 K134
                 have L134_0 := lt_of_heap G129_10
                 have G134_0 : w134.heap[W95.drew.heap.size]? = some (.cells (dgQ 0 0) _ (0, 0)) := hw134 ▸ hp_alloc G129_10 _
                 have G134_n : w134.heap[w129.heap.size]? = some (.cells (dgQ 0 0) 39 (0, 0)) := hw134 ▸ heap_alloc_new _ _
                 have S134 : w129.heap.size < w134.heap.size := lt_of_heap G134_n
                 have R134_0 : w.heap.size < w129.heap.size := (by obtain ⟨T, h⟩ := K129.at 0 rfl; exact lt_of_heap h)
                 have R134_1 : w.heap.size + 1 < w129.heap.size := (by obtain ⟨T, h⟩ := K129.at 1 rfl; exact lt_of_heap h)
                 have R134_2 : w.heap.size + 1 + 1 < w129.heap.size := (by obtain ⟨T, h⟩ := K129.at 2 rfl; exact lt_of_heap h)
                 have R134_3 : w2.heap.size < w129.heap.size := (by obtain ⟨T, h⟩ := K129.at 3 rfl; exact lt_of_heap h)
                 have R134_4 : w7.heap.size < w129.heap.size := (by obtain ⟨T, h⟩ := K129.at 4 rfl; exact lt_of_heap h)
                 have R134_5 : p7 < w129.heap.size := (by obtain ⟨T, h⟩ := K129.at 5 rfl; exact lt_of_heap h)
                 have R134_6 : p8 < w129.heap.size := (by obtain ⟨T, h⟩ := K129.at 6 rfl; exact lt_of_heap h)
                 have R134_7 : p9 < w129.heap.size := (by obtain ⟨T, h⟩ := K129.at 7 rfl; exact lt_of_heap h)
                 have Z134 : w.heap.size ≤ w129.heap.size := K129.nb.size
                 clear hw134
                 refine tc (d := some 41) (f := 58) (args := #[.agg (dgQ ((((Z * W) * (Z * W))).re.val) ((((Z * W) * (Z * W))).im.val)), .agg (dgQ (((dd * ((X * U) * (Y * V)))).re.val) (((dd * ((X * U) * (Y * V)))).im.val))]) (v := .agg (dgQ (((((Z * W) * (Z * W)) + (dd * ((X * U) * (Y * V))))).re.val) (((((Z * W) * (Z * W)) + (dd * ((X * U) * (Y * V))))).im.val))) (addQ_q) (fun w135 hb135 => ⟨K134.go hb135, ?_⟩) ?_
                 · have K135 := K134.go hb135
                   have G135_20 := nb_heap G134_0 _ hb135
                   have G135_21 := nb_heap G134_n _ hb135
                   have L135 := hb135.size
                   refine t_store (by kernel_rfl) (d := none) (by kernel_rfl) (ty := 39) (x := (.tmp 10)) (y := (.tmp 38)) (by kernel_rfl) (g := W95.drew.heap.size) (cells := (dgQ (((((Z * W) * (Z * W)) - (dd * ((X * U) * (Y * V))))).re.val) (((((Z * W) * (Z * W)) - (dd * ((X * U) * (Y * V))))).im.val))) (by kernel_rfl) (by kernel_rfl) G135_20 (by kernel_rfl) (by kernel_rfl) (all_dgA _) (K135.puti (n := 16) (by kernel_rfl) (by omega) (neC (by omega) (neC (by omega) (neC (by omega) (neC (by omega) (neC (by omega) (neC (by omega) (neC (by omega) (neC (by omega) ne0)))))))) ns0) ?_ ?_
                   · intro w136 hw136 K136
                     have G136_s : w136.heap[W95.drew.heap.size]? = some (.cells (dgQ (((((Z * W) * (Z * W)) - (dd * ((X * U) * (Y * V))))).re.val) (((((Z * W) * (Z * W)) - (dd * ((X * U) * (Y * V))))).im.val)) _ (0, 0)) := hw136 ▸ setRow_heap _ _ _ _ _ _ G135_20
                     have G136_1 : w136.heap[w129.heap.size]? = some (.cells (dgQ 0 0) _ (0, 0)) := hw136 ▸ (setRow_other _ _ _ _ (by omega)).trans G135_21
                     have L136 : w135.heap.size ≤ w136.heap.size := by rw [hw136]; exact Nat.le_of_eq (size_setRow _ _ _).symm
                     clear hw136
                     refine t_store (by kernel_rfl) (d := none) (by kernel_rfl) (ty := 39) (x := (.tmp 11)) (y := (.tmp 41)) (by kernel_rfl) (g := w129.heap.size) (cells := (dgQ (((((Z * W) * (Z * W)) + (dd * ((X * U) * (Y * V))))).re.val) (((((Z * W) * (Z * W)) + (dd * ((X * U) * (Y * V))))).im.val))) (by kernel_rfl) (by kernel_rfl) G136_1 (by kernel_rfl) (by kernel_rfl) (all_dgA _) (K136.puti (n := 16) (by kernel_rfl) (by omega) (neC (by omega) (neC (by omega) (neC (by omega) (neC (by omega) (neC (by omega) (neC (by omega) (neC (by omega) (neC (by omega) ne0)))))))) ns0) ?_ ?_
                     · intro w137 hw137 K137
                       have G137_s : w137.heap[w129.heap.size]? = some (.cells (dgQ (((((Z * W) * (Z * W)) + (dd * ((X * U) * (Y * V))))).re.val) (((((Z * W) * (Z * W)) + (dd * ((X * U) * (Y * V))))).im.val)) _ (0, 0)) := hw137 ▸ setRow_heap _ _ _ _ _ _ G136_1
                       have G137_0 : w137.heap[W95.drew.heap.size]? = some (.cells (dgQ (((((Z * W) * (Z * W)) - (dd * ((X * U) * (Y * V))))).re.val) (((((Z * W) * (Z * W)) - (dd * ((X * U) * (Y * V))))).im.val)) _ (0, 0)) := hw137 ▸ (setRow_other _ _ _ _ (by omega)).trans G136_s
                       have L137 : w136.heap.size ≤ w137.heap.size := by rw [hw137]; exact Nat.le_of_eq (size_setRow _ _ _).symm
                       clear hw137
                       exact t_done ⟨rfl, W95.drew.heap.size, w129.heap.size, by kernel_rfl, Kept.zero K137.nb (rowsC (K137.at 0 rfl) (rowsC (K137.at 1 rfl) (rowsC (K137.at 2 rfl) (rowsC (K137.at 3 rfl) (rowsC (K137.at 4 rfl) (rowsC (K137.at 5 rfl) (rowsC (K137.at 6 rfl) (rowsC (K137.at 7 rfl) (rowsC ⟨_, G137_0⟩ (rowsC ⟨_, G137_s⟩ rows0)))))))))), (by omega), (by omega), (by omega)⟩
                     ·
                       exact t_nil
                   ·
                     exact t_nil
                 ·
                   exact t_nil
               ·
                 exact t_nil
           ·
             refine t_make (by kernel_rfl) (d := (some 11)) (by kernel_rfl) (v := .pointer (some ⟨w128.heap.size, 0, none⟩)) (w' := w128.alloc (.cells (dgQ 0 0) 39)) (by kernel_rfl) (K128.go ((Below.refl _ _).alloc (Nat.le_refl _) _)) ?_ ?_
             · intro w138 hw138 K138
               have L138_0 := lt_of_heap G128_n
               have G138_0 : w138.heap[W95.drew.heap.size]? = some (.cells (dgQ 0 0) _ (0, 0)) := hw138 ▸ hp_alloc G128_n _
               have G138_n : w138.heap[w128.heap.size]? = some (.cells (dgQ 0 0) 39 (0, 0)) := hw138 ▸ heap_alloc_new _ _
               have S138 : w128.heap.size < w138.heap.size := lt_of_heap G138_n
               have R138_0 : w.heap.size < w128.heap.size := (by obtain ⟨T, h⟩ := K128.at 0 rfl; exact lt_of_heap h)
               have R138_1 : w.heap.size + 1 < w128.heap.size := (by obtain ⟨T, h⟩ := K128.at 1 rfl; exact lt_of_heap h)
               have R138_2 : w.heap.size + 1 + 1 < w128.heap.size := (by obtain ⟨T, h⟩ := K128.at 2 rfl; exact lt_of_heap h)
               have R138_3 : w2.heap.size < w128.heap.size := (by obtain ⟨T, h⟩ := K128.at 3 rfl; exact lt_of_heap h)
               have R138_4 : w7.heap.size < w128.heap.size := (by obtain ⟨T, h⟩ := K128.at 4 rfl; exact lt_of_heap h)
               have R138_5 : p7 < w128.heap.size := (by obtain ⟨T, h⟩ := K128.at 5 rfl; exact lt_of_heap h)
               have R138_6 : p8 < w128.heap.size := (by obtain ⟨T, h⟩ := K128.at 6 rfl; exact lt_of_heap h)
               have R138_7 : p9 < w128.heap.size := (by obtain ⟨T, h⟩ := K128.at 7 rfl; exact lt_of_heap h)
               have Z138 : w.heap.size ≤ w128.heap.size := K128.nb.size
               clear hw138
               refine tc (d := some 38) (f := 57) (args := #[.agg (dgQ ((((Z * W) * (Z * W))).re.val) ((((Z * W) * (Z * W))).im.val)), .agg (dgQ (((dd * ((X * U) * (Y * V)))).re.val) (((dd * ((X * U) * (Y * V)))).im.val))]) (v := .agg (dgQ (((((Z * W) * (Z * W)) - (dd * ((X * U) * (Y * V))))).re.val) (((((Z * W) * (Z * W)) - (dd * ((X * U) * (Y * V))))).im.val))) (subQ_q) (fun w139 hb139 => ⟨K138.go hb139, ?_⟩) ?_
               · have K139 := K138.go hb139
                 have G139_20 := nb_heap G138_0 _ hb139
                 have G139_21 := nb_heap G138_n _ hb139
                 have L139 := hb139.size
                 refine tc (d := some 41) (f := 58) (args := #[.agg (dgQ ((((Z * W) * (Z * W))).re.val) ((((Z * W) * (Z * W))).im.val)), .agg (dgQ (((dd * ((X * U) * (Y * V)))).re.val) (((dd * ((X * U) * (Y * V)))).im.val))]) (v := .agg (dgQ (((((Z * W) * (Z * W)) + (dd * ((X * U) * (Y * V))))).re.val) (((((Z * W) * (Z * W)) + (dd * ((X * U) * (Y * V))))).im.val))) (addQ_q) (fun w140 hb140 => ⟨K139.go hb140, ?_⟩) ?_
                 · have K140 := K139.go hb140
                   have G140_20 := nb_heap G139_20 _ hb140
                   have G140_21 := nb_heap G139_21 _ hb140
                   have L140 := hb140.size
                   refine t_store (by kernel_rfl) (d := none) (by kernel_rfl) (ty := 39) (x := (.tmp 10)) (y := (.tmp 38)) (by kernel_rfl) (g := W95.drew.heap.size) (cells := (dgQ (((((Z * W) * (Z * W)) - (dd * ((X * U) * (Y * V))))).re.val) (((((Z * W) * (Z * W)) - (dd * ((X * U) * (Y * V))))).im.val))) (by kernel_rfl) (by kernel_rfl) G140_20 (by kernel_rfl) (by kernel_rfl) (all_dgA _) (K140.puti (n := 16) (by kernel_rfl) (by omega) (neC (by omega) (neC (by omega) (neC (by omega) (neC (by omega) (neC (by omega) (neC (by omega) (neC (by omega) (neC (by omega) ne0)))))))) ns0) ?_ ?_
                   · intro w141 hw141 K141
                     have G141_s : w141.heap[W95.drew.heap.size]? = some (.cells (dgQ (((((Z * W) * (Z * W)) - (dd * ((X * U) * (Y * V))))).re.val) (((((Z * W) * (Z * W)) - (dd * ((X * U) * (Y * V))))).im.val)) _ (0, 0)) := hw141 ▸ setRow_heap _ _ _ _ _ _ G140_20
                     have G141_1 : w141.heap[w128.heap.size]? = some (.cells (dgQ 0 0) _ (0, 0)) := hw141 ▸ (setRow_other _ _ _ _ (by omega)).trans G140_21
                     have L141 : w140.heap.size ≤ w141.heap.size := by rw [hw141]; exact Nat.le_of_eq (size_setRow _ _ _).symm
                     clear hw141
                     refine t_store (by kernel_rfl) (d := none) (by kernel_rfl) (ty := 39) (x := (.tmp 11)) (y := (.tmp 41)) (by kernel_rfl) (g := w128.heap.size) (cells := (dgQ (((((Z * W) * (Z * W)) + (dd * ((X * U) * (Y * V))))).re.val) (((((Z * W) * (Z * W)) + (dd * ((X * U) * (Y * V))))).im.val))) (by kernel_rfl) (by kernel_rfl) G141_1 (by kernel_rfl) (by kernel_rfl) (all_dgA _) (K141.puti (n := 16) (by kernel_rfl) (by omega) (neC (by omega) (neC (by omega) (neC (by omega) (neC (by omega) (neC (by omega) (neC (by omega) (neC (by omega) (neC (by omega) ne0)))))))) ns0) ?_ ?_
                     · intro w142 hw142 K142
                       have G142_s : w142.heap[w128.heap.size]? = some (.cells (dgQ (((((Z * W) * (Z * W)) + (dd * ((X * U) * (Y * V))))).re.val) (((((Z * W) * (Z * W)) + (dd * ((X * U) * (Y * V))))).im.val)) _ (0, 0)) := hw142 ▸ setRow_heap _ _ _ _ _ _ G141_1
                       have G142_0 : w142.heap[W95.drew.heap.size]? = some (.cells (dgQ (((((Z * W) * (Z * W)) - (dd * ((X * U) * (Y * V))))).re.val) (((((Z * W) * (Z * W)) - (dd * ((X * U) * (Y * V))))).im.val)) _ (0, 0)) := hw142 ▸ (setRow_other _ _ _ _ (by omega)).trans G141_s
                       have L142 : w141.heap.size ≤ w142.heap.size := by rw [hw142]; exact Nat.le_of_eq (size_setRow _ _ _).symm
                       clear hw142
                       exact t_done ⟨rfl, W95.drew.heap.size, w128.heap.size, by kernel_rfl, Kept.zero K142.nb (rowsC (K142.at 0 rfl) (rowsC (K142.at 1 rfl) (rowsC (K142.at 2 rfl) (rowsC (K142.at 3 rfl) (rowsC (K142.at 4 rfl) (rowsC (K142.at 5 rfl) (rowsC (K142.at 6 rfl) (rowsC (K142.at 7 rfl) (rowsC ⟨_, G142_0⟩ (rowsC ⟨_, G142_s⟩ rows0)))))))))), (by omega), (by omega), (by omega)⟩
                     ·
                       exact t_nil
                   ·
                     exact t_nil
                 ·
                   exact t_nil
               ·
                 exact t_nil
             ·
               exact t_nil
         ·
           refine t_make (by kernel_rfl) (d := (some 11)) (by kernel_rfl) (v := .pointer (some ⟨W95.drew.heap.size, 0, none⟩)) (w' := W95.drew.alloc (.cells (dgQ 0 0) 39)) (by kernel_rfl) (K99.go ((Below.refl _ _).alloc (Nat.le_refl _) _)) ?_ ?_
           · intro w143 hw143 K143
             have G143_n : w143.heap[W95.drew.heap.size]? = some (.cells (dgQ 0 0) 39 (0, 0)) := hw143 ▸ heap_alloc_new _ _
             have S143 : W95.drew.heap.size < w143.heap.size := lt_of_heap G143_n
             have R143_0 : w.heap.size < W95.drew.heap.size := (by obtain ⟨T, h⟩ := K99.at 0 rfl; exact lt_of_heap h)
             have R143_1 : w.heap.size + 1 < W95.drew.heap.size := (by obtain ⟨T, h⟩ := K99.at 1 rfl; exact lt_of_heap h)
             have R143_2 : w.heap.size + 1 + 1 < W95.drew.heap.size := (by obtain ⟨T, h⟩ := K99.at 2 rfl; exact lt_of_heap h)
             have R143_3 : w2.heap.size < W95.drew.heap.size := (by obtain ⟨T, h⟩ := K99.at 3 rfl; exact lt_of_heap h)
             have R143_4 : w7.heap.size < W95.drew.heap.size := (by obtain ⟨T, h⟩ := K99.at 4 rfl; exact lt_of_heap h)
             have R143_5 : p7 < W95.drew.heap.size := (by obtain ⟨T, h⟩ := K99.at 5 rfl; exact lt_of_heap h)
             have R143_6 : p8 < W95.drew.heap.size := (by obtain ⟨T, h⟩ := K99.at 6 rfl; exact lt_of_heap h)
             have R143_7 : p9 < W95.drew.heap.size := (by obtain ⟨T, h⟩ := K99.at 7 rfl; exact lt_of_heap h)
             have Z143 : w.heap.size ≤ W95.drew.heap.size := K99.nb.size
             clear hw143
             refine tc (d := some 38) (f := 57) (args := #[.agg (dgQ ((((Z * W) * (Z * W))).re.val) ((((Z * W) * (Z * W))).im.val)), .agg (dgQ (((dd * ((X * U) * (Y * V)))).re.val) (((dd * ((X * U) * (Y * V)))).im.val))]) (v := .agg (dgQ (((((Z * W) * (Z * W)) - (dd * ((X * U) * (Y * V))))).re.val) (((((Z * W) * (Z * W)) - (dd * ((X * U) * (Y * V))))).im.val))) (subQ_q) (fun w144 hb144 => ⟨K143.go hb144, ?_⟩) ?_
             · have K144 := K143.go hb144
               have G144_10 := nb_heap G143_n _ hb144
               have L144 := hb144.size
               refine tc (d := some 41) (f := 58) (args := #[.agg (dgQ ((((Z * W) * (Z * W))).re.val) ((((Z * W) * (Z * W))).im.val)), .agg (dgQ (((dd * ((X * U) * (Y * V)))).re.val) (((dd * ((X * U) * (Y * V)))).im.val))]) (v := .agg (dgQ (((((Z * W) * (Z * W)) + (dd * ((X * U) * (Y * V))))).re.val) (((((Z * W) * (Z * W)) + (dd * ((X * U) * (Y * V))))).im.val))) (addQ_q) (fun w145 hb145 => ⟨K144.go hb145, ?_⟩) ?_
               · have K145 := K144.go hb145
                 have G145_10 := nb_heap G144_10 _ hb145
                 have L145 := hb145.size
                 refine t_make (by kernel_rfl) (d := (some 10)) (by kernel_rfl) (v := .pointer (some ⟨w145.heap.size, 0, none⟩)) (w' := w145.alloc (.cells (dgQ 0 0) 39)) (by kernel_rfl) (K145.go ((Below.refl _ _).alloc (Nat.le_refl _) _)) ?_ ?_
                 · intro w146 hw146 K146
                   have L146_0 := lt_of_heap G145_10
                   have G146_0 : w146.heap[W95.drew.heap.size]? = some (.cells (dgQ 0 0) _ (0, 0)) := hw146 ▸ hp_alloc G145_10 _
                   have G146_n : w146.heap[w145.heap.size]? = some (.cells (dgQ 0 0) 39 (0, 0)) := hw146 ▸ heap_alloc_new _ _
                   have S146 : w145.heap.size < w146.heap.size := lt_of_heap G146_n
                   have R146_0 : w.heap.size < w145.heap.size := (by obtain ⟨T, h⟩ := K145.at 0 rfl; exact lt_of_heap h)
                   have R146_1 : w.heap.size + 1 < w145.heap.size := (by obtain ⟨T, h⟩ := K145.at 1 rfl; exact lt_of_heap h)
                   have R146_2 : w.heap.size + 1 + 1 < w145.heap.size := (by obtain ⟨T, h⟩ := K145.at 2 rfl; exact lt_of_heap h)
                   have R146_3 : w2.heap.size < w145.heap.size := (by obtain ⟨T, h⟩ := K145.at 3 rfl; exact lt_of_heap h)
                   have R146_4 : w7.heap.size < w145.heap.size := (by obtain ⟨T, h⟩ := K145.at 4 rfl; exact lt_of_heap h)
                   have R146_5 : p7 < w145.heap.size := (by obtain ⟨T, h⟩ := K145.at 5 rfl; exact lt_of_heap h)
                   have R146_6 : p8 < w145.heap.size := (by obtain ⟨T, h⟩ := K145.at 6 rfl; exact lt_of_heap h)
                   have R146_7 : p9 < w145.heap.size := (by obtain ⟨T, h⟩ := K145.at 7 rfl; exact lt_of_heap h)
                   have Z146 : w.heap.size ≤ w145.heap.size := K145.nb.size
                   clear hw146
                   refine t_store (by kernel_rfl) (d := none) (by kernel_rfl) (ty := 39) (x := (.tmp 10)) (y := (.tmp 38)) (by kernel_rfl) (g := w145.heap.size) (cells := (dgQ (((((Z * W) * (Z * W)) - (dd * ((X * U) * (Y * V))))).re.val) (((((Z * W) * (Z * W)) - (dd * ((X * U) * (Y * V))))).im.val))) (by kernel_rfl) (by kernel_rfl) G146_n (by kernel_rfl) (by kernel_rfl) (all_dgA _) (K146.puti (n := 16) (by kernel_rfl) (by omega) (neC (by omega) (neC (by omega) (neC (by omega) (neC (by omega) (neC (by omega) (neC (by omega) (neC (by omega) (neC (by omega) ne0)))))))) ns0) ?_ ?_
                   · intro w147 hw147 K147
                     have G147_s : w147.heap[w145.heap.size]? = some (.cells (dgQ (((((Z * W) * (Z * W)) - (dd * ((X * U) * (Y * V))))).re.val) (((((Z * W) * (Z * W)) - (dd * ((X * U) * (Y * V))))).im.val)) _ (0, 0)) := hw147 ▸ setRow_heap _ _ _ _ _ _ G146_n
                     have G147_0 : w147.heap[W95.drew.heap.size]? = some (.cells (dgQ 0 0) _ (0, 0)) := hw147 ▸ (setRow_other _ _ _ _ (by omega)).trans G146_0
                     have L147 : w146.heap.size ≤ w147.heap.size := by rw [hw147]; exact Nat.le_of_eq (size_setRow _ _ _).symm
                     clear hw147
                     refine t_store (by kernel_rfl) (d := none) (by kernel_rfl) (ty := 39) (x := (.tmp 11)) (y := (.tmp 41)) (by kernel_rfl) (g := W95.drew.heap.size) (cells := (dgQ (((((Z * W) * (Z * W)) + (dd * ((X * U) * (Y * V))))).re.val) (((((Z * W) * (Z * W)) + (dd * ((X * U) * (Y * V))))).im.val))) (by kernel_rfl) (by kernel_rfl) G147_0 (by kernel_rfl) (by kernel_rfl) (all_dgA _) (K147.puti (n := 16) (by kernel_rfl) (by omega) (neC (by omega) (neC (by omega) (neC (by omega) (neC (by omega) (neC (by omega) (neC (by omega) (neC (by omega) (neC (by omega) ne0)))))))) ns0) ?_ ?_
                     · intro w148 hw148 K148
                       have G148_s : w148.heap[W95.drew.heap.size]? = some (.cells (dgQ (((((Z * W) * (Z * W)) + (dd * ((X * U) * (Y * V))))).re.val) (((((Z * W) * (Z * W)) + (dd * ((X * U) * (Y * V))))).im.val)) _ (0, 0)) := hw148 ▸ setRow_heap _ _ _ _ _ _ G147_0
                       have G148_1 : w148.heap[w145.heap.size]? = some (.cells (dgQ (((((Z * W) * (Z * W)) - (dd * ((X * U) * (Y * V))))).re.val) (((((Z * W) * (Z * W)) - (dd * ((X * U) * (Y * V))))).im.val)) _ (0, 0)) := hw148 ▸ (setRow_other _ _ _ _ (by omega)).trans G147_s
                       have L148 : w147.heap.size ≤ w148.heap.size := by rw [hw148]; exact Nat.le_of_eq (size_setRow _ _ _).symm
                       clear hw148
                       exact t_done ⟨rfl, w145.heap.size, W95.drew.heap.size, by kernel_rfl, Kept.zero K148.nb (rowsC (K148.at 0 rfl) (rowsC (K148.at 1 rfl) (rowsC (K148.at 2 rfl) (rowsC (K148.at 3 rfl) (rowsC (K148.at 4 rfl) (rowsC (K148.at 5 rfl) (rowsC (K148.at 6 rfl) (rowsC (K148.at 7 rfl) (rowsC ⟨_, G148_1⟩ (rowsC ⟨_, G148_s⟩ rows0)))))))))), (by omega), (by omega), (by omega)⟩
                     ·
                       exact t_nil
                   ·
                     exact t_nil
                 ·
                   exact t_nil
               ·
                 refine t_make (by kernel_rfl) (d := (some 10)) (by kernel_rfl) (v := .pointer (some ⟨w144.heap.size, 0, none⟩)) (w' := w144.alloc (.cells (dgQ 0 0) 39)) (by kernel_rfl) (K144.go ((Below.refl _ _).alloc (Nat.le_refl _) _)) ?_ ?_
                 · intro w149 hw149 K149
                   have L149_0 := lt_of_heap G144_10
                   have G149_0 : w149.heap[W95.drew.heap.size]? = some (.cells (dgQ 0 0) _ (0, 0)) := hw149 ▸ hp_alloc G144_10 _
                   have G149_n : w149.heap[w144.heap.size]? = some (.cells (dgQ 0 0) 39 (0, 0)) := hw149 ▸ heap_alloc_new _ _
                   have S149 : w144.heap.size < w149.heap.size := lt_of_heap G149_n
                   have R149_0 : w.heap.size < w144.heap.size := (by obtain ⟨T, h⟩ := K144.at 0 rfl; exact lt_of_heap h)
                   have R149_1 : w.heap.size + 1 < w144.heap.size := (by obtain ⟨T, h⟩ := K144.at 1 rfl; exact lt_of_heap h)
                   have R149_2 : w.heap.size + 1 + 1 < w144.heap.size := (by obtain ⟨T, h⟩ := K144.at 2 rfl; exact lt_of_heap h)
                   have R149_3 : w2.heap.size < w144.heap.size := (by obtain ⟨T, h⟩ := K144.at 3 rfl; exact lt_of_heap h)
                   have R149_4 : w7.heap.size < w144.heap.size := (by obtain ⟨T, h⟩ := K144.at 4 rfl; exact lt_of_heap h)
                   have R149_5 : p7 < w144.heap.size := (by obtain ⟨T, h⟩ := K144.at 5 rfl; exact lt_of_heap h)
                   have R149_6 : p8 < w144.heap.size := (by obtain ⟨T, h⟩ := K144.at 6 rfl; exact lt_of_heap h)
                   have R149_7 : p9 < w144.heap.size := (by obtain ⟨T, h⟩ := K144.at 7 rfl; exact lt_of_heap h)
                   have Z149 : w.heap.size ≤ w144.heap.size := K144.nb.size
                   clear hw149
                   refine tc (d := some 41) (f := 58) (args := #[.agg (dgQ ((((Z * W) * (Z * W))).re.val) ((((Z * W) * (Z * W))).im.val)), .agg (dgQ (((dd * ((X * U) * (Y * V)))).re.val) (((dd * ((X * U) * (Y * V)))).im.val))]) (v := .agg (dgQ (((((Z * W) * (Z * W)) + (dd * ((X * U) * (Y * V))))).re.val) (((((Z * W) * (Z * W)) + (dd * ((X * U) * (Y * V))))).im.val))) (addQ_q) (fun w150 hb150 => ⟨K149.go hb150, ?_⟩) ?_
                   · have K150 := K149.go hb150
                     have G150_20 := nb_heap G149_0 _ hb150
                     have G150_21 := nb_heap G149_n _ hb150
                     have L150 := hb150.size
                     refine t_store (by kernel_rfl) (d := none) (by kernel_rfl) (ty := 39) (x := (.tmp 10)) (y := (.tmp 38)) (by kernel_rfl) (g := w144.heap.size) (cells := (dgQ (((((Z * W) * (Z * W)) - (dd * ((X * U) * (Y * V))))).re.val) (((((Z * W) * (Z * W)) - (dd * ((X * U) * (Y * V))))).im.val))) (by kernel_rfl) (by kernel_rfl) G150_21 (by kernel_rfl) (by kernel_rfl) (all_dgA _) (K150.puti (n := 16) (by kernel_rfl) (by omega) (neC (by omega) (neC (by omega) (neC (by omega) (neC (by omega) (neC (by omega) (neC (by omega) (neC (by omega) (neC (by omega) ne0)))))))) ns0) ?_ ?_
                     · intro w151 hw151 K151
                       have G151_s : w151.heap[w144.heap.size]? = some (.cells (dgQ (((((Z * W) * (Z * W)) - (dd * ((X * U) * (Y * V))))).re.val) (((((Z * W) * (Z * W)) - (dd * ((X * U) * (Y * V))))).im.val)) _ (0, 0)) := hw151 ▸ setRow_heap _ _ _ _ _ _ G150_21
                       have G151_0 : w151.heap[W95.drew.heap.size]? = some (.cells (dgQ 0 0) _ (0, 0)) := hw151 ▸ (setRow_other _ _ _ _ (by omega)).trans G150_20
                       have L151 : w150.heap.size ≤ w151.heap.size := by rw [hw151]; exact Nat.le_of_eq (size_setRow _ _ _).symm
                       clear hw151
                       refine t_store (by kernel_rfl) (d := none) (by kernel_rfl) (ty := 39) (x := (.tmp 11)) (y := (.tmp 41)) (by kernel_rfl) (g := W95.drew.heap.size) (cells := (dgQ (((((Z * W) * (Z * W)) + (dd * ((X * U) * (Y * V))))).re.val) (((((Z * W) * (Z * W)) + (dd * ((X * U) * (Y * V))))).im.val))) (by kernel_rfl) (by kernel_rfl) G151_0 (by kernel_rfl) (by kernel_rfl) (all_dgA _) (K151.puti (n := 16) (by kernel_rfl) (by omega) (neC (by omega) (neC (by omega) (neC (by omega) (neC (by omega) (neC (by omega) (neC (by omega) (neC (by omega) (neC (by omega) ne0)))))))) ns0) ?_ ?_
                       · intro w152 hw152 K152
                         have G152_s : w152.heap[W95.drew.heap.size]? = some (.cells (dgQ (((((Z * W) * (Z * W)) + (dd * ((X * U) * (Y * V))))).re.val) (((((Z * W) * (Z * W)) + (dd * ((X * U) * (Y * V))))).im.val)) _ (0, 0)) := hw152 ▸ setRow_heap _ _ _ _ _ _ G151_0
                         have G152_1 : w152.heap[w144.heap.size]? = some (.cells (dgQ (((((Z * W) * (Z * W)) - (dd * ((X * U) * (Y * V))))).re.val) (((((Z * W) * (Z * W)) - (dd * ((X * U) * (Y * V))))).im.val)) _ (0, 0)) := hw152 ▸ (setRow_other _ _ _ _ (by omega)).trans G151_s
                         have L152 : w151.heap.size ≤ w152.heap.size := by rw [hw152]; exact Nat.le_of_eq (size_setRow _ _ _).symm
                         clear hw152
                         exact t_done ⟨rfl, w144.heap.size, W95.drew.heap.size, by kernel_rfl, Kept.zero K152.nb (rowsC (K152.at 0 rfl) (rowsC (K152.at 1 rfl) (rowsC (K152.at 2 rfl) (rowsC (K152.at 3 rfl) (rowsC (K152.at 4 rfl) (rowsC (K152.at 5 rfl) (rowsC (K152.at 6 rfl) (rowsC (K152.at 7 rfl) (rowsC ⟨_, G152_1⟩ (rowsC ⟨_, G152_s⟩ rows0)))))))))), (by omega), (by omega), (by omega)⟩
                       ·
                         exact t_nil
                     ·
                       exact t_nil
                   ·
                     exact t_nil
                 ·
                   exact t_nil
             ·
               refine t_make (by kernel_rfl) (d := (some 10)) (by kernel_rfl) (v := .pointer (some ⟨w143.heap.size, 0, none⟩)) (w' := w143.alloc (.cells (dgQ 0 0) 39)) (by kernel_rfl) (K143.go ((Below.refl _ _).alloc (Nat.le_refl _) _)) ?_ ?_
               · intro w153 hw153 K153
                 have L153_0 := lt_of_heap G143_n
                 have G153_0 : w153.heap[W95.drew.heap.size]? = some (.cells (dgQ 0 0) _ (0, 0)) := hw153 ▸ hp_alloc G143_n _
                 have G153_n : w153.heap[w143.heap.size]? = some (.cells (dgQ 0 0) 39 (0, 0)) := hw153 ▸ heap_alloc_new _ _
                 have S153 : w143.heap.size < w153.heap.size := lt_of_heap G153_n
                 have R153_0 : w.heap.size < w143.heap.size := (by obtain ⟨T, h⟩ := K143.at 0 rfl; exact lt_of_heap h)
                 have R153_1 : w.heap.size + 1 < w143.heap.size := (by obtain ⟨T, h⟩ := K143.at 1 rfl; exact lt_of_heap h)
                 have R153_2 : w.heap.size + 1 + 1 < w143.heap.size := (by obtain ⟨T, h⟩ := K143.at 2 rfl; exact lt_of_heap h)
                 have R153_3 : w2.heap.size < w143.heap.size := (by obtain ⟨T, h⟩ := K143.at 3 rfl; exact lt_of_heap h)
                 have R153_4 : w7.heap.size < w143.heap.size := (by obtain ⟨T, h⟩ := K143.at 4 rfl; exact lt_of_heap h)
                 have R153_5 : p7 < w143.heap.size := (by obtain ⟨T, h⟩ := K143.at 5 rfl; exact lt_of_heap h)
                 have R153_6 : p8 < w143.heap.size := (by obtain ⟨T, h⟩ := K143.at 6 rfl; exact lt_of_heap h)
                 have R153_7 : p9 < w143.heap.size := (by obtain ⟨T, h⟩ := K143.at 7 rfl; exact lt_of_heap h)
                 have Z153 : w.heap.size ≤ w143.heap.size := K143.nb.size
                 clear hw153
                 refine tc (d := some 38) (f := 57) (args := #[.agg (dgQ ((((Z * W) * (Z * W))).re.val) ((((Z * W) * (Z * W))).im.val)), .agg (dgQ (((dd * ((X * U) * (Y * V)))).re.val) (((dd * ((X * U) * (Y * V)))).im.val))]) (v := .agg (dgQ (((((Z * W) * (Z * W)) - (dd * ((X * U) * (Y * V))))).re.val) (((((Z * W) * (Z * W)) - (dd * ((X * U) * (Y * V))))).im.val))) (subQ_q) (fun w154 hb154 => ⟨K153.go hb154, ?_⟩) ?_
                 · have K154 := K153.go hb154
                   have G154_20 := nb_heap G153_0 _ hb154
                   have G154_21 := nb_heap G153_n _ hb154
                   have L154 := hb154.size
                   refine tc (d := some 41) (f := 58) (args := #[.agg (dgQ ((((Z * W) * (Z * W))).re.val) ((((Z * W) * (Z * W))).im.val)), .agg (dgQ (((dd * ((X * U) * (Y * V)))).re.val) (((dd * ((X * U) * (Y * V)))).im.val))]) (v := .agg (dgQ (((((Z * W) * (Z * W)) + (dd * ((X * U) * (Y * V))))).re.val) (((((Z * W) * (Z * W)) + (dd * ((X * U) * (Y * V))))).im.val))) (addQ_q) (fun w155 hb155 => ⟨K154.go hb155, ?_⟩) ?_
                   · have K155 := K154.go hb155
                     have G155_20 := nb_heap G154_20 _ hb155
                     have G155_21 := nb_heap G154_21 _ hb155
                     have L155 := hb155.size
                     refine t_store (by kernel_rfl) (d := none) (by kernel_rfl) (ty := 39) (x := (.tmp 10)) (y := (.tmp 38)) (by kernel_rfl) (g := w143.heap.size) (cells := (dgQ (((((Z * W) * (Z * W)) - (dd * ((X * U) * (Y * V))))).re.val) (((((Z * W) * (Z * W)) - (dd * ((X * U) * (Y * V))))).im.val))) (by kernel_rfl) (by kernel_rfl) G155_21 (by kernel_rfl) (by kernel_rfl) (all_dgA _) (K155.puti (n := 16) (by kernel_rfl) (by omega) (neC (by omega) (neC (by omega) (neC (by omega) (neC (by omega) (neC (by omega) (neC (by omega) (neC (by omega) (neC (by omega) ne0)))))))) ns0) ?_ ?_
                     · intro w156 hw156 K156
                       have G156_s : w156.heap[w143.heap.size]? = some (.cells (dgQ (((((Z * W) * (Z * W)) - (dd * ((X * U) * (Y * V))))).re.val) (((((Z * W) * (Z * W)) - (dd * ((X * U) * (Y * V))))).im.val)) _ (0, 0)) := hw156 ▸ setRow_heap _ _ _ _ _ _ G155_21
                       have G156_0 : w156.heap[W95.drew.heap.size]? = some (.cells (dgQ 0 0) _ (0, 0)) := hw156 ▸ (setRow_other _ _ _ _ (by omega)).trans G155_20
                       have L156 : w155.heap.size ≤ w156.heap.size := by rw [hw156]; exact Nat.le_of_eq (size_setRow _ _ _).symm
                       clear hw156
                       refine t_store (by kernel_rfl) (d := none) (by kernel_rfl) (ty := 39) (x := (.tmp 11)) (y := (.tmp 41)) (by kernel_rfl) (g := W95.drew.heap.size) (cells := (dgQ (((((Z * W) * (Z * W)) + (dd * ((X * U) * (Y * V))))).re.val) (((((Z * W) * (Z * W)) + (dd * ((X * U) * (Y * V))))).im.val))) (by kernel_rfl) (by kernel_rfl) G156_0 (by kernel_rfl) (by kernel_rfl) (all_dgA _) (K156.puti (n := 16) (by kernel_rfl) (by omega) (neC (by omega) (neC (by omega) (neC (by omega) (neC (by omega) (neC (by omega) (neC (by omega) (neC (by omega) (neC (by omega) ne0)))))))) ns0) ?_ ?_
                       · intro w157 hw157 K157
                         have G157_s : w157.heap[W95.drew.heap.size]? = some (.cells (dgQ (((((Z * W) * (Z * W)) + (dd * ((X * U) * (Y * V))))).re.val) (((((Z * W) * (Z * W)) + (dd * ((X * U) * (Y * V))))).im.val)) _ (0, 0)) := hw157 ▸ setRow_heap _ _ _ _ _ _ G156_0
                         have G157_1 : w157.heap[w143.heap.size]? = some (.cells (dgQ (((((Z * W) * (Z * W)) - (dd * ((X * U) * (Y * V))))).re.val) (((((Z * W) * (Z * W)) - (dd * ((X * U) * (Y * V))))).im.val)) _ (0, 0)) := hw157 ▸ (setRow_other _ _ _ _ (by omega)).trans G156_s
                         have L157 : w156.heap.size ≤ w157.heap.size := by rw [hw157]; exact Nat.le_of_eq (size_setRow _ _ _).symm
                         clear hw157
                         exact t_done ⟨rfl, w143.heap.size, W95.drew.heap.size, by kernel_rfl, Kept.zero K157.nb (rowsC (K157.at 0 rfl) (rowsC (K157.at 1 rfl) (rowsC (K157.at 2 rfl) (rowsC (K157.at 3 rfl) (rowsC (K157.at 4 rfl) (rowsC (K157.at 5 rfl) (rowsC (K157.at 6 rfl) (rowsC (K157.at 7 rfl) (rowsC ⟨_, G157_1⟩ (rowsC ⟨_, G157_s⟩ rows0)))))))))), (by omega), (by omega), (by omega)⟩
                       ·
                         exact t_nil
                     ·
                       exact t_nil
                   ·
                     exact t_nil
                 ·
                   exact t_nil
               ·
                 exact t_nil
           ·
             exact t_nil
     · rintro _ W158 ⟨p10, p11, rfl, K159, l160, l161, n162⟩
       go_upto_region 6 with (fail)
       have K163 : Kept w [(w.heap.size, (dgL [X.re.val, X.im.val, Y.re.val, Y.im.val, Z.re.val, Z.im.val])), (w.heap.size + 1, (dgL [U.re.val, U.im.val, V.re.val, V.im.val, W.re.val, W.im.val])), (w.heap.size + 1 + 1, (dgL [0, 0, 0, 0, 0, 0])), (w2.heap.size, (dgQ (((Z * W)).re.val) (((Z * W)).im.val))), (w7.heap.size, (dgQ ((((Z * W) * (Z * W))).re.val) ((((Z * W) * (Z * W))).im.val))), (p7, (dgQ (((X * U)).re.val) (((X * U)).im.val))), (p8, (dgQ (((Y * V)).re.val) (((Y * V)).im.val))), (p9, (dgQ (((dd * ((X * U) * (Y * V)))).re.val) (((dd * ((X * U) * (Y * V)))).im.val))), (p10, (dgQ (((((Z * W) * (Z * W)) - (dd * ((X * U) * (Y * V))))).re.val) (((((Z * W) * (Z * W)) - (dd * ((X * U) * (Y * V))))).im.val))), (p11, (dgQ (((((Z * W) * (Z * W)) + (dd * ((X * U) * (Y * V))))).re.val) (((((Z * W) * (Z * W)) + (dd * ((X * U) * (Y * V))))).im.val)))] [] W158 := Kept.mks K159.nb (rowsC (K159.at 0 rfl) (rowsC (K159.at 1 rfl) (rowsC (K159.at 2 rfl) (rowsC (K159.at 3 rfl) (rowsC (K159.at 4 rfl) (rowsC (K159.at 5 rfl) (rowsC (K159.at 6 rfl) (rowsC (K159.at 7 rfl) (rowsC (K159.at 8 rfl) (rowsC (K159.at 9 rfl) rows0)))))))))) rooms0
       have RK163_0 : w.heap.size < W158.heap.size := (by obtain ⟨T, h⟩ := K159.at 0 rfl; exact lt_of_heap h)
       have RK163_1 : w.heap.size + 1 < W158.heap.size := (by obtain ⟨T, h⟩ := K159.at 1 rfl; exact lt_of_heap h)
       have RK163_2 : w.heap.size + 1 + 1 < W158.heap.size := (by obtain ⟨T, h⟩ := K159.at 2 rfl; exact lt_of_heap h)
       have RK163_3 : w2.heap.size < W158.heap.size := (by obtain ⟨T, h⟩ := K159.at 3 rfl; exact lt_of_heap h)
       have RK163_4 : w7.heap.size < W158.heap.size := (by obtain ⟨T, h⟩ := K159.at 4 rfl; exact lt_of_heap h)
       have RK163_5 : p7 < W158.heap.size := (by obtain ⟨T, h⟩ := K159.at 5 rfl; exact lt_of_heap h)
       have RK163_6 : p8 < W158.heap.size := (by obtain ⟨T, h⟩ := K159.at 6 rfl; exact lt_of_heap h)
       have RK163_7 : p9 < W158.heap.size := (by obtain ⟨T, h⟩ := K159.at 7 rfl; exact lt_of_heap h)
       have RK163_8 : p10 < W158.heap.size := (by obtain ⟨T, h⟩ := K159.at 8 rfl; exact lt_of_heap h)
       have RK163_9 : p11 < W158.heap.size := (by obtain ⟨T, h⟩ := K159.at 9 rfl; exact lt_of_heap h)
       refine wp_meet (fun a' w' => ∃ p12 : Nat, a' = { tmps := #[.agg (dgL [X.re.val, X.im.val, Y.re.val, Y.im.val, Z.re.val, Z.im.val]), .agg (dgL [U.re.val, U.im.val, V.re.val, V.im.val, W.re.val, W.im.val]), .pointer (some ⟨w.heap.size, 0, none⟩), .pointer (some ⟨w.heap.size + 1, 0, none⟩), .pointer (some ⟨w.heap.size + 1 + 1, 0, none⟩), .pointer (some ⟨w2.heap.size, 0, none⟩), .pointer (some ⟨w7.heap.size, 0, none⟩), .pointer (some ⟨p7, 0, none⟩), .pointer (some ⟨p8, 0, none⟩), .pointer (some ⟨p9, 0, none⟩), .pointer (some ⟨p10, 0, none⟩), .pointer (some ⟨p11, 0, none⟩), .pointer (some ⟨p12, 0, none⟩), .pointer (some ⟨w.heap.size, 32, none⟩), .agg (dgQ Z.re.val Z.im.val), .pointer (some ⟨w.heap.size + 1, 32, none⟩), .agg (dgQ W.re.val W.im.val), .agg (dgQ (((Z * W)).re.val) (((Z * W)).im.val)), .agg (dgQ (((Z * W)).re.val) (((Z * W)).im.val)), .agg (dgQ (((Z * W)).re.val) (((Z * W)).im.val)), .agg (dgQ ((((Z * W) * (Z * W))).re.val) ((((Z * W) * (Z * W))).im.val)), .pointer (some ⟨w.heap.size, 0, none⟩), .agg (dgQ X.re.val X.im.val), .pointer (some ⟨w.heap.size + 1, 0, none⟩), .agg (dgQ U.re.val U.im.val), .agg (dgQ (((X * U)).re.val) (((X * U)).im.val)), .pointer (some ⟨w.heap.size, 16, none⟩), .agg (dgQ Y.re.val Y.im.val), .pointer (some ⟨w.heap.size + 1, 16, none⟩), .agg (dgQ V.re.val V.im.val), .agg (dgQ (((Y * V)).re.val) (((Y * V)).im.val)), .agg (dgQ dd.re.val dd.im.val), .agg (dgQ (((X * U)).re.val) (((X * U)).im.val)), .agg (dgQ (((Y * V)).re.val) (((Y * V)).im.val)), .agg (dgQ ((((X * U) * (Y * V))).re.val) ((((X * U) * (Y * V))).im.val)), .agg (dgQ (((dd * ((X * U) * (Y * V)))).re.val) (((dd * ((X * U) * (Y * V)))).im.val)), .agg (dgQ ((((Z * W) * (Z * W))).re.val) ((((Z * W) * (Z * W))).im.val)), .agg (dgQ (((dd * ((X * U) * (Y * V)))).re.val) (((dd * ((X * U) * (Y * V)))).im.val)), .agg (dgQ (((((Z * W) * (Z * W)) - (dd * ((X * U) * (Y * V))))).re.val) (((((Z * W) * (Z * W)) - (dd * ((X * U) * (Y * V))))).im.val)), .agg (dgQ ((((Z * W) * (Z * W))).re.val) ((((Z * W) * (Z * W))).im.val)), .agg (dgQ (((dd * ((X * U) * (Y * V)))).re.val) (((dd * ((X * U) * (Y * V)))).im.val)), .agg (dgQ (((((Z * W) * (Z * W)) + (dd * ((X * U) * (Y * V))))).re.val) (((((Z * W) * (Z * W)) + (dd * ((X * U) * (Y * V))))).im.val)), .pointer (some ⟨w.heap.size, 0, none⟩), .agg (dgQ X.re.val X.im.val), .pointer (some ⟨w.heap.size, 16, none⟩), .agg (dgQ Y.re.val Y.im.val), .agg (dgQ (((X + Y)).re.val) (((X + Y)).im.val)), .pointer (some ⟨w.heap.size + 1, 0, none⟩), .agg (dgQ U.re.val U.im.val), .pointer (some ⟨w.heap.size + 1, 16, none⟩), .agg (dgQ V.re.val V.im.val), .agg (dgQ (((U + V)).re.val) (((U + V)).im.val)), .agg (dgQ ((((X + Y) * (U + V))).re.val) ((((X + Y) * (U + V))).im.val)), .agg (dgQ (((X * U)).re.val) (((X * U)).im.val)), .agg (dgQ ((((X + Y) * (U + V) - (X * U))).re.val) ((((X + Y) * (U + V) - (X * U))).im.val)), .agg (dgQ (((Y * V)).re.val) (((Y * V)).im.val)), .agg (dgQ ((((X + Y) * (U + V) - (X * U) - (Y * V))).re.val) ((((X + Y) * (U + V) - (X * U) - (Y * V))).im.val)), undef, undef, undef, undef, undef, undef, undef, undef, undef, undef, undef, undef, undef, undef, undef, undef], defers := [] } ∧ Kept w [(w.heap.size, (dgL [X.re.val, X.im.val, Y.re.val, Y.im.val, Z.re.val, Z.im.val])), (w.heap.size + 1, (dgL [U.re.val, U.im.val, V.re.val, V.im.val, W.re.val, W.im.val])), (w.heap.size + 1 + 1, (dgL [0, 0, 0, 0, 0, 0])), (w2.heap.size, (dgQ (((Z * W)).re.val) (((Z * W)).im.val))), (w7.heap.size, (dgQ ((((Z * W) * (Z * W))).re.val) ((((Z * W) * (Z * W))).im.val))), (p7, (dgQ (((X * U)).re.val) (((X * U)).im.val))), (p8, (dgQ (((Y * V)).re.val) (((Y * V)).im.val))), (p9, (dgQ (((dd * ((X * U) * (Y * V)))).re.val) (((dd * ((X * U) * (Y * V)))).im.val))), (p10, (dgQ (((((Z * W) * (Z * W)) - (dd * ((X * U) * (Y * V))))).re.val) (((((Z * W) * (Z * W)) - (dd * ((X * U) * (Y * V))))).im.val))), (p11, (dgQ (((((Z * W) * (Z * W)) + (dd * ((X * U) * (Y * V))))).re.val) (((((Z * W) * (Z * W)) + (dd * ((X * U) * (Y * V))))).im.val))), (p12, (dgQ ((((X + Y) * (U + V) - (X * U) - (Y * V))).re.val) ((((X + Y) * (U + V) - (X * U) - (Y * V))).im.val)))] [] w' ∧ W158.heap.size ≤ p12) ?_ ?_
       · refine wp_tree_at (opsAt Tryd.f24 6) (.take 0 (.take 1 (.take 2 (.take 3 (.take 5 (.take 6 (.take 7 (.take 8 (.take 11 (.take 13 (.fork 4 (.fork 9 (.fork 10 (.fork 12 (.fork 14 (.fork 15 (.fork 16 .done .nil) .nil) (.fork 15 (.fork 14 (.fork 16 .done .nil) .nil) .nil)) (.fork 15 (.fork 12 (.fork 14 (.fork 16 .done .nil) .nil) .nil) .nil)) (.fork 15 (.fork 10 (.fork 12 (.fork 14 (.fork 16 .done .nil) .nil) .nil) .nil) .nil)) (.fork 15 (.fork 9 (.fork 10 (.fork 12 (.fork 14 (.fork 16 .done .nil) .nil) .nil) .nil) .nil) .nil)) (.fork 15 (.fork 4 (.fork 9 (.fork 10 (.fork 12 (.fork 14 (.fork 16 .done .nil) .nil) .nil) .nil) .nil) .nil) .nil)))))))))))) (Kept w [(w.heap.size, (dgL [X.re.val, X.im.val, Y.re.val, Y.im.val, Z.re.val, Z.im.val])), (w.heap.size + 1, (dgL [U.re.val, U.im.val, V.re.val, V.im.val, W.re.val, W.im.val])), (w.heap.size + 1 + 1, (dgL [0, 0, 0, 0, 0, 0])), (w2.heap.size, (dgQ (((Z * W)).re.val) (((Z * W)).im.val))), (w7.heap.size, (dgQ ((((Z * W) * (Z * W))).re.val) ((((Z * W) * (Z * W))).im.val))), (p7, (dgQ (((X * U)).re.val) (((X * U)).im.val))), (p8, (dgQ (((Y * V)).re.val) (((Y * V)).im.val))), (p9, (dgQ (((dd * ((X * U) * (Y * V)))).re.val) (((dd * ((X * U) * (Y * V)))).im.val))), (p10, (dgQ (((((Z * W) * (Z * W)) - (dd * ((X * U) * (Y * V))))).re.val) (((((Z * W) * (Z * W)) - (dd * ((X * U) * (Y * V))))).im.val))), (p11, (dgQ (((((Z * W) * (Z * W)) + (dd * ((X * U) * (Y * V))))).re.val) (((((Z * W) * (Z * W)) + (dd * ((X * U) * (Y * V))))).im.val)))] []) (by kernel_rfl) rfl (by kernel_rfl) (by intro c a d v w h; exact absurd h.1 (by simp)) (by kernel_rfl) (by kernel_rfl) K163.drew ?_
         have K164 := K163.drew
         have DK164 : W158.heap.size ≤ W158.drew.heap.size := Nat.le_refl _
         refine t_pure (by kernel_rfl) (d := (some 42)) (by kernel_rfl) (v := .pointer (some ⟨w.heap.size, 0, none⟩)) (fun _ => by kernel_rfl) ?_
         refine t_part (by kernel_rfl) (d := (some 43)) (by kernel_rfl) (ty := 39) (x := (.tmp 42)) (by kernel_rfl) (b := w.heap.size) (off := 0) (by kernel_rfl) (all := (dgL [X.re.val, X.im.val, Y.re.val, Y.im.val, Z.re.val, Z.im.val])) (cs := (dgQ X.re.val X.im.val)) (fun _ hs => hs.at 0 rfl) (dgsub2 (k := 0) rfl rfl) Tryd.underlying39 rfl (by kernel_rfl) ?_
         refine t_pure (by kernel_rfl) (d := (some 44)) (by kernel_rfl) (v := .pointer (some ⟨w.heap.size, 16, none⟩)) (fun _ => by kernel_rfl) ?_
         refine t_part (by kernel_rfl) (d := (some 45)) (by kernel_rfl) (ty := 39) (x := (.tmp 44)) (by kernel_rfl) (b := w.heap.size) (off := 16) (by kernel_rfl) (all := (dgL [X.re.val, X.im.val, Y.re.val, Y.im.val, Z.re.val, Z.im.val])) (cs := (dgQ Y.re.val Y.im.val)) (fun _ hs => hs.at 0 rfl) (dgsub2 (k := 2) rfl rfl) Tryd.underlying39 rfl (by kernel_rfl) ?_
         refine t_pure (by kernel_rfl) (d := (some 47)) (by kernel_rfl) (v := .pointer (some ⟨w.heap.size + 1, 0, none⟩)) (fun _ => by kernel_rfl) ?_
         refine t_part (by kernel_rfl) (d := (some 48)) (by kernel_rfl) (ty := 39) (x := (.tmp 47)) (by kernel_rfl) (b := w.heap.size + 1) (off := 0) (by kernel_rfl) (all := (dgL [U.re.val, U.im.val, V.re.val, V.im.val, W.re.val, W.im.val])) (cs := (dgQ U.re.val U.im.val)) (fun _ hs => hs.at 1 rfl) (dgsub2 (k := 0) rfl rfl) Tryd.underlying39 rfl (by kernel_rfl) ?_
         refine t_pure (by kernel_rfl) (d := (some 49)) (by kernel_rfl) (v := .pointer (some ⟨w.heap.size + 1, 16, none⟩)) (fun _ => by kernel_rfl) ?_
         refine t_part (by kernel_rfl) (d := (some 50)) (by kernel_rfl) (ty := 39) (x := (.tmp 49)) (by kernel_rfl) (b := w.heap.size + 1) (off := 16) (by kernel_rfl) (all := (dgL [U.re.val, U.im.val, V.re.val, V.im.val, W.re.val, W.im.val])) (cs := (dgQ V.re.val V.im.val)) (fun _ hs => hs.at 1 rfl) (dgsub2 (k := 2) rfl rfl) Tryd.underlying39 rfl (by kernel_rfl) ?_
         refine t_row (by kernel_rfl) (d := (some 53)) (by kernel_rfl) (ty := 39) (x := (.tmp 7)) (by kernel_rfl) (b := p7) (by kernel_rfl) (cs := (dgQ (((X * U)).re.val) (((X * U)).im.val))) (fun _ hs => hs.at 5 rfl) Tryd.underlying39 rfl (by kernel_rfl) ?_
         refine t_row (by kernel_rfl) (d := (some 55)) (by kernel_rfl) (ty := 39) (x := (.tmp 8)) (by kernel_rfl) (b := p8) (by kernel_rfl) (cs := (dgQ (((Y * V)).re.val) (((Y * V)).im.val))) (fun _ hs => hs.at 6 rfl) Tryd.underlying39 rfl (by kernel_rfl) ?_
         refine tc (d := some 46) (f := 58) (args := #[.agg (dgQ X.re.val X.im.val), .agg (dgQ Y.re.val Y.im.val)]) (v := .agg (dgQ (((X + Y)).re.val) (((X + Y)).im.val))) (addQ_q) (fun w165 hb165 => ⟨K164.go hb165, ?_⟩) ?_
         · have K165 := K164.go hb165
           have L165 := hb165.size
           refine tc (d := some 51) (f := 58) (args := #[.agg (dgQ U.re.val U.im.val), .agg (dgQ V.re.val V.im.val)]) (v := .agg (dgQ (((U + V)).re.val) (((U + V)).im.val))) (addQ_q) (fun w166 hb166 => ⟨K165.go hb166, ?_⟩) ?_
           · have K166 := K165.go hb166
             have L166 := hb166.size
             refine tc (d := some 52) (f := 25) (args := #[.agg (dgQ (((X + Y)).re.val) (((X + Y)).im.val)), .agg (dgQ (((U + V)).re.val) (((U + V)).im.val))]) (v := .agg (dgQ ((((X + Y) * (U + V))).re.val) ((((X + Y) * (U + V))).im.val))) (mulQ_q) (fun w167 hb167 => ⟨K166.go hb167, ?_⟩) ?_
             · have K167 := K166.go hb167
               have L167 := hb167.size
               refine tc (d := some 54) (f := 57) (args := #[.agg (dgQ ((((X + Y) * (U + V))).re.val) ((((X + Y) * (U + V))).im.val)), .agg (dgQ (((X * U)).re.val) (((X * U)).im.val))]) (v := .agg (dgQ ((((X + Y) * (U + V) - (X * U))).re.val) ((((X + Y) * (U + V) - (X * U))).im.val))) (subQ_q) (fun w168 hb168 => ⟨K167.go hb168, ?_⟩) ?_
               · have K168 := K167.go hb168
                 have L168 := hb168.size
                 refine tc (d := some 56) (f := 57) (args := #[.agg (dgQ ((((X + Y) * (U + V) - (X * U))).re.val) ((((X + Y) * (U + V) - (X * U))).im.val)), .agg (dgQ (((Y * V)).re.val) (((Y * V)).im.val))]) (v := .agg (dgQ ((((X + Y) * (U + V) - (X * U) - (Y * V))).re.val) ((((X + Y) * (U + V) - (X * U) - (Y * V))).im.val))) (subQ_q) (fun w169 hb169 => ⟨K168.go hb169, ?_⟩) ?_
                 · have K169 := K168.go hb169
                   have L169 := hb169.size
                   refine t_make (by kernel_rfl) (d := (some 12)) (by kernel_rfl) (v := .pointer (some ⟨w169.heap.size, 0, none⟩)) (w' := w169.alloc (.cells (dgQ 0 0) 39)) (by kernel_rfl) (K169.go ((Below.refl _ _).alloc (Nat.le_refl _) _)) ?_ ?_
                   · intro w170 hw170 K170
                     have G170_n : w170.heap[w169.heap.size]? = some (.cells (dgQ 0 0) 39 (0, 0)) := hw170 ▸ heap_alloc_new _ _
                     have S170 : w169.heap.size < w170.heap.size := lt_of_heap G170_n
                     have R170_0 : w.heap.size < w169.heap.size := (by obtain ⟨T, h⟩ := K169.at 0 rfl; exact lt_of_heap h)
                     have R170_1 : w.heap.size + 1 < w169.heap.size := (by obtain ⟨T, h⟩ := K169.at 1 rfl; exact lt_of_heap h)
                     have R170_2 : w.heap.size + 1 + 1 < w169.heap.size := (by obtain ⟨T, h⟩ := K169.at 2 rfl; exact lt_of_heap h)
                     have R170_3 : w2.heap.size < w169.heap.size := (by obtain ⟨T, h⟩ := K169.at 3 rfl; exact lt_of_heap h)
                     have R170_4 : w7.heap.size < w169.heap.size := (by obtain ⟨T, h⟩ := K169.at 4 rfl; exact lt_of_heap h)
                     have R170_5 : p7 < w169.heap.size := (by obtain ⟨T, h⟩ := K169.at 5 rfl; exact lt_of_heap h)
                     have R170_6 : p8 < w169.heap.size := (by obtain ⟨T, h⟩ := K169.at 6 rfl; exact lt_of_heap h)
                     have R170_7 : p9 < w169.heap.size := (by obtain ⟨T, h⟩ := K169.at 7 rfl; exact lt_of_heap h)
                     have R170_8 : p10 < w169.heap.size := (by obtain ⟨T, h⟩ := K169.at 8 rfl; exact lt_of_heap h)
                     have R170_9 : p11 < w169.heap.size := (by obtain ⟨T, h⟩ := K169.at 9 rfl; exact lt_of_heap h)
                     have Z170 : w.heap.size ≤ w169.heap.size := K169.nb.size
                     clear hw170
                     refine t_store (by kernel_rfl) (d := none) (by kernel_rfl) (ty := 39) (x := (.tmp 12)) (y := (.tmp 56)) (by kernel_rfl) (g := w169.heap.size) (cells := (dgQ ((((X + Y) * (U + V) - (X * U) - (Y * V))).re.val) ((((X + Y) * (U + V) - (X * U) - (Y * V))).im.val))) (by kernel_rfl) (by kernel_rfl) G170_n (by kernel_rfl) (by kernel_rfl) (all_dgA _) (K170.puti (n := 16) (by kernel_rfl) (by omega) (neC (by omega) (neC (by omega) (neC (by omega) (neC (by omega) (neC (by omega) (neC (by omega) (neC (by omega) (neC (by omega) (neC (by omega) (neC (by omega) ne0)))))))))) ns0) ?_ ?_
                     · intro w171 hw171 K171
                       have G171_s : w171.heap[w169.heap.size]? = some (.cells (dgQ ((((X + Y) * (U + V) - (X * U) - (Y * V))).re.val) ((((X + Y) * (U + V) - (X * U) - (Y * V))).im.val)) _ (0, 0)) := hw171 ▸ setRow_heap _ _ _ _ _ _ G170_n
                       have L171 : w170.heap.size ≤ w171.heap.size := by rw [hw171]; exact Nat.le_of_eq (size_setRow _ _ _).symm
                       clear hw171
                       exact t_done ⟨rfl, w169.heap.size, by kernel_rfl, Kept.zero K171.nb (rowsC (K171.at 0 rfl) (rowsC (K171.at 1 rfl) (rowsC (K171.at 2 rfl) (rowsC (K171.at 3 rfl) (rowsC (K171.at 4 rfl) (rowsC (K171.at 5 rfl) (rowsC (K171.at 6 rfl) (rowsC (K171.at 7 rfl) (rowsC (K171.at 8 rfl) (rowsC (K171.at 9 rfl) (rowsC ⟨_, G171_s⟩ rows0))))))))))), (by omega)⟩
                     ·
                       exact t_nil
                   ·
                     exact t_nil
                 ·
                   refine t_make (by kernel_rfl) (d := (some 12)) (by kernel_rfl) (v := .pointer (some ⟨w168.heap.size, 0, none⟩)) (w' := w168.alloc (.cells (dgQ 0 0) 39)) (by kernel_rfl) (K168.go ((Below.refl _ _).alloc (Nat.le_refl _) _)) ?_ ?_
                   · intro w172 hw172 K172
                     have G172_n : w172.heap[w168.heap.size]? = some (.cells (dgQ 0 0) 39 (0, 0)) := hw172 ▸ heap_alloc_new _ _
                     have S172 : w168.heap.size < w172.heap.size := lt_of_heap G172_n
                     have R172_0 : w.heap.size < w168.heap.size := (by obtain ⟨T, h⟩ := K168.at 0 rfl; exact lt_of_heap h)
                     have R172_1 : w.heap.size + 1 < w168.heap.size := (by obtain ⟨T, h⟩ := K168.at 1 rfl; exact lt_of_heap h)
                     have R172_2 : w.heap.size + 1 + 1 < w168.heap.size := (by obtain ⟨T, h⟩ := K168.at 2 rfl; exact lt_of_heap h)
                     have R172_3 : w2.heap.size < w168.heap.size := (by obtain ⟨T, h⟩ := K168.at 3 rfl; exact lt_of_heap h)
                     have R172_4 : w7.heap.size < w168.heap.size := (by obtain ⟨T, h⟩ := K168.at 4 rfl; exact lt_of_heap h)
                     have R172_5 : p7 < w168.heap.size := (by obtain ⟨T, h⟩ := K168.at 5 rfl; exact lt_of_heap h)
                     have R172_6 : p8 < w168.heap.size := (by obtain ⟨T, h⟩ := K168.at 6 rfl; exact lt_of_heap h)
                     have R172_7 : p9 < w168.heap.size := (by obtain ⟨T, h⟩ := K168.at 7 rfl; exact lt_of_heap h)
                     have R172_8 : p10 < w168.heap.size := (by obtain ⟨T, h⟩ := K168.at 8 rfl; exact lt_of_heap h)
                     have R172_9 : p11 < w168.heap.size := (by obtain ⟨T, h⟩ := K168.at 9 rfl; exact lt_of_heap h)
                     have Z172 : w.heap.size ≤ w168.heap.size := K168.nb.size
                     clear hw172
                     refine tc (d := some 56) (f := 57) (args := #[.agg (dgQ ((((X + Y) * (U + V) - (X * U))).re.val) ((((X + Y) * (U + V) - (X * U))).im.val)), .agg (dgQ (((Y * V)).re.val) (((Y * V)).im.val))]) (v := .agg (dgQ ((((X + Y) * (U + V) - (X * U) - (Y * V))).re.val) ((((X + Y) * (U + V) - (X * U) - (Y * V))).im.val))) (subQ_q) (fun w173 hb173 => ⟨K172.go hb173, ?_⟩) ?_
                     · have K173 := K172.go hb173
                       have G173_10 := nb_heap G172_n _ hb173
                       have L173 := hb173.size
                       refine t_store (by kernel_rfl) (d := none) (by kernel_rfl) (ty := 39) (x := (.tmp 12)) (y := (.tmp 56)) (by kernel_rfl) (g := w168.heap.size) (cells := (dgQ ((((X + Y) * (U + V) - (X * U) - (Y * V))).re.val) ((((X + Y) * (U + V) - (X * U) - (Y * V))).im.val))) (by kernel_rfl) (by kernel_rfl) G173_10 (by kernel_rfl) (by kernel_rfl) (all_dgA _) (K173.puti (n := 16) (by kernel_rfl) (by omega) (neC (by omega) (neC (by omega) (neC (by omega) (neC (by omega) (neC (by omega) (neC (by omega) (neC (by omega) (neC (by omega) (neC (by omega) (neC (by omega) ne0)))))))))) ns0) ?_ ?_
                       · intro w174 hw174 K174
                         have G174_s : w174.heap[w168.heap.size]? = some (.cells (dgQ ((((X + Y) * (U + V) - (X * U) - (Y * V))).re.val) ((((X + Y) * (U + V) - (X * U) - (Y * V))).im.val)) _ (0, 0)) := hw174 ▸ setRow_heap _ _ _ _ _ _ G173_10
                         have L174 : w173.heap.size ≤ w174.heap.size := by rw [hw174]; exact Nat.le_of_eq (size_setRow _ _ _).symm
                         clear hw174
                         exact t_done ⟨rfl, w168.heap.size, by kernel_rfl, Kept.zero K174.nb (rowsC (K174.at 0 rfl) (rowsC (K174.at 1 rfl) (rowsC (K174.at 2 rfl) (rowsC (K174.at 3 rfl) (rowsC (K174.at 4 rfl) (rowsC (K174.at 5 rfl) (rowsC (K174.at 6 rfl) (rowsC (K174.at 7 rfl) (rowsC (K174.at 8 rfl) (rowsC (K174.at 9 rfl) (rowsC ⟨_, G174_s⟩ rows0))))))))))), (by omega)⟩
                       ·
                         exact t_nil
                     ·
                       exact t_nil
                   ·
                     exact t_nil
               ·
                 refine t_make (by kernel_rfl) (d := (some 12)) (by kernel_rfl) (v := .pointer (some ⟨w167.heap.size, 0, none⟩)) (w' := w167.alloc (.cells (dgQ 0 0) 39)) (by kernel_rfl) (K167.go ((Below.refl _ _).alloc (Nat.le_refl _) _)) ?_ ?_
                 · intro w175 hw175 K175
                   have G175_n : w175.heap[w167.heap.size]? = some (.cells (dgQ 0 0) 39 (0, 0)) := hw175 ▸ heap_alloc_new _ _
                   have S175 : w167.heap.size < w175.heap.size := lt_of_heap G175_n
                   have R175_0 : w.heap.size < w167.heap.size := (by obtain ⟨T, h⟩ := K167.at 0 rfl; exact lt_of_heap h)
                   have R175_1 : w.heap.size + 1 < w167.heap.size := (by obtain ⟨T, h⟩ := K167.at 1 rfl; exact lt_of_heap h)
                   have R175_2 : w.heap.size + 1 + 1 < w167.heap.size := (by obtain ⟨T, h⟩ := K167.at 2 rfl; exact lt_of_heap h)
                   have R175_3 : w2.heap.size < w167.heap.size := (by obtain ⟨T, h⟩ := K167.at 3 rfl; exact lt_of_heap h)
                   have R175_4 : w7.heap.size < w167.heap.size := (by obtain ⟨T, h⟩ := K167.at 4 rfl; exact lt_of_heap h)
                   have R175_5 : p7 < w167.heap.size := (by obtain ⟨T, h⟩ := K167.at 5 rfl; exact lt_of_heap h)
                   have R175_6 : p8 < w167.heap.size := (by obtain ⟨T, h⟩ := K167.at 6 rfl; exact lt_of_heap h)
                   have R175_7 : p9 < w167.heap.size := (by obtain ⟨T, h⟩ := K167.at 7 rfl; exact lt_of_heap h)
                   have R175_8 : p10 < w167.heap.size := (by obtain ⟨T, h⟩ := K167.at 8 rfl; exact lt_of_heap h)
                   have R175_9 : p11 < w167.heap.size := (by obtain ⟨T, h⟩ := K167.at 9 rfl; exact lt_of_heap h)
                   have Z175 : w.heap.size ≤ w167.heap.size := K167.nb.size
                   clear hw175
                   refine tc (d := some 54) (f := 57) (args := #[.agg (dgQ ((((X + Y) * (U + V))).re.val) ((((X + Y) * (U + V))).im.val)), .agg (dgQ (((X * U)).re.val) (((X * U)).im.val))]) (v := .agg (dgQ ((((X + Y) * (U + V) - (X * U))).re.val) ((((X + Y) * (U + V) - (X * U))).im.val))) (subQ_q) (fun w176 hb176 => ⟨K175.go hb176, ?_⟩) ?_
                   · have K176 := K175.go hb176
                     have G176_10 := nb_heap G175_n _ hb176
                     have L176 := hb176.size
                     refine tc (d := some 56) (f := 57) (args := #[.agg (dgQ ((((X + Y) * (U + V) - (X * U))).re.val) ((((X + Y) * (U + V) - (X * U))).im.val)), .agg (dgQ (((Y * V)).re.val) (((Y * V)).im.val))]) (v := .agg (dgQ ((((X + Y) * (U + V) - (X * U) - (Y * V))).re.val) ((((X + Y) * (U + V) - (X * U) - (Y * V))).im.val))) (subQ_q) (fun w177 hb177 => ⟨K176.go hb177, ?_⟩) ?_
                     · have K177 := K176.go hb177
                       have G177_10 := nb_heap G176_10 _ hb177
                       have L177 := hb177.size
                       refine t_store (by kernel_rfl) (d := none) (by kernel_rfl) (ty := 39) (x := (.tmp 12)) (y := (.tmp 56)) (by kernel_rfl) (g := w167.heap.size) (cells := (dgQ ((((X + Y) * (U + V) - (X * U) - (Y * V))).re.val) ((((X + Y) * (U + V) - (X * U) - (Y * V))).im.val))) (by kernel_rfl) (by kernel_rfl) G177_10 (by kernel_rfl) (by kernel_rfl) (all_dgA _) (K177.puti (n := 16) (by kernel_rfl) (by omega) (neC (by omega) (neC (by omega) (neC (by omega) (neC (by omega) (neC (by omega) (neC (by omega) (neC (by omega) (neC (by omega) (neC (by omega) (neC (by omega) ne0)))))))))) ns0) ?_ ?_
                       · intro w178 hw178 K178
                         have G178_s : w178.heap[w167.heap.size]? = some (.cells (dgQ ((((X + Y) * (U + V) - (X * U) - (Y * V))).re.val) ((((X + Y) * (U + V) - (X * U) - (Y * V))).im.val)) _ (0, 0)) := hw178 ▸ setRow_heap _ _ _ _ _ _ G177_10
                         have L178 : w177.heap.size ≤ w178.heap.size := by rw [hw178]; exact Nat.le_of_eq (size_setRow _ _ _).symm
                         clear hw178
                         exact t_done ⟨rfl, w167.heap.size, by kernel_rfl, Kept.zero K178.nb (rowsC (K178.at 0 rfl) (rowsC (K178.at 1 rfl) (rowsC (K178.at 2 rfl) (rowsC (K178.at 3 rfl) (rowsC (K178.at 4 rfl) (rowsC (K178.at 5 rfl) (rowsC (K178.at 6 rfl) (rowsC (K178.at 7 rfl) (rowsC (K178.at 8 rfl) (rowsC (K178.at 9 rfl) (rowsC ⟨_, G178_s⟩ rows0))))))))))), (by omega)⟩
                       ·
                         exact t_nil
                     ·
                       exact t_nil
                   ·
                     exact t_nil
                 ·
                   exact t_nil
             ·
               refine t_make (by kernel_rfl) (d := (some 12)) (by kernel_rfl) (v := .pointer (some ⟨w166.heap.size, 0, none⟩)) (w' := w166.alloc (.cells (dgQ 0 0) 39)) (by kernel_rfl) (K166.go ((Below.refl _ _).alloc (Nat.le_refl _) _)) ?_ ?_
               · intro w179 hw179 K179
                 have G179_n : w179.heap[w166.heap.size]? = some (.cells (dgQ 0 0) 39 (0, 0)) := hw179 ▸ heap_alloc_new _ _
                 have S179 : w166.heap.size < w179.heap.size := lt_of_heap G179_n
                 have R179_0 : w.heap.size < w166.heap.size := (by obtain ⟨T, h⟩ := K166.at 0 rfl; exact lt_of_heap h)
                 have R179_1 : w.heap.size + 1 < w166.heap.size := (by obtain ⟨T, h⟩ := K166.at 1 rfl; exact lt_of_heap h)
                 have R179_2 : w.heap.size + 1 + 1 < w166.heap.size := (by obtain ⟨T, h⟩ := K166.at 2 rfl; exact lt_of_heap h)
                 have R179_3 : w2.heap.size < w166.heap.size := (by obtain ⟨T, h⟩ := K166.at 3 rfl; exact lt_of_heap h)
                 have R179_4 : w7.heap.size < w166.heap.size := (by obtain ⟨T, h⟩ := K166.at 4 rfl; exact lt_of_heap h)
                 have R179_5 : p7 < w166.heap.size := (by obtain ⟨T, h⟩ := K166.at 5 rfl; exact lt_of_heap h)
                 have R179_6 : p8 < w166.heap.size := (by obtain ⟨T, h⟩ := K166.at 6 rfl; exact lt_of_heap h)
                 have R179_7 : p9 < w166.heap.size := (by obtain ⟨T, h⟩ := K166.at 7 rfl; exact lt_of_heap h)
                 have R179_8 : p10 < w166.heap.size := (by obtain ⟨T, h⟩ := K166.at 8 rfl; exact lt_of_heap h)
                 have R179_9 : p11 < w166.heap.size := (by obtain ⟨T, h⟩ := K166.at 9 rfl; exact lt_of_heap h)
                 have Z179 : w.heap.size ≤ w166.heap.size := K166.nb.size
                 clear hw179
                 refine tc (d := some 52) (f := 25) (args := #[.agg (dgQ (((X + Y)).re.val) (((X + Y)).im.val)), .agg (dgQ (((U + V)).re.val) (((U + V)).im.val))]) (v := .agg (dgQ ((((X + Y) * (U + V))).re.val) ((((X + Y) * (U + V))).im.val))) (mulQ_q) (fun w180 hb180 => ⟨K179.go hb180, ?_⟩) ?_
                 · have K180 := K179.go hb180
                   have G180_10 := nb_heap G179_n _ hb180
                   have L180 := hb180.size
                   refine tc (d := some 54) (f := 57) (args := #[.agg (dgQ ((((X + Y) * (U + V))).re.val) ((((X + Y) * (U + V))).im.val)), .agg (dgQ (((X * U)).re.val) (((X * U)).im.val))]) (v := .agg (dgQ ((((X + Y) * (U + V) - (X * U))).re.val) ((((X + Y) * (U + V) - (X * U))).im.val))) (subQ_q) (fun w181 hb181 => ⟨K180.go hb181, ?_⟩) ?_
                   · have K181 := K180.go hb181
                     have G181_10 := nb_heap G180_10 _ hb181
                     have L181 := hb181.size
                     refine tc (d := some 56) (f := 57) (args := #[.agg (dgQ ((((X + Y) * (U + V) - (X * U))).re.val) ((((X + Y) * (U + V) - (X * U))).im.val)), .agg (dgQ (((Y * V)).re.val) (((Y * V)).im.val))]) (v := .agg (dgQ ((((X + Y) * (U + V) - (X * U) - (Y * V))).re.val) ((((X + Y) * (U + V) - (X * U) - (Y * V))).im.val))) (subQ_q) (fun w182 hb182 => ⟨K181.go hb182, ?_⟩) ?_
                     · have K182 := K181.go hb182
                       have G182_10 := nb_heap G181_10 _ hb182
                       have L182 := hb182.size
                       refine t_store (by kernel_rfl) (d := none) (by kernel_rfl) (ty := 39) (x := (.tmp 12)) (y := (.tmp 56)) (by kernel_rfl) (g := w166.heap.size) (cells := (dgQ ((((X + Y) * (U + V) - (X * U) - (Y * V))).re.val) ((((X + Y) * (U + V) - (X * U) - (Y * V))).im.val))) (by kernel_rfl) (by kernel_rfl) G182_10 (by kernel_rfl) (by kernel_rfl) (all_dgA _) (K182.puti (n := 16) (by kernel_rfl) (by omega) (neC (by omega) (neC (by omega) (neC (by omega) (neC (by omega) (neC (by omega) (neC (by omega) (neC (by omega) (neC (by omega) (neC (by omega) (neC (by omega) ne0)))))))))) ns0) ?_ ?_
                       · intro w183 hw183 K183
                         have G183_s : w183.heap[w166.heap.size]? = some (.cells (dgQ ((((X + Y) * (U + V) - (X * U) - (Y * V))).re.val) ((((X + Y) * (U + V) - (X * U) - (Y * V))).im.val)) _ (0, 0)) := hw183 ▸ setRow_heap _ _ _ _ _ _ G182_10
                         have L183 : w182.heap.size ≤ w183.heap.size := by rw [hw183]; exact Nat.le_of_eq (size_setRow _ _ _).symm
                         clear hw183
                         exact t_done ⟨rfl, w166.heap.size, by kernel_rfl, Kept.zero K183.nb (rowsC (K183.at 0 rfl) (rowsC (K183.at 1 rfl) (rowsC (K183.at 2 rfl) (rowsC (K183.at 3 rfl) (rowsC (K183.at 4 rfl) (rowsC (K183.at 5 rfl) (rowsC (K183.at 6 rfl) (rowsC (K183.at 7 rfl) (rowsC (K183.at 8 rfl) (rowsC (K183.at 9 rfl) (rowsC ⟨_, G183_s⟩ rows0))))))))))), (by omega)⟩
                       ·
                         exact t_nil
                     ·
                       exact t_nil
                   ·
                     exact t_nil
                 ·
                   exact t_nil
               ·
                 exact t_nil
           ·
             refine t_make (by kernel_rfl) (d := (some 12)) (by kernel_rfl) (v := .pointer (some ⟨w165.heap.size, 0, none⟩)) (w' := w165.alloc (.cells (dgQ 0 0) 39)) (by kernel_rfl) (K165.go ((Below.refl _ _).alloc (Nat.le_refl _) _)) ?_ ?_
             · intro w184 hw184 K184
               have G184_n : w184.heap[w165.heap.size]? = some (.cells (dgQ 0 0) 39 (0, 0)) := hw184 ▸ heap_alloc_new _ _
               have S184 : w165.heap.size < w184.heap.size := lt_of_heap G184_n
               have R184_0 : w.heap.size < w165.heap.size := (by obtain ⟨T, h⟩ := K165.at 0 rfl; exact lt_of_heap h)
               have R184_1 : w.heap.size + 1 < w165.heap.size := (by obtain ⟨T, h⟩ := K165.at 1 rfl; exact lt_of_heap h)
               have R184_2 : w.heap.size + 1 + 1 < w165.heap.size := (by obtain ⟨T, h⟩ := K165.at 2 rfl; exact lt_of_heap h)
               have R184_3 : w2.heap.size < w165.heap.size := (by obtain ⟨T, h⟩ := K165.at 3 rfl; exact lt_of_heap h)
               have R184_4 : w7.heap.size < w165.heap.size := (by obtain ⟨T, h⟩ := K165.at 4 rfl; exact lt_of_heap h)
               have R184_5 : p7 < w165.heap.size := (by obtain ⟨T, h⟩ := K165.at 5 rfl; exact lt_of_heap h)
               have R184_6 : p8 < w165.heap.size := (by obtain ⟨T, h⟩ := K165.at 6 rfl; exact lt_of_heap h)
               have R184_7 : p9 < w165.heap.size := (by obtain ⟨T, h⟩ := K165.at 7 rfl; exact lt_of_heap h)
               have R184_8 : p10 < w165.heap.size := (by obtain ⟨T, h⟩ := K165.at 8 rfl; exact lt_of_heap h)
               have R184_9 : p11 < w165.heap.size := (by obtain ⟨T, h⟩ := K165.at 9 rfl; exact lt_of_heap h)
               have Z184 : w.heap.size ≤ w165.heap.size := K165.nb.size
               clear hw184
               refine tc (d := some 51) (f := 58) (args := #[.agg (dgQ U.re.val U.im.val), .agg (dgQ V.re.val V.im.val)]) (v := .agg (dgQ (((U + V)).re.val) (((U + V)).im.val))) (addQ_q) (fun w185 hb185 => ⟨K184.go hb185, ?_⟩) ?_
               · have K185 := K184.go hb185
                 have G185_10 := nb_heap G184_n _ hb185
                 have L185 := hb185.size
                 refine tc (d := some 52) (f := 25) (args := #[.agg (dgQ (((X + Y)).re.val) (((X + Y)).im.val)), .agg (dgQ (((U + V)).re.val) (((U + V)).im.val))]) (v := .agg (dgQ ((((X + Y) * (U + V))).re.val) ((((X + Y) * (U + V))).im.val))) (mulQ_q) (fun w186 hb186 => ⟨K185.go hb186, ?_⟩) ?_
                 · have K186 := K185.go hb186
                   have G186_10 := nb_heap G185_10 _ hb186
                   have L186 := hb186.size
                   refine tc (d := some 54) (f := 57) (args := #[.agg (dgQ ((((X + Y) * (U + V))).re.val) ((((X + Y) * (U + V))).im.val)), .agg (dgQ (((X * U)).re.val) (((X * U)).im.val))]) (v := .agg (dgQ ((((X + Y) * (U + V) - (X * U))).re.val) ((((X + Y) * (U + V) - (X * U))).im.val))) (subQ_q) (fun w187 hb187 => ⟨K186.go hb187, ?_⟩) ?_
                   · have K187 := K186.go hb187
                     have G187_10 := nb_heap G186_10 _ hb187
                     have L187 := hb187.size
                     refine tc (d := some 56) (f := 57) (args := #[.agg (dgQ ((((X + Y) * (U + V) - (X * U))).re.val) ((((X + Y) * (U + V) - (X * U))).im.val)), .agg (dgQ (((Y * V)).re.val) (((Y * V)).im.val))]) (v := .agg (dgQ ((((X + Y) * (U + V) - (X * U) - (Y * V))).re.val) ((((X + Y) * (U + V) - (X * U) - (Y * V))).im.val))) (subQ_q) (fun w188 hb188 => ⟨K187.go hb188, ?_⟩) ?_
                     · have K188 := K187.go hb188
                       have G188_10 := nb_heap G187_10 _ hb188
                       have L188 := hb188.size
                       refine t_store (by kernel_rfl) (d := none) (by kernel_rfl) (ty := 39) (x := (.tmp 12)) (y := (.tmp 56)) (by kernel_rfl) (g := w165.heap.size) (cells := (dgQ ((((X + Y) * (U + V) - (X * U) - (Y * V))).re.val) ((((X + Y) * (U + V) - (X * U) - (Y * V))).im.val))) (by kernel_rfl) (by kernel_rfl) G188_10 (by kernel_rfl) (by kernel_rfl) (all_dgA _) (K188.puti (n := 16) (by kernel_rfl) (by omega) (neC (by omega) (neC (by omega) (neC (by omega) (neC (by omega) (neC (by omega) (neC (by omega) (neC (by omega) (neC (by omega) (neC (by omega) (neC (by omega) ne0)))))))))) ns0) ?_ ?_
                       · intro w189 hw189 K189
                         have G189_s : w189.heap[w165.heap.size]? = some (.cells (dgQ ((((X + Y) * (U + V) - (X * U) - (Y * V))).re.val) ((((X + Y) * (U + V) - (X * U) - (Y * V))).im.val)) _ (0, 0)) := hw189 ▸ setRow_heap _ _ _ _ _ _ G188_10
                         have L189 : w188.heap.size ≤ w189.heap.size := by rw [hw189]; exact Nat.le_of_eq (size_setRow _ _ _).symm
                         clear hw189
                         exact t_done ⟨rfl, w165.heap.size, by kernel_rfl, Kept.zero K189.nb (rowsC (K189.at 0 rfl) (rowsC (K189.at 1 rfl) (rowsC (K189.at 2 rfl) (rowsC (K189.at 3 rfl) (rowsC (K189.at 4 rfl) (rowsC (K189.at 5 rfl) (rowsC (K189.at 6 rfl) (rowsC (K189.at 7 rfl) (rowsC (K189.at 8 rfl) (rowsC (K189.at 9 rfl) (rowsC ⟨_, G189_s⟩ rows0))))))))))), (by omega)⟩
                       ·
                         exact t_nil
                     ·
                       exact t_nil
                   ·
                     exact t_nil
                 ·
                   exact t_nil
               ·
                 exact t_nil
             ·
               exact t_nil
         ·
           refine t_make (by kernel_rfl) (d := (some 12)) (by kernel_rfl) (v := .pointer (some ⟨W158.drew.heap.size, 0, none⟩)) (w' := W158.drew.alloc (.cells (dgQ 0 0) 39)) (by kernel_rfl) (K164.go ((Below.refl _ _).alloc (Nat.le_refl _) _)) ?_ ?_
           · intro w190 hw190 K190
             have G190_n : w190.heap[W158.drew.heap.size]? = some (.cells (dgQ 0 0) 39 (0, 0)) := hw190 ▸ heap_alloc_new _ _
             have S190 : W158.drew.heap.size < w190.heap.size := lt_of_heap G190_n
             have R190_0 : w.heap.size < W158.drew.heap.size := (by obtain ⟨T, h⟩ := K164.at 0 rfl; exact lt_of_heap h)
             have R190_1 : w.heap.size + 1 < W158.drew.heap.size := (by obtain ⟨T, h⟩ := K164.at 1 rfl; exact lt_of_heap h)
             have R190_2 : w.heap.size + 1 + 1 < W158.drew.heap.size := (by obtain ⟨T, h⟩ := K164.at 2 rfl; exact lt_of_heap h)
             have R190_3 : w2.heap.size < W158.drew.heap.size := (by obtain ⟨T, h⟩ := K164.at 3 rfl; exact lt_of_heap h)
             have R190_4 : w7.heap.size < W158.drew.heap.size := (by obtain ⟨T, h⟩ := K164.at 4 rfl; exact lt_of_heap h)
             have R190_5 : p7 < W158.drew.heap.size := (by obtain ⟨T, h⟩ := K164.at 5 rfl; exact lt_of_heap h)
             have R190_6 : p8 < W158.drew.heap.size := (by obtain ⟨T, h⟩ := K164.at 6 rfl; exact lt_of_heap h)
             have R190_7 : p9 < W158.drew.heap.size := (by obtain ⟨T, h⟩ := K164.at 7 rfl; exact lt_of_heap h)
             have R190_8 : p10 < W158.drew.heap.size := (by obtain ⟨T, h⟩ := K164.at 8 rfl; exact lt_of_heap h)
             have R190_9 : p11 < W158.drew.heap.size := (by obtain ⟨T, h⟩ := K164.at 9 rfl; exact lt_of_heap h)
             have Z190 : w.heap.size ≤ W158.drew.heap.size := K164.nb.size
             clear hw190
             refine tc (d := some 46) (f := 58) (args := #[.agg (dgQ X.re.val X.im.val), .agg (dgQ Y.re.val Y.im.val)]) (v := .agg (dgQ (((X + Y)).re.val) (((X + Y)).im.val))) (addQ_q) (fun w191 hb191 => ⟨K190.go hb191, ?_⟩) ?_
             · have K191 := K190.go hb191
               have G191_10 := nb_heap G190_n _ hb191
               have L191 := hb191.size
               refine tc (d := some 51) (f := 58) (args := #[.agg (dgQ U.re.val U.im.val), .agg (dgQ V.re.val V.im.val)]) (v := .agg (dgQ (((U + V)).re.val) (((U + V)).im.val))) (addQ_q) (fun w192 hb192 => ⟨K191.go hb192, ?_⟩) ?_
               · have K192 := K191.go hb192
                 have G192_10 := nb_heap G191_10 _ hb192
                 have L192 := hb192.size
                 refine tc (d := some 52) (f := 25) (args := #[.agg (dgQ (((X + Y)).re.val) (((X + Y)).im.val)), .agg (dgQ (((U + V)).re.val) (((U + V)).im.val))]) (v := .agg (dgQ ((((X + Y) * (U + V))).re.val) ((((X + Y) * (U + V))).im.val))) (mulQ_q) (fun w193 hb193 => ⟨K192.go hb193, ?_⟩) ?_
                 · have K193 := K192.go hb193
                   have G193_10 := nb_heap G192_10 _ hb193
                   have L193 := hb193.size
                   refine tc (d := some 54) (f := 57) (args := #[.agg (dgQ ((((X + Y) * (U + V))).re.val) ((((X + Y) * (U + V))).im.val)), .agg (dgQ (((X * U)).re.val) (((X * U)).im.val))]) (v := .agg (dgQ ((((X + Y) * (U + V) - (X * U))).re.val) ((((X + Y) * (U + V) - (X * U))).im.val))) (subQ_q) (fun w194 hb194 => ⟨K193.go hb194, ?_⟩) ?_
                   · have K194 := K193.go hb194
                     have G194_10 := nb_heap G193_10 _ hb194
                     have L194 := hb194.size
                     refine tc (d := some 56) (f := 57) (args := #[.agg (dgQ ((((X + Y) * (U + V) - (X * U))).re.val) ((((X + Y) * (U + V) - (X * U))).im.val)), .agg (dgQ (((Y * V)).re.val) (((Y * V)).im.val))]) (v := .agg (dgQ ((((X + Y) * (U + V) - (X * U) - (Y * V))).re.val) ((((X + Y) * (U + V) - (X * U) - (Y * V))).im.val))) (subQ_q) (fun w195 hb195 => ⟨K194.go hb195, ?_⟩) ?_
                     · have K195 := K194.go hb195
                       have G195_10 := nb_heap G194_10 _ hb195
                       have L195 := hb195.size
                       refine t_store (by kernel_rfl) (d := none) (by kernel_rfl) (ty := 39) (x := (.tmp 12)) (y := (.tmp 56)) (by kernel_rfl) (g := W158.drew.heap.size) (cells := (dgQ ((((X + Y) * (U + V) - (X * U) - (Y * V))).re.val) ((((X + Y) * (U + V) - (X * U) - (Y * V))).im.val))) (by kernel_rfl) (by kernel_rfl) G195_10 (by kernel_rfl) (by kernel_rfl) (all_dgA _) (K195.puti (n := 16) (by kernel_rfl) (by omega) (neC (by omega) (neC (by omega) (neC (by omega) (neC (by omega) (neC (by omega) (neC (by omega) (neC (by omega) (neC (by omega) (neC (by omega) (neC (by omega) ne0)))))))))) ns0) ?_ ?_
                       · intro w196 hw196 K196
                         have G196_s : w196.heap[W158.drew.heap.size]? = some (.cells (dgQ ((((X + Y) * (U + V) - (X * U) - (Y * V))).re.val) ((((X + Y) * (U + V) - (X * U) - (Y * V))).im.val)) _ (0, 0)) := hw196 ▸ setRow_heap _ _ _ _ _ _ G195_10
                         have L196 : w195.heap.size ≤ w196.heap.size := by rw [hw196]; exact Nat.le_of_eq (size_setRow _ _ _).symm
                         clear hw196
                         exact t_done ⟨rfl, W158.drew.heap.size, by kernel_rfl, Kept.zero K196.nb (rowsC (K196.at 0 rfl) (rowsC (K196.at 1 rfl) (rowsC (K196.at 2 rfl) (rowsC (K196.at 3 rfl) (rowsC (K196.at 4 rfl) (rowsC (K196.at 5 rfl) (rowsC (K196.at 6 rfl) (rowsC (K196.at 7 rfl) (rowsC (K196.at 8 rfl) (rowsC (K196.at 9 rfl) (rowsC ⟨_, G196_s⟩ rows0))))))))))), (by omega)⟩
                       ·
                         exact t_nil
                     ·
                       exact t_nil
                   ·
                     exact t_nil
                 ·
                   exact t_nil
               ·
                 exact t_nil
             ·
               exact t_nil
           ·
             exact t_nil
       · rintro _ W197 ⟨p12, rfl, K198, l199⟩
         go_upto_region 7 with (fail)
         have O2K200 := K198.at 2 rfl
         obtain ⟨T2K200, O2K200⟩ := O2K200
         have K200 : Kept w [(w.heap.size, (dgL [X.re.val, X.im.val, Y.re.val, Y.im.val, Z.re.val, Z.im.val])), (w.heap.size + 1, (dgL [U.re.val, U.im.val, V.re.val, V.im.val, W.re.val, W.im.val])), (w2.heap.size, (dgQ (((Z * W)).re.val) (((Z * W)).im.val))), (w7.heap.size, (dgQ ((((Z * W) * (Z * W))).re.val) ((((Z * W) * (Z * W))).im.val))), (p7, (dgQ (((X * U)).re.val) (((X * U)).im.val))), (p8, (dgQ (((Y * V)).re.val) (((Y * V)).im.val))), (p9, (dgQ (((dd * ((X * U) * (Y * V)))).re.val) (((dd * ((X * U) * (Y * V)))).im.val))), (p10, (dgQ (((((Z * W) * (Z * W)) - (dd * ((X * U) * (Y * V))))).re.val) (((((Z * W) * (Z * W)) - (dd * ((X * U) * (Y * V))))).im.val))), (p11, (dgQ (((((Z * W) * (Z * W)) + (dd * ((X * U) * (Y * V))))).re.val) (((((Z * W) * (Z * W)) + (dd * ((X * U) * (Y * V))))).im.val))), (p12, (dgQ ((((X + Y) * (U + V) - (X * U) - (Y * V))).re.val) ((((X + Y) * (U + V) - (X * U) - (Y * V))).im.val)))] [(w.heap.size + 1 + 1, 48)] W197 := Kept.mks K198.nb (rowsC (K198.at 0 rfl) (rowsC (K198.at 1 rfl) (rowsC (K198.at 3 rfl) (rowsC (K198.at 4 rfl) (rowsC (K198.at 5 rfl) (rowsC (K198.at 6 rfl) (rowsC (K198.at 7 rfl) (rowsC (K198.at 8 rfl) (rowsC (K198.at 9 rfl) (rowsC (K198.at 10 rfl) rows0)))))))))) (roomsC (by kernel_rfl) O2K200 rooms0)
         refine wrA (opsAt Tryd.f24 7) ((true, 0) :: (true, 1) :: (true, 2) :: (true, 5) :: (true, 6) :: (true, 7) :: (true, 8) :: (true, 12) :: (true, 13) :: (false, 3) :: (false, 4) :: (false, 9) :: (false, 10) :: (false, 11) :: (false, 14) :: (true, 15) :: (false, 16) :: []) (Kept w [(w.heap.size, (dgL [X.re.val, X.im.val, Y.re.val, Y.im.val, Z.re.val, Z.im.val])), (w.heap.size + 1, (dgL [U.re.val, U.im.val, V.re.val, V.im.val, W.re.val, W.im.val])), (w2.heap.size, (dgQ (((Z * W)).re.val) (((Z * W)).im.val))), (w7.heap.size, (dgQ ((((Z * W) * (Z * W))).re.val) ((((Z * W) * (Z * W))).im.val))), (p7, (dgQ (((X * U)).re.val) (((X * U)).im.val))), (p8, (dgQ (((Y * V)).re.val) (((Y * V)).im.val))), (p9, (dgQ (((dd * ((X * U) * (Y * V)))).re.val) (((dd * ((X * U) * (Y * V)))).im.val))), (p10, (dgQ (((((Z * W) * (Z * W)) - (dd * ((X * U) * (Y * V))))).re.val) (((((Z * W) * (Z * W)) - (dd * ((X * U) * (Y * V))))).im.val))), (p11, (dgQ (((((Z * W) * (Z * W)) + (dd * ((X * U) * (Y * V))))).re.val) (((((Z * W) * (Z * W)) + (dd * ((X * U) * (Y * V))))).im.val))), (p12, (dgQ ((((X + Y) * (U + V) - (X * U) - (Y * V))).re.val) ((((X + Y) * (U + V) - (X * U) - (Y * V))).im.val)))] [(w.heap.size + 1 + 1, 48)]) K200.drew ?_
         have K201 := K200.drew
         have DK201 : W197.heap.size ≤ W197.drew.heap.size := Nat.le_refl _
         have GO2K200 : W197.drew.heap[w.heap.size + 1 + 1]? = some (.cells (dgL [0, 0, 0, 0, 0, 0]) _ (0, 0)) := O2K200
         refine k_row (by kernel_rfl) (d := (some 57)) (by kernel_rfl) (ty := 39) (x := (.tmp 5)) (by kernel_rfl) (b := w2.heap.size) (by kernel_rfl) (cs := (dgQ (((Z * W)).re.val) (((Z * W)).im.val))) (fun _ hs => hs.at 2 rfl) Tryd.underlying39 rfl (by kernel_rfl) ?_
         refine k_row (by kernel_rfl) (d := (some 58)) (by kernel_rfl) (ty := 39) (x := (.tmp 10)) (by kernel_rfl) (b := p10) (by kernel_rfl) (cs := (dgQ (((((Z * W) * (Z * W)) - (dd * ((X * U) * (Y * V))))).re.val) (((((Z * W) * (Z * W)) - (dd * ((X * U) * (Y * V))))).im.val))) (fun _ hs => hs.at 7 rfl) Tryd.underlying39 rfl (by kernel_rfl) ?_
         refine k_row (by kernel_rfl) (d := (some 59)) (by kernel_rfl) (ty := 39) (x := (.tmp 12)) (by kernel_rfl) (b := p12) (by kernel_rfl) (cs := (dgQ ((((X + Y) * (U + V) - (X * U) - (Y * V))).re.val) ((((X + Y) * (U + V) - (X * U) - (Y * V))).im.val))) (fun _ hs => hs.at 9 rfl) Tryd.underlying39 rfl (by kernel_rfl) ?_
         refine k_row (by kernel_rfl) (d := (some 62)) (by kernel_rfl) (ty := 39) (x := (.tmp 5)) (by kernel_rfl) (b := w2.heap.size) (by kernel_rfl) (cs := (dgQ (((Z * W)).re.val) (((Z * W)).im.val))) (fun _ hs => hs.at 2 rfl) Tryd.underlying39 rfl (by kernel_rfl) ?_
         refine k_row (by kernel_rfl) (d := (some 63)) (by kernel_rfl) (ty := 39) (x := (.tmp 11)) (by kernel_rfl) (b := p11) (by kernel_rfl) (cs := (dgQ (((((Z * W) * (Z * W)) + (dd * ((X * U) * (Y * V))))).re.val) (((((Z * W) * (Z * W)) + (dd * ((X * U) * (Y * V))))).im.val))) (fun _ hs => hs.at 8 rfl) Tryd.underlying39 rfl (by kernel_rfl) ?_
         refine k_row (by kernel_rfl) (d := (some 64)) (by kernel_rfl) (ty := 39) (x := (.tmp 8)) (by kernel_rfl) (b := p8) (by kernel_rfl) (cs := (dgQ (((Y * V)).re.val) (((Y * V)).im.val))) (fun _ hs => hs.at 5 rfl) Tryd.underlying39 rfl (by kernel_rfl) ?_
         refine k_row (by kernel_rfl) (d := (some 65)) (by kernel_rfl) (ty := 39) (x := (.tmp 7)) (by kernel_rfl) (b := p7) (by kernel_rfl) (cs := (dgQ (((X * U)).re.val) (((X * U)).im.val))) (fun _ hs => hs.at 4 rfl) Tryd.underlying39 rfl (by kernel_rfl) ?_
         refine k_row (by kernel_rfl) (d := (some 69)) (by kernel_rfl) (ty := 39) (x := (.tmp 10)) (by kernel_rfl) (b := p10) (by kernel_rfl) (cs := (dgQ (((((Z * W) * (Z * W)) - (dd * ((X * U) * (Y * V))))).re.val) (((((Z * W) * (Z * W)) - (dd * ((X * U) * (Y * V))))).im.val))) (fun _ hs => hs.at 7 rfl) Tryd.underlying39 rfl (by kernel_rfl) ?_
         refine k_row (by kernel_rfl) (d := (some 70)) (by kernel_rfl) (ty := 39) (x := (.tmp 11)) (by kernel_rfl) (b := p11) (by kernel_rfl) (cs := (dgQ (((((Z * W) * (Z * W)) + (dd * ((X * U) * (Y * V))))).re.val) (((((Z * W) * (Z * W)) + (dd * ((X * U) * (Y * V))))).im.val))) (fun _ hs => hs.at 8 rfl) Tryd.underlying39 rfl (by kernel_rfl) ?_
         refine kc (d := some 60) (f := 25) (args := #[.agg (dgQ (((((Z * W) * (Z * W)) - (dd * ((X * U) * (Y * V))))).re.val) (((((Z * W) * (Z * W)) - (dd * ((X * U) * (Y * V))))).im.val)), .agg (dgQ ((((X + Y) * (U + V) - (X * U) - (Y * V))).re.val) ((((X + Y) * (U + V) - (X * U) - (Y * V))).im.val))]) (v := .agg (dgQ ((((((Z * W) * (Z * W)) - (dd * ((X * U) * (Y * V)))) * ((X + Y) * (U + V) - (X * U) - (Y * V)))).re.val) ((((((Z * W) * (Z * W)) - (dd * ((X * U) * (Y * V)))) * ((X + Y) * (U + V) - (X * U) - (Y * V)))).im.val))) (mulQ_q) (fun w202 hb202 => ⟨K201.go hb202, ?_⟩)
         have K202 := K201.go hb202
         have G202_10 := nb_heap GO2K200 _ hb202
         have L202 := hb202.size
         refine kc (d := some 61) (f := 25) (args := #[.agg (dgQ (((Z * W)).re.val) (((Z * W)).im.val)), .agg (dgQ ((((((Z * W) * (Z * W)) - (dd * ((X * U) * (Y * V)))) * ((X + Y) * (U + V) - (X * U) - (Y * V)))).re.val) ((((((Z * W) * (Z * W)) - (dd * ((X * U) * (Y * V)))) * ((X + Y) * (U + V) - (X * U) - (Y * V)))).im.val))]) (v := .agg (dgQ ((((Z * W) * ((((Z * W) * (Z * W)) - (dd * ((X * U) * (Y * V)))) * ((X + Y) * (U + V) - (X * U) - (Y * V))))).re.val) ((((Z * W) * ((((Z * W) * (Z * W)) - (dd * ((X * U) * (Y * V)))) * ((X + Y) * (U + V) - (X * U) - (Y * V))))).im.val))) (mulQ_q) (fun w203 hb203 => ⟨K202.go hb203, ?_⟩)
         have K203 := K202.go hb203
         have G203_10 := nb_heap G202_10 _ hb203
         have L203 := hb203.size
         refine kc (d := some 66) (f := 58) (args := #[.agg (dgQ (((Y * V)).re.val) (((Y * V)).im.val)), .agg (dgQ (((X * U)).re.val) (((X * U)).im.val))]) (v := .agg (dgQ ((((Y * V) + (X * U))).re.val) ((((Y * V) + (X * U))).im.val))) (addQ_q) (fun w204 hb204 => ⟨K203.go hb204, ?_⟩)
         have K204 := K203.go hb204
         have G204_10 := nb_heap G203_10 _ hb204
         have L204 := hb204.size
         refine kc (d := some 67) (f := 25) (args := #[.agg (dgQ (((((Z * W) * (Z * W)) + (dd * ((X * U) * (Y * V))))).re.val) (((((Z * W) * (Z * W)) + (dd * ((X * U) * (Y * V))))).im.val)), .agg (dgQ ((((Y * V) + (X * U))).re.val) ((((Y * V) + (X * U))).im.val))]) (v := .agg (dgQ ((((((Z * W) * (Z * W)) + (dd * ((X * U) * (Y * V)))) * ((Y * V) + (X * U)))).re.val) ((((((Z * W) * (Z * W)) + (dd * ((X * U) * (Y * V)))) * ((Y * V) + (X * U)))).im.val))) (mulQ_q) (fun w205 hb205 => ⟨K204.go hb205, ?_⟩)
         have K205 := K204.go hb205
         have G205_10 := nb_heap G204_10 _ hb205
         have L205 := hb205.size
         refine kc (d := some 68) (f := 25) (args := #[.agg (dgQ (((Z * W)).re.val) (((Z * W)).im.val)), .agg (dgQ ((((((Z * W) * (Z * W)) + (dd * ((X * U) * (Y * V)))) * ((Y * V) + (X * U)))).re.val) ((((((Z * W) * (Z * W)) + (dd * ((X * U) * (Y * V)))) * ((Y * V) + (X * U)))).im.val))]) (v := .agg (dgQ ((((Z * W) * ((((Z * W) * (Z * W)) + (dd * ((X * U) * (Y * V)))) * ((Y * V) + (X * U))))).re.val) ((((Z * W) * ((((Z * W) * (Z * W)) + (dd * ((X * U) * (Y * V)))) * ((Y * V) + (X * U))))).im.val))) (mulQ_q) (fun w206 hb206 => ⟨K205.go hb206, ?_⟩)
         have K206 := K205.go hb206
         have G206_10 := nb_heap G205_10 _ hb206
         have L206 := hb206.size
         refine kc (d := some 71) (f := 25) (args := #[.agg (dgQ (((((Z * W) * (Z * W)) - (dd * ((X * U) * (Y * V))))).re.val) (((((Z * W) * (Z * W)) - (dd * ((X * U) * (Y * V))))).im.val)), .agg (dgQ (((((Z * W) * (Z * W)) + (dd * ((X * U) * (Y * V))))).re.val) (((((Z * W) * (Z * W)) + (dd * ((X * U) * (Y * V))))).im.val))]) (v := .agg (dgQ ((((((Z * W) * (Z * W)) - (dd * ((X * U) * (Y * V)))) * (((Z * W) * (Z * W)) + (dd * ((X * U) * (Y * V)))))).re.val) ((((((Z * W) * (Z * W)) - (dd * ((X * U) * (Y * V)))) * (((Z * W) * (Z * W)) + (dd * ((X * U) * (Y * V)))))).im.val))) (mulQ_q) (fun w207 hb207 => ⟨K206.go hb207, ?_⟩)
         have K207 := K206.go hb207
         have G207_10 := nb_heap G206_10 _ hb207
         have L207 := hb207.size
         refine kp (d := some 72) (v := .agg (dgL [(((Z * W) * ((((Z * W) * (Z * W)) - (dd * ((X * U) * (Y * V)))) * ((X + Y) * (U + V) - (X * U) - (Y * V))))).re.val, (((Z * W) * ((((Z * W) * (Z * W)) - (dd * ((X * U) * (Y * V)))) * ((X + Y) * (U + V) - (X * U) - (Y * V))))).im.val, (((Z * W) * ((((Z * W) * (Z * W)) + (dd * ((X * U) * (Y * V)))) * ((Y * V) + (X * U))))).re.val, (((Z * W) * ((((Z * W) * (Z * W)) + (dd * ((X * U) * (Y * V)))) * ((Y * V) + (X * U))))).im.val, (((((Z * W) * (Z * W)) - (dd * ((X * U) * (Y * V)))) * (((Z * W) * (Z * W)) + (dd * ((X * U) * (Y * V)))))).re.val, (((((Z * W) * (Z * W)) - (dd * ((X * U) * (Y * V)))) * (((Z * W) * (Z * W)) + (dd * ((X * U) * (Y * V)))))).im.val])) ?_
         refine k_put (by kernel_rfl) (d := none) (by kernel_rfl) (ty := 41) (x := (.tmp 4)) (y := (.tmp 72)) (by kernel_rfl) (g := w.heap.size + 1 + 1) (cells := (dgL [(((Z * W) * ((((Z * W) * (Z * W)) - (dd * ((X * U) * (Y * V)))) * ((X + Y) * (U + V) - (X * U) - (Y * V))))).re.val, (((Z * W) * ((((Z * W) * (Z * W)) - (dd * ((X * U) * (Y * V)))) * ((X + Y) * (U + V) - (X * U) - (Y * V))))).im.val, (((Z * W) * ((((Z * W) * (Z * W)) + (dd * ((X * U) * (Y * V)))) * ((Y * V) + (X * U))))).re.val, (((Z * W) * ((((Z * W) * (Z * W)) + (dd * ((X * U) * (Y * V)))) * ((Y * V) + (X * U))))).im.val, (((((Z * W) * (Z * W)) - (dd * ((X * U) * (Y * V)))) * (((Z * W) * (Z * W)) + (dd * ((X * U) * (Y * V)))))).re.val, (((((Z * W) * (Z * W)) - (dd * ((X * U) * (Y * V)))) * (((Z * W) * (Z * W)) + (dd * ((X * U) * (Y * V)))))).im.val])) (by kernel_rfl) (by kernel_rfl) G207_10 (by kernel_rfl) (by kernel_rfl) (all_dgA _) (K207.puti (n := 48) (by kernel_rfl) (by omega) (neC (by omega) (neC (by omega) (neC (by omega) (neC (by omega) (neC (by omega) (neC (by omega) (neC (by omega) (neC (by omega) (neC (by omega) (neC (by omega) ne0)))))))))) (nsE ns0)) ?_
         intro w208 hw208 K208
         have G208_s : w208.heap[w.heap.size + 1 + 1]? = some (.cells (dgL [(((Z * W) * ((((Z * W) * (Z * W)) - (dd * ((X * U) * (Y * V)))) * ((X + Y) * (U + V) - (X * U) - (Y * V))))).re.val, (((Z * W) * ((((Z * W) * (Z * W)) - (dd * ((X * U) * (Y * V)))) * ((X + Y) * (U + V) - (X * U) - (Y * V))))).im.val, (((Z * W) * ((((Z * W) * (Z * W)) + (dd * ((X * U) * (Y * V)))) * ((Y * V) + (X * U))))).re.val, (((Z * W) * ((((Z * W) * (Z * W)) + (dd * ((X * U) * (Y * V)))) * ((Y * V) + (X * U))))).im.val, (((((Z * W) * (Z * W)) - (dd * ((X * U) * (Y * V)))) * (((Z * W) * (Z * W)) + (dd * ((X * U) * (Y * V)))))).re.val, (((((Z * W) * (Z * W)) - (dd * ((X * U) * (Y * V)))) * (((Z * W) * (Z * W)) + (dd * ((X * U) * (Y * V)))))).im.val]) _ (0, 0)) := hw208 ▸ setRow_heap _ _ _ _ _ _ G207_10
         have L208 : w207.heap.size ≤ w208.heap.size := by rw [hw208]; exact Nat.le_of_eq (size_setRow _ _ _).symm
         clear hw208
         have K209 : Kept w [(w.heap.size, (dgL [X.re.val, X.im.val, Y.re.val, Y.im.val, Z.re.val, Z.im.val])), (w.heap.size + 1, (dgL [U.re.val, U.im.val, V.re.val, V.im.val, W.re.val, W.im.val])), (w.heap.size + 1 + 1, (dgL [(((Z * W) * ((((Z * W) * (Z * W)) - (dd * ((X * U) * (Y * V)))) * ((X + Y) * (U + V) - (X * U) - (Y * V))))).re.val, (((Z * W) * ((((Z * W) * (Z * W)) - (dd * ((X * U) * (Y * V)))) * ((X + Y) * (U + V) - (X * U) - (Y * V))))).im.val, (((Z * W) * ((((Z * W) * (Z * W)) + (dd * ((X * U) * (Y * V)))) * ((Y * V) + (X * U))))).re.val, (((Z * W) * ((((Z * W) * (Z * W)) + (dd * ((X * U) * (Y * V)))) * ((Y * V) + (X * U))))).im.val, (((((Z * W) * (Z * W)) - (dd * ((X * U) * (Y * V)))) * (((Z * W) * (Z * W)) + (dd * ((X * U) * (Y * V)))))).re.val, (((((Z * W) * (Z * W)) - (dd * ((X * U) * (Y * V)))) * (((Z * W) * (Z * W)) + (dd * ((X * U) * (Y * V)))))).im.val])), (w2.heap.size, (dgQ (((Z * W)).re.val) (((Z * W)).im.val))), (w7.heap.size, (dgQ ((((Z * W) * (Z * W))).re.val) ((((Z * W) * (Z * W))).im.val))), (p7, (dgQ (((X * U)).re.val) (((X * U)).im.val))), (p8, (dgQ (((Y * V)).re.val) (((Y * V)).im.val))), (p9, (dgQ (((dd * ((X * U) * (Y * V)))).re.val) (((dd * ((X * U) * (Y * V)))).im.val))), (p10, (dgQ (((((Z * W) * (Z * W)) - (dd * ((X * U) * (Y * V))))).re.val) (((((Z * W) * (Z * W)) - (dd * ((X * U) * (Y * V))))).im.val))), (p11, (dgQ (((((Z * W) * (Z * W)) + (dd * ((X * U) * (Y * V))))).re.val) (((((Z * W) * (Z * W)) + (dd * ((X * U) * (Y * V))))).im.val))), (p12, (dgQ ((((X + Y) * (U + V) - (X * U) - (Y * V))).re.val) ((((X + Y) * (U + V) - (X * U) - (Y * V))).im.val)))] [] w208 := Kept.zero K208.nb (rowsC (K208.at 0 rfl) (rowsC (K208.at 1 rfl) (rowsC ⟨_, G208_s⟩ (rowsC (K208.at 2 rfl) (rowsC (K208.at 3 rfl) (rowsC (K208.at 4 rfl) (rowsC (K208.at 5 rfl) (rowsC (K208.at 6 rfl) (rowsC (K208.at 7 rfl) (rowsC (K208.at 8 rfl) (rowsC (K208.at 9 rfl) rows0)))))))))))
         clear O2K200 G208_s G207_10 G206_10 G205_10 G204_10 G203_10 G202_10 GO2K200
         refine k_end ?_
         go_simp
         go_wp2_with fail
         obtain ⟨TR, hR⟩ := K209.at 2 rfl
         exact bodyPost_ret_by (results_cell_row rfl _ _ (w.heap.size + 1 + 1) _ (dgL [(((Z * W) * ((((Z * W) * (Z * W)) - (dd * ((X * U) * (Y * V)))) * ((X + Y) * (U + V) - (X * U) - (Y * V))))).re.val, (((Z * W) * ((((Z * W) * (Z * W)) - (dd * ((X * U) * (Y * V)))) * ((X + Y) * (U + V) - (X * U) - (Y * V))))).im.val, (((Z * W) * ((((Z * W) * (Z * W)) + (dd * ((X * U) * (Y * V)))) * ((Y * V) + (X * U))))).re.val, (((Z * W) * ((((Z * W) * (Z * W)) + (dd * ((X * U) * (Y * V)))) * ((Y * V) + (X * U))))).im.val, (((((Z * W) * (Z * W)) - (dd * ((X * U) * (Y * V)))) * (((Z * W) * (Z * W)) + (dd * ((X * U) * (Y * V)))))).re.val, (((((Z * W) * (Z * W)) - (dd * ((X * U) * (Y * V)))) * (((Z * W) * (Z * W)) + (dd * ((X * U) * (Y * V)))))).im.val]) _ _ rfl hR Tryd.underlying41 rfl (by kernel_rfl)) rfl ⟨rfl, K209.nb⟩
/-- The reference's sum stands for the sum. -/
theorem plusP_r {w : World} {p q : Pt} {X Y Z U V W : Zq} (h : Rep3 p X Y Z) (g : Rep3 q U V W) :
   Calls Tryd.prog 24 #[.agg (dgL [X.re.val, X.im.val, Y.re.val, Y.im.val, Z.re.val, Z.im.val]), .agg (dgL [U.re.val, U.im.val, V.re.val, V.im.val, W.re.val, W.im.val])] w fun e w' =>
     ∃ X' Y' Z' : Zq, Rep3 (p + q) X' Y' Z' ∧ e = .returned (.agg (dgL [X'.re.val, X'.im.val, Y'.re.val, Y'.im.val, Z'.re.val, Z'.im.val])) ∧ Below w.heap.size w w' :=
 plusP_c.mono fun _ _ k => ⟨_, _, _, rep3_add h g, k.1, k.2⟩
end Go.Proofs.YtfkfljohhabldaaDoor
namespace Go.FourQ
open Go.RowKit
end Go.FourQ
namespace Go.FourQ
open Go.RowKit
/-- From this place on there are the sixteen bytes of a number. -/
def C16 (w : World) (b o x : Nat) : Prop := ∀ j, j < 16 → w.cell? ⟨b, o + j, none⟩ = some (byteV x j)
theorem C16.of_heap {w w' : World} {b o x : Nat} (h : C16 w b o x) (e : w'.heap[b]? = w.heap[b]?) : C16 w' b o x := fun j hj => by
 rw [← h j hj]; unfold World.cell?; rw [e]
theorem C16.alloc {w : World} {b o x : Nat} (h : C16 w b o x) (ob : Obj) : C16 (w.alloc ob) b o x := fun j hj => Lib.cell?_alloc_some _ (h j hj)
end Go.FourQ
namespace Go.Proofs.YtfkfljohhabldaaDoor
open Go.RowKit Go.FourQ
end Go.Proofs.YtfkfljohhabldaaDoor
namespace Go.FourQ
open Go.RowKit
theorem run_loadB {P : Program} {ρ : Operand → Value} {o : Oper} {w : World} {ty : TypeId} {x : Operand} {b off : Nat} {v : Value} {k : IntKind} (ho : o.op = .load ty x) (hx : ρ x = .pointer (some ⟨b, off, none⟩)) (hu : P.underlying ty = some (.int k))
   (hc : w.cell? ⟨b, off, none⟩ = some v) : (execOp ρ o).run P w = .ok (.value v) w := by
 unfold execOp
 simp [ho, hx, Instr.loadAt, Instr.sureAddr, loadVar, isAgg, run_underlying hu, hc, Result.andThen]
theorem run_storeB {P : Program} {ρ : Operand → Value} {o : Oper} {w : World} {ty : TypeId} {x y : Operand} {b off : Nat} {n : Int} {old : Value} {k : IntKind} (ho : o.op = .store ty x y) (hx : ρ x = .pointer (some ⟨b, off, none⟩)) (hy : ρ y = .int k n) (hi : (P.info? ty).map (·.size) = some 1)
   (hc : w.cell? ⟨b, off, none⟩ = some old) (hf : w.frozen? ⟨b, off, none⟩ = false) : (execOp ρ o).run P w = .ok .skip (w.setCell ⟨b, off, none⟩ (.int k n)) := by
 obtain ⟨i, hi1, hi2⟩ : ∃ i, P.info? ty = some i ∧ i.size = 1 := by
   cases h : P.info? ty with
   | none => simp [h] at hi
   | some i => exact ⟨i, rfl, by simpa [h] using hi⟩
 have e : ((⟨b, off, none⟩ : Addr).add 0) = ⟨b, off, none⟩ := by rw [Addr.add_lit]; rfl
 have hst : (store (⟨b, off, none⟩ : Addr) (.int k n)).run P w = .ok () (w.setCell ⟨b, off, none⟩ (.int k n)) := by
   rw [run_store P w _ _ _ rfl, hc]
   simp [hf]
 unfold execOp
 simp [ho, hx, hy, Instr.storeAt, Instr.sureAddr, storeVar, sizeOf, typeInfo, hi1, hi2, Value.cells, storeCells, e, Result.andThen, hst]
/-- w' is w, but that these two blocks hold other elements (of the second one the very bytes); there may be new blocks. -/
structure Upd2 (w w' : World) (b1 : Nat) (L : List Zp) (b2 : Nat) (l : List Nat) : Prop where
 os : w'.os = w.os
 tape : w'.tape = w.tape
 output : w'.output = w.output
 size : w.heap.size ≤ w'.heap.size
 blk1 : FpsZ w' b1 L
 blk2 : Fps w' b2 l
 other : ∀ k, k < w.heap.size → k ≠ b1 → k ≠ b2 → w'.heap[k]? = w.heap[k]?
theorem Upd2.drew {w w' : World} {b1 b2 : Nat} {L : List Zp} {l : List Nat} (h : Upd2 w.drew w' b1 L b2 l) : Upd2 w w' b1 L b2 l := ⟨h.os, h.tape, h.output, h.size, h.blk1, h.blk2, h.other⟩
theorem Upd2.of {w wm w' : World} {b1 b2 : Nat} {L : List Zp} {l : List Nat} (u : UpdZ w wm b1 L) (v : Upd wm w' b2 l) (hne : b1 ≠ b2) : Upd2 w w' b1 L b2 l :=
 ⟨v.os.trans u.os, v.tape.trans u.tape, v.output.trans u.output, Nat.le_trans u.size v.size, u.blk.of_heap (v.other _ u.blk.lt hne), v.blk, fun k hk h1 h2 => (v.other k (Nat.lt_of_lt_of_le hk u.size) h2).trans (u.other k hk h1)⟩
theorem Upd2.start {w : World} {b1 b2 : Nat} {L : List Zp} {l : List Nat} (h1 : FpsZ w b1 L) (h2 : Fps w b2 l) : Upd2 w w b1 L b2 l := ⟨rfl, rfl, rfl, Nat.le_refl _, h1, h2, fun _ _ _ _ => rfl⟩
theorem Upd2.trans {w wm w' : World} {b1 b2 : Nat} {L M : List Zp} {l m : List Nat} (u : Upd2 w wm b1 L b2 l) (v : Upd2 wm w' b1 M b2 m) : Upd2 w w' b1 M b2 m :=
 ⟨v.os.trans u.os, v.tape.trans u.tape, v.output.trans u.output, Nat.le_trans u.size v.size, v.blk1, v.blk2, fun k hk h1 h2 => (v.other k (Nat.lt_of_lt_of_le hk u.size) h1 h2).trans (u.other k hk h1 h2)⟩
/-- A number below 2^127 with the highest bit of 16 bytes set s times (s = 0 or 1). -/
def top (s y : Nat) : Nat := y + 170141183460469231731687303715884105728 * s
end Go.FourQ
namespace Go.FourQ
theorem prim_1576049 : Prim 1576049 := prim_of_trialB (k := 1256) (by decide) (by decide) (by decide +kernel)
theorem prim_257 : Prim 257 := prim_of_trialB (k := 17) (by decide) (by decide) (by decide +kernel)
theorem pw_366671478348367 : pwm 366671478348367 49 2 (366671478348367 - 1) = 1 := by decide +kernel
theorem st_366671478348367_1576049 {r : Nat} (hr : Prim r) (hrn : r ∣ 366671478348367) : 1576049 ∣ r - 1 :=
 pock_step' (a := 2) (m := 232652334) (u := 181893442360233) (v := 56707575492623) (f := 49) hr hrn (by decide +kernel) prim_1576049 (by decide +kernel) pw_366671478348367 (by decide +kernel) (by decide +kernel) (by decide +kernel)
theorem st_366671478348367_257 {r : Nat} (hr : Prim r) (hrn : r ∣ 366671478348367) : 257 ∣ r - 1 :=
 pock_step' (a := 2) (m := 1426737269838) (u := 286794213521482) (v := 242879921166049) (f := 49) hr hrn (by decide +kernel) prim_257 (by decide +kernel) pw_366671478348367 (by decide +kernel) (by decide +kernel) (by decide +kernel)
theorem prim_366671478348367 : Prim 366671478348367 := by
 refine Classical.byContradiction fun hp => ?_
 obtain ⟨r, hr, hrn, hle⟩ := exists_small_prim (by decide +kernel : 2 ≤ 366671478348367) hp
 have h0 : 0 < r - 1 := Nat.sub_pos_of_lt hr.1
 have c0 := st_366671478348367_1576049 hr hrn
 have c1 : 405044593 ∣ r - 1 := mul_dvd_num (by decide +kernel) (by decide +kernel) c0 (st_366671478348367_257 hr hrn)
 exact big_square (Nat.le_trans (Nat.le_of_dvd h0 c1) (Nat.sub_le r 1)) (by decide +kernel) hle
theorem pw_29633655537158324207 : pwm 29633655537158324207 65 2 (29633655537158324207 - 1) = 1 := by decide +kernel
theorem st_29633655537158324207_366671478348367 {r : Nat} (hr : Prim r) (hrn : r ∣ 29633655537158324207) : 366671478348367 ∣ r - 1 :=
 pock_step' (a := 2) (m := 80818) (u := 11707349577094880737) (v := 5326499546523671203) (f := 65) hr hrn (by decide +kernel) prim_366671478348367 (by decide +kernel) pw_29633655537158324207 (by decide +kernel) (by decide +kernel) (by decide +kernel)
theorem prim_29633655537158324207 : Prim 29633655537158324207 := by
 refine Classical.byContradiction fun hp => ?_
 obtain ⟨r, hr, hrn, hle⟩ := exists_small_prim (by decide +kernel : 2 ≤ 29633655537158324207) hp
 have h0 : 0 < r - 1 := Nat.sub_pos_of_lt hr.1
 have c0 := st_29633655537158324207_366671478348367 hr hrn
 exact big_square (Nat.le_trans (Nat.le_of_dvd h0 c0) (Nat.sub_le r 1)) (by decide +kernel) hle
theorem prim_374093 : Prim 374093 := prim_of_trialB (k := 612) (by decide) (by decide) (by decide +kernel)
theorem pw_95178976488652476489556669482413803056485341 : pwm 95178976488652476489556669482413803056485341 147 2 (95178976488652476489556669482413803056485341 - 1) = 1 := by decide +kernel
theorem st_95178976488652476489556669482413803056485341_29633655537158324207 {r : Nat} (hr : Prim r) (hrn : r ∣ 95178976488652476489556669482413803056485341) : 29633655537158324207 ∣ r - 1 :=
 pock_step' (a := 2) (m := 3211854047817535115611620) (u := 53717601577762322685029272580056774588975632) (v := 41465302440814400003570493316704544570591067) (f := 147) hr hrn (by decide +kernel) prim_29633655537158324207 (by decide +kernel) pw_95178976488652476489556669482413803056485341 (by decide +kernel) (by decide +kernel) (by decide +kernel)
theorem st_95178976488652476489556669482413803056485341_374093 {r : Nat} (hr : Prim r) (hrn : r ∣ 95178976488652476489556669482413803056485341) : 374093 ∣ r - 1 :=
 pock_step' (a := 2) (m := 254425975596048245996467909002343810380) (u := 72390648051460331692892342595482161423860826) (v := 21612764211209529731630850327054654750052883) (f := 147) hr hrn (by decide +kernel) prim_374093 (by decide +kernel) pw_95178976488652476489556669482413803056485341 (by decide +kernel) (by decide +kernel) (by decide +kernel)
theorem prim_95178976488652476489556669482413803056485341 : Prim 95178976488652476489556669482413803056485341 := by
 refine Classical.byContradiction fun hp => ?_
 obtain ⟨r, hr, hrn, hle⟩ := exists_small_prim (by decide +kernel : 2 ≤ 95178976488652476489556669482413803056485341) hp
 have h0 : 0 < r - 1 := Nat.sub_pos_of_lt hr.1
 have c0 := st_95178976488652476489556669482413803056485341_29633655537158324207 hr hrn
 have c1 : 11085743100862168977569251 ∣ r - 1 := mul_dvd_num (by decide +kernel) (by decide +kernel) c0 (st_95178976488652476489556669482413803056485341_374093 hr hrn)
 exact big_square (Nat.le_trans (Nat.le_of_dvd h0 c1) (Nat.sub_le r 1)) (by decide +kernel) hle
/-- The order of the base point. -/
def NN : Nat := 73846995687063900142583536357581573884798075859800097461294096333596429543
theorem pw_NN : pwm NN 246 2 (NN - 1) = 1 := by decide +kernel
theorem st_NN_95178976488652476489556669482413803056485341 {r : Nat} (hr : Prim r) (hrn : r ∣ NN) : 95178976488652476489556669482413803056485341 ∣ r - 1 :=
 pock_step' (a := 2) (m := 775875076738907365924924722462) (u := 9818004492535613666053830844299612635146839686280855761731195950979372925) (v := 6241067830886850043041725419222253168887287832361976689246921206897444643) (f := 246) hr hrn (by decide +kernel) prim_95178976488652476489556669482413803056485341 (by decide +kernel) pw_NN (by decide +kernel) (by decide +kernel) (by decide +kernel)
theorem prim_NN : Prim NN := by
 refine Classical.byContradiction fun hp => ?_
 obtain ⟨r, hr, hrn, hle⟩ := exists_small_prim (by decide +kernel : 2 ≤ NN) hp
 have h0 : 0 < r - 1 := Nat.sub_pos_of_lt hr.1
 have c0 := st_NN_95178976488652476489556669482413803056485341 hr hrn
 exact big_square (Nat.le_trans (Nat.le_of_dvd h0 c0) (Nat.sub_le r 1)) (by decide +kernel) hle
end Go.FourQ
namespace Go.FourQ
theorem or_1 (x y z d : Zq) : ((((y * y) - (x * x)) - ((z * z) - (x * x))) - ((1 + (d * ((x * x) * (y * y)))) - (1 + (d * ((x * x) * (z * z)))))) = (((y * y) - (z * z)) * (1 - (d * (x * x)))) := ring_eq zqR (fun i => [x, y, z, d].getD i 0) (.sub (.sub (.sub (.mul (.v 1) (.v 1)) (.mul (.v 0) (.v 0))) (.sub (.mul (.v 2) (.v 2)) (.mul (.v 0) (.v 0)))) (.sub (.add (.n 1) (.mul (.v 3) (.mul (.mul (.v 0) (.v 0)) (.mul (.v 1) (.v 1))))) (.add (.n 1) (.mul (.v 3) (.mul (.mul (.v 0) (.v 0)) (.mul (.v 2) (.v 2))))))) (.mul (.sub (.mul (.v 1) (.v 1)) (.mul (.v 2) (.v 2))) (.sub (.n 1) (.mul (.v 3) (.mul (.v 0) (.v 0))))) (by kernel_rfl)
theorem or_2 (y z : Zq) : ((y - z) * (y + z)) = ((y * y) - (z * z)) := ring_eq zqR (fun i => [y, z].getD i 0) (.mul (.sub (.v 0) (.v 1)) (.add (.v 0) (.v 1))) (.sub (.mul (.v 0) (.v 0)) (.mul (.v 1) (.v 1))) (by kernel_rfl)
theorem or_3 (x y : Zq) : ((((y * y) - (x * x)) * ((y * y) - (x * x))) + (((x * y) + (y * x)) * ((x * y) + (y * x)))) = (((y * y) + (x * x)) * ((y * y) + (x * x))) := ring_eq zqR (fun i => [x, y].getD i 0) (.add (.mul (.sub (.mul (.v 1) (.v 1)) (.mul (.v 0) (.v 0))) (.sub (.mul (.v 1) (.v 1)) (.mul (.v 0) (.v 0)))) (.mul (.add (.mul (.v 0) (.v 1)) (.mul (.v 1) (.v 0))) (.add (.mul (.v 0) (.v 1)) (.mul (.v 1) (.v 0))))) (.mul (.add (.mul (.v 1) (.v 1)) (.mul (.v 0) (.v 0))) (.add (.mul (.v 1) (.v 1)) (.mul (.v 0) (.v 0)))) (by kernel_rfl)
theorem or_4 (P X : Zq) : ((P * P) * (1 + (X * X))) = ((P * P) + ((P * X) * (P * X))) := ring_eq zqR (fun i => [P, X].getD i 0) (.mul (.mul (.v 0) (.v 0)) (.add (.n 1) (.mul (.v 1) (.v 1)))) (.add (.mul (.v 0) (.v 0)) (.mul (.mul (.v 0) (.v 1)) (.mul (.v 0) (.v 1)))) (by kernel_rfl)
theorem or_5 (a P : Zq) : ((a * P) * (a * P)) = ((a * a) * (P * P)) := ring_eq zqR (fun i => [a, P].getD i 0) (.mul (.mul (.v 0) (.v 1)) (.mul (.v 0) (.v 1))) (.mul (.mul (.v 0) (.v 0)) (.mul (.v 1) (.v 1))) (by kernel_rfl)
theorem or_6 (a P X : Zq) : (((P * P) * X) * (a * a)) = (((P * a) * (P * a)) * X) := ring_eq zqR (fun i => [a, P, X].getD i 0) (.mul (.mul (.mul (.v 1) (.v 1)) (.v 2)) (.mul (.v 0) (.v 0))) (.mul (.mul (.mul (.v 1) (.v 0)) (.mul (.v 1) (.v 0))) (.v 2)) (by kernel_rfl)
theorem or_7 (a d : Zq) : ((((d * a) - 1) * ((d * a) - 1)) - (1 + d)) = (d * (((-a) - a) - (1 + (d * (a * (-a)))))) := ring_eq zqR (fun i => [a, d].getD i 0) (.sub (.mul (.sub (.mul (.v 1) (.v 0)) (.n 1)) (.sub (.mul (.v 1) (.v 0)) (.n 1))) (.add (.n 1) (.v 1))) (.mul (.v 1) (.sub (.sub (.neg (.v 0)) (.v 0)) (.add (.n 1) (.mul (.v 1) (.mul (.v 0) (.neg (.v 0))))))) (by kernel_rfl)
theorem or_8 (a b : Zq) : ((a - b) * (a + b)) = ((a * a) - (b * b)) := ring_eq zqR (fun i => [a, b].getD i 0) (.mul (.sub (.v 0) (.v 1)) (.add (.v 0) (.v 1))) (.sub (.mul (.v 0) (.v 0)) (.mul (.v 1) (.v 1))) (by kernel_rfl)
theorem or_10 (v d x : Zq) : ((v * v) * (d * (x * x))) = ((d * (x * v)) * (x * v)) := ring_eq zqR (fun i => [v, d, x].getD i 0) (.mul (.mul (.v 0) (.v 0)) (.mul (.v 1) (.mul (.v 2) (.v 2)))) (.mul (.mul (.v 1) (.mul (.v 2) (.v 0))) (.mul (.v 2) (.v 0))) (by kernel_rfl)
theorem or_9 (a b c : Zq) : ((a - b) - c) = (a - (b + c)) := ring_eq zqR (fun i => [a, b, c].getD i 0) (.sub (.sub (.v 0) (.v 1)) (.v 2)) (.sub (.v 0) (.add (.v 1) (.v 2))) (by kernel_rfl)
theorem qeq_neg {a b : Zq} (h : a + b = 0) : a = -b := zqR.eq_neg (a := b) (b := a) ((qadd_comm b a).trans h)
theorem mul_two_pt (p : Pt) : Pt.mul 2 p = p + p := by rw [show 2 = 1 + 1 from rfl, mul_add_pt, mul_one_pt]
theorem mul_dbl_pt (m : Nat) (p : Pt) : Pt.mul (2 * m) p = Pt.mul m (p + p) := by rw [Nat.mul_comm, mul_mul_pt, mul_two_pt]
def padd (a b : Zq × Zq × Zq) : Zq × Zq × Zq :=
 (a.2.2 * b.2.2 * ((a.2.2 * b.2.2 * (a.2.2 * b.2.2) - dd * (a.1 * b.1 * (a.2.1 * b.2.1))) * ((a.1 + a.2.1) * (b.1 + b.2.1) - a.1 * b.1 - a.2.1 * b.2.1)),
  a.2.2 * b.2.2 * ((a.2.2 * b.2.2 * (a.2.2 * b.2.2) + dd * (a.1 * b.1 * (a.2.1 * b.2.1))) * (a.2.1 * b.2.1 + a.1 * b.1)),
  (a.2.2 * b.2.2 * (a.2.2 * b.2.2) - dd * (a.1 * b.1 * (a.2.1 * b.2.1))) * (a.2.2 * b.2.2 * (a.2.2 * b.2.2) + dd * (a.1 * b.1 * (a.2.1 * b.2.1))))
/-- k times, k below 2^f. -/
def pmul : Nat → Nat → Zq × Zq × Zq → Zq × Zq × Zq
 | 0, _, _ => (0, 1, 1)
 | f + 1, k, t => if k % 2 = 1 then padd (pmul f (k / 2) (padd t t)) t else pmul f (k / 2) (padd t t)
def R3 (p : Pt) (t : Zq × Zq × Zq) : Prop := Rep3 p t.1 t.2.1 t.2.2
theorem r3_add {p q : Pt} {a b : Zq × Zq × Zq} (h1 : R3 p a) (h2 : R3 q b) : R3 (p + q) (padd a b) := rep3_add h1 h2
theorem r3_mul : ∀ (f k : Nat) (p : Pt) (t : Zq × Zq × Zq), k < 2 ^ f → R3 p t → R3 (Pt.mul k p) (pmul f k t)
 | 0, k, p, t, hk, _ => by
   have : k = 0 := by simpa using hk
   subst this; exact rep3_at Pt.zero
 | f + 1, k, p, t, hk, h => by
   have ih := r3_mul f (k / 2) (p + p) (padd t t) (by rw [Nat.pow_succ] at hk; omega) (r3_add h h)
   rw [← mul_dbl_pt] at ih
   unfold pmul
   split
   · rename_i ho
     have e : k = 2 * (k / 2) + 1 := by omega
     have := r3_add ih h
     rw [← mul_succ_pt, ← e] at this; exact this
   · rename_i ho
     have e : k = 2 * (k / 2) := by omega
     rw [← e] at ih; exact ih
/-- Whether k times is the point that adds nothing. -/
def killB (f k : Nat) (x y : Zq) : Bool := decide ((pmul f k (x, y, 1)).1 = 0) && decide ((pmul f k (x, y, 1)).2.1 = (pmul f k (x, y, 1)).2.2)
theorem kill_iff {f k : Nat} {p : Pt} (hk : k < 2 ^ f) : killB f k p.x p.y = true ↔ Pt.mul k p = Pt.zero := by
 have h := r3_mul f k p (p.x, p.y, 1) hk (rep3_at p)
 have h2 := rep3_is (q := Pt.zero) h
 unfold killB
 rw [Bool.and_eq_true, decide_eq_true_eq, decide_eq_true_eq]
 rw [show Pt.zero.x = 0 from rfl, show Pt.zero.y = 1 from rfl, qzero_mul, qone_mul] at h2
 constructor
 · rintro ⟨a, b⟩; exact (h2.1 ⟨a.symm, b.symm⟩).symm
 · intro e; have := h2.2 e.symm; exact ⟨this.1.symm, this.2.symm⟩
def isB (f k : Nat) (x y u v : Zq) : Bool := decide (u * (pmul f k (x, y, 1)).2.2 = (pmul f k (x, y, 1)).1) && decide (v * (pmul f k (x, y, 1)).2.2 = (pmul f k (x, y, 1)).2.1)
theorem isB_iff {f k : Nat} {p q : Pt} (hk : k < 2 ^ f) : isB f k p.x p.y q.x q.y = true ↔ q = Pt.mul k p := by
 have h := r3_mul f k p (p.x, p.y, 1) hk (rep3_at p)
 have h2 := rep3_is (q := q) h
 unfold isB
 rw [Bool.and_eq_true, decide_eq_true_eq, decide_eq_true_eq]
 exact h2
theorem mul_gcd_pt {p : Pt} : ∀ m n : Nat, Pt.mul m p = Pt.zero → Pt.mul n p = Pt.zero → Pt.mul (Nat.gcd m n) p = Pt.zero := by
 intro m n
 induction m, n using Nat.gcd.induction with
 | H0 n => intro _ h; simpa using h
 | H1 m n hm ih =>
   intro h1 h2
   rw [Nat.gcd_rec]
   refine ih ?_ h1
   have e := Nat.div_add_mod n m
   rw [← e, mul_add_pt, Nat.mul_comm, mul_mul_pt, h1, mul_zero_pt, pt_zero_add] at h2
   exact h2
theorem ord_dvd {p : Pt} {r k : Nat} (hr : ∀ m, m ∣ r → m ≠ r → Pt.mul m p ≠ Pt.zero) (h0 : Pt.mul r p = Pt.zero) (hk : Pt.mul k p = Pt.zero) : r ∣ k := by
 have hg := mul_gcd_pt k r hk h0
 refine Classical.byContradiction fun hn => hr (Nat.gcd k r) (Nat.gcd_dvd_right k r) (fun e => hn (e ▸ Nat.gcd_dvd_left k r)) hg
theorem mul_sub_pt {p : Pt} {a b : Nat} (h : Pt.mul a p = Pt.mul b p) (hab : b ≤ a) : Pt.mul (a - b) p = Pt.zero := by
 have e : a = b + (a - b) := by omega
 rw [e, mul_add_pt] at h
 exact pt_cancel (h.trans (pt_add_zero _).symm)
theorem mod_of_dvd_sub {a b r : Nat} (hab : b ≤ a) (h : r ∣ a - b) : a % r = b % r := by
 obtain ⟨c, hc⟩ := h
 rw [show a = b + r * c by omega, Nat.add_mul_mod_self_left]
theorem ord_mod {p : Pt} {r a b : Nat} (ho : ∀ k, Pt.mul k p = Pt.zero → r ∣ k) (h : Pt.mul a p = Pt.mul b p) : a % r = b % r := by
 rcases Nat.le_total b a with hl | hl
 · exact mod_of_dvd_sub hl (ho _ (mul_sub_pt h hl))
 · exact (mod_of_dvd_sub hl (ho _ (mul_sub_pt h.symm hl))).symm
theorem ord_prim {p : Pt} {r : Nat} (hr : Prim r) (h0 : Pt.mul r p = Pt.zero) (hp : p ≠ Pt.zero) (k : Nat) (hk : Pt.mul k p = Pt.zero) : r ∣ k :=
 ord_dvd (fun m hm hne => by
   rcases hr.2 m hm with e | e
   · subst e; rw [mul_one_pt]; exact hp
   · exact absurd e hne) h0 hk
theorem mul_kill {p : Pt} {r k : Nat} (h : Pt.mul r p = Pt.zero) (hd : r ∣ k) : Pt.mul k p = Pt.zero := by
 obtain ⟨c, rfl⟩ := hd
 rw [Nat.mul_comm, mul_mul_pt, h, mul_zero_pt]
def oG : Pt := ⟨⟨zp 34832242333165934151976439273177494442, zp 40039530084877881816286215037915002870⟩, ⟨zp 18941146186793715734774048165794132615, zp 146361984425930646555497992424795179868⟩, by show _ = _; decide +kernel⟩
def oT : Pt := ⟨⟨zp 31630858359812431316636553192488855392, zp 89475669118418198100516793189400984596⟩, ⟨zp 80665514342051033631170510526483121131, zp 31630858359812431316636553192488855392⟩, by show _ = _; decide +kernel⟩
def oU : Pt := ⟨⟨zp 40205385794857782248040373129695016326, zp 160021929534652388519644400021448246135⟩, ⟨zp 28680408354378427923578102490083085948, zp 3696052937014691857868069252865077002⟩, by show _ = _; decide +kernel⟩
def oV : Pt := ⟨⟨zp 40749383731888531310385757744085428087, zp 59381696130882744451764441533800663079⟩, ⟨zp 51844018596727195463468805445409326413, zp 48374191755970687789738483474694187680⟩, by show _ = _; decide +kernel⟩
theorem killG : Pt.mul NN oG = Pt.zero := (kill_iff (f := 246) (by decide +kernel)).1 (by decide +kernel)
theorem killT : Pt.mul 8 oT = Pt.zero := (kill_iff (f := 4) (by decide +kernel)).1 (by decide +kernel)
theorem killU : Pt.mul 7 oU = Pt.zero := (kill_iff (f := 3) (by decide +kernel)).1 (by decide +kernel)
theorem killV : Pt.mul 7 oV = Pt.zero := (kill_iff (f := 3) (by decide +kernel)).1 (by decide +kernel)
theorem oG_ne : oG ≠ Pt.zero := fun e => absurd (congrArg Pt.y e) (by decide +kernel)
theorem oU_ne : oU ≠ Pt.zero := fun e => absurd (congrArg Pt.y e) (by decide +kernel)
theorem oT_ne : Pt.mul 4 oT ≠ Pt.zero := fun e => absurd ((kill_iff (f := 3) (by decide)).2 e) (by decide +kernel)
theorem oV_ne (k : Nat) (hk : k < 7) : oV ≠ Pt.mul k oU := fun e => by
 have h := (isB_iff (p := oU) (f := 3) (by omega)).2 e
 have : k = 0 ∨ k = 1 ∨ k = 2 ∨ k = 3 ∨ k = 4 ∨ k = 5 ∨ k = 6 := by omega
 rcases this with e' | e' | e' | e' | e' | e' | e' <;> subst e' <;> exact absurd h (by decide +kernel)
theorem prim_7 : Prim 7 := prim_of_trialB (k := 3) (by decide) (by decide) (by decide +kernel)
theorem ordG (k : Nat) (h : Pt.mul k oG = Pt.zero) : NN ∣ k := ord_prim prim_NN killG oG_ne k h
theorem ordU (k : Nat) (h : Pt.mul k oU = Pt.zero) : 7 ∣ k := ord_prim prim_7 killU oU_ne k h
theorem dvd8 {m : Nat} (h : m ∣ 8) (hne : m ≠ 8) : m ∣ 4 := by
 have hle := Nat.le_of_dvd (by decide) h
 obtain ⟨c, hc⟩ := h
 have : m = 0 ∨ m = 1 ∨ m = 2 ∨ m = 3 ∨ m = 4 ∨ m = 5 ∨ m = 6 ∨ m = 7 := by omega
 rcases this with e | e | e | e | e | e | e | e <;> subst e <;> first | decide | omega
theorem ordT (k : Nat) (h : Pt.mul k oT = Pt.zero) : 8 ∣ k := ord_dvd (fun _ hm hne h0 => oT_ne (mul_kill h0 (dvd8 hm hne))) killT h
theorem cop7 {k : Nat} (h : ¬ 7 ∣ k) : ∃ w c, w * k = 1 + 7 * c := by
 have hm : k % 7 ≠ 0 := fun e => h (Nat.dvd_of_mod_eq_zero e)
 have hl := Nat.mod_lt k (by decide : 0 < 7)
 have e := Nat.div_add_mod k 7
 have : k % 7 = 1 ∨ k % 7 = 2 ∨ k % 7 = 3 ∨ k % 7 = 4 ∨ k % 7 = 5 ∨ k % 7 = 6 := by omega
 rcases this with e' | e' | e' | e' | e' | e'
 · exact ⟨1, k / 7, by omega⟩
 · exact ⟨4, 4 * (k / 7) + 1, by omega⟩
 · exact ⟨5, 5 * (k / 7) + 2, by omega⟩
 · exact ⟨2, 2 * (k / 7) + 1, by omega⟩
 · exact ⟨3, 3 * (k / 7) + 2, by omega⟩
 · exact ⟨6, 6 * (k / 7) + 5, by omega⟩
theorem mul_mod_pt {p : Pt} {r : Nat} (h : Pt.mul r p = Pt.zero) (k : Nat) : Pt.mul k p = Pt.mul (k % r) p := by
 conv => lhs; rw [← Nat.div_add_mod k r]
 rw [mul_add_pt, mul_kill h ⟨_, rfl⟩, pt_zero_add]
/-- No multiple of the second point of order 7 but 0 is one of the first. -/
theorem indep {j k : Nat} (h : Pt.mul j oV = Pt.mul k oU) : 7 ∣ j := by
 refine Classical.byContradiction fun hn => ?_
 obtain ⟨w, c, hw⟩ := cop7 hn
 have h2 := congrArg (Pt.mul w) h
 rw [← mul_mul_pt, ← mul_mul_pt, hw, mul_add_pt, mul_one_pt, mul_kill killV ⟨c, rfl⟩, pt_add_zero, mul_mod_pt killU] at h2
 exact oV_ne _ (Nat.mod_lt _ (by decide)) h2
theorem move_pt {a b c e : Pt} {n : Pt} (hb : a + n = Pt.zero) (h : a + b = c + e) : b = e + (c + n) := by
 have : a + b + n = c + e + n := congrArg (fun t => t + n) h
 rw [pt_comm a b, pt_assoc, hb, pt_add_zero, pt_comm c e, pt_assoc] at this
 exact this
theorem indep_le {i j i' j' : Nat} (h : Pt.mul i oU + Pt.mul j oV = Pt.mul i' oU + Pt.mul j' oV) (hl : j' ≤ j) : j % 7 = j' % 7 := by
 have hz : Pt.mul i oU + Pt.mul (6 * i) oU = Pt.zero := by rw [← mul_add_pt]; exact mul_kill killU ⟨i, by omega⟩
 have h2 := move_pt hz h
 rw [← mul_add_pt] at h2
 have e : j = j' + (j - j') := by omega
 rw [e, mul_add_pt] at h2
 exact mod_of_dvd_sub hl (indep (pt_cancel h2))
theorem indep2 {i j i' j' : Nat} (h : Pt.mul i oU + Pt.mul j oV = Pt.mul i' oU + Pt.mul j' oV) : i % 7 = i' % 7 ∧ j % 7 = j' % 7 := by
 have hj : j % 7 = j' % 7 := by
   rcases Nat.le_total j' j with hl | hl
   · exact indep_le h hl
   · exact (indep_le h.symm hl).symm
 refine ⟨ord_mod ordU ?_, hj⟩
 rw [mul_mod_pt killV j, mul_mod_pt killV j', hj, pt_comm, pt_comm (Pt.mul i' oU)] at h
 exact pt_cancel h
def comb (a b c e : Nat) : Pt := Pt.mul a oG + Pt.mul b oT + (Pt.mul c oU + Pt.mul e oV)
theorem mul_comb (n a b c e : Nat) : Pt.mul n (comb a b c e) = comb (n * a) (n * b) (n * c) (n * e) := by
 unfold comb
 rw [mul_dist_pt, mul_dist_pt, mul_dist_pt, mul_mul_pt, mul_mul_pt, mul_mul_pt, mul_mul_pt]
theorem comb_add (a b c e a' b' c' e' : Nat) : comb a b c e + comb a' b' c' e' = comb (a + a') (b + b') (c + c') (e + e') := by
 unfold comb
 rw [mul_add_pt, mul_add_pt, mul_add_pt, mul_add_pt, pt_add4, pt_add4 (Pt.mul a oG), pt_add4 (Pt.mul c oU)]
theorem comb_kill {n : Nat} (h : 56 * NN ∣ n) (a b c e : Nat) : Pt.mul n (comb a b c e) = Pt.zero := by
 obtain ⟨m, rfl⟩ := h
 rw [mul_comb]
 unfold comb
 rw [mul_kill killG ⟨56 * m * a, by rw [Nat.mul_comm 56 NN]; simp only [Nat.mul_assoc]⟩, mul_kill killT ⟨7 * NN * m * b, by rw [show 56 = 8 * 7 from rfl]; simp only [Nat.mul_assoc]⟩,
   mul_kill killU ⟨8 * NN * m * c, by rw [show 56 = 7 * 8 from rfl]; simp only [Nat.mul_assoc]⟩, mul_kill killV ⟨8 * NN * m * e, by rw [show 56 = 7 * 8 from rfl]; simp only [Nat.mul_assoc]⟩, pt_add_zero, pt_add_zero]
theorem comb_neg (a b c e : Nat) : comb a b c e + comb ((NN - 1) * a) (7 * b) (6 * c) (6 * e) = Pt.zero := by
 rw [comb_add]
 unfold comb
 have e1 : a + (NN - 1) * a = NN * a := by
   have := Nat.succ_mul (NN - 1) a
   rw [show Nat.succ (NN - 1) = NN from by decide +kernel] at this
   omega
 rw [mul_kill killG ⟨a, e1⟩, mul_kill killT ⟨b, by omega⟩, mul_kill killU ⟨c, by omega⟩, mul_kill killV ⟨e, by omega⟩, pt_add_zero, pt_add_zero]
theorem comb_inj {a b c e a' b' c' e' : Nat} (h : comb a b c e = comb a' b' c' e') : a % NN = a' % NN ∧ b % 8 = b' % 8 ∧ c % 7 = c' % 7 ∧ e % 7 = e' % 7 := by
 refine ⟨?_, ?_, ?_⟩
 · have h1 := congrArg (Pt.mul 56) h
   rw [mul_comb, mul_comb] at h1
   unfold comb at h1
   have k8 : ∀ t, Pt.mul (56 * t) oT = Pt.zero := fun t => mul_kill killT ⟨7 * t, by omega⟩
   have k7 : ∀ t, Pt.mul (56 * t) oU = Pt.zero := fun t => mul_kill killU ⟨8 * t, by omega⟩
   have k7' : ∀ t, Pt.mul (56 * t) oV = Pt.zero := fun t => mul_kill killV ⟨8 * t, by omega⟩
   simp only [k8, k7, k7', pt_add_zero] at h1
   exact mod_cancel (by decide +kernel : Nat.Coprime NN 56) (ord_mod ordG h1)
 · have h1 := congrArg (Pt.mul (49 * NN)) h
   rw [mul_comb, mul_comb] at h1
   unfold comb at h1
   have kG : ∀ t, Pt.mul (49 * NN * t) oG = Pt.zero := fun t => mul_kill killG ⟨49 * t, by rw [Nat.mul_comm 49 NN, Nat.mul_assoc]⟩
   have kU : ∀ t, Pt.mul (49 * NN * t) oU = Pt.zero := fun t => mul_kill killU ⟨7 * NN * t, by rw [show 49 = 7 * 7 from rfl]; simp only [Nat.mul_assoc]⟩
   have kV : ∀ t, Pt.mul (49 * NN * t) oV = Pt.zero := fun t => mul_kill killV ⟨7 * NN * t, by rw [show 49 = 7 * 7 from rfl]; simp only [Nat.mul_assoc]⟩
   simp only [kG, kU, kV, pt_add_zero, pt_zero_add] at h1
   exact mod_cancel (by decide +kernel : Nat.Coprime 8 (49 * NN)) (ord_mod ordT h1)
 · have h1 := congrArg (Pt.mul (8 * NN)) h
   rw [mul_comb, mul_comb] at h1
   unfold comb at h1
   have kG : ∀ t, Pt.mul (8 * NN * t) oG = Pt.zero := fun t => mul_kill killG ⟨8 * t, by rw [Nat.mul_comm 8 NN, Nat.mul_assoc]⟩
   have kT : ∀ t, Pt.mul (8 * NN * t) oT = Pt.zero := fun t => mul_kill killT ⟨NN * t, by simp only [Nat.mul_assoc]⟩
   simp only [kG, kT, pt_zero_add] at h1
   have h2 := indep2 h1
   have hc : Nat.Coprime 7 (8 * NN) := by decide +kernel
   exact ⟨mod_cancel hc h2.1, mod_cancel hc h2.2⟩
theorem pigeon {n m : Nat} (f : Nat → Nat) (h1 : ∀ i, i < m → f i < n) (h2 : ∀ i j, i < m → j < m → f i = f j → i = j) : m ≤ n := by
 refine Classical.byContradiction fun hlt => ?_
 have hp := perm_of_sub ((List.range m).map f) (List.range n) (map_nodup f _ (range_nodup m) (fun x hx y hy e => h2 x y (List.mem_range.1 hx) (List.mem_range.1 hy) e))
   (by intro x hx; obtain ⟨i, hi, rfl⟩ := List.mem_map.1 hx; exact List.mem_range.2 (h1 i (List.mem_range.1 hi))) (by simp; omega)
 have := hp.length_eq
 simp at this
 omega
def qcode (x : Zq) : Nat := x.re.val + pp * x.im.val
theorem dig_lt {a b n : Nat} (ha : a < n) (hb : b < n) : a + n * b < n * n := by
 have : n * (b + 1) ≤ n * n := Nat.mul_le_mul_left n hb
 rw [Nat.mul_succ] at this
 omega
theorem dig_eq {a b c e n : Nat} (ha : a < n) (hc : c < n) (h : a + n * b = c + n * e) : a = c ∧ b = e := by
 have h1 := congrArg (· % n) h
 simp only [Nat.add_mul_mod_self_left, Nat.mod_eq_of_lt ha, Nat.mod_eq_of_lt hc] at h1
 subst h1
 exact ⟨rfl, Nat.eq_of_mul_eq_mul_left (by omega : 0 < n) (by omega)⟩
theorem qcode_lt (x : Zq) : qcode x < pp * pp := dig_lt x.re.lt x.im.lt
theorem qcode_inj {x y : Zq} (h : qcode x = qcode y) : x = y := by
 have := dig_eq x.re.lt y.re.lt h
 exact Zq.ext (Zp.ext this.1) (Zp.ext this.2)
def ybit (y : Zq) : Nat := if qcode y < qcode (-y) then 1 else 0
theorem ybit_lt (y : Zq) : ybit y < 2 := by unfold ybit; split <;> omega
theorem ybit_neg {y : Zq} (h : ybit (-y) = ybit y) : -y = y := by
 unfold ybit at h
 rw [qneg_neg] at h
 have : qcode (-y) = qcode y := by
   split at h <;> split at h <;> omega
 exact qcode_inj this
def pcode (p : Pt) : Nat := ybit p.y + 2 * qcode p.x
theorem pcode_lt (p : Pt) : pcode p < 2 * (pp * pp) := by
 have h1 := ybit_lt p.y; have h2 := qcode_lt p.x
 unfold pcode; omega
theorem dx_ne (x : Zq) : 1 - dd * (x * x) ≠ 0 := fun e => by
 have h := qeq_of_sub e
 by_cases hx : x = 0
 · subst hx; rw [qmul_zero, qmul_zero] at h; exact qone_ne_zero h
 · have hi := qmul_inv hx
   refine dd_nonsq x.inv ?_
   have h2 := congrArg (fun t => x.inv * x.inv * t) h
   simp only [qmul_one] at h2
   rw [h2, or_10, hi, qmul_one, qmul_one]
theorem same_x {p q : Pt} (h : p.x = q.x) : p.y = q.y ∨ p.y = -q.y := by
 have hp := p.on; have hq := q.on
 unfold OnC at hp hq
 rw [h] at hp
 have e := or_1 q.x p.y q.y dd
 rw [hp, hq, qsub_self] at e
 rcases qmul_eq_zero e.symm with e1 | e1
 · rw [← or_2] at e1
   rcases qmul_eq_zero e1 with e2 | e2
   · exact .inl (qeq_of_sub e2)
   · exact .inr (qeq_neg e2)
 · exact absurd e1 (dx_ne _)
theorem pcode_inj {p q : Pt} (h : pcode p = pcode q) : p = q := by
 have := dig_eq (ybit_lt p.y) (ybit_lt q.y) h
 have hx := qcode_inj this.2
 refine Pt.ext hx ?_
 rcases same_x hx with e | e
 · exact e
 · have h1 := this.1
   rw [e] at h1 ⊢
   exact ybit_neg h1
theorem dm {i j n : Nat} (h1 : i % n = j % n) (h2 : i / n = j / n) : i = j := by
 rw [← Nat.div_add_mod i n, h1, h2, Nat.div_add_mod]
/-- A point or its double is a sum of multiples of the four points. -/
theorem some_in (p : Pt) : ∃ k a b c e : Nat, (k = 1 ∨ k = 2) ∧ Pt.mul k p = comb a b c e := by
 refine Classical.byContradiction fun hn => ?_
 have hno : ∀ k a b c e : Nat, (k = 1 ∨ k = 2) → Pt.mul k p ≠ comb a b c e := fun k a b c e hk h => hn ⟨k, a, b, c, e, hk, h⟩
 have key : ∀ k k' a b c e a' b' c' e' : Nat, k < 3 → k' < k → Pt.mul k p + comb a b c e ≠ Pt.mul k' p + comb a' b' c' e' := by
   intro k k' a b c e a' b' c' e' hk hl h
   rw [show k = k' + (k - k') by omega, mul_add_pt, pt_assoc] at h
   have h2 := pt_cancel h
   rw [pt_comm] at h2
   have h3 := move_pt (comb_neg a b c e) (h2.trans (pt_zero_add _).symm)
   rw [pt_zero_add, comb_add] at h3
   exact hno (k - k') _ _ _ _ (by omega) h3
 have hle := pigeon (n := 2 * (pp * pp)) (m := 3 * (NN * (8 * (7 * 7))))
   (fun i => pcode (Pt.mul (i % 3) p + comb (i / 3 % NN) (i / 3 / NN % 8) (i / 3 / NN / 8 % 7) (i / 3 / NN / 8 / 7 % 7)))
   (fun i _ => pcode_lt _) (fun i j hi hj h => by
     have h1 := pcode_inj h
     have hk : i % 3 = j % 3 := by
       have b1 := Nat.mod_lt i (by decide : 0 < 3); have b2 := Nat.mod_lt j (by decide : 0 < 3)
       rcases Nat.lt_trichotomy (i % 3) (j % 3) with hl | hl | hl
       · exact absurd h1.symm (key _ _ _ _ _ _ _ _ _ _ b2 hl)
       · exact hl
       · exact absurd h1 (key _ _ _ _ _ _ _ _ _ _ b1 hl)
     rw [hk] at h1
     have h2 := comb_inj (pt_cancel h1)
     rw [Nat.mod_mod, Nat.mod_mod, Nat.mod_mod, Nat.mod_mod, Nat.mod_mod, Nat.mod_mod, Nat.mod_mod, Nat.mod_mod] at h2
     have l : ∀ i, i < 3 * (NN * (8 * (7 * 7))) → i / 3 / NN / 8 / 7 < 7 := fun i hi => Nat.div_lt_of_lt_mul (Nat.div_lt_of_lt_mul (Nat.div_lt_of_lt_mul (Nat.div_lt_of_lt_mul hi)))
     have h3 := h2.2.2.2
     rw [Nat.mod_eq_of_lt (l i hi), Nat.mod_eq_of_lt (l j hj)] at h3
     exact dm hk (dm h2.1 (dm h2.2.1 (dm h2.2.2.1 h3))))
 exact absurd hle (by decide +kernel)
/-- 1 and the square of a double's first coordinate are a square. -/
theorem half_sq (p : Pt) : ∃ t : Zq, t * t = 1 + (p + p).x * (p + p).x := by
 have hP := nP_ne p p
 have hx := mul_add_x p p
 have e : nP p.x p.y p.x p.y = p.y * p.y - p.x * p.x := p.on.symm
 refine ⟨(p.y * p.y + p.x * p.x) * (nP p.x p.y p.x p.y).inv, ?_⟩
 have hi := qmul_inv hP
 generalize (p + p).x = X at *
 rw [or_5, ← or_3, ← e]
 rw [show p.x * p.y + p.y * p.x = nX p.x p.y p.x p.y from rfl, ← hx, ← or_4]
 generalize nP p.x p.y p.x p.y = P at *
 generalize P.inv = v at *
 rw [or_6, hi, qone_mul, qone_mul]
theorem two_mul_zero {a b : Zq} (h : a * b + b * a = 0) : a = 0 ∨ b = 0 := by
 rw [qmul_comm b a] at h
 exact qmul_eq_zero (two_ne h)
theorem on_x0 {y : Zq} (h : OnC 0 y) : y * y = 1 := by
 unfold OnC at h
 rw [qzero_mul, qzero_mul, qmul_zero, qadd_zero] at h
 rw [← h]
 show _ = _ + -0
 rw [qneg_zero, qadd_zero]
theorem ord2 {p : Pt} (h : p + p = Pt.zero) : p.x = 0 := by
 have hx := mul_add_x p p
 have hy := mul_add_y p p
 have hon := p.on
 rw [h, show Pt.zero.x = 0 from rfl, qmul_zero] at hx
 rw [h, show Pt.zero.y = 1 from rfl, qmul_one] at hy
 rcases two_mul_zero hx.symm with e | e
 · exact e
 · exfalso
   unfold nM nY at hy
   unfold OnC at hon
   rw [e, qzero_mul, qmul_zero, qmul_zero] at hy hon
   rw [qadd_zero] at hon
   rw [qzero_add, show (1 : Zq) - 0 = 1 from by decide +kernel] at hy
   rw [← hy] at hon
   exact absurd hon (by decide +kernel)
def sd : Zq := ⟨zp 170141183460469231621006839273626796022, zp 101947809620085063283442671593521101409⟩
theorem sd_sq : 1 + dd = sd * sd := by decide +kernel
def c_1 : Zq := ⟨zp 170141183460469231676347071494755450874, zp 34096686920192084224122316061181502159⟩
def c_2 : Zq := ⟨zp 170141183460469231676347071494755450883, zp 24807825491782642415475448210120735757⟩
theorem c1_eq : dd * c_1 = 1 + sd := by decide +kernel
theorem c2_eq : dd * c_2 = 1 - sd := by decide +kernel
theorem dd_ne : dd ≠ 0 := by decide +kernel
theorem c1_norm : (1 + c_1).norm = zp 85070591730234615755163187415684743159 := by decide +kernel
theorem c2_norm : c_2.norm = zp 85070591730234615976524116300199362551 := by decide +kernel
theorem c1_nonsq (s : Zq) : s * s ≠ 1 + c_1 := q_nonsq (E := 85070591730234615865843651857942052863) (by decide +kernel) (by decide) (by rw [c1_norm, zp_pwm 126 _ _ (by decide +kernel)]; decide +kernel) s
theorem c2_nonsq (s : Zq) : s * s ≠ c_2 := q_nonsq (E := 85070591730234615865843651857942052863) (by decide +kernel) (by decide) (by rw [c2_norm, zp_pwm 126 _ _ (by decide +kernel)]; decide +kernel) s
theorem no16' (r : Pt) (h : r + r + (r + r) + (r + r + (r + r)) + (r + r + (r + r) + (r + r + (r + r))) = Pt.zero) : r + r + (r + r) + (r + r + (r + r)) = Pt.zero := by
 obtain ⟨t, ht⟩ := half_sq r
 generalize r + r = s at *
 refine Classical.byContradiction fun hne => ?_
 have wx := ord2 h
 have wy : (s + s + (s + s)).y = -1 := by
   have hon := (s + s + (s + s)).on
   rw [wx] at hon
   have h1 := on_x0 hon
   have h2 : ((s + s + (s + s)).y - 1) * ((s + s + (s + s)).y + 1) = 0 := by rw [or_8, h1, qmul_one, qsub_self]
   rcases qmul_eq_zero h2 with e | e
   · exact absurd (Pt.ext (q := Pt.zero) wx (qeq_of_sub e)) hne
   · exact qeq_neg e
 have qx := mul_add_x (s + s) (s + s)
 have qy := mul_add_y (s + s) (s + s)
 rw [wx, qmul_zero] at qx
 rw [wy] at qy
 have q0 : (s + s).y = 0 := by
   rcases two_mul_zero qx.symm with e | e
   · exfalso
     have hon := (s + s).on
     rw [e] at hon
     have h1 := on_x0 hon
     unfold nM nY at qy
     rw [e, h1, qzero_mul, qzero_mul, qmul_zero, qadd_zero] at qy
     exact absurd qy (by decide +kernel)
   · exact e
 have sy := mul_add_y s s
 have son := s.on
 rw [q0, qmul_zero] at sy
 unfold nY at sy
 unfold OnC at son
 have hy : s.y * s.y = -(s.x * s.x) := qeq_neg sy.symm
 rw [hy] at son
 generalize hA : s.x * s.x = a at *
 have e7 := or_7 a dd
 rw [son, qsub_self, qmul_zero, sd_sq] at e7
 have e8 := qeq_of_sub e7
 have e9 : (dd * a - 1 - sd) * (dd * a - 1 + sd) = 0 := by rw [or_8, e8, qsub_self]
 rcases qmul_eq_zero e9 with e | e
 · have : dd * a = dd * c_1 := by
     rw [or_9] at e
     rw [c1_eq]; exact qeq_of_sub e
   rw [qmul_cancel dd_ne this] at ht
   exact c1_nonsq t ht
 · have : dd * a = dd * c_2 := by
     rw [c2_eq]
     have e2 : dd * a - 1 = -sd := qeq_neg e
     show _ = 1 + -sd
     rw [← e2]
     show _ = 1 + (dd * a + -1)
     rw [qadd_comm 1, qadd_assoc, qadd_comm (-1), qadd_neg, qadd_zero]
   rw [qmul_cancel dd_ne this] at hA
   exact c2_nonsq s.x hA
theorem no16 {r : Pt} (h : Pt.mul 16 r = Pt.zero) : Pt.mul 8 r = Pt.zero := by
 rw [show 16 = 2 * (2 * (2 * 2)) from rfl, mul_dbl_pt, mul_dbl_pt, mul_dbl_pt, mul_two_pt] at h
 rw [show 8 = 2 * (2 * 2) from rfl, mul_dbl_pt, mul_dbl_pt, mul_two_pt]
 exact no16' r h
/-- Each point, 392 N times, is the one that adds nothing. -/
theorem kill_all (p : Pt) : Pt.mul NN (Pt.mul 392 p) = Pt.zero := by
 obtain ⟨k, a, b, c, e, hk, h⟩ := some_in p
 have h1 : Pt.mul (56 * NN) (Pt.mul k p) = Pt.zero := by rw [h]; exact comb_kill ⟨1, (Nat.mul_one _).symm⟩ a b c e
 have h2 : Pt.mul (112 * NN) p = Pt.zero := by
   rcases hk with rfl | rfl
   · rw [mul_one_pt] at h1; exact mul_kill h1 ⟨2, by rw [Nat.mul_assoc, Nat.mul_comm NN 2, ← Nat.mul_assoc]⟩
   · rw [← mul_mul_pt, Nat.mul_assoc, Nat.mul_comm NN 2, ← Nat.mul_assoc] at h1; exact h1
 rw [show 112 = 16 * 7 from rfl, Nat.mul_assoc, mul_mul_pt] at h2
 have h3 := no16 h2
 rw [← mul_mul_pt] at h3
 rw [← mul_mul_pt]
 exact mul_kill h3 ⟨7, by rw [← Nat.mul_assoc, Nat.mul_comm NN 392, Nat.mul_assoc, Nat.mul_assoc, Nat.mul_comm NN 7, ← Nat.mul_assoc, ← Nat.mul_assoc]⟩
end Go.FourQ
namespace Go.FourQ
/-- The number behind i digits. -/
def md (K : Nat) : Nat → Nat
 | 0 => K
 | i + 1 => 2 * (md K i / 32) + 1
/-- Digit i. -/
def dg65 (K : Nat) (i : Nat) : Int := if i < 64 then ((md K i % 32 : Nat) : Int) - 16 else ((md K 64 : Nat) : Int)
theorem md_odd {K : Nat} (h : K % 2 = 1) : ∀ i, md K i % 2 = 1
 | 0 => h
 | i + 1 => by show (2 * (md K i / 32) + 1) % 2 = 1; omega
theorem md_step {K i : Nat} (h : K % 2 = 1) : ((md K i : Nat) : Int) = 16 * ((md K (i + 1) : Nat) : Int) + (((md K i % 32 : Nat) : Int) - 16) := by
 have := md_odd h i
 show _ = 16 * ((2 * (md K i / 32) + 1 : Nat) : Int) + _
 omega
theorem md_bound (K : Nat) : ∀ i, 15 * (md K i * 16 ^ i) + 16 ≤ 15 * K + 16 * 16 ^ i
 | 0 => by show 15 * (K * 1) + 16 ≤ 15 * K + 16 * 1; omega
 | i + 1 => by
   have ih := md_bound K i
   show 15 * ((2 * (md K i / 32) + 1) * 16 ^ (i + 1)) + 16 ≤ 15 * K + 16 * 16 ^ (i + 1)
   have h1 : (2 * (md K i / 32) + 1) * 16 ^ (i + 1) ≤ md K i * 16 ^ i + 16 ^ (i + 1) := by
     have h2 : (2 * (md K i / 32)) * 16 ≤ md K i := by omega
     have h3 := Nat.mul_le_mul_right (16 ^ i) h2
     rw [Nat.pow_succ, Nat.add_mul, Nat.one_mul]
     rw [Nat.mul_assoc, Nat.mul_comm 16 (16 ^ i)] at h3
     omega
   rw [Nat.pow_succ] at h1 ⊢
   generalize 16 ^ i = P at *
   generalize md K i * P = Q at *
   omega
theorem md_last {K : Nat} (h : K % 2 = 1) (hK : K < 2 ^ 256 + 2 ^ 246) : md K 64 = 1 := by
 have h1 := md_bound K 64
 have h2 := md_odd h 64
 have e : (16 : Nat) ^ 64 = 115792089237316195423570985008687907853269984665640564039457584007913129639936 := by decide
 rw [e] at h1
 have h3 : (2 : Nat) ^ 256 + 2 ^ 246 < 116000000000000000000000000000000000000000000000000000000000000000000000000000 := by decide
 generalize md K 64 = m at *
 omega
theorem dg_odd {K i : Nat} (h : K % 2 = 1) (hK : K < 2 ^ 256 + 2 ^ 246) : ∃ n : Nat, n % 2 = 1 ∧ n ≤ 15 ∧ (dg65 K i = (n : Int) ∨ dg65 K i = -(n : Int)) := by
 unfold dg65
 split
 · have := md_odd h i
   by_cases hl : md K i % 32 ≤ 16
   · exact ⟨16 - md K i % 32, by omega, by omega, .inr (by omega)⟩
   · exact ⟨md K i % 32 - 16, by omega, by omega, .inl (by omega)⟩
 · exact ⟨1, rfl, by decide, .inl (by rw [md_last h hK])⟩
/-- From the digits on top of it the number is told: sixteen times, and the digit's multiple. -/
theorem md_tell {K i : Nat} (h : K % 2 = 1) (hi : i < 64) (Q : Pt) {n : Nat} (hn : dg65 K i = (n : Int)) : Pt.mul 16 (Pt.mul (md K (i + 1)) Q) + Pt.mul n Q = Pt.mul (md K i) Q := by
 have e := md_step h (i := i)
 unfold dg65 at hn
 rw [if_pos hi] at hn
 rw [← mul_mul_pt, ← mul_add_pt]
 congr 1; omega
theorem md_tell' {K i : Nat} (h : K % 2 = 1) (hi : i < 64) (Q : Pt) {n : Nat} (hn : dg65 K i = -(n : Int)) : Pt.mul 16 (Pt.mul (md K (i + 1)) Q) + (Pt.mul n Q).neg = Pt.mul (md K i) Q := by
 have e := md_step h (i := i)
 unfold dg65 at hn
 rw [if_pos hi] at hn
 rw [← mul_mul_pt]
 have e2 : 16 * md K (i + 1) = md K i + n := by omega
 rw [e2, mul_add_pt, pt_assoc, pt_add_neg, pt_add_zero]
/-- The number that is told: K, or K and the order where K is even. -/
def oddK (K : Nat) : Nat := if K % 2 = 0 then K + NN else K
theorem oddK_odd (K : Nat) : oddK K % 2 = 1 := by
 unfold oddK
 have : NN % 2 = 1 := by decide +kernel
 split <;> omega
theorem oddK_lt {K : Nat} (h : K < 2 ^ 256) : oddK K < 2 ^ 256 + 2 ^ 246 := by
 unfold oddK
 have : NN < 2 ^ 246 := by decide +kernel
 split <;> omega
theorem oddK_mul (K : Nat) (p : Pt) : Pt.mul (oddK K) (Pt.mul 392 p) = Pt.mul K (Pt.mul 392 p) := by
 unfold oddK
 split
 · rw [mul_add_pt, kill_all, pt_add_zero]
 · rfl
end Go.FourQ
namespace Go.Proofs.YtfkfljohhabldaaDoor
open Go.RowKit Go.FourQ
section
variable {w : World} {b1 b2 o1 o2 k1 : Nat} {L1 : List Zp} {z0 z1 : Zp} {u v : Nat}
theorem ModW.upd2 {w w' : World} {b1 b2 : Nat} {L : List Zp} {l : List Nat} (h : ModW w) (u : Upd2 w w' b1 L b2 l) (h1 : 5 ≤ b1) (h2 : 5 ≤ b2) : ModW w' := h.of_heap (u.other _ h.lt (Nat.ne_of_lt (Nat.lt_of_lt_of_le (by decide) h1)) (Nat.ne_of_lt (Nat.lt_of_lt_of_le (by decide) h2)))
end
end Go.Proofs.YtfkfljohhabldaaDoor
namespace Go.FourQ
end Go.FourQ
