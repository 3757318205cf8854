/- FnPlus: whatever coordinates: true. The package's variables lie below block 5: modulusP holds the prime, paramD the curve's constant. -/
import Derived.Test.YtfkfljohhabldaaDoorMLawIsId
import Derived.Test.YtfkfljohhabldaaDoorMSpP
namespace Go.Proofs.YtfkfljohhabldaaDoor
open Go.RowKit Go.FourQ

set_option maxRecDepth 100000 in
set_option maxHeartbeats 1000000 in
theorem plus_f {w : World} {a0 b0 c0 d0 a1 b1 c1 d1 : Nat} (ha0 : a0 < 256 ^ 16) (hb0 : b0 < 256 ^ 16) (hc0 : c0 < 256 ^ 16) (hd0 : d0 < 256 ^ 16) (ha1 : a1 < 256 ^ 16) (hb1 : b1 < 256 ^ 16) (hc1 : c1 < 256 ^ 16) (hd1 : d1 < 256 ^ 16) (hon : onAll [(a0, b0, c0, d0), (a1, b1, c1, d1)] = false) :
    Calls Tryd.prog 5 #[.agg (fps [a0, b0, c0, d0]), .agg (fps [a1, b1, c1, d1])] w fun e w' => e = .returned (.bool true) ∧ Below w.heap.size w w' := by
  go_enter Tryd.func5, Tryd.ntmps5
  go_upto_region 1 with (fail)
  refine wp_gen (fun WW => Kept w [(w.heap.size, (fps [a0, b0, c0, d0])), (w.heap.size + 1, (fps [a1, b1, c1, d1]))] [] WW) (Kept.zero (nb_alloc (nb_alloc (Below.refl _ _) _) _) (rowsC (row_as (hp2_0 (w := w) _ _) (by kernel_rfl)) (rowsC (row_as (hp2_1 (w := w) _ _) (by kernel_rfl)) rows0))) ?_
  intro W0 K0
  have K1 : Kept w [(w.heap.size, (fps [a0, b0, c0, d0])), (w.heap.size + 1, (fps [a1, b1, c1, d1]))] [] W0 := Kept.mks K0.nb (rowsC (K0.at 0 rfl) (rowsC (K0.at 1 rfl) rows0)) rooms0
  refine wp_region_atS (opsAt Tryd.f5 1) ((true, 0) :: (true, 1) :: (false, 2) :: (false, 3) :: (true, 4) :: (true, 5) :: (true, 6) :: (true, 7) :: (true, 9) :: (true, 11) :: (false, 8) :: (false, 10) :: (false, 12) :: (false, 13) :: (false, 14) :: (true, 15) :: (true, 16) :: []) (Kept w [(w.heap.size, (fps [a0, b0, c0, d0])), (w.heap.size + 1, (fps [a1, b1, c1, d1]))] []) (by kernel_rfl) rfl (by kernel_rfl) (fun _ _ d _ _ h => by cases d <;> exact h) (by kernel_rfl) (by kernel_rfl) K1.drew ?_
  have K2 := K1.drew
  have DK2 : W0.heap.size ≤ W0.drew.heap.size := Nat.le_refl _
  refine k_row (by kernel_rfl) (d := (some 5)) (by kernel_rfl) (ty := 35) (x := (.tmp 2)) (by kernel_rfl) (b := w.heap.size) (by kernel_rfl) (cs := (fps [a0, b0, c0, d0])) (fun _ hs => hs.at 0 rfl) Tryd.underlying35 rfl (by kernel_rfl) ?_
  refine k_row (by kernel_rfl) (d := (some 6)) (by kernel_rfl) (ty := 35) (x := (.tmp 3)) (by kernel_rfl) (b := w.heap.size + 1) (by kernel_rfl) (cs := (fps [a1, b1, c1, d1])) (fun _ hs => hs.at 1 rfl) Tryd.underlying35 rfl (by kernel_rfl) ?_
  refine k_make (by kernel_rfl) (d := (some 7)) (by kernel_rfl) (v := .slice (some ⟨W0.drew.heap.size, 0, none⟩) 2 2) (w' := W0.drew.alloc (.cells (fps [a0, b0, c0, d0, a1, b1, c1, d1]) 35)) (by kernel_rfl) (K2.go ((Below.refl _ _).alloc (Nat.le_refl _) _)) ?_
  intro w3 hw3 K3
  have G3_n : w3.heap[W0.drew.heap.size]? = some (.cells (fps [a0, b0, c0, d0, a1, b1, c1, d1]) 35 (0, 0)) := hw3 ▸ heap_alloc_new _ _
  have S3 : W0.drew.heap.size < w3.heap.size := lt_of_heap G3_n
  have R3_0 : w.heap.size < W0.drew.heap.size := (by obtain ⟨T, h⟩ := K2.at 0 rfl; exact lt_of_heap h)
  have R3_1 : w.heap.size + 1 < W0.drew.heap.size := (by obtain ⟨T, h⟩ := K2.at 1 rfl; exact lt_of_heap h)
  have Z3 : w.heap.size ≤ W0.drew.heap.size := K2.nb.size
  clear hw3
  refine k_call (by kernel_rfl) (d := (some 8)) (by kernel_rfl) (f := 15) (args := #[.slice (some ⟨W0.drew.heap.size, 0, none⟩) 2 2]) (v := .bool false) (fun _ => by kernel_rfl) (on_r (l := [(a0, b0, c0, d0), (a1, b1, c1, d1)]) hon ⟨_, G3_n⟩ (ltsC (lt4 ha0 hb0 hc0 hd0) (ltsC (lt4 ha1 hb1 hc1 hd1) lts0)) (Nat.le_of_ble_eq_true rfl)) (fun w4 hb4 => ⟨K3.go hb4, ?_⟩)
  have K4 := K3.go hb4
  have G4_10 := nb_heap G3_n _ hb4
  have L4 := hb4.size
  refine k_pure (by kernel_rfl) (d := (some 9)) (by kernel_rfl) (v := .bool true) (fun _ => by kernel_rfl) ?_
  refine k_pure (by kernel_rfl) (d := (some 10)) (by kernel_rfl) (v := .bool true) (fun _ => by kernel_rfl) ?_
  refine k_skip (by kernel_rfl) (d := (some 11)) (by kernel_rfl) ?_
  refine k_skip (by kernel_rfl) (d := (some 12)) (by kernel_rfl) ?_
  refine k_skip (by kernel_rfl) (d := (some 14)) (by kernel_rfl) ?_
  refine k_skip (by kernel_rfl) (d := (some 16)) (by kernel_rfl) ?_
  refine k_skip' K4 (by kernel_rfl) (d := (some 13)) (by kernel_rfl) ?_
  refine k_skip' K4 (by kernel_rfl) (d := (some 15)) (by kernel_rfl) ?_
  refine k_skip' K4 (by kernel_rfl) (d := (some 17)) (by kernel_rfl) ?_
  refine k_skip' K4 (by kernel_rfl) (d := (some 18)) (by kernel_rfl) ?_
  refine k_skip' K4 (by kernel_rfl) (d := (some 19)) (by kernel_rfl) ?_
  refine k_pure (by kernel_rfl) (d := (some 20)) (by kernel_rfl) (v := .bool true) (fun _ => by kernel_rfl) ?_
  refine k_pure (by kernel_rfl) (d := (some 4)) (by kernel_rfl) (v := .bool true) (fun _ => by kernel_rfl) ?_
  have K5 : Kept w [(w.heap.size, (fps [a0, b0, c0, d0])), (w.heap.size + 1, (fps [a1, b1, c1, d1])), (W0.drew.heap.size, (fps [a0, b0, c0, d0, a1, b1, c1, d1]))] [] w4 := Kept.zero K4.nb (rowsC (K4.at 0 rfl) (rowsC (K4.at 1 rfl) (rowsC ⟨_, G4_10⟩ rows0)))
  clear G4_10 G3_n
  refine k_end ?_
  go_simp
  go_wp2_with fail
  exact bodyPost_ret_by (by kernel_rfl) (by kernel_rfl) ⟨rfl, K5.nb⟩

set_option maxRecDepth 100000 in
set_option maxHeartbeats 1000000 in
theorem plus_t {w : World} {p q : Pt} {X Y : Zq} (hm : ModW w) (hg : 5 ≤ w.heap.size) (hd : AtZ w 0 0 dd) (hX : (p + q).x = X) (hY : (p + q).y = Y) (hon : onAll [(p.x.re.val, p.x.im.val, p.y.re.val, p.y.im.val), (q.x.re.val, q.x.im.val, q.y.re.val, q.y.im.val)] = true) :
    Calls Tryd.prog 5 #[.agg (fps [(p.x).re.val, (p.x).im.val, (p.y).re.val, (p.y).im.val]), .agg (fps [(q.x).re.val, (q.x).im.val, (q.y).re.val, (q.y).im.val])] w fun e w' => e = .returned (.bool true) ∧ Below w.heap.size w w' := by
  have HX := Lib.hid hX; have HY := Lib.hid hY
  clear hX hY
  go_enter Tryd.func5, Tryd.ntmps5
  go_upto_region 1 with (fail)
  refine wp_gen (fun WW => Kept w [(w.heap.size, (fps [(p.x).re.val, (p.x).im.val, (p.y).re.val, (p.y).im.val])), (w.heap.size + 1, (fps [(q.x).re.val, (q.x).im.val, (q.y).re.val, (q.y).im.val]))] [] WW) (Kept.zero (nb_alloc (nb_alloc (Below.refl _ _) _) _) (rowsC (row_as (hp2_0 (w := w) _ _) (by kernel_rfl)) (rowsC (row_as (hp2_1 (w := w) _ _) (by kernel_rfl)) rows0))) ?_
  intro W0 K0
  have K1 : Kept w [(w.heap.size, (fps [(p.x).re.val, (p.x).im.val, (p.y).re.val, (p.y).im.val])), (w.heap.size + 1, (fps [(q.x).re.val, (q.x).im.val, (q.y).re.val, (q.y).im.val]))] [] W0 := Kept.mks K0.nb (rowsC (K0.at 0 rfl) (rowsC (K0.at 1 rfl) rows0)) rooms0
  refine wp_region_atS (opsAt Tryd.f5 1) ((true, 0) :: (true, 1) :: (false, 2) :: (false, 3) :: (true, 4) :: (true, 5) :: (true, 6) :: (true, 7) :: (true, 9) :: (true, 11) :: (false, 8) :: (false, 10) :: (false, 12) :: (false, 13) :: (false, 14) :: (true, 15) :: (true, 16) :: []) (Kept w [(w.heap.size, (fps [(p.x).re.val, (p.x).im.val, (p.y).re.val, (p.y).im.val])), (w.heap.size + 1, (fps [(q.x).re.val, (q.x).im.val, (q.y).re.val, (q.y).im.val]))] []) (by kernel_rfl) rfl (by kernel_rfl) (fun _ _ d _ _ h => by cases d <;> exact h) (by kernel_rfl) (by kernel_rfl) K1.drew ?_
  have K2 := K1.drew
  have DK2 : W0.heap.size ≤ W0.drew.heap.size := Nat.le_refl _
  refine k_row (by kernel_rfl) (d := (some 5)) (by kernel_rfl) (ty := 35) (x := (.tmp 2)) (by kernel_rfl) (b := w.heap.size) (by kernel_rfl) (cs := (fps [(p.x).re.val, (p.x).im.val, (p.y).re.val, (p.y).im.val])) (fun _ hs => hs.at 0 rfl) Tryd.underlying35 rfl (by kernel_rfl) ?_
  refine k_row (by kernel_rfl) (d := (some 6)) (by kernel_rfl) (ty := 35) (x := (.tmp 3)) (by kernel_rfl) (b := w.heap.size + 1) (by kernel_rfl) (cs := (fps [(q.x).re.val, (q.x).im.val, (q.y).re.val, (q.y).im.val])) (fun _ hs => hs.at 1 rfl) Tryd.underlying35 rfl (by kernel_rfl) ?_
  refine k_make (by kernel_rfl) (d := (some 7)) (by kernel_rfl) (v := .slice (some ⟨W0.drew.heap.size, 0, none⟩) 2 2) (w' := W0.drew.alloc (.cells (fps [(p.x).re.val, (p.x).im.val, (p.y).re.val, (p.y).im.val, (q.x).re.val, (q.x).im.val, (q.y).re.val, (q.y).im.val]) 35)) (by kernel_rfl) (K2.go ((Below.refl _ _).alloc (Nat.le_refl _) _)) ?_
  intro w3 hw3 K3
  have G3_n : w3.heap[W0.drew.heap.size]? = some (.cells (fps [(p.x).re.val, (p.x).im.val, (p.y).re.val, (p.y).im.val, (q.x).re.val, (q.x).im.val, (q.y).re.val, (q.y).im.val]) 35 (0, 0)) := hw3 ▸ heap_alloc_new _ _
  have S3 : W0.drew.heap.size < w3.heap.size := lt_of_heap G3_n
  have R3_0 : w.heap.size < W0.drew.heap.size := (by obtain ⟨T, h⟩ := K2.at 0 rfl; exact lt_of_heap h)
  have R3_1 : w.heap.size + 1 < W0.drew.heap.size := (by obtain ⟨T, h⟩ := K2.at 1 rfl; exact lt_of_heap h)
  have Z3 : w.heap.size ≤ W0.drew.heap.size := K2.nb.size
  clear hw3
  refine k_call (by kernel_rfl) (d := (some 8)) (by kernel_rfl) (f := 15) (args := #[.slice (some ⟨W0.drew.heap.size, 0, none⟩) 2 2]) (v := .bool true) (fun _ => by kernel_rfl) (on_r (l := [(p.x.re.val, p.x.im.val, p.y.re.val, p.y.im.val), (q.x.re.val, q.x.im.val, q.y.re.val, q.y.im.val)]) hon ⟨_, G3_n⟩ (ltsC (ltPt p) (ltsC (ltPt q) lts0)) (Nat.le_of_ble_eq_true rfl)) (fun w4 hb4 => ⟨K3.go hb4, ?_⟩)
  have K4 := K3.go hb4
  have G4_10 := nb_heap G3_n _ hb4
  have L4 := hb4.size
  refine k_pure (by kernel_rfl) (d := (some 9)) (by kernel_rfl) (v := .bool false) (fun _ => by kernel_rfl) ?_
  refine k_pure (by kernel_rfl) (d := (some 10)) (by kernel_rfl) (v := .bool false) (fun _ => by kernel_rfl) ?_
  refine k_row (by kernel_rfl) (d := (some 11)) (by kernel_rfl) (ty := 35) (x := (.tmp 2)) (by kernel_rfl) (b := w.heap.size) (by kernel_rfl) (cs := (fps [(p.x).re.val, (p.x).im.val, (p.y).re.val, (p.y).im.val])) (fun _ hs => hs.at 0 rfl) Tryd.underlying35 rfl (by kernel_rfl) ?_
  refine k_row (by kernel_rfl) (d := (some 12)) (by kernel_rfl) (ty := 35) (x := (.tmp 3)) (by kernel_rfl) (b := w.heap.size + 1) (by kernel_rfl) (cs := (fps [(q.x).re.val, (q.x).im.val, (q.y).re.val, (q.y).im.val])) (fun _ hs => hs.at 1 rfl) Tryd.underlying35 rfl (by kernel_rfl) ?_
  refine k_row (by kernel_rfl) (d := (some 14)) (by kernel_rfl) (ty := 35) (x := (.tmp 2)) (by kernel_rfl) (b := w.heap.size) (by kernel_rfl) (cs := (fps [(p.x).re.val, (p.x).im.val, (p.y).re.val, (p.y).im.val])) (fun _ hs => hs.at 0 rfl) Tryd.underlying35 rfl (by kernel_rfl) ?_
  refine k_row (by kernel_rfl) (d := (some 16)) (by kernel_rfl) (ty := 35) (x := (.tmp 3)) (by kernel_rfl) (b := w.heap.size + 1) (by kernel_rfl) (cs := (fps [(q.x).re.val, (q.x).im.val, (q.y).re.val, (q.y).im.val])) (fun _ hs => hs.at 1 rfl) Tryd.underlying35 rfl (by kernel_rfl) ?_
  refine k_call (by kernel_rfl) (d := (some 13)) (by kernel_rfl) (f := 22) (args := #[.agg (fps [(p.x).re.val, (p.x).im.val, (p.y).re.val, (p.y).im.val]), .agg (fps [(q.x).re.val, (q.x).im.val, (q.y).re.val, (q.y).im.val])]) (v := .agg (fps [X.re.val, X.im.val, Y.re.val, Y.im.val])) (fun _ => by kernel_rfl) (implPlus HX.out HY.out (hm.nb K4.nb) (Nat.le_trans hg K4.nb.size) (hd.nb K4.nb)) (fun w5 hb5 => ⟨K4.go hb5, ?_⟩)
  have K5 := K4.go hb5
  have G5_10 := nb_heap G4_10 _ hb5
  have L5 := hb5.size
  refine k_call (by kernel_rfl) (d := (some 15)) (by kernel_rfl) (f := 23) (args := #[.agg (fps [(p.x).re.val, (p.x).im.val, (p.y).re.val, (p.y).im.val])]) (v := .agg (dgL [(p.x).re.val, (p.x).im.val, (p.y).re.val, (p.y).im.val, ((1 : Zq)).re.val, ((1 : Zq)).im.val])) (fun _ => by kernel_rfl) (at_c) (fun w6 hb6 => ⟨K5.go hb6, ?_⟩)
  have K6 := K5.go hb6
  have G6_10 := nb_heap G5_10 _ hb6
  have L6 := hb6.size
  refine k_call (by kernel_rfl) (d := (some 17)) (by kernel_rfl) (f := 23) (args := #[.agg (fps [(q.x).re.val, (q.x).im.val, (q.y).re.val, (q.y).im.val])]) (v := .agg (dgL [(q.x).re.val, (q.x).im.val, (q.y).re.val, (q.y).im.val, ((1 : Zq)).re.val, ((1 : Zq)).im.val])) (fun _ => by kernel_rfl) (at_c) (fun w7 hb7 => ⟨K6.go hb7, ?_⟩)
  have K7 := K6.go hb7
  have G7_10 := nb_heap G6_10 _ hb7
  have L7 := hb7.size
  refine k_callR (by kernel_rfl) (d := (some 18)) (by kernel_rfl) (f := 24) (args := #[.agg (dgL [(p.x).re.val, (p.x).im.val, (p.y).re.val, (p.y).im.val, ((1 : Zq)).re.val, ((1 : Zq)).im.val]), .agg (dgL [(q.x).re.val, (q.x).im.val, (q.y).re.val, (q.y).im.val, ((1 : Zq)).re.val, ((1 : Zq)).im.val])]) (fun _ => by kernel_rfl) (plusP_r (rep3_at p) (rep3_at q)) (fun _ w8 ⟨X8, Y8, Z8, hr8, he8, hb8⟩ => ⟨_, he8, K7.go hb8, ?_⟩)
  have K8 := K7.go hb8
  have G8_10 := nb_heap G7_10 _ hb8
  have L8 := hb8.size
  refine k_call (by kernel_rfl) (d := (some 19)) (by kernel_rfl) (f := 21) (args := #[.agg (fps [X.re.val, X.im.val, Y.re.val, Y.im.val]), .agg (dgL [X8.re.val, X8.im.val, Y8.re.val, Y8.im.val, Z8.re.val, Z8.im.val])]) (v := .bool true) (fun _ => by kernel_rfl) (told_t (by rw [← HX.out, hr8.x]) (by rw [← HY.out, hr8.y])) (fun w9 hb9 => ⟨K8.go hb9, ?_⟩)
  have K9 := K8.go hb9
  have G9_10 := nb_heap G8_10 _ hb9
  have L9 := hb9.size
  refine k_pure (by kernel_rfl) (d := (some 20)) (by kernel_rfl) (v := .bool true) (fun _ => by kernel_rfl) ?_
  refine k_pure (by kernel_rfl) (d := (some 4)) (by kernel_rfl) (v := .bool true) (fun _ => by kernel_rfl) ?_
  have K10 : Kept w [(w.heap.size, (fps [(p.x).re.val, (p.x).im.val, (p.y).re.val, (p.y).im.val])), (w.heap.size + 1, (fps [(q.x).re.val, (q.x).im.val, (q.y).re.val, (q.y).im.val])), (W0.drew.heap.size, (fps [(p.x).re.val, (p.x).im.val, (p.y).re.val, (p.y).im.val, (q.x).re.val, (q.x).im.val, (q.y).re.val, (q.y).im.val]))] [] w9 := Kept.zero K9.nb (rowsC (K9.at 0 rfl) (rowsC (K9.at 1 rfl) (rowsC ⟨_, G9_10⟩ rows0)))
  clear G9_10 G8_10 G7_10 G6_10 G5_10 G4_10 G3_n
  refine k_end ?_
  go_simp
  go_wp2_with fail
  exact bodyPost_ret_by (by kernel_rfl) (by kernel_rfl) ⟨rfl, K10.nb⟩

theorem fnPlus_c {w : World} {a0 b0 c0 d0 a1 b1 c1 d1 : Nat} (hm : ModW w) (hg : 5 ≤ w.heap.size) (hd : AtZ w 0 0 dd) (ha0 : a0 < 256 ^ 16) (hb0 : b0 < 256 ^ 16) (hc0 : c0 < 256 ^ 16) (hd0 : d0 < 256 ^ 16) (ha1 : a1 < 256 ^ 16) (hb1 : b1 < 256 ^ 16) (hc1 : c1 < 256 ^ 16) (hd1 : d1 < 256 ^ 16) :
    Calls Tryd.prog 5 #[.agg (fps [a0, b0, c0, d0]), .agg (fps [a1, b1, c1, d1])] w fun e w' => e = .returned (.bool true) ∧ Below w.heap.size w w' := by
  cases h0 : onB (a0, b0, c0, d0) with
  | false => exact plus_f ha0 hb0 hc0 hd0 ha1 hb1 hc1 hd1 (by simp only [onAll, List.all, h0, Bool.false_and])
  | true =>
    cases h1 : onB (a1, b1, c1, d1) with
    | false => exact plus_f ha0 hb0 hc0 hd0 ha1 hb1 hc1 hd1 (by simp [onAll, h1])
    | true =>
      obtain ⟨p, rfl, rfl, rfl, rfl⟩ := of_onB h0
      obtain ⟨q, rfl, rfl, rfl, rfl⟩ := of_onB h1
      exact plus_t hm hg hd rfl rfl (by simp only [onAll, List.all, onB_pt, Bool.and_true])
end Go.Proofs.YtfkfljohhabldaaDoor
