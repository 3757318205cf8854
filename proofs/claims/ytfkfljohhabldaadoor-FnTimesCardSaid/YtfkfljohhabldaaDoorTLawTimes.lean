/- FnTimes: whatever number, whatever coordinates: true. The package's variables lie below block 5: modulusP holds the prime, orderGenerator the order, paramD the curve's constant. -/
import Derived.Test.YtfkfljohhabldaaDoorT7
namespace Go.Proofs.YtfkfljohhabldaaDoor
open Go.RowKit Go.FourQ

set_option maxRecDepth 100000 in
set_option maxHeartbeats 1000000 in
theorem times_f {w : World} {lo hi a0 b0 c0 d0 : Nat} (ha0 : a0 < 256 ^ 16) (hb0 : b0 < 256 ^ 16) (hc0 : c0 < 256 ^ 16) (hd0 : d0 < 256 ^ 16) (hon : onAll [(a0, b0, c0, d0)] = false) :
   Calls Tryd.prog 10 #[.agg (fps [lo, hi]), .agg (fps [a0, b0, c0, d0])] w fun e w' => e = .returned (.bool true) ∧ Below w.heap.size w w' := by
 go_enter Tryd.func10, Tryd.ntmps10
 go_upto_region 1 with (fail)
 refine wp_gen (fun WW => Kept w [(w.heap.size, (fps [lo, hi])), (w.heap.size + 1, (fps [a0, b0, c0, d0]))] [] WW) (Kept.zero (nb_alloc (nb_alloc (Below.refl _ _) _) _) (rowsC (row_as (hp2_0 (w := w) _ _) (by kernel_rfl)) (rowsC (row_as (hp2_1 (w := w) _ _) (by kernel_rfl)) rows0))) ?_
 intro W0 K0
 have K1 : Kept w [(w.heap.size, (fps [lo, hi])), (w.heap.size + 1, (fps [a0, b0, c0, d0]))] [] W0 := Kept.mks K0.nb (rowsC (K0.at 0 rfl) (rowsC (K0.at 1 rfl) rows0)) rooms0
 refine wrA (opsAt Tryd.f10 1) ((true, 0) :: (false, 1) :: (false, 2) :: (true, 3) :: (true, 4) :: (true, 5) :: (true, 6) :: (true, 8) :: (true, 11) :: (false, 7) :: (false, 9) :: (false, 10) :: (false, 12) :: (false, 13) :: (true, 14) :: (true, 15) :: []) (Kept w [(w.heap.size, (fps [lo, hi])), (w.heap.size + 1, (fps [a0, b0, c0, d0]))] []) K1.drew ?_
 have K2 := K1.drew
 have DK2 : W0.heap.size ≤ W0.drew.heap.size := Nat.le_refl _
 refine k_row (by kernel_rfl) (d := (some 5)) (by kernel_rfl) (ty := 35) (x := (.tmp 3)) (by kernel_rfl) (b := w.heap.size + 1) (by kernel_rfl) (cs := (fps [a0, b0, c0, d0])) (fun _ hs => hs.at 1 rfl) Tryd.underlying35 rfl (by kernel_rfl) ?_
 refine k_make (by kernel_rfl) (d := (some 6)) (by kernel_rfl) (v := .slice (some ⟨W0.drew.heap.size, 0, none⟩) 1 1) (w' := W0.drew.alloc (.cells (fps [a0, b0, c0, d0]) 35)) (by kernel_rfl) (K2.go ((Below.refl _ _).alloc (Nat.le_refl _) _)) ?_
 intro w3 hw3 K3
 have G3_n : w3.heap[W0.drew.heap.size]? = some (.cells (fps [a0, b0, c0, d0]) 35 (0, 0)) := hw3 ▸ heap_alloc_new _ _
 have S3 : W0.drew.heap.size < w3.heap.size := lt_of_heap G3_n
 have R3_0 : w.heap.size < W0.drew.heap.size := (by obtain ⟨T, h⟩ := K2.at 0 rfl; exact lt_of_heap h)
 have R3_1 : w.heap.size + 1 < W0.drew.heap.size := (by obtain ⟨T, h⟩ := K2.at 1 rfl; exact lt_of_heap h)
 have Z3 : w.heap.size ≤ W0.drew.heap.size := K2.nb.size
 clear hw3
 refine kc (d := some 7) (f := 15) (args := #[.slice (some ⟨W0.drew.heap.size, 0, none⟩) 1 1]) (v := .bool false) (on_r (l := [(a0, b0, c0, d0)]) hon ⟨_, G3_n⟩ (ltsC (lt4 ha0 hb0 hc0 hd0) lts0) (Nat.le_of_ble_eq_true rfl)) (fun w4 hb4 => ⟨K3.go hb4, ?_⟩)
 have K4 := K3.go hb4
 have G4_10 := nb_heap G3_n _ hb4
 have L4 := hb4.size
 refine kp (d := some 8) (v := .bool true) ?_
 refine kp (d := some 9) (v := .bool true) ?_
 refine k_skip (by kernel_rfl) (d := (some 10)) (by kernel_rfl) ?_
 refine k_skip (by kernel_rfl) (d := (some 11)) (by kernel_rfl) ?_
 refine k_skip (by kernel_rfl) (d := (some 13)) (by kernel_rfl) ?_
 refine k_skip (by kernel_rfl) (d := (some 16)) (by kernel_rfl) ?_
 refine k_skip' K4 (by kernel_rfl) (d := (some 12)) (by kernel_rfl) ?_
 refine k_skip' K4 (by kernel_rfl) (d := (some 14)) (by kernel_rfl) ?_
 refine k_skip' K4 (by kernel_rfl) (d := (some 15)) (by kernel_rfl) ?_
 refine k_skip' K4 (by kernel_rfl) (d := (some 17)) (by kernel_rfl) ?_
 refine k_skip' K4 (by kernel_rfl) (d := (some 18)) (by kernel_rfl) ?_
 refine kp (d := some 19) (v := .bool true) ?_
 refine kp (d := some 4) (v := .bool true) ?_
 have K5 : Kept w [(w.heap.size, (fps [lo, hi])), (w.heap.size + 1, (fps [a0, b0, c0, d0])), (W0.drew.heap.size, (fps [a0, b0, c0, d0]))] [] w4 := Kept.zero K4.nb (rowsC (K4.at 0 rfl) (rowsC (K4.at 1 rfl) (rowsC ⟨_, G4_10⟩ rows0)))
 clear G4_10 G3_n
 refine k_end ?_
 go_simp
 go_wp2_with fail
 exact bodyPost_ret_by (by kernel_rfl) (by kernel_rfl) ⟨rfl, K5.nb⟩

set_option maxRecDepth 100000 in
set_option maxHeartbeats 1000000 in
theorem times_t {w : World} {lo hi : Nat} {p S : Pt} (hm : ModW w) (hg : 5 ≤ w.heap.size) (ho : Ds w 1 [3436901888089820391, 16122042576031152537, 17317351579400803557, 11764505149049458]) (hd : AtZ w 0 0 dd) (hl : lo < 256 ^ 16) (hh : hi < 256 ^ 16) (hs : Pt.mul (lo + 340282366920938463463374607431768211456 * hi) (Pt.mul 392 p) = S) (hon : onAll [(p.x.re.val, p.x.im.val, p.y.re.val, p.y.im.val)] = true) :
   Calls Tryd.prog 10 #[.agg (fps [lo, hi]), .agg (fps [(p.x).re.val, (p.x).im.val, (p.y).re.val, (p.y).im.val])] w fun e w' => e = .returned (.bool true) ∧ Below w.heap.size w w' := by
 have HS := Lib.hid hs; have HL := Lib.hid hl; have HH := Lib.hid hh
 clear hs hl hh
 go_enter Tryd.func10, Tryd.ntmps10
 go_upto_region 1 with (fail)
 refine wp_gen (fun WW => Kept w [(w.heap.size, (fps [lo, hi])), (w.heap.size + 1, (fps [(p.x).re.val, (p.x).im.val, (p.y).re.val, (p.y).im.val]))] [] WW) (Kept.zero (nb_alloc (nb_alloc (Below.refl _ _) _) _) (rowsC (row_as (hp2_0 (w := w) _ _) (by kernel_rfl)) (rowsC (row_as (hp2_1 (w := w) _ _) (by kernel_rfl)) rows0))) ?_
 intro W0 K0
 have K1 : Kept w [(w.heap.size, (fps [lo, hi])), (w.heap.size + 1, (fps [(p.x).re.val, (p.x).im.val, (p.y).re.val, (p.y).im.val]))] [] W0 := Kept.mks K0.nb (rowsC (K0.at 0 rfl) (rowsC (K0.at 1 rfl) rows0)) rooms0
 refine wrA (opsAt Tryd.f10 1) ((true, 0) :: (false, 1) :: (false, 2) :: (true, 3) :: (true, 4) :: (true, 5) :: (true, 6) :: (true, 8) :: (true, 11) :: (false, 7) :: (false, 9) :: (false, 10) :: (false, 12) :: (false, 13) :: (true, 14) :: (true, 15) :: []) (Kept w [(w.heap.size, (fps [lo, hi])), (w.heap.size + 1, (fps [(p.x).re.val, (p.x).im.val, (p.y).re.val, (p.y).im.val]))] []) K1.drew ?_
 have K2 := K1.drew
 have DK2 : W0.heap.size ≤ W0.drew.heap.size := Nat.le_refl _
 refine k_row (by kernel_rfl) (d := (some 5)) (by kernel_rfl) (ty := 35) (x := (.tmp 3)) (by kernel_rfl) (b := w.heap.size + 1) (by kernel_rfl) (cs := (fps [(p.x).re.val, (p.x).im.val, (p.y).re.val, (p.y).im.val])) (fun _ hs => hs.at 1 rfl) Tryd.underlying35 rfl (by kernel_rfl) ?_
 refine k_make (by kernel_rfl) (d := (some 6)) (by kernel_rfl) (v := .slice (some ⟨W0.drew.heap.size, 0, none⟩) 1 1) (w' := W0.drew.alloc (.cells (fps [(p.x).re.val, (p.x).im.val, (p.y).re.val, (p.y).im.val]) 35)) (by kernel_rfl) (K2.go ((Below.refl _ _).alloc (Nat.le_refl _) _)) ?_
 intro w3 hw3 K3
 have G3_n : w3.heap[W0.drew.heap.size]? = some (.cells (fps [(p.x).re.val, (p.x).im.val, (p.y).re.val, (p.y).im.val]) 35 (0, 0)) := hw3 ▸ heap_alloc_new _ _
 have S3 : W0.drew.heap.size < w3.heap.size := lt_of_heap G3_n
 have R3_0 : w.heap.size < W0.drew.heap.size := (by obtain ⟨T, h⟩ := K2.at 0 rfl; exact lt_of_heap h)
 have R3_1 : w.heap.size + 1 < W0.drew.heap.size := (by obtain ⟨T, h⟩ := K2.at 1 rfl; exact lt_of_heap h)
 have Z3 : w.heap.size ≤ W0.drew.heap.size := K2.nb.size
 clear hw3
 refine kc (d := some 7) (f := 15) (args := #[.slice (some ⟨W0.drew.heap.size, 0, none⟩) 1 1]) (v := .bool true) (on_r (l := [(p.x.re.val, p.x.im.val, p.y.re.val, p.y.im.val)]) hon ⟨_, G3_n⟩ (ltsC (ltPt p) lts0) (Nat.le_of_ble_eq_true rfl)) (fun w4 hb4 => ⟨K3.go hb4, ?_⟩)
 have K4 := K3.go hb4
 have G4_10 := nb_heap G3_n _ hb4
 have L4 := hb4.size
 refine kp (d := some 8) (v := .bool false) ?_
 refine kp (d := some 9) (v := .bool false) ?_
 refine k_row (by kernel_rfl) (d := (some 10)) (by kernel_rfl) (ty := 63) (x := (.tmp 2)) (by kernel_rfl) (b := w.heap.size) (by kernel_rfl) (cs := (fps [lo, hi])) (fun _ hs => hs.at 0 rfl) Tryd.underlying63 rfl (by kernel_rfl) ?_
 refine k_row (by kernel_rfl) (d := (some 11)) (by kernel_rfl) (ty := 35) (x := (.tmp 3)) (by kernel_rfl) (b := w.heap.size + 1) (by kernel_rfl) (cs := (fps [(p.x).re.val, (p.x).im.val, (p.y).re.val, (p.y).im.val])) (fun _ hs => hs.at 1 rfl) Tryd.underlying35 rfl (by kernel_rfl) ?_
 refine k_row (by kernel_rfl) (d := (some 13)) (by kernel_rfl) (ty := 35) (x := (.tmp 3)) (by kernel_rfl) (b := w.heap.size + 1) (by kernel_rfl) (cs := (fps [(p.x).re.val, (p.x).im.val, (p.y).re.val, (p.y).im.val])) (fun _ hs => hs.at 1 rfl) Tryd.underlying35 rfl (by kernel_rfl) ?_
 refine k_row (by kernel_rfl) (d := (some 16)) (by kernel_rfl) (ty := 63) (x := (.tmp 2)) (by kernel_rfl) (b := w.heap.size) (by kernel_rfl) (cs := (fps [lo, hi])) (fun _ hs => hs.at 0 rfl) Tryd.underlying63 rfl (by kernel_rfl) ?_
 refine kc (d := some 12) (f := 42) (args := #[.agg (fps [lo, hi]), .agg (fps [(p.x).re.val, (p.x).im.val, (p.y).re.val, (p.y).im.val])]) (v := .agg (fps [(S.x).re.val, (S.x).im.val, (S.y).re.val, (S.y).im.val])) (implTimes HS.out (hm.nb K4.nb) (Nat.le_trans hg K4.nb.size) (by obtain ⟨T, h⟩ := ho; exact ⟨T, nb_heap h _ K4.nb⟩) (hd.nb K4.nb) HL.out HH.out) (fun w5 hb5 => ⟨K4.go hb5, ?_⟩)
 have K5 := K4.go hb5
 have G5_10 := nb_heap G4_10 _ hb5
 have L5 := hb5.size
 refine kc (d := some 14) (f := 23) (args := #[.agg (fps [(p.x).re.val, (p.x).im.val, (p.y).re.val, (p.y).im.val])]) (v := .agg (dgL [(p.x).re.val, (p.x).im.val, (p.y).re.val, (p.y).im.val, ((1 : Zq)).re.val, ((1 : Zq)).im.val])) (at_c) (fun w6 hb6 => ⟨K5.go hb6, ?_⟩)
 have K6 := K5.go hb6
 have G6_10 := nb_heap G5_10 _ hb6
 have L6 := hb6.size
 refine kd (d := some 15) (f := 43) (args := #[.agg (dgL [(p.x).re.val, (p.x).im.val, (p.y).re.val, (p.y).im.val, ((1 : Zq)).re.val, ((1 : Zq)).im.val])]) (cleared_c (rep3_at p)) (fun _ w7 ⟨X7, Y7, Z7, hr7, he7, hb7⟩ => ⟨_, he7, K6.go hb7, ?_⟩)
 have K7 := K6.go hb7
 have G7_10 := nb_heap G6_10 _ hb7
 have L7 := hb7.size
 refine kd (d := some 17) (f := 44) (args := #[.agg (dgL [X7.re.val, X7.im.val, Y7.re.val, Y7.im.val, Z7.re.val, Z7.im.val]), .agg (fps [lo, hi])]) (timesP HL.out HH.out hr7) (fun _ w8 ⟨X8, Y8, Z8, hr8, he8, hb8⟩ => ⟨_, he8, K7.go hb8, ?_⟩)
 have K8 := K7.go hb8
 have G8_10 := nb_heap G7_10 _ hb8
 have L8 := hb8.size
 refine kc (d := some 18) (f := 21) (args := #[.agg (fps [(S.x).re.val, (S.x).im.val, (S.y).re.val, (S.y).im.val]), .agg (dgL [X8.re.val, X8.im.val, Y8.re.val, Y8.im.val, Z8.re.val, Z8.im.val])]) (v := .bool true) (told_t (by rw [← HS.out, hr8.x]) (by rw [← HS.out, hr8.y])) (fun w9 hb9 => ⟨K8.go hb9, ?_⟩)
 have K9 := K8.go hb9
 have G9_10 := nb_heap G8_10 _ hb9
 have L9 := hb9.size
 refine kp (d := some 19) (v := .bool true) ?_
 refine kp (d := some 4) (v := .bool true) ?_
 have K10 : Kept w [(w.heap.size, (fps [lo, hi])), (w.heap.size + 1, (fps [(p.x).re.val, (p.x).im.val, (p.y).re.val, (p.y).im.val])), (W0.drew.heap.size, (fps [(p.x).re.val, (p.x).im.val, (p.y).re.val, (p.y).im.val]))] [] w9 := Kept.zero K9.nb (rowsC (K9.at 0 rfl) (rowsC (K9.at 1 rfl) (rowsC ⟨_, G9_10⟩ rows0)))
 clear G9_10 G8_10 G7_10 G6_10 G5_10 G4_10 G3_n
 refine k_end ?_
 go_simp
 go_wp2_with fail
 exact bodyPost_ret_by (by kernel_rfl) (by kernel_rfl) ⟨rfl, K10.nb⟩

theorem fnTimes_c {w : World} {lo hi a0 b0 c0 d0 : Nat} (hm : ModW w) (hg : 5 ≤ w.heap.size) (ho : Ds w 1 [3436901888089820391, 16122042576031152537, 17317351579400803557, 11764505149049458]) (hd : AtZ w 0 0 dd) (hl : lo < 256 ^ 16) (hh : hi < 256 ^ 16) (ha0 : a0 < 256 ^ 16) (hb0 : b0 < 256 ^ 16) (hc0 : c0 < 256 ^ 16) (hd0 : d0 < 256 ^ 16) :
   Calls Tryd.prog 10 #[.agg (fps [lo, hi]), .agg (fps [a0, b0, c0, d0])] w fun e w' => e = .returned (.bool true) ∧ Below w.heap.size w w' := by
 cases h0 : onB (a0, b0, c0, d0) with
 | false => exact times_f ha0 hb0 hc0 hd0 (by simp only [onAll, List.all, h0, Bool.false_and])
 | true =>
   obtain ⟨p, rfl, rfl, rfl, rfl⟩ := of_onB h0
   exact times_t hm hg ho hd hl hh rfl (by simp only [onAll, List.all, onB_pt, Bool.and_true])
end Go.Proofs.YtfkfljohhabldaaDoor
