/- FnGroup: whatever coordinates: true. The package's variables lie below block 5: modulusP holds the prime, paramD the curve's constant. -/
import Derived.Test.YtfkfljohhabldaaDoorGLawIsId
import Derived.Test.YtfkfljohhabldaaDoorG5
namespace Go.Proofs.YtfkfljohhabldaaDoor
open Go.RowKit Go.FourQ

set_option maxRecDepth 100000 in
set_option maxHeartbeats 1000000 in
theorem group_f {w : World} {a0 b0 c0 d0 a1 b1 c1 d1 a2 b2 c2 d2 : Nat} (ha0 : a0 < 256 ^ 16) (hb0 : b0 < 256 ^ 16) (hc0 : c0 < 256 ^ 16) (hd0 : d0 < 256 ^ 16) (ha1 : a1 < 256 ^ 16) (hb1 : b1 < 256 ^ 16) (hc1 : c1 < 256 ^ 16) (hd1 : d1 < 256 ^ 16) (ha2 : a2 < 256 ^ 16) (hb2 : b2 < 256 ^ 16) (hc2 : c2 < 256 ^ 16) (hd2 : d2 < 256 ^ 16) (hon : onAll [(a0, b0, c0, d0), (a1, b1, c1, d1), (a2, b2, c2, d2)] = false) :
    Calls Tryd.prog 8 #[.agg (fps [a0, b0, c0, d0]), .agg (fps [a1, b1, c1, d1]), .agg (fps [a2, b2, c2, d2])] w fun e w' => e = .returned (.bool true) ∧ Below w.heap.size w w' := by
  go_enter Tryd.func8, Tryd.ntmps8
  go_upto_region 1 with (fail)
  refine wp_gen (fun WW => Kept w [(w.heap.size, (fps [a0, b0, c0, d0])), (w.heap.size + 1, (fps [a1, b1, c1, d1])), (w.heap.size + 1 + 1, (fps [a2, b2, c2, d2]))] [] WW) (Kept.zero (nb_alloc (nb_alloc (nb_alloc (Below.refl _ _) _) _) _) (rowsC (row_as (hp3_0 (w := w) _ _ _) (by kernel_rfl)) (rowsC (row_as (hp3_1 (w := w) _ _ _) (by kernel_rfl)) (rowsC (row_as (hp3_2 (w := w) _ _ _) (by kernel_rfl)) rows0)))) ?_
  intro W0 K0
  have K1 : Kept w [(w.heap.size, (fps [a0, b0, c0, d0])), (w.heap.size + 1, (fps [a1, b1, c1, d1])), (w.heap.size + 1 + 1, (fps [a2, b2, c2, d2]))] [] W0 := Kept.mks K0.nb (rowsC (K0.at 0 rfl) (rowsC (K0.at 1 rfl) (rowsC (K0.at 2 rfl) rows0))) rooms0
  refine wp_seq_atS (opsAt Tryd.f8 1) ((true, 0) :: (true, 1) :: (true, 2) :: (false, 3) :: (false, 4) :: (true, 5) :: []) (Kept w [(w.heap.size, (fps [a0, b0, c0, d0])), (w.heap.size + 1, (fps [a1, b1, c1, d1])), (w.heap.size + 1 + 1, (fps [a2, b2, c2, d2]))] []) (by kernel_rfl) (by kernel_rfl) K1 ?_
  refine k_row (by kernel_rfl) (d := (some 7)) (by kernel_rfl) (ty := 35) (x := (.tmp 3)) (by kernel_rfl) (b := w.heap.size) (by kernel_rfl) (cs := (fps [a0, b0, c0, d0])) (fun _ hs => hs.at 0 rfl) Tryd.underlying35 rfl (by kernel_rfl) ?_
  refine k_row (by kernel_rfl) (d := (some 8)) (by kernel_rfl) (ty := 35) (x := (.tmp 4)) (by kernel_rfl) (b := w.heap.size + 1) (by kernel_rfl) (cs := (fps [a1, b1, c1, d1])) (fun _ hs => hs.at 1 rfl) Tryd.underlying35 rfl (by kernel_rfl) ?_
  refine k_row (by kernel_rfl) (d := (some 9)) (by kernel_rfl) (ty := 35) (x := (.tmp 5)) (by kernel_rfl) (b := w.heap.size + 1 + 1) (by kernel_rfl) (cs := (fps [a2, b2, c2, d2])) (fun _ hs => hs.at 2 rfl) Tryd.underlying35 rfl (by kernel_rfl) ?_
  refine k_make (by kernel_rfl) (d := (some 10)) (by kernel_rfl) (v := .slice (some ⟨W0.heap.size, 0, none⟩) 3 3) (w' := W0.alloc (.cells (fps [a0, b0, c0, d0, a1, b1, c1, d1, a2, b2, c2, d2]) 35)) (by kernel_rfl) (K1.go ((Below.refl _ _).alloc (Nat.le_refl _) _)) ?_
  intro w2 hw2 K2
  have G2_n : w2.heap[W0.heap.size]? = some (.cells (fps [a0, b0, c0, d0, a1, b1, c1, d1, a2, b2, c2, d2]) 35 (0, 0)) := hw2 ▸ heap_alloc_new _ _
  have S2 : W0.heap.size < w2.heap.size := lt_of_heap G2_n
  have R2_0 : w.heap.size < W0.heap.size := (by obtain ⟨T, h⟩ := K1.at 0 rfl; exact lt_of_heap h)
  have R2_1 : w.heap.size + 1 < W0.heap.size := (by obtain ⟨T, h⟩ := K1.at 1 rfl; exact lt_of_heap h)
  have R2_2 : w.heap.size + 1 + 1 < W0.heap.size := (by obtain ⟨T, h⟩ := K1.at 2 rfl; exact lt_of_heap h)
  have Z2 : w.heap.size ≤ W0.heap.size := K1.nb.size
  clear hw2
  refine k_call (by kernel_rfl) (d := (some 11)) (by kernel_rfl) (f := 15) (args := #[.slice (some ⟨W0.heap.size, 0, none⟩) 3 3]) (v := .bool false) (fun _ => by kernel_rfl) (on_r (l := [(a0, b0, c0, d0), (a1, b1, c1, d1), (a2, b2, c2, d2)]) hon ⟨_, G2_n⟩ (ltsC (lt4 ha0 hb0 hc0 hd0) (ltsC (lt4 ha1 hb1 hc1 hd1) (ltsC (lt4 ha2 hb2 hc2 hd2) lts0))) (Nat.le_of_ble_eq_true rfl)) (fun w3 hb3 => ⟨K2.go hb3, ?_⟩)
  have K3 := K2.go hb3
  have G3_10 := nb_heap G2_n _ hb3
  have L3 := hb3.size
  refine k_pure (by kernel_rfl) (d := (some 12)) (by kernel_rfl) (v := .bool true) (fun _ => by kernel_rfl) ?_
  have K4 : Kept w [(w.heap.size, (fps [a0, b0, c0, d0])), (w.heap.size + 1, (fps [a1, b1, c1, d1])), (w.heap.size + 1 + 1, (fps [a2, b2, c2, d2])), (W0.heap.size, (fps [a0, b0, c0, d0, a1, b1, c1, d1, a2, b2, c2, d2]))] [] w3 := Kept.zero K3.nb (rowsC (K3.at 0 rfl) (rowsC (K3.at 1 rfl) (rowsC (K3.at 2 rfl) (rowsC ⟨_, G3_10⟩ rows0))))
  clear G3_10 G2_n
  refine k_end ?_
  go_simp
  go_wp2_with fail
  exact bodyPost_ret_by (by kernel_rfl) (by kernel_rfl) ⟨rfl, K4.nb⟩

set_option maxRecDepth 100000 in
set_option maxHeartbeats 1000000 in
theorem group_t {w : World} {p q r s t u z : Pt} {gx gy : Zq} (hm : ModW w) (hg : 5 ≤ w.heap.size) (hd : AtZ w 0 0 dd) (hx : AtZ w 2 0 gx) (hy : AtZ w 3 0 gy) (hgc : OnC gx gy) (h1 : p + q = s) (h2 : q + p = s) (h3 : s + r = u) (h4 : q + r = t) (h5 : p + t = u) (h6 : Pt.zero = z) (h7 : p + z = p) (hon : onAll [(p.x.re.val, p.x.im.val, p.y.re.val, p.y.im.val), (q.x.re.val, q.x.im.val, q.y.re.val, q.y.im.val), (r.x.re.val, r.x.im.val, r.y.re.val, r.y.im.val)] = true) :
    Calls Tryd.prog 8 #[.agg (fps [(p.x).re.val, (p.x).im.val, (p.y).re.val, (p.y).im.val]), .agg (fps [(q.x).re.val, (q.x).im.val, (q.y).re.val, (q.y).im.val]), .agg (fps [(r.x).re.val, (r.x).im.val, (r.y).re.val, (r.y).im.val])] w fun e w' => e = .returned (.bool true) ∧ Below w.heap.size w w' := by
  have H1 := Lib.hid h1; have H2 := Lib.hid h2; have H3 := Lib.hid h3; have H4 := Lib.hid h4; have H5 := Lib.hid h5; have H6 := Lib.hid h6; have H7 := Lib.hid h7
  clear h1 h2 h3 h4 h5 h6 h7
  go_enter Tryd.func8, Tryd.ntmps8
  go_upto_region 1 with (fail)
  refine wp_gen (fun WW => Kept w [(w.heap.size, (fps [(p.x).re.val, (p.x).im.val, (p.y).re.val, (p.y).im.val])), (w.heap.size + 1, (fps [(q.x).re.val, (q.x).im.val, (q.y).re.val, (q.y).im.val])), (w.heap.size + 1 + 1, (fps [(r.x).re.val, (r.x).im.val, (r.y).re.val, (r.y).im.val]))] [] WW) (Kept.zero (nb_alloc (nb_alloc (nb_alloc (Below.refl _ _) _) _) _) (rowsC (row_as (hp3_0 (w := w) _ _ _) (by kernel_rfl)) (rowsC (row_as (hp3_1 (w := w) _ _ _) (by kernel_rfl)) (rowsC (row_as (hp3_2 (w := w) _ _ _) (by kernel_rfl)) rows0)))) ?_
  intro W0 K0
  have K1 : Kept w [(w.heap.size, (fps [(p.x).re.val, (p.x).im.val, (p.y).re.val, (p.y).im.val])), (w.heap.size + 1, (fps [(q.x).re.val, (q.x).im.val, (q.y).re.val, (q.y).im.val])), (w.heap.size + 1 + 1, (fps [(r.x).re.val, (r.x).im.val, (r.y).re.val, (r.y).im.val]))] [] W0 := Kept.mks K0.nb (rowsC (K0.at 0 rfl) (rowsC (K0.at 1 rfl) (rowsC (K0.at 2 rfl) rows0))) rooms0
  refine wp_seq_atS (opsAt Tryd.f8 1) ((true, 0) :: (true, 1) :: (true, 2) :: (false, 3) :: (false, 4) :: (true, 5) :: []) (Kept w [(w.heap.size, (fps [(p.x).re.val, (p.x).im.val, (p.y).re.val, (p.y).im.val])), (w.heap.size + 1, (fps [(q.x).re.val, (q.x).im.val, (q.y).re.val, (q.y).im.val])), (w.heap.size + 1 + 1, (fps [(r.x).re.val, (r.x).im.val, (r.y).re.val, (r.y).im.val]))] []) (by kernel_rfl) (by kernel_rfl) K1 ?_
  refine k_row (by kernel_rfl) (d := (some 7)) (by kernel_rfl) (ty := 35) (x := (.tmp 3)) (by kernel_rfl) (b := w.heap.size) (by kernel_rfl) (cs := (fps [(p.x).re.val, (p.x).im.val, (p.y).re.val, (p.y).im.val])) (fun _ hs => hs.at 0 rfl) Tryd.underlying35 rfl (by kernel_rfl) ?_
  refine k_row (by kernel_rfl) (d := (some 8)) (by kernel_rfl) (ty := 35) (x := (.tmp 4)) (by kernel_rfl) (b := w.heap.size + 1) (by kernel_rfl) (cs := (fps [(q.x).re.val, (q.x).im.val, (q.y).re.val, (q.y).im.val])) (fun _ hs => hs.at 1 rfl) Tryd.underlying35 rfl (by kernel_rfl) ?_
  refine k_row (by kernel_rfl) (d := (some 9)) (by kernel_rfl) (ty := 35) (x := (.tmp 5)) (by kernel_rfl) (b := w.heap.size + 1 + 1) (by kernel_rfl) (cs := (fps [(r.x).re.val, (r.x).im.val, (r.y).re.val, (r.y).im.val])) (fun _ hs => hs.at 2 rfl) Tryd.underlying35 rfl (by kernel_rfl) ?_
  refine k_make (by kernel_rfl) (d := (some 10)) (by kernel_rfl) (v := .slice (some ⟨W0.heap.size, 0, none⟩) 3 3) (w' := W0.alloc (.cells (fps [(p.x).re.val, (p.x).im.val, (p.y).re.val, (p.y).im.val, (q.x).re.val, (q.x).im.val, (q.y).re.val, (q.y).im.val, (r.x).re.val, (r.x).im.val, (r.y).re.val, (r.y).im.val]) 35)) (by kernel_rfl) (K1.go ((Below.refl _ _).alloc (Nat.le_refl _) _)) ?_
  intro w2 hw2 K2
  have G2_n : w2.heap[W0.heap.size]? = some (.cells (fps [(p.x).re.val, (p.x).im.val, (p.y).re.val, (p.y).im.val, (q.x).re.val, (q.x).im.val, (q.y).re.val, (q.y).im.val, (r.x).re.val, (r.x).im.val, (r.y).re.val, (r.y).im.val]) 35 (0, 0)) := hw2 ▸ heap_alloc_new _ _
  have S2 : W0.heap.size < w2.heap.size := lt_of_heap G2_n
  have R2_0 : w.heap.size < W0.heap.size := (by obtain ⟨T, h⟩ := K1.at 0 rfl; exact lt_of_heap h)
  have R2_1 : w.heap.size + 1 < W0.heap.size := (by obtain ⟨T, h⟩ := K1.at 1 rfl; exact lt_of_heap h)
  have R2_2 : w.heap.size + 1 + 1 < W0.heap.size := (by obtain ⟨T, h⟩ := K1.at 2 rfl; exact lt_of_heap h)
  have Z2 : w.heap.size ≤ W0.heap.size := K1.nb.size
  clear hw2
  refine k_call (by kernel_rfl) (d := (some 11)) (by kernel_rfl) (f := 15) (args := #[.slice (some ⟨W0.heap.size, 0, none⟩) 3 3]) (v := .bool true) (fun _ => by kernel_rfl) (on_r (l := [(p.x.re.val, p.x.im.val, p.y.re.val, p.y.im.val), (q.x.re.val, q.x.im.val, q.y.re.val, q.y.im.val), (r.x.re.val, r.x.im.val, r.y.re.val, r.y.im.val)]) hon ⟨_, G2_n⟩ (ltsC (ltPt p) (ltsC (ltPt q) (ltsC (ltPt r) lts0))) (Nat.le_of_ble_eq_true rfl)) (fun w3 hb3 => ⟨K2.go hb3, ?_⟩)
  have K3 := K2.go hb3
  have G3_10 := nb_heap G2_n _ hb3
  have L3 := hb3.size
  refine k_pure (by kernel_rfl) (d := (some 12)) (by kernel_rfl) (v := .bool false) (fun _ => by kernel_rfl) ?_
  have K4 : Kept w [(w.heap.size, (fps [(p.x).re.val, (p.x).im.val, (p.y).re.val, (p.y).im.val])), (w.heap.size + 1, (fps [(q.x).re.val, (q.x).im.val, (q.y).re.val, (q.y).im.val])), (w.heap.size + 1 + 1, (fps [(r.x).re.val, (r.x).im.val, (r.y).re.val, (r.y).im.val])), (W0.heap.size, (fps [(p.x).re.val, (p.x).im.val, (p.y).re.val, (p.y).im.val, (q.x).re.val, (q.x).im.val, (q.y).re.val, (q.y).im.val, (r.x).re.val, (r.x).im.val, (r.y).re.val, (r.y).im.val]))] [] w3 := Kept.zero K3.nb (rowsC (K3.at 0 rfl) (rowsC (K3.at 1 rfl) (rowsC (K3.at 2 rfl) (rowsC ⟨_, G3_10⟩ rows0))))
  clear G3_10 G2_n
  refine k_end ?_
  go_simp
  go_upto_region 3 with (fail)
  have K5 : Kept w [(w.heap.size, (fps [(p.x).re.val, (p.x).im.val, (p.y).re.val, (p.y).im.val])), (w.heap.size + 1, (fps [(q.x).re.val, (q.x).im.val, (q.y).re.val, (q.y).im.val])), (w.heap.size + 1 + 1, (fps [(r.x).re.val, (r.x).im.val, (r.y).re.val, (r.y).im.val])), (W0.heap.size, (fps [(p.x).re.val, (p.x).im.val, (p.y).re.val, (p.y).im.val, (q.x).re.val, (q.x).im.val, (q.y).re.val, (q.y).im.val, (r.x).re.val, (r.x).im.val, (r.y).re.val, (r.y).im.val]))] [] w3 := Kept.mks K4.nb (rowsC (K4.at 0 rfl) (rowsC (K4.at 1 rfl) (rowsC (K4.at 2 rfl) (rowsC (K4.at 3 rfl) rows0)))) rooms0
  refine wp_region_atS (opsAt Tryd.f8 3) ((true, 0) :: (true, 1) :: (true, 3) :: (true, 4) :: (false, 2) :: (false, 5) :: (true, 6) :: (true, 7) :: (true, 8) :: (true, 9) :: (true, 11) :: (true, 13) :: (true, 14) :: (true, 15) :: (false, 10) :: (false, 12) :: (false, 16) :: (false, 17) :: (true, 18) :: (true, 19) :: (true, 20) :: (true, 21) :: (true, 24) :: (false, 22) :: (false, 23) :: (true, 25) :: (true, 26) :: (true, 27) :: (false, 28) :: (false, 29) :: (true, 30) :: (true, 31) :: []) (Kept w [(w.heap.size, (fps [(p.x).re.val, (p.x).im.val, (p.y).re.val, (p.y).im.val])), (w.heap.size + 1, (fps [(q.x).re.val, (q.x).im.val, (q.y).re.val, (q.y).im.val])), (w.heap.size + 1 + 1, (fps [(r.x).re.val, (r.x).im.val, (r.y).re.val, (r.y).im.val])), (W0.heap.size, (fps [(p.x).re.val, (p.x).im.val, (p.y).re.val, (p.y).im.val, (q.x).re.val, (q.x).im.val, (q.y).re.val, (q.y).im.val, (r.x).re.val, (r.x).im.val, (r.y).re.val, (r.y).im.val]))] []) (by kernel_rfl) rfl (by kernel_rfl) (fun _ _ d _ _ h => by cases d <;> exact h) (by kernel_rfl) (by kernel_rfl) K5.drew ?_
  have K6 := K5.drew
  have DK6 : w3.heap.size ≤ w3.drew.heap.size := Nat.le_refl _
  refine k_row (by kernel_rfl) (d := (some 13)) (by kernel_rfl) (ty := 35) (x := (.tmp 3)) (by kernel_rfl) (b := w.heap.size) (by kernel_rfl) (cs := (fps [(p.x).re.val, (p.x).im.val, (p.y).re.val, (p.y).im.val])) (fun _ hs => hs.at 0 rfl) Tryd.underlying35 rfl (by kernel_rfl) ?_
  refine k_row (by kernel_rfl) (d := (some 14)) (by kernel_rfl) (ty := 35) (x := (.tmp 4)) (by kernel_rfl) (b := w.heap.size + 1) (by kernel_rfl) (cs := (fps [(q.x).re.val, (q.x).im.val, (q.y).re.val, (q.y).im.val])) (fun _ hs => hs.at 1 rfl) Tryd.underlying35 rfl (by kernel_rfl) ?_
  refine k_row (by kernel_rfl) (d := (some 16)) (by kernel_rfl) (ty := 35) (x := (.tmp 4)) (by kernel_rfl) (b := w.heap.size + 1) (by kernel_rfl) (cs := (fps [(q.x).re.val, (q.x).im.val, (q.y).re.val, (q.y).im.val])) (fun _ hs => hs.at 1 rfl) Tryd.underlying35 rfl (by kernel_rfl) ?_
  refine k_row (by kernel_rfl) (d := (some 17)) (by kernel_rfl) (ty := 35) (x := (.tmp 3)) (by kernel_rfl) (b := w.heap.size) (by kernel_rfl) (cs := (fps [(p.x).re.val, (p.x).im.val, (p.y).re.val, (p.y).im.val])) (fun _ hs => hs.at 0 rfl) Tryd.underlying35 rfl (by kernel_rfl) ?_
  refine k_call (by kernel_rfl) (d := (some 15)) (by kernel_rfl) (f := 22) (args := #[.agg (fps [(p.x).re.val, (p.x).im.val, (p.y).re.val, (p.y).im.val]), .agg (fps [(q.x).re.val, (q.x).im.val, (q.y).re.val, (q.y).im.val])]) (v := .agg (fps [(s.x).re.val, (s.x).im.val, (s.y).re.val, (s.y).im.val])) (fun _ => by kernel_rfl) (implPlus (congrArg Pt.x H1.out) (congrArg Pt.y H1.out) (hm.nb K6.nb) (Nat.le_trans hg K6.nb.size) (hd.nb K6.nb)) (fun w7 hb7 => ⟨K6.go hb7, ?_⟩)
  have K7 := K6.go hb7
  have L7 := hb7.size
  refine k_call (by kernel_rfl) (d := (some 18)) (by kernel_rfl) (f := 22) (args := #[.agg (fps [(q.x).re.val, (q.x).im.val, (q.y).re.val, (q.y).im.val]), .agg (fps [(p.x).re.val, (p.x).im.val, (p.y).re.val, (p.y).im.val])]) (v := .agg (fps [(s.x).re.val, (s.x).im.val, (s.y).re.val, (s.y).im.val])) (fun _ => by kernel_rfl) (implPlus (congrArg Pt.x H2.out) (congrArg Pt.y H2.out) (hm.nb K7.nb) (Nat.le_trans hg K7.nb.size) (hd.nb K7.nb)) (fun w8 hb8 => ⟨K7.go hb8, ?_⟩)
  have K8 := K7.go hb8
  have L8 := hb8.size
  refine k_eql (by kernel_rfl) (d := (some 19)) (by kernel_rfl) (ty := 35) (ty' := 35) (x := (.tmp 15)) (y := (.tmp 18)) (by kernel_rfl) (xs := (fps [(s.x).re.val, (s.x).im.val, (s.y).re.val, (s.y).im.val])) (ys := (fps [(s.x).re.val, (s.x).im.val, (s.y).re.val, (s.y).im.val])) (b := true) (by kernel_rfl) (by kernel_rfl) (by kernel_rfl) eqPt_t ?_
  refine k_pure (by kernel_rfl) (d := (some 20)) (by kernel_rfl) (v := .bool true) (fun _ => by kernel_rfl) ?_
  refine k_row (by kernel_rfl) (d := (some 21)) (by kernel_rfl) (ty := 35) (x := (.tmp 3)) (by kernel_rfl) (b := w.heap.size) (by kernel_rfl) (cs := (fps [(p.x).re.val, (p.x).im.val, (p.y).re.val, (p.y).im.val])) (fun _ hs => hs.at 0 rfl) Tryd.underlying35 rfl (by kernel_rfl) ?_
  refine k_row (by kernel_rfl) (d := (some 22)) (by kernel_rfl) (ty := 35) (x := (.tmp 4)) (by kernel_rfl) (b := w.heap.size + 1) (by kernel_rfl) (cs := (fps [(q.x).re.val, (q.x).im.val, (q.y).re.val, (q.y).im.val])) (fun _ hs => hs.at 1 rfl) Tryd.underlying35 rfl (by kernel_rfl) ?_
  refine k_row (by kernel_rfl) (d := (some 24)) (by kernel_rfl) (ty := 35) (x := (.tmp 5)) (by kernel_rfl) (b := w.heap.size + 1 + 1) (by kernel_rfl) (cs := (fps [(r.x).re.val, (r.x).im.val, (r.y).re.val, (r.y).im.val])) (fun _ hs => hs.at 2 rfl) Tryd.underlying35 rfl (by kernel_rfl) ?_
  refine k_row (by kernel_rfl) (d := (some 26)) (by kernel_rfl) (ty := 35) (x := (.tmp 3)) (by kernel_rfl) (b := w.heap.size) (by kernel_rfl) (cs := (fps [(p.x).re.val, (p.x).im.val, (p.y).re.val, (p.y).im.val])) (fun _ hs => hs.at 0 rfl) Tryd.underlying35 rfl (by kernel_rfl) ?_
  refine k_row (by kernel_rfl) (d := (some 27)) (by kernel_rfl) (ty := 35) (x := (.tmp 4)) (by kernel_rfl) (b := w.heap.size + 1) (by kernel_rfl) (cs := (fps [(q.x).re.val, (q.x).im.val, (q.y).re.val, (q.y).im.val])) (fun _ hs => hs.at 1 rfl) Tryd.underlying35 rfl (by kernel_rfl) ?_
  refine k_row (by kernel_rfl) (d := (some 28)) (by kernel_rfl) (ty := 35) (x := (.tmp 5)) (by kernel_rfl) (b := w.heap.size + 1 + 1) (by kernel_rfl) (cs := (fps [(r.x).re.val, (r.x).im.val, (r.y).re.val, (r.y).im.val])) (fun _ hs => hs.at 2 rfl) Tryd.underlying35 rfl (by kernel_rfl) ?_
  refine k_call (by kernel_rfl) (d := (some 23)) (by kernel_rfl) (f := 22) (args := #[.agg (fps [(p.x).re.val, (p.x).im.val, (p.y).re.val, (p.y).im.val]), .agg (fps [(q.x).re.val, (q.x).im.val, (q.y).re.val, (q.y).im.val])]) (v := .agg (fps [(s.x).re.val, (s.x).im.val, (s.y).re.val, (s.y).im.val])) (fun _ => by kernel_rfl) (implPlus (congrArg Pt.x H1.out) (congrArg Pt.y H1.out) (hm.nb K8.nb) (Nat.le_trans hg K8.nb.size) (hd.nb K8.nb)) (fun w9 hb9 => ⟨K8.go hb9, ?_⟩)
  have K9 := K8.go hb9
  have L9 := hb9.size
  refine k_call (by kernel_rfl) (d := (some 25)) (by kernel_rfl) (f := 22) (args := #[.agg (fps [(s.x).re.val, (s.x).im.val, (s.y).re.val, (s.y).im.val]), .agg (fps [(r.x).re.val, (r.x).im.val, (r.y).re.val, (r.y).im.val])]) (v := .agg (fps [(u.x).re.val, (u.x).im.val, (u.y).re.val, (u.y).im.val])) (fun _ => by kernel_rfl) (implPlus (congrArg Pt.x H3.out) (congrArg Pt.y H3.out) (hm.nb K9.nb) (Nat.le_trans hg K9.nb.size) (hd.nb K9.nb)) (fun w10 hb10 => ⟨K9.go hb10, ?_⟩)
  have K10 := K9.go hb10
  have L10 := hb10.size
  refine k_call (by kernel_rfl) (d := (some 29)) (by kernel_rfl) (f := 22) (args := #[.agg (fps [(q.x).re.val, (q.x).im.val, (q.y).re.val, (q.y).im.val]), .agg (fps [(r.x).re.val, (r.x).im.val, (r.y).re.val, (r.y).im.val])]) (v := .agg (fps [(t.x).re.val, (t.x).im.val, (t.y).re.val, (t.y).im.val])) (fun _ => by kernel_rfl) (implPlus (congrArg Pt.x H4.out) (congrArg Pt.y H4.out) (hm.nb K10.nb) (Nat.le_trans hg K10.nb.size) (hd.nb K10.nb)) (fun w11 hb11 => ⟨K10.go hb11, ?_⟩)
  have K11 := K10.go hb11
  have L11 := hb11.size
  refine k_call (by kernel_rfl) (d := (some 30)) (by kernel_rfl) (f := 22) (args := #[.agg (fps [(p.x).re.val, (p.x).im.val, (p.y).re.val, (p.y).im.val]), .agg (fps [(t.x).re.val, (t.x).im.val, (t.y).re.val, (t.y).im.val])]) (v := .agg (fps [(u.x).re.val, (u.x).im.val, (u.y).re.val, (u.y).im.val])) (fun _ => by kernel_rfl) (implPlus (congrArg Pt.x H5.out) (congrArg Pt.y H5.out) (hm.nb K11.nb) (Nat.le_trans hg K11.nb.size) (hd.nb K11.nb)) (fun w12 hb12 => ⟨K11.go hb12, ?_⟩)
  have K12 := K11.go hb12
  have L12 := hb12.size
  refine k_eql (by kernel_rfl) (d := (some 31)) (by kernel_rfl) (ty := 35) (ty' := 35) (x := (.tmp 25)) (y := (.tmp 30)) (by kernel_rfl) (xs := (fps [(u.x).re.val, (u.x).im.val, (u.y).re.val, (u.y).im.val])) (ys := (fps [(u.x).re.val, (u.x).im.val, (u.y).re.val, (u.y).im.val])) (b := true) (by kernel_rfl) (by kernel_rfl) (by kernel_rfl) eqPt_t ?_
  refine k_pure (by kernel_rfl) (d := (some 32)) (by kernel_rfl) (v := .bool true) (fun _ => by kernel_rfl) ?_
  refine k_pure (by kernel_rfl) (d := (some 33)) (by kernel_rfl) (v := .bool true) (fun _ => by kernel_rfl) ?_
  refine k_row (by kernel_rfl) (d := (some 34)) (by kernel_rfl) (ty := 35) (x := (.tmp 3)) (by kernel_rfl) (b := w.heap.size) (by kernel_rfl) (cs := (fps [(p.x).re.val, (p.x).im.val, (p.y).re.val, (p.y).im.val])) (fun _ hs => hs.at 0 rfl) Tryd.underlying35 rfl (by kernel_rfl) ?_
  refine k_row (by kernel_rfl) (d := (some 37)) (by kernel_rfl) (ty := 35) (x := (.tmp 3)) (by kernel_rfl) (b := w.heap.size) (by kernel_rfl) (cs := (fps [(p.x).re.val, (p.x).im.val, (p.y).re.val, (p.y).im.val])) (fun _ hs => hs.at 0 rfl) Tryd.underlying35 rfl (by kernel_rfl) ?_
  refine k_call (by kernel_rfl) (d := (some 35)) (by kernel_rfl) (f := 20) (args := #[]) (v := .agg (fps [(z.x).re.val, (z.x).im.val, (z.y).re.val, (z.y).im.val])) (fun _ => by kernel_rfl) (implIdentity (congrArg Pt.x H6.out) (congrArg Pt.y H6.out) (hm.nb K12.nb) (Nat.le_trans hg K12.nb.size)) (fun w13 hb13 => ⟨K12.go hb13, ?_⟩)
  have K13 := K12.go hb13
  have L13 := hb13.size
  refine k_call (by kernel_rfl) (d := (some 36)) (by kernel_rfl) (f := 22) (args := #[.agg (fps [(p.x).re.val, (p.x).im.val, (p.y).re.val, (p.y).im.val]), .agg (fps [(z.x).re.val, (z.x).im.val, (z.y).re.val, (z.y).im.val])]) (v := .agg (fps [(p.x).re.val, (p.x).im.val, (p.y).re.val, (p.y).im.val])) (fun _ => by kernel_rfl) (implPlus (congrArg Pt.x H7.out) (congrArg Pt.y H7.out) (hm.nb K13.nb) (Nat.le_trans hg K13.nb.size) (hd.nb K13.nb)) (fun w14 hb14 => ⟨K13.go hb14, ?_⟩)
  have K14 := K13.go hb14
  have L14 := hb14.size
  refine k_eql (by kernel_rfl) (d := (some 38)) (by kernel_rfl) (ty := 35) (ty' := 35) (x := (.tmp 36)) (y := (.tmp 37)) (by kernel_rfl) (xs := (fps [(p.x).re.val, (p.x).im.val, (p.y).re.val, (p.y).im.val])) (ys := (fps [(p.x).re.val, (p.x).im.val, (p.y).re.val, (p.y).im.val])) (b := true) (by kernel_rfl) (by kernel_rfl) (by kernel_rfl) eqPt_t ?_
  refine k_pure (by kernel_rfl) (d := (some 39)) (by kernel_rfl) (v := .bool true) (fun _ => by kernel_rfl) ?_
  refine k_pure (by kernel_rfl) (d := (some 40)) (by kernel_rfl) (v := .bool true) (fun _ => by kernel_rfl) ?_
  refine k_call (by kernel_rfl) (d := (some 41)) (by kernel_rfl) (f := 35) (args := #[]) (v := .agg (fps [gx.re.val, gx.im.val, gy.re.val, gy.im.val])) (fun _ => by kernel_rfl) (implGenerator (hm.nb K14.nb) (Nat.le_trans hg K14.nb.size) (hx.nb K14.nb) (hy.nb K14.nb)) (fun w15 hb15 => ⟨K14.go hb15, ?_⟩)
  have K15 := K14.go hb15
  have L15 := hb15.size
  refine k_call (by kernel_rfl) (d := (some 42)) (by kernel_rfl) (f := 37) (args := #[.agg (fps [gx.re.val, gx.im.val, gy.re.val, gy.im.val])]) (v := .bool true) (fun _ => by kernel_rfl) (implOn1 (hm.nb K15.nb) (Nat.le_trans hg K15.nb.size) (hd.nb K15.nb) hgc) (fun w16 hb16 => ⟨K15.go hb16, ?_⟩)
  have K16 := K15.go hb16
  have L16 := hb16.size
  refine k_pure (by kernel_rfl) (d := (some 43)) (by kernel_rfl) (v := .bool true) (fun _ => by kernel_rfl) ?_
  refine k_pure (by kernel_rfl) (d := (some 6)) (by kernel_rfl) (v := .bool true) (fun _ => by kernel_rfl) ?_
  have K17 : Kept w [(w.heap.size, (fps [(p.x).re.val, (p.x).im.val, (p.y).re.val, (p.y).im.val])), (w.heap.size + 1, (fps [(q.x).re.val, (q.x).im.val, (q.y).re.val, (q.y).im.val])), (w.heap.size + 1 + 1, (fps [(r.x).re.val, (r.x).im.val, (r.y).re.val, (r.y).im.val])), (W0.heap.size, (fps [(p.x).re.val, (p.x).im.val, (p.y).re.val, (p.y).im.val, (q.x).re.val, (q.x).im.val, (q.y).re.val, (q.y).im.val, (r.x).re.val, (r.x).im.val, (r.y).re.val, (r.y).im.val]))] [] w16 := Kept.zero K16.nb (rowsC (K16.at 0 rfl) (rowsC (K16.at 1 rfl) (rowsC (K16.at 2 rfl) (rowsC (K16.at 3 rfl) rows0))))
  refine k_end ?_
  go_simp
  go_wp2_with fail
  exact bodyPost_ret_by (by kernel_rfl) (by kernel_rfl) ⟨rfl, K17.nb⟩

theorem fnGroup_c {w : World} {a0 b0 c0 d0 a1 b1 c1 d1 a2 b2 c2 d2 : Nat} {gx gy : Zq} (hm : ModW w) (hg : 5 ≤ w.heap.size) (hd : AtZ w 0 0 dd) (hx : AtZ w 2 0 gx) (hy : AtZ w 3 0 gy) (hgc : OnC gx gy) (ha0 : a0 < 256 ^ 16) (hb0 : b0 < 256 ^ 16) (hc0 : c0 < 256 ^ 16) (hd0 : d0 < 256 ^ 16) (ha1 : a1 < 256 ^ 16) (hb1 : b1 < 256 ^ 16) (hc1 : c1 < 256 ^ 16) (hd1 : d1 < 256 ^ 16) (ha2 : a2 < 256 ^ 16) (hb2 : b2 < 256 ^ 16) (hc2 : c2 < 256 ^ 16) (hd2 : d2 < 256 ^ 16) :
    Calls Tryd.prog 8 #[.agg (fps [a0, b0, c0, d0]), .agg (fps [a1, b1, c1, d1]), .agg (fps [a2, b2, c2, d2])] w fun e w' => e = .returned (.bool true) ∧ Below w.heap.size w w' := by
  cases h0 : onAll [(a0, b0, c0, d0), (a1, b1, c1, d1), (a2, b2, c2, d2)] with
  | false => exact group_f ha0 hb0 hc0 hd0 ha1 hb1 hc1 hd1 ha2 hb2 hc2 hd2 h0
  | true =>
    have h0' := h0
    simp only [onAll, List.all, Bool.and_eq_true, and_true] at h0'
    obtain ⟨p, rfl, rfl, rfl, rfl⟩ := of_onB h0'.1
    obtain ⟨q, rfl, rfl, rfl, rfl⟩ := of_onB h0'.2.1
    obtain ⟨r, rfl, rfl, rfl, rfl⟩ := of_onB h0'.2.2
    exact group_t hm hg hd hx hy hgc rfl (pt_comm q p) rfl rfl (pt_assoc p q r).symm rfl (pt_add_zero p) h0
end Go.Proofs.YtfkfljohhabldaaDoor
