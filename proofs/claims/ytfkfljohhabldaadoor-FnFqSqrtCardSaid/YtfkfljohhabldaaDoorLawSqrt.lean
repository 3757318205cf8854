/- FnFqSqrt, whatever elements. -/
import Derived.Test.YtfkfljohhabldaaDoorLawSqrtP
namespace Go.Proofs.YtfkfljohhabldaaDoor
open Go.RowKit Go.FourQ

set_option maxRecDepth 100000 in
set_option maxHeartbeats 1000000 in
theorem sqrtA_false {w : World} {a0 a1 c0 c1 : Nat} {W : Zq} (OW : ∀ {w : World}, Calls Tryd.prog 19 #[.agg (fps [a0, a1])] w fun e w' => e = .returned (.agg (dgQ W.re.val W.im.val)) ∧ Below w.heap.size w w') (hW : W = 0) :
    Calls Tryd.prog 6 #[.agg (fps [a0, a1]), .agg (fps [c0, c1]), .bool false] w fun e w' => e = .returned (.bool true) ∧ Below w.heap.size w w' := by
  go_enter Tryd.func6, Tryd.ntmps6
  go_upto_region 1 with (fail)
  have K0 : Kept w [(w.heap.size, (fps [a0, a1])), (w.heap.size + 1, (fps [c0, c1]))] [] ((w.alloc (.cells (fps [a0, a1]) 33)).alloc (.cells (fps [c0, c1]) 33)) := Kept.zero (nb_alloc (nb_alloc (Below.refl _ _) _) _) (rowsC ⟨_, hp2_0 (w := w) (.cells (fps [a0, a1]) 33) (.cells (fps [c0, c1]) 33)⟩ (rowsC ⟨_, hp2_1 (w := w) (.cells (fps [a0, a1]) 33) (.cells (fps [c0, c1]) 33)⟩ rows0))
  obtain ⟨W0, hW⟩ : ∃ W0 : World, W0 = ((w.alloc (.cells (fps [a0, a1]) 33)).alloc (.cells (fps [c0, c1]) 33)) := ⟨_, rfl⟩
  rw [← hW] at K0 ⊢
  clear hW
  have K1 : Kept w [(w.heap.size, (fps [a0, a1])), (w.heap.size + 1, (fps [c0, c1]))] [] W0 := Kept.mks K0.nb (rowsC (K0.at 0 rfl) (rowsC (K0.at 1 rfl) rows0)) rooms0
  refine wp_seq_atS (opsAt Tryd.f6 1) ((true, 0) :: (false, 1) :: (true, 2) :: (true, 3) :: (true, 4) :: (true, 5) :: (false, 6) :: (true, 7) :: (true, 8) :: (true, 9) :: []) (Kept w [(w.heap.size, (fps [a0, a1])), (w.heap.size + 1, (fps [c0, c1]))] []) (by kernel_rfl) (by kernel_rfl) K1 ?_
  refine k_row (by kernel_rfl) (d := (some 11)) (by kernel_rfl) (ty := 33) (x := (.tmp 3)) (by kernel_rfl) (b := w.heap.size) (by kernel_rfl) (cs := (fps [a0, a1])) (fun _ hs => hs.at 0 rfl) Tryd.underlying33 rfl (by kernel_rfl) ?_
  refine k_call (by kernel_rfl) (d := (some 12)) (by kernel_rfl) (f := 19) (args := #[.agg (fps [a0, a1])]) (v := .agg (dgQ W.re.val W.im.val)) (fun _ => by kernel_rfl) (OW) (fun w2 hb2 => ⟨K1.go hb2, ?_⟩)
  have K2 := K1.go hb2
  have L2 := hb2.size
  refine k_pure (by kernel_rfl) (d := (some 13)) (by kernel_rfl) (v := .agg (dgQ 0 0)) (fun _ => by kernel_rfl) ?_
  refine k_eql (by kernel_rfl) (d := (some 14)) (by kernel_rfl) (ty := 39) (ty' := 39) (x := (.tmp 12)) (y := (.tmp 13)) (by kernel_rfl) (xs := (dgQ W.re.val W.im.val)) (ys := (dgQ 0 0)) (b := true) (by kernel_rfl) (by kernel_rfl) (by kernel_rfl) (fun w => eqQ_t hW w) ?_
  refine k_pure (by kernel_rfl) (d := (some 15)) (by kernel_rfl) (v := .bool true) (fun _ => by kernel_rfl) ?_
  refine k_skip (by kernel_rfl) (d := (some 16)) (by kernel_rfl) ?_
  refine k_skip' K2 (by kernel_rfl) (d := (some 17)) (by kernel_rfl) ?_
  refine k_skip (by kernel_rfl) (d := (some 18)) (by kernel_rfl) ?_
  refine k_skip (by kernel_rfl) (d := (some 19)) (by kernel_rfl) ?_
  refine k_pure (by kernel_rfl) (d := (some 20)) (by kernel_rfl) (v := .bool true) (fun _ => by kernel_rfl) ?_
  have K3 : Kept w [(w.heap.size, (fps [a0, a1])), (w.heap.size + 1, (fps [c0, c1]))] [] w2 := Kept.zero K2.nb (rowsC (K2.at 0 rfl) (rowsC (K2.at 1 rfl) rows0))
  refine k_end ?_
  go_simp
  go_wp2_with fail
  exact bodyPost_ret_by (by kernel_rfl) (by kernel_rfl) ⟨rfl, K3.nb⟩

set_option maxRecDepth 100000 in
set_option maxHeartbeats 1000000 in
theorem sqrtB_false {w : World} {a0 a1 c0 c1 : Nat} {W V : Zq} (OW : ∀ {w : World}, Calls Tryd.prog 19 #[.agg (fps [a0, a1])] w fun e w' => e = .returned (.agg (dgQ W.re.val W.im.val)) ∧ Below w.heap.size w w') (OV : ∀ {w : World}, Calls Tryd.prog 19 #[.agg (fps [c0, c1])] w fun e w' => e = .returned (.agg (dgQ V.re.val V.im.val)) ∧ Below w.heap.size w w') (hW : W ≠ 0) (hV : V = 0) :
    Calls Tryd.prog 6 #[.agg (fps [a0, a1]), .agg (fps [c0, c1]), .bool false] w fun e w' => e = .returned (.bool true) ∧ Below w.heap.size w w' := by
  go_enter Tryd.func6, Tryd.ntmps6
  go_upto_region 1 with (fail)
  have K0 : Kept w [(w.heap.size, (fps [a0, a1])), (w.heap.size + 1, (fps [c0, c1]))] [] ((w.alloc (.cells (fps [a0, a1]) 33)).alloc (.cells (fps [c0, c1]) 33)) := Kept.zero (nb_alloc (nb_alloc (Below.refl _ _) _) _) (rowsC ⟨_, hp2_0 (w := w) (.cells (fps [a0, a1]) 33) (.cells (fps [c0, c1]) 33)⟩ (rowsC ⟨_, hp2_1 (w := w) (.cells (fps [a0, a1]) 33) (.cells (fps [c0, c1]) 33)⟩ rows0))
  obtain ⟨W0, hW⟩ : ∃ W0 : World, W0 = ((w.alloc (.cells (fps [a0, a1]) 33)).alloc (.cells (fps [c0, c1]) 33)) := ⟨_, rfl⟩
  rw [← hW] at K0 ⊢
  clear hW
  have K1 : Kept w [(w.heap.size, (fps [a0, a1])), (w.heap.size + 1, (fps [c0, c1]))] [] W0 := Kept.mks K0.nb (rowsC (K0.at 0 rfl) (rowsC (K0.at 1 rfl) rows0)) rooms0
  refine wp_seq_atS (opsAt Tryd.f6 1) ((true, 0) :: (false, 1) :: (true, 2) :: (true, 3) :: (true, 4) :: (true, 5) :: (false, 6) :: (true, 7) :: (true, 8) :: (true, 9) :: []) (Kept w [(w.heap.size, (fps [a0, a1])), (w.heap.size + 1, (fps [c0, c1]))] []) (by kernel_rfl) (by kernel_rfl) K1 ?_
  refine k_row (by kernel_rfl) (d := (some 11)) (by kernel_rfl) (ty := 33) (x := (.tmp 3)) (by kernel_rfl) (b := w.heap.size) (by kernel_rfl) (cs := (fps [a0, a1])) (fun _ hs => hs.at 0 rfl) Tryd.underlying33 rfl (by kernel_rfl) ?_
  refine k_call (by kernel_rfl) (d := (some 12)) (by kernel_rfl) (f := 19) (args := #[.agg (fps [a0, a1])]) (v := .agg (dgQ W.re.val W.im.val)) (fun _ => by kernel_rfl) (OW) (fun w2 hb2 => ⟨K1.go hb2, ?_⟩)
  have K2 := K1.go hb2
  have L2 := hb2.size
  refine k_pure (by kernel_rfl) (d := (some 13)) (by kernel_rfl) (v := .agg (dgQ 0 0)) (fun _ => by kernel_rfl) ?_
  refine k_eql (by kernel_rfl) (d := (some 14)) (by kernel_rfl) (ty := 39) (ty' := 39) (x := (.tmp 12)) (y := (.tmp 13)) (by kernel_rfl) (xs := (dgQ W.re.val W.im.val)) (ys := (dgQ 0 0)) (b := false) (by kernel_rfl) (by kernel_rfl) (by kernel_rfl) (fun w => eqQ_f hW w) ?_
  refine k_pure (by kernel_rfl) (d := (some 15)) (by kernel_rfl) (v := .bool false) (fun _ => by kernel_rfl) ?_
  refine k_row (by kernel_rfl) (d := (some 16)) (by kernel_rfl) (ty := 33) (x := (.tmp 4)) (by kernel_rfl) (b := w.heap.size + 1) (by kernel_rfl) (cs := (fps [c0, c1])) (fun _ hs => hs.at 1 rfl) Tryd.underlying33 rfl (by kernel_rfl) ?_
  refine k_call (by kernel_rfl) (d := (some 17)) (by kernel_rfl) (f := 19) (args := #[.agg (fps [c0, c1])]) (v := .agg (dgQ V.re.val V.im.val)) (fun _ => by kernel_rfl) (OV) (fun w3 hb3 => ⟨K2.go hb3, ?_⟩)
  have K3 := K2.go hb3
  have L3 := hb3.size
  refine k_pure (by kernel_rfl) (d := (some 18)) (by kernel_rfl) (v := .agg (dgQ 0 0)) (fun _ => by kernel_rfl) ?_
  refine k_eql (by kernel_rfl) (d := (some 19)) (by kernel_rfl) (ty := 39) (ty' := 39) (x := (.tmp 17)) (y := (.tmp 18)) (by kernel_rfl) (xs := (dgQ V.re.val V.im.val)) (ys := (dgQ 0 0)) (b := true) (by kernel_rfl) (by kernel_rfl) (by kernel_rfl) (fun w => eqQ_t hV w) ?_
  refine k_pure (by kernel_rfl) (d := (some 20)) (by kernel_rfl) (v := .bool true) (fun _ => by kernel_rfl) ?_
  have K4 : Kept w [(w.heap.size, (fps [a0, a1])), (w.heap.size + 1, (fps [c0, c1]))] [] w3 := Kept.zero K3.nb (rowsC (K3.at 0 rfl) (rowsC (K3.at 1 rfl) rows0))
  refine k_end ?_
  go_simp
  go_wp2_with fail
  exact bodyPost_ret_by (by kernel_rfl) (by kernel_rfl) ⟨rfl, K4.nb⟩

set_option maxRecDepth 100000 in
set_option maxHeartbeats 1000000 in
theorem sqrtC1_false {w : World} {a0 a1 c0 c1 : Nat} {W V f : Zq} (hm : ModW w) (OW : ∀ {w : World}, Calls Tryd.prog 19 #[.agg (fps [a0, a1])] w fun e w' => e = .returned (.agg (dgQ W.re.val W.im.val)) ∧ Below w.heap.size w w') (OV : ∀ {w : World}, Calls Tryd.prog 19 #[.agg (fps [c0, c1])] w fun e w' => e = .returned (.agg (dgQ V.re.val V.im.val)) ∧ Below w.heap.size w w') (hW : W ≠ 0) (hV : V ≠ 0) (hf : SqV (W * W * V) V (-1) f) (h3 : f * f * V = W * W * V) :
    Calls Tryd.prog 6 #[.agg (fps [a0, a1]), .agg (fps [c0, c1]), .bool false] w fun e w' => e = .returned (.bool true) ∧ Below w.heap.size w w' := by
  go_enter Tryd.func6, Tryd.ntmps6
  go_upto_region 1 with (fail)
  have K0 : Kept w [(w.heap.size, (fps [a0, a1])), (w.heap.size + 1, (fps [c0, c1]))] [] ((w.alloc (.cells (fps [a0, a1]) 33)).alloc (.cells (fps [c0, c1]) 33)) := Kept.zero (nb_alloc (nb_alloc (Below.refl _ _) _) _) (rowsC ⟨_, hp2_0 (w := w) (.cells (fps [a0, a1]) 33) (.cells (fps [c0, c1]) 33)⟩ (rowsC ⟨_, hp2_1 (w := w) (.cells (fps [a0, a1]) 33) (.cells (fps [c0, c1]) 33)⟩ rows0))
  obtain ⟨W0, hW⟩ : ∃ W0 : World, W0 = ((w.alloc (.cells (fps [a0, a1]) 33)).alloc (.cells (fps [c0, c1]) 33)) := ⟨_, rfl⟩
  rw [← hW] at K0 ⊢
  clear hW
  have K1 : Kept w [(w.heap.size, (fps [a0, a1])), (w.heap.size + 1, (fps [c0, c1]))] [] W0 := Kept.mks K0.nb (rowsC (K0.at 0 rfl) (rowsC (K0.at 1 rfl) rows0)) rooms0
  refine wp_seq_atS (opsAt Tryd.f6 1) ((true, 0) :: (false, 1) :: (true, 2) :: (true, 3) :: (true, 4) :: (true, 5) :: (false, 6) :: (true, 7) :: (true, 8) :: (true, 9) :: []) (Kept w [(w.heap.size, (fps [a0, a1])), (w.heap.size + 1, (fps [c0, c1]))] []) (by kernel_rfl) (by kernel_rfl) K1 ?_
  refine k_row (by kernel_rfl) (d := (some 11)) (by kernel_rfl) (ty := 33) (x := (.tmp 3)) (by kernel_rfl) (b := w.heap.size) (by kernel_rfl) (cs := (fps [a0, a1])) (fun _ hs => hs.at 0 rfl) Tryd.underlying33 rfl (by kernel_rfl) ?_
  refine k_call (by kernel_rfl) (d := (some 12)) (by kernel_rfl) (f := 19) (args := #[.agg (fps [a0, a1])]) (v := .agg (dgQ W.re.val W.im.val)) (fun _ => by kernel_rfl) (OW) (fun w2 hb2 => ⟨K1.go hb2, ?_⟩)
  have K2 := K1.go hb2
  have L2 := hb2.size
  refine k_pure (by kernel_rfl) (d := (some 13)) (by kernel_rfl) (v := .agg (dgQ 0 0)) (fun _ => by kernel_rfl) ?_
  refine k_eql (by kernel_rfl) (d := (some 14)) (by kernel_rfl) (ty := 39) (ty' := 39) (x := (.tmp 12)) (y := (.tmp 13)) (by kernel_rfl) (xs := (dgQ W.re.val W.im.val)) (ys := (dgQ 0 0)) (b := false) (by kernel_rfl) (by kernel_rfl) (by kernel_rfl) (fun w => eqQ_f hW w) ?_
  refine k_pure (by kernel_rfl) (d := (some 15)) (by kernel_rfl) (v := .bool false) (fun _ => by kernel_rfl) ?_
  refine k_row (by kernel_rfl) (d := (some 16)) (by kernel_rfl) (ty := 33) (x := (.tmp 4)) (by kernel_rfl) (b := w.heap.size + 1) (by kernel_rfl) (cs := (fps [c0, c1])) (fun _ hs => hs.at 1 rfl) Tryd.underlying33 rfl (by kernel_rfl) ?_
  refine k_call (by kernel_rfl) (d := (some 17)) (by kernel_rfl) (f := 19) (args := #[.agg (fps [c0, c1])]) (v := .agg (dgQ V.re.val V.im.val)) (fun _ => by kernel_rfl) (OV) (fun w3 hb3 => ⟨K2.go hb3, ?_⟩)
  have K3 := K2.go hb3
  have L3 := hb3.size
  refine k_pure (by kernel_rfl) (d := (some 18)) (by kernel_rfl) (v := .agg (dgQ 0 0)) (fun _ => by kernel_rfl) ?_
  refine k_eql (by kernel_rfl) (d := (some 19)) (by kernel_rfl) (ty := 39) (ty' := 39) (x := (.tmp 17)) (y := (.tmp 18)) (by kernel_rfl) (xs := (dgQ V.re.val V.im.val)) (ys := (dgQ 0 0)) (b := false) (by kernel_rfl) (by kernel_rfl) (by kernel_rfl) (fun w => eqQ_f hV w) ?_
  refine k_pure (by kernel_rfl) (d := (some 20)) (by kernel_rfl) (v := .bool false) (fun _ => by kernel_rfl) ?_
  have K4 : Kept w [(w.heap.size, (fps [a0, a1])), (w.heap.size + 1, (fps [c0, c1]))] [] w3 := Kept.zero K3.nb (rowsC (K3.at 0 rfl) (rowsC (K3.at 1 rfl) rows0))
  refine k_end ?_
  go_simp
  go_upto_region 6 with (fail)
  have K5 : Kept w [(w.heap.size, (fps [a0, a1])), (w.heap.size + 1, (fps [c0, c1]))] [] w3 := Kept.mks K4.nb (rowsC (K4.at 0 rfl) (rowsC (K4.at 1 rfl) rows0)) rooms0
  refine wp_meet (fun a' w' => ∃ p8 : Nat, a' = { tmps := #[.agg (fps [a0, a1]), .agg (fps [c0, c1]), .bool false, .pointer (some ⟨w.heap.size, 0, none⟩), .pointer (some ⟨w.heap.size + 1, 0, none⟩), undef, .bool false, .int .i64 (-1), .pointer (some ⟨p8, 0, none⟩), undef, undef, .agg (fps [a0, a1]), .agg (dgQ W.re.val W.im.val), .agg (dgQ 0 0), .bool false, .bool false, .agg (fps [c0, c1]), .agg (dgQ V.re.val V.im.val), .agg (dgQ 0 0), .bool false, .bool false, .bool false, .agg (fps [a0, a1]), .agg (dgQ W.re.val W.im.val), .agg (fps [a0, a1]), .agg (dgQ W.re.val W.im.val), .agg (dgQ ((W * W).re.val) ((W * W).im.val)), .agg (fps [c0, c1]), .agg (dgQ V.re.val V.im.val), .agg (dgQ ((W * W * V).re.val) ((W * W * V).im.val)), undef, undef, undef, undef, undef, undef, undef, undef, undef, undef, undef, undef, undef, undef, undef, undef, undef, undef, undef, undef, undef, undef, undef, undef, undef, undef, undef, undef, undef, undef, undef, undef], defers := [] } ∧ Kept w [(w.heap.size, (fps [a0, a1])), (w.heap.size + 1, (fps [c0, c1])), (p8, (dgQ ((W * W * V).re.val) ((W * W * V).im.val)))] [] w' ∧ w3.heap.size ≤ p8) ?_ ?_
  · refine wp_tree_at (opsAt Tryd.f6 6) (.take 0 (.take 2 (.take 5 (.fork 1 (.fork 3 (.fork 4 (.fork 6 (.fork 7 (.fork 8 (.fork 9 .done .nil) .nil) (.fork 8 (.fork 7 (.fork 9 .done .nil) .nil) .nil)) (.fork 8 (.fork 6 (.fork 7 (.fork 9 .done .nil) .nil) .nil) .nil)) (.fork 8 (.fork 4 (.fork 6 (.fork 7 (.fork 9 .done .nil) .nil) .nil) .nil) .nil)) (.fork 8 (.fork 3 (.fork 4 (.fork 6 (.fork 7 (.fork 9 .done .nil) .nil) .nil) .nil) .nil) .nil)) (.fork 8 (.fork 1 (.fork 3 (.fork 4 (.fork 6 (.fork 7 (.fork 9 .done .nil) .nil) .nil) .nil) .nil) .nil) .nil))))) (Kept w [(w.heap.size, (fps [a0, a1])), (w.heap.size + 1, (fps [c0, c1]))] []) (by kernel_rfl) rfl (by kernel_rfl) (by intro c a d v w h; exact absurd h.1 (by simp)) (by kernel_rfl) (by kernel_rfl) K5.drew ?_
    have K6 := K5.drew
    have DK6 : w3.heap.size ≤ w3.drew.heap.size := Nat.le_refl _
    refine t_row (by kernel_rfl) (d := (some 22)) (by kernel_rfl) (ty := 33) (x := (.tmp 3)) (by kernel_rfl) (b := w.heap.size) (by kernel_rfl) (cs := (fps [a0, a1])) (fun _ hs => hs.at 0 rfl) Tryd.underlying33 rfl (by kernel_rfl) ?_
    refine t_row (by kernel_rfl) (d := (some 24)) (by kernel_rfl) (ty := 33) (x := (.tmp 3)) (by kernel_rfl) (b := w.heap.size) (by kernel_rfl) (cs := (fps [a0, a1])) (fun _ hs => hs.at 0 rfl) Tryd.underlying33 rfl (by kernel_rfl) ?_
    refine t_row (by kernel_rfl) (d := (some 27)) (by kernel_rfl) (ty := 33) (x := (.tmp 4)) (by kernel_rfl) (b := w.heap.size + 1) (by kernel_rfl) (cs := (fps [c0, c1])) (fun _ hs => hs.at 1 rfl) Tryd.underlying33 rfl (by kernel_rfl) ?_
    refine t_call (by kernel_rfl) (d := (some 23)) (by kernel_rfl) (f := 19) (args := #[.agg (fps [a0, a1])]) (v := .agg (dgQ W.re.val W.im.val)) (fun _ => by kernel_rfl) (OW) (fun w7 hb7 => ⟨K6.go hb7, ?_⟩) ?_
    · have K7 := K6.go hb7
      have L7 := hb7.size
      refine t_call (by kernel_rfl) (d := (some 25)) (by kernel_rfl) (f := 19) (args := #[.agg (fps [a0, a1])]) (v := .agg (dgQ W.re.val W.im.val)) (fun _ => by kernel_rfl) (OW) (fun w8 hb8 => ⟨K7.go hb8, ?_⟩) ?_
      · have K8 := K7.go hb8
        have L8 := hb8.size
        refine t_call (by kernel_rfl) (d := (some 26)) (by kernel_rfl) (f := 25) (args := #[.agg (dgQ W.re.val W.im.val), .agg (dgQ W.re.val W.im.val)]) (v := .agg (dgQ ((W * W).re.val) ((W * W).im.val))) (fun _ => by kernel_rfl) (mulQ_q) (fun w9 hb9 => ⟨K8.go hb9, ?_⟩) ?_
        · have K9 := K8.go hb9
          have L9 := hb9.size
          refine t_call (by kernel_rfl) (d := (some 28)) (by kernel_rfl) (f := 19) (args := #[.agg (fps [c0, c1])]) (v := .agg (dgQ V.re.val V.im.val)) (fun _ => by kernel_rfl) (OV) (fun w10 hb10 => ⟨K9.go hb10, ?_⟩) ?_
          · have K10 := K9.go hb10
            have L10 := hb10.size
            refine t_call (by kernel_rfl) (d := (some 29)) (by kernel_rfl) (f := 25) (args := #[.agg (dgQ ((W * W).re.val) ((W * W).im.val)), .agg (dgQ V.re.val V.im.val)]) (v := .agg (dgQ ((W * W * V).re.val) ((W * W * V).im.val))) (fun _ => by kernel_rfl) (mulQ_q) (fun w11 hb11 => ⟨K10.go hb11, ?_⟩) ?_
            · have K11 := K10.go hb11
              have L11 := hb11.size
              refine t_make (by kernel_rfl) (d := (some 8)) (by kernel_rfl) (v := .pointer (some ⟨w11.heap.size, 0, none⟩)) (w' := w11.alloc (.cells #[.int .u64 0, .int .u64 0, .int .u64 0, .int .u64 0, .int .u64 0, .int .u64 0, .int .u64 0, .int .u64 0, .int .u64 0, .int .u64 0, .int .u64 0, .int .u64 0, .int .u64 0, .int .u64 0, .int .u64 0, .int .u64 0] 39)) (by kernel_rfl) (K11.go ((Below.refl _ _).alloc (Nat.le_refl _) _)) ?_ ?_
              · intro w12 hw12 K12
                have G12_n : w12.heap[w11.heap.size]? = some (.cells (dgQ 0 0) 39 (0, 0)) := hw12 ▸ heap_alloc_new _ _
                have S12 : w11.heap.size < w12.heap.size := lt_of_heap G12_n
                have R12_0 : w.heap.size < w11.heap.size := (by obtain ⟨T, h⟩ := K11.at 0 rfl; exact lt_of_heap h)
                have R12_1 : w.heap.size + 1 < w11.heap.size := (by obtain ⟨T, h⟩ := K11.at 1 rfl; exact lt_of_heap h)
                have Z12 : w.heap.size ≤ w11.heap.size := K11.nb.size
                clear hw12
                refine t_store (by kernel_rfl) (d := none) (by kernel_rfl) (ty := 39) (x := (.tmp 8)) (y := (.tmp 29)) (by kernel_rfl) (g := w11.heap.size) (cells := (dgQ ((W * W * V).re.val) ((W * W * V).im.val))) (by kernel_rfl) (by kernel_rfl) G12_n (by kernel_rfl) (by kernel_rfl) (all_dgA _) (K12.puti (n := 16) (by kernel_rfl) (by omega) (neC (by omega) (neC (by omega) ne0)) ns0) ?_ ?_
                · intro w13 hw13 K13
                  have G13_s : w13.heap[w11.heap.size]? = some (.cells (dgQ ((W * W * V).re.val) ((W * W * V).im.val)) _ (0, 0)) := hw13 ▸ setRow_heap _ _ _ _ _ _ G12_n
                  have L13 : w12.heap.size ≤ w13.heap.size := by rw [hw13]; exact Nat.le_of_eq (size_setRow _ _ _).symm
                  clear hw13
                  exact t_done ⟨rfl, w11.heap.size, by kernel_rfl, Kept.zero K13.nb (rowsC (K13.at 0 rfl) (rowsC (K13.at 1 rfl) (rowsC ⟨_, G13_s⟩ rows0))), (by omega)⟩
                · -- another
                  exact t_nil
              · -- another
                exact t_nil
            · -- another
              refine t_make (by kernel_rfl) (d := (some 8)) (by kernel_rfl) (v := .pointer (some ⟨w10.heap.size, 0, none⟩)) (w' := w10.alloc (.cells #[.int .u64 0, .int .u64 0, .int .u64 0, .int .u64 0, .int .u64 0, .int .u64 0, .int .u64 0, .int .u64 0, .int .u64 0, .int .u64 0, .int .u64 0, .int .u64 0, .int .u64 0, .int .u64 0, .int .u64 0, .int .u64 0] 39)) (by kernel_rfl) (K10.go ((Below.refl _ _).alloc (Nat.le_refl _) _)) ?_ ?_
              · intro w14 hw14 K14
                have G14_n : w14.heap[w10.heap.size]? = some (.cells (dgQ 0 0) 39 (0, 0)) := hw14 ▸ heap_alloc_new _ _
                have S14 : w10.heap.size < w14.heap.size := lt_of_heap G14_n
                have R14_0 : w.heap.size < w10.heap.size := (by obtain ⟨T, h⟩ := K10.at 0 rfl; exact lt_of_heap h)
                have R14_1 : w.heap.size + 1 < w10.heap.size := (by obtain ⟨T, h⟩ := K10.at 1 rfl; exact lt_of_heap h)
                have Z14 : w.heap.size ≤ w10.heap.size := K10.nb.size
                clear hw14
                refine t_call (by kernel_rfl) (d := (some 29)) (by kernel_rfl) (f := 25) (args := #[.agg (dgQ ((W * W).re.val) ((W * W).im.val)), .agg (dgQ V.re.val V.im.val)]) (v := .agg (dgQ ((W * W * V).re.val) ((W * W * V).im.val))) (fun _ => by kernel_rfl) (mulQ_q) (fun w15 hb15 => ⟨K14.go hb15, ?_⟩) ?_
                · have K15 := K14.go hb15
                  have G15_10 := nb_heap G14_n _ hb15
                  have L15 := hb15.size
                  refine t_store (by kernel_rfl) (d := none) (by kernel_rfl) (ty := 39) (x := (.tmp 8)) (y := (.tmp 29)) (by kernel_rfl) (g := w10.heap.size) (cells := (dgQ ((W * W * V).re.val) ((W * W * V).im.val))) (by kernel_rfl) (by kernel_rfl) G15_10 (by kernel_rfl) (by kernel_rfl) (all_dgA _) (K15.puti (n := 16) (by kernel_rfl) (by omega) (neC (by omega) (neC (by omega) ne0)) ns0) ?_ ?_
                  · intro w16 hw16 K16
                    have G16_s : w16.heap[w10.heap.size]? = some (.cells (dgQ ((W * W * V).re.val) ((W * W * V).im.val)) _ (0, 0)) := hw16 ▸ setRow_heap _ _ _ _ _ _ G15_10
                    have L16 : w15.heap.size ≤ w16.heap.size := by rw [hw16]; exact Nat.le_of_eq (size_setRow _ _ _).symm
                    clear hw16
                    exact t_done ⟨rfl, w10.heap.size, by kernel_rfl, Kept.zero K16.nb (rowsC (K16.at 0 rfl) (rowsC (K16.at 1 rfl) (rowsC ⟨_, G16_s⟩ rows0))), (by omega)⟩
                  · -- another
                    exact t_nil
                · -- another
                  exact t_nil
              · -- another
                exact t_nil
          · -- another
            refine t_make (by kernel_rfl) (d := (some 8)) (by kernel_rfl) (v := .pointer (some ⟨w9.heap.size, 0, none⟩)) (w' := w9.alloc (.cells #[.int .u64 0, .int .u64 0, .int .u64 0, .int .u64 0, .int .u64 0, .int .u64 0, .int .u64 0, .int .u64 0, .int .u64 0, .int .u64 0, .int .u64 0, .int .u64 0, .int .u64 0, .int .u64 0, .int .u64 0, .int .u64 0] 39)) (by kernel_rfl) (K9.go ((Below.refl _ _).alloc (Nat.le_refl _) _)) ?_ ?_
            · intro w17 hw17 K17
              have G17_n : w17.heap[w9.heap.size]? = some (.cells (dgQ 0 0) 39 (0, 0)) := hw17 ▸ heap_alloc_new _ _
              have S17 : w9.heap.size < w17.heap.size := lt_of_heap G17_n
              have R17_0 : w.heap.size < w9.heap.size := (by obtain ⟨T, h⟩ := K9.at 0 rfl; exact lt_of_heap h)
              have R17_1 : w.heap.size + 1 < w9.heap.size := (by obtain ⟨T, h⟩ := K9.at 1 rfl; exact lt_of_heap h)
              have Z17 : w.heap.size ≤ w9.heap.size := K9.nb.size
              clear hw17
              refine t_call (by kernel_rfl) (d := (some 28)) (by kernel_rfl) (f := 19) (args := #[.agg (fps [c0, c1])]) (v := .agg (dgQ V.re.val V.im.val)) (fun _ => by kernel_rfl) (OV) (fun w18 hb18 => ⟨K17.go hb18, ?_⟩) ?_
              · have K18 := K17.go hb18
                have G18_10 := nb_heap G17_n _ hb18
                have L18 := hb18.size
                refine t_call (by kernel_rfl) (d := (some 29)) (by kernel_rfl) (f := 25) (args := #[.agg (dgQ ((W * W).re.val) ((W * W).im.val)), .agg (dgQ V.re.val V.im.val)]) (v := .agg (dgQ ((W * W * V).re.val) ((W * W * V).im.val))) (fun _ => by kernel_rfl) (mulQ_q) (fun w19 hb19 => ⟨K18.go hb19, ?_⟩) ?_
                · have K19 := K18.go hb19
                  have G19_10 := nb_heap G18_10 _ hb19
                  have L19 := hb19.size
                  refine t_store (by kernel_rfl) (d := none) (by kernel_rfl) (ty := 39) (x := (.tmp 8)) (y := (.tmp 29)) (by kernel_rfl) (g := w9.heap.size) (cells := (dgQ ((W * W * V).re.val) ((W * W * V).im.val))) (by kernel_rfl) (by kernel_rfl) G19_10 (by kernel_rfl) (by kernel_rfl) (all_dgA _) (K19.puti (n := 16) (by kernel_rfl) (by omega) (neC (by omega) (neC (by omega) ne0)) ns0) ?_ ?_
                  · intro w20 hw20 K20
                    have G20_s : w20.heap[w9.heap.size]? = some (.cells (dgQ ((W * W * V).re.val) ((W * W * V).im.val)) _ (0, 0)) := hw20 ▸ setRow_heap _ _ _ _ _ _ G19_10
                    have L20 : w19.heap.size ≤ w20.heap.size := by rw [hw20]; exact Nat.le_of_eq (size_setRow _ _ _).symm
                    clear hw20
                    exact t_done ⟨rfl, w9.heap.size, by kernel_rfl, Kept.zero K20.nb (rowsC (K20.at 0 rfl) (rowsC (K20.at 1 rfl) (rowsC ⟨_, G20_s⟩ rows0))), (by omega)⟩
                  · -- another
                    exact t_nil
                · -- another
                  exact t_nil
              · -- another
                exact t_nil
            · -- another
              exact t_nil
        · -- another
          refine t_make (by kernel_rfl) (d := (some 8)) (by kernel_rfl) (v := .pointer (some ⟨w8.heap.size, 0, none⟩)) (w' := w8.alloc (.cells #[.int .u64 0, .int .u64 0, .int .u64 0, .int .u64 0, .int .u64 0, .int .u64 0, .int .u64 0, .int .u64 0, .int .u64 0, .int .u64 0, .int .u64 0, .int .u64 0, .int .u64 0, .int .u64 0, .int .u64 0, .int .u64 0] 39)) (by kernel_rfl) (K8.go ((Below.refl _ _).alloc (Nat.le_refl _) _)) ?_ ?_
          · intro w21 hw21 K21
            have G21_n : w21.heap[w8.heap.size]? = some (.cells (dgQ 0 0) 39 (0, 0)) := hw21 ▸ heap_alloc_new _ _
            have S21 : w8.heap.size < w21.heap.size := lt_of_heap G21_n
            have R21_0 : w.heap.size < w8.heap.size := (by obtain ⟨T, h⟩ := K8.at 0 rfl; exact lt_of_heap h)
            have R21_1 : w.heap.size + 1 < w8.heap.size := (by obtain ⟨T, h⟩ := K8.at 1 rfl; exact lt_of_heap h)
            have Z21 : w.heap.size ≤ w8.heap.size := K8.nb.size
            clear hw21
            refine t_call (by kernel_rfl) (d := (some 26)) (by kernel_rfl) (f := 25) (args := #[.agg (dgQ W.re.val W.im.val), .agg (dgQ W.re.val W.im.val)]) (v := .agg (dgQ ((W * W).re.val) ((W * W).im.val))) (fun _ => by kernel_rfl) (mulQ_q) (fun w22 hb22 => ⟨K21.go hb22, ?_⟩) ?_
            · have K22 := K21.go hb22
              have G22_10 := nb_heap G21_n _ hb22
              have L22 := hb22.size
              refine t_call (by kernel_rfl) (d := (some 28)) (by kernel_rfl) (f := 19) (args := #[.agg (fps [c0, c1])]) (v := .agg (dgQ V.re.val V.im.val)) (fun _ => by kernel_rfl) (OV) (fun w23 hb23 => ⟨K22.go hb23, ?_⟩) ?_
              · have K23 := K22.go hb23
                have G23_10 := nb_heap G22_10 _ hb23
                have L23 := hb23.size
                refine t_call (by kernel_rfl) (d := (some 29)) (by kernel_rfl) (f := 25) (args := #[.agg (dgQ ((W * W).re.val) ((W * W).im.val)), .agg (dgQ V.re.val V.im.val)]) (v := .agg (dgQ ((W * W * V).re.val) ((W * W * V).im.val))) (fun _ => by kernel_rfl) (mulQ_q) (fun w24 hb24 => ⟨K23.go hb24, ?_⟩) ?_
                · have K24 := K23.go hb24
                  have G24_10 := nb_heap G23_10 _ hb24
                  have L24 := hb24.size
                  refine t_store (by kernel_rfl) (d := none) (by kernel_rfl) (ty := 39) (x := (.tmp 8)) (y := (.tmp 29)) (by kernel_rfl) (g := w8.heap.size) (cells := (dgQ ((W * W * V).re.val) ((W * W * V).im.val))) (by kernel_rfl) (by kernel_rfl) G24_10 (by kernel_rfl) (by kernel_rfl) (all_dgA _) (K24.puti (n := 16) (by kernel_rfl) (by omega) (neC (by omega) (neC (by omega) ne0)) ns0) ?_ ?_
                  · intro w25 hw25 K25
                    have G25_s : w25.heap[w8.heap.size]? = some (.cells (dgQ ((W * W * V).re.val) ((W * W * V).im.val)) _ (0, 0)) := hw25 ▸ setRow_heap _ _ _ _ _ _ G24_10
                    have L25 : w24.heap.size ≤ w25.heap.size := by rw [hw25]; exact Nat.le_of_eq (size_setRow _ _ _).symm
                    clear hw25
                    exact t_done ⟨rfl, w8.heap.size, by kernel_rfl, Kept.zero K25.nb (rowsC (K25.at 0 rfl) (rowsC (K25.at 1 rfl) (rowsC ⟨_, G25_s⟩ rows0))), (by omega)⟩
                  · -- another
                    exact t_nil
                · -- another
                  exact t_nil
              · -- another
                exact t_nil
            · -- another
              exact t_nil
          · -- another
            exact t_nil
      · -- another
        refine t_make (by kernel_rfl) (d := (some 8)) (by kernel_rfl) (v := .pointer (some ⟨w7.heap.size, 0, none⟩)) (w' := w7.alloc (.cells #[.int .u64 0, .int .u64 0, .int .u64 0, .int .u64 0, .int .u64 0, .int .u64 0, .int .u64 0, .int .u64 0, .int .u64 0, .int .u64 0, .int .u64 0, .int .u64 0, .int .u64 0, .int .u64 0, .int .u64 0, .int .u64 0] 39)) (by kernel_rfl) (K7.go ((Below.refl _ _).alloc (Nat.le_refl _) _)) ?_ ?_
        · intro w26 hw26 K26
          have G26_n : w26.heap[w7.heap.size]? = some (.cells (dgQ 0 0) 39 (0, 0)) := hw26 ▸ heap_alloc_new _ _
          have S26 : w7.heap.size < w26.heap.size := lt_of_heap G26_n
          have R26_0 : w.heap.size < w7.heap.size := (by obtain ⟨T, h⟩ := K7.at 0 rfl; exact lt_of_heap h)
          have R26_1 : w.heap.size + 1 < w7.heap.size := (by obtain ⟨T, h⟩ := K7.at 1 rfl; exact lt_of_heap h)
          have Z26 : w.heap.size ≤ w7.heap.size := K7.nb.size
          clear hw26
          refine t_call (by kernel_rfl) (d := (some 25)) (by kernel_rfl) (f := 19) (args := #[.agg (fps [a0, a1])]) (v := .agg (dgQ W.re.val W.im.val)) (fun _ => by kernel_rfl) (OW) (fun w27 hb27 => ⟨K26.go hb27, ?_⟩) ?_
          · have K27 := K26.go hb27
            have G27_10 := nb_heap G26_n _ hb27
            have L27 := hb27.size
            refine t_call (by kernel_rfl) (d := (some 26)) (by kernel_rfl) (f := 25) (args := #[.agg (dgQ W.re.val W.im.val), .agg (dgQ W.re.val W.im.val)]) (v := .agg (dgQ ((W * W).re.val) ((W * W).im.val))) (fun _ => by kernel_rfl) (mulQ_q) (fun w28 hb28 => ⟨K27.go hb28, ?_⟩) ?_
            · have K28 := K27.go hb28
              have G28_10 := nb_heap G27_10 _ hb28
              have L28 := hb28.size
              refine t_call (by kernel_rfl) (d := (some 28)) (by kernel_rfl) (f := 19) (args := #[.agg (fps [c0, c1])]) (v := .agg (dgQ V.re.val V.im.val)) (fun _ => by kernel_rfl) (OV) (fun w29 hb29 => ⟨K28.go hb29, ?_⟩) ?_
              · have K29 := K28.go hb29
                have G29_10 := nb_heap G28_10 _ hb29
                have L29 := hb29.size
                refine t_call (by kernel_rfl) (d := (some 29)) (by kernel_rfl) (f := 25) (args := #[.agg (dgQ ((W * W).re.val) ((W * W).im.val)), .agg (dgQ V.re.val V.im.val)]) (v := .agg (dgQ ((W * W * V).re.val) ((W * W * V).im.val))) (fun _ => by kernel_rfl) (mulQ_q) (fun w30 hb30 => ⟨K29.go hb30, ?_⟩) ?_
                · have K30 := K29.go hb30
                  have G30_10 := nb_heap G29_10 _ hb30
                  have L30 := hb30.size
                  refine t_store (by kernel_rfl) (d := none) (by kernel_rfl) (ty := 39) (x := (.tmp 8)) (y := (.tmp 29)) (by kernel_rfl) (g := w7.heap.size) (cells := (dgQ ((W * W * V).re.val) ((W * W * V).im.val))) (by kernel_rfl) (by kernel_rfl) G30_10 (by kernel_rfl) (by kernel_rfl) (all_dgA _) (K30.puti (n := 16) (by kernel_rfl) (by omega) (neC (by omega) (neC (by omega) ne0)) ns0) ?_ ?_
                  · intro w31 hw31 K31
                    have G31_s : w31.heap[w7.heap.size]? = some (.cells (dgQ ((W * W * V).re.val) ((W * W * V).im.val)) _ (0, 0)) := hw31 ▸ setRow_heap _ _ _ _ _ _ G30_10
                    have L31 : w30.heap.size ≤ w31.heap.size := by rw [hw31]; exact Nat.le_of_eq (size_setRow _ _ _).symm
                    clear hw31
                    exact t_done ⟨rfl, w7.heap.size, by kernel_rfl, Kept.zero K31.nb (rowsC (K31.at 0 rfl) (rowsC (K31.at 1 rfl) (rowsC ⟨_, G31_s⟩ rows0))), (by omega)⟩
                  · -- another
                    exact t_nil
                · -- another
                  exact t_nil
              · -- another
                exact t_nil
            · -- another
              exact t_nil
          · -- another
            exact t_nil
        · -- another
          exact t_nil
    · -- another
      refine t_make (by kernel_rfl) (d := (some 8)) (by kernel_rfl) (v := .pointer (some ⟨w3.drew.heap.size, 0, none⟩)) (w' := w3.drew.alloc (.cells #[.int .u64 0, .int .u64 0, .int .u64 0, .int .u64 0, .int .u64 0, .int .u64 0, .int .u64 0, .int .u64 0, .int .u64 0, .int .u64 0, .int .u64 0, .int .u64 0, .int .u64 0, .int .u64 0, .int .u64 0, .int .u64 0] 39)) (by kernel_rfl) (K6.go ((Below.refl _ _).alloc (Nat.le_refl _) _)) ?_ ?_
      · intro w32 hw32 K32
        have G32_n : w32.heap[w3.drew.heap.size]? = some (.cells (dgQ 0 0) 39 (0, 0)) := hw32 ▸ heap_alloc_new _ _
        have S32 : w3.drew.heap.size < w32.heap.size := lt_of_heap G32_n
        have R32_0 : w.heap.size < w3.drew.heap.size := (by obtain ⟨T, h⟩ := K6.at 0 rfl; exact lt_of_heap h)
        have R32_1 : w.heap.size + 1 < w3.drew.heap.size := (by obtain ⟨T, h⟩ := K6.at 1 rfl; exact lt_of_heap h)
        have Z32 : w.heap.size ≤ w3.drew.heap.size := K6.nb.size
        clear hw32
        refine t_call (by kernel_rfl) (d := (some 23)) (by kernel_rfl) (f := 19) (args := #[.agg (fps [a0, a1])]) (v := .agg (dgQ W.re.val W.im.val)) (fun _ => by kernel_rfl) (OW) (fun w33 hb33 => ⟨K32.go hb33, ?_⟩) ?_
        · have K33 := K32.go hb33
          have G33_10 := nb_heap G32_n _ hb33
          have L33 := hb33.size
          refine t_call (by kernel_rfl) (d := (some 25)) (by kernel_rfl) (f := 19) (args := #[.agg (fps [a0, a1])]) (v := .agg (dgQ W.re.val W.im.val)) (fun _ => by kernel_rfl) (OW) (fun w34 hb34 => ⟨K33.go hb34, ?_⟩) ?_
          · have K34 := K33.go hb34
            have G34_10 := nb_heap G33_10 _ hb34
            have L34 := hb34.size
            refine t_call (by kernel_rfl) (d := (some 26)) (by kernel_rfl) (f := 25) (args := #[.agg (dgQ W.re.val W.im.val), .agg (dgQ W.re.val W.im.val)]) (v := .agg (dgQ ((W * W).re.val) ((W * W).im.val))) (fun _ => by kernel_rfl) (mulQ_q) (fun w35 hb35 => ⟨K34.go hb35, ?_⟩) ?_
            · have K35 := K34.go hb35
              have G35_10 := nb_heap G34_10 _ hb35
              have L35 := hb35.size
              refine t_call (by kernel_rfl) (d := (some 28)) (by kernel_rfl) (f := 19) (args := #[.agg (fps [c0, c1])]) (v := .agg (dgQ V.re.val V.im.val)) (fun _ => by kernel_rfl) (OV) (fun w36 hb36 => ⟨K35.go hb36, ?_⟩) ?_
              · have K36 := K35.go hb36
                have G36_10 := nb_heap G35_10 _ hb36
                have L36 := hb36.size
                refine t_call (by kernel_rfl) (d := (some 29)) (by kernel_rfl) (f := 25) (args := #[.agg (dgQ ((W * W).re.val) ((W * W).im.val)), .agg (dgQ V.re.val V.im.val)]) (v := .agg (dgQ ((W * W * V).re.val) ((W * W * V).im.val))) (fun _ => by kernel_rfl) (mulQ_q) (fun w37 hb37 => ⟨K36.go hb37, ?_⟩) ?_
                · have K37 := K36.go hb37
                  have G37_10 := nb_heap G36_10 _ hb37
                  have L37 := hb37.size
                  refine t_store (by kernel_rfl) (d := none) (by kernel_rfl) (ty := 39) (x := (.tmp 8)) (y := (.tmp 29)) (by kernel_rfl) (g := w3.drew.heap.size) (cells := (dgQ ((W * W * V).re.val) ((W * W * V).im.val))) (by kernel_rfl) (by kernel_rfl) G37_10 (by kernel_rfl) (by kernel_rfl) (all_dgA _) (K37.puti (n := 16) (by kernel_rfl) (by omega) (neC (by omega) (neC (by omega) ne0)) ns0) ?_ ?_
                  · intro w38 hw38 K38
                    have G38_s : w38.heap[w3.drew.heap.size]? = some (.cells (dgQ ((W * W * V).re.val) ((W * W * V).im.val)) _ (0, 0)) := hw38 ▸ setRow_heap _ _ _ _ _ _ G37_10
                    have L38 : w37.heap.size ≤ w38.heap.size := by rw [hw38]; exact Nat.le_of_eq (size_setRow _ _ _).symm
                    clear hw38
                    exact t_done ⟨rfl, w3.drew.heap.size, by kernel_rfl, Kept.zero K38.nb (rowsC (K38.at 0 rfl) (rowsC (K38.at 1 rfl) (rowsC ⟨_, G38_s⟩ rows0))), (by omega)⟩
                  · -- another
                    exact t_nil
                · -- another
                  exact t_nil
              · -- another
                exact t_nil
            · -- another
              exact t_nil
          · -- another
            exact t_nil
        · -- another
          exact t_nil
      · -- another
        exact t_nil
  · rintro _ W39 ⟨p8, rfl, K40, l41⟩
    go_upto_region 7 with (fail)
    have K42 : Kept w [(w.heap.size, (fps [a0, a1])), (w.heap.size + 1, (fps [c0, c1])), (p8, (dgQ ((W * W * V).re.val) ((W * W * V).im.val)))] [] W39 := Kept.mks K40.nb (rowsC (K40.at 0 rfl) (rowsC (K40.at 1 rfl) (rowsC (K40.at 2 rfl) rows0))) rooms0
    refine wp_meet (fun a' w' => ∃ p9 : Nat, a' = { tmps := #[.agg (fps [a0, a1]), .agg (fps [c0, c1]), .bool false, .pointer (some ⟨w.heap.size, 0, none⟩), .pointer (some ⟨w.heap.size + 1, 0, none⟩), undef, .bool false, .int .i64 (-1), .pointer (some ⟨p8, 0, none⟩), .pointer (some ⟨p9, 0, none⟩), undef, .agg (fps [a0, a1]), .agg (dgQ W.re.val W.im.val), .agg (dgQ 0 0), .bool false, .bool false, .agg (fps [c0, c1]), .agg (dgQ V.re.val V.im.val), .agg (dgQ 0 0), .bool false, .bool false, .bool false, .agg (fps [a0, a1]), .agg (dgQ W.re.val W.im.val), .agg (fps [a0, a1]), .agg (dgQ W.re.val W.im.val), .agg (dgQ ((W * W).re.val) ((W * W).im.val)), .agg (fps [c0, c1]), .agg (dgQ V.re.val V.im.val), .agg (dgQ ((W * W * V).re.val) ((W * W * V).im.val)), .agg (dgQ ((W * W * V).re.val) ((W * W * V).im.val)), .agg (fps [(W * W * V).re.val, (W * W * V).im.val]), .agg (fps [c0, c1]), .agg (dgQ V.re.val V.im.val), .agg (fps [V.re.val, V.im.val]), .int .i64 (-1), .agg (fps [f.re.val, f.im.val]), .agg (dgQ f.re.val f.im.val), undef, undef, undef, undef, undef, undef, undef, undef, undef, undef, undef, undef, undef, undef, undef, undef, undef, undef, undef, undef, undef, undef, undef, undef], defers := [] } ∧ Kept w [(w.heap.size, (fps [a0, a1])), (w.heap.size + 1, (fps [c0, c1])), (p8, (dgQ ((W * W * V).re.val) ((W * W * V).im.val))), (p9, (dgQ f.re.val f.im.val))] [] w' ∧ W39.heap.size ≤ p9) ?_ ?_
    · refine wp_tree_at (opsAt Tryd.f6 7) (.take 0 (.take 2 (.take 5 (.fork 1 (.fork 3 (.fork 4 (.fork 6 (.fork 7 (.fork 8 (.fork 9 .done .nil) .nil) (.fork 8 (.fork 7 (.fork 9 .done .nil) .nil) .nil)) (.fork 8 (.fork 6 (.fork 7 (.fork 9 .done .nil) .nil) .nil) .nil)) (.fork 8 (.fork 4 (.fork 6 (.fork 7 (.fork 9 .done .nil) .nil) .nil) .nil) .nil)) (.fork 8 (.fork 3 (.fork 4 (.fork 6 (.fork 7 (.fork 9 .done .nil) .nil) .nil) .nil) .nil) .nil)) (.fork 8 (.fork 1 (.fork 3 (.fork 4 (.fork 6 (.fork 7 (.fork 9 .done .nil) .nil) .nil) .nil) .nil) .nil) .nil))))) (Kept w [(w.heap.size, (fps [a0, a1])), (w.heap.size + 1, (fps [c0, c1])), (p8, (dgQ ((W * W * V).re.val) ((W * W * V).im.val)))] []) (by kernel_rfl) rfl (by kernel_rfl) (by intro c a d v w h; exact absurd h.1 (by simp)) (by kernel_rfl) (by kernel_rfl) K42.drew ?_
      have K43 := K42.drew
      have DK43 : W39.heap.size ≤ W39.drew.heap.size := Nat.le_refl _
      refine t_row (by kernel_rfl) (d := (some 30)) (by kernel_rfl) (ty := 39) (x := (.tmp 8)) (by kernel_rfl) (b := p8) (by kernel_rfl) (cs := (dgQ ((W * W * V).re.val) ((W * W * V).im.val))) (fun _ hs => hs.at 2 rfl) Tryd.underlying39 rfl (by kernel_rfl) ?_
      refine t_row (by kernel_rfl) (d := (some 32)) (by kernel_rfl) (ty := 33) (x := (.tmp 4)) (by kernel_rfl) (b := w.heap.size + 1) (by kernel_rfl) (cs := (fps [c0, c1])) (fun _ hs => hs.at 1 rfl) Tryd.underlying33 rfl (by kernel_rfl) ?_
      refine t_pure (by kernel_rfl) (d := (some 35)) (by kernel_rfl) (v := .int .i64 (-1)) (fun _ => by kernel_rfl) ?_
      refine t_call (by kernel_rfl) (d := (some 31)) (by kernel_rfl) (f := 27) (args := #[.agg (dgQ ((W * W * V).re.val) ((W * W * V).im.val))]) (v := .agg (fps [(W * W * V).re.val, (W * W * V).im.val])) (fun _ => by kernel_rfl) (bytesQ_q) (fun w44 hb44 => ⟨K43.go hb44, ?_⟩) ?_
      · have K44 := K43.go hb44
        have L44 := hb44.size
        refine t_call (by kernel_rfl) (d := (some 33)) (by kernel_rfl) (f := 19) (args := #[.agg (fps [c0, c1])]) (v := .agg (dgQ V.re.val V.im.val)) (fun _ => by kernel_rfl) (OV) (fun w45 hb45 => ⟨K44.go hb45, ?_⟩) ?_
        · have K45 := K44.go hb45
          have L45 := hb45.size
          refine t_call (by kernel_rfl) (d := (some 34)) (by kernel_rfl) (f := 27) (args := #[.agg (dgQ V.re.val V.im.val)]) (v := .agg (fps [V.re.val, V.im.val])) (fun _ => by kernel_rfl) (bytesQ_q) (fun w46 hb46 => ⟨K45.go hb46, ?_⟩) ?_
          · have K46 := K45.go hb46
            have L46 := hb46.size
            refine t_call (by kernel_rfl) (d := (some 36)) (by kernel_rfl) (f := 26) (args := #[.agg (fps [(W * W * V).re.val, (W * W * V).im.val]), .agg (fps [V.re.val, V.im.val]), .int .i64 (-1)]) (v := .agg (fps [f.re.val, f.im.val])) (fun _ => by kernel_rfl) (implFqSqrt_M hf (hm.nb K46.nb)) (fun w47 hb47 => ⟨K46.go hb47, ?_⟩) ?_
            · have K47 := K46.go hb47
              have L47 := hb47.size
              refine t_call (by kernel_rfl) (d := (some 37)) (by kernel_rfl) (f := 19) (args := #[.agg (fps [f.re.val, f.im.val])]) (v := .agg (dgQ f.re.val f.im.val)) (fun _ => by kernel_rfl) (ofQ_q) (fun w48 hb48 => ⟨K47.go hb48, ?_⟩) ?_
              · have K48 := K47.go hb48
                have L48 := hb48.size
                refine t_make (by kernel_rfl) (d := (some 9)) (by kernel_rfl) (v := .pointer (some ⟨w48.heap.size, 0, none⟩)) (w' := w48.alloc (.cells #[.int .u64 0, .int .u64 0, .int .u64 0, .int .u64 0, .int .u64 0, .int .u64 0, .int .u64 0, .int .u64 0, .int .u64 0, .int .u64 0, .int .u64 0, .int .u64 0, .int .u64 0, .int .u64 0, .int .u64 0, .int .u64 0] 39)) (by kernel_rfl) (K48.go ((Below.refl _ _).alloc (Nat.le_refl _) _)) ?_ ?_
                · intro w49 hw49 K49
                  have G49_n : w49.heap[w48.heap.size]? = some (.cells (dgQ 0 0) 39 (0, 0)) := hw49 ▸ heap_alloc_new _ _
                  have S49 : w48.heap.size < w49.heap.size := lt_of_heap G49_n
                  have R49_0 : w.heap.size < w48.heap.size := (by obtain ⟨T, h⟩ := K48.at 0 rfl; exact lt_of_heap h)
                  have R49_1 : w.heap.size + 1 < w48.heap.size := (by obtain ⟨T, h⟩ := K48.at 1 rfl; exact lt_of_heap h)
                  have R49_2 : p8 < w48.heap.size := (by obtain ⟨T, h⟩ := K48.at 2 rfl; exact lt_of_heap h)
                  have Z49 : w.heap.size ≤ w48.heap.size := K48.nb.size
                  clear hw49
                  refine t_store (by kernel_rfl) (d := none) (by kernel_rfl) (ty := 39) (x := (.tmp 9)) (y := (.tmp 37)) (by kernel_rfl) (g := w48.heap.size) (cells := (dgQ f.re.val f.im.val)) (by kernel_rfl) (by kernel_rfl) G49_n (by kernel_rfl) (by kernel_rfl) (all_dgA _) (K49.puti (n := 16) (by kernel_rfl) (by omega) (neC (by omega) (neC (by omega) (neC (by omega) ne0))) ns0) ?_ ?_
                  · intro w50 hw50 K50
                    have G50_s : w50.heap[w48.heap.size]? = some (.cells (dgQ f.re.val f.im.val) _ (0, 0)) := hw50 ▸ setRow_heap _ _ _ _ _ _ G49_n
                    have L50 : w49.heap.size ≤ w50.heap.size := by rw [hw50]; exact Nat.le_of_eq (size_setRow _ _ _).symm
                    clear hw50
                    exact t_done ⟨rfl, w48.heap.size, by kernel_rfl, Kept.zero K50.nb (rowsC (K50.at 0 rfl) (rowsC (K50.at 1 rfl) (rowsC (K50.at 2 rfl) (rowsC ⟨_, G50_s⟩ rows0)))), (by omega)⟩
                  · -- another
                    exact t_nil
                · -- another
                  exact t_nil
              · -- another
                refine t_make (by kernel_rfl) (d := (some 9)) (by kernel_rfl) (v := .pointer (some ⟨w47.heap.size, 0, none⟩)) (w' := w47.alloc (.cells #[.int .u64 0, .int .u64 0, .int .u64 0, .int .u64 0, .int .u64 0, .int .u64 0, .int .u64 0, .int .u64 0, .int .u64 0, .int .u64 0, .int .u64 0, .int .u64 0, .int .u64 0, .int .u64 0, .int .u64 0, .int .u64 0] 39)) (by kernel_rfl) (K47.go ((Below.refl _ _).alloc (Nat.le_refl _) _)) ?_ ?_
                · intro w51 hw51 K51
                  have G51_n : w51.heap[w47.heap.size]? = some (.cells (dgQ 0 0) 39 (0, 0)) := hw51 ▸ heap_alloc_new _ _
                  have S51 : w47.heap.size < w51.heap.size := lt_of_heap G51_n
                  have R51_0 : w.heap.size < w47.heap.size := (by obtain ⟨T, h⟩ := K47.at 0 rfl; exact lt_of_heap h)
                  have R51_1 : w.heap.size + 1 < w47.heap.size := (by obtain ⟨T, h⟩ := K47.at 1 rfl; exact lt_of_heap h)
                  have R51_2 : p8 < w47.heap.size := (by obtain ⟨T, h⟩ := K47.at 2 rfl; exact lt_of_heap h)
                  have Z51 : w.heap.size ≤ w47.heap.size := K47.nb.size
                  clear hw51
                  refine t_call (by kernel_rfl) (d := (some 37)) (by kernel_rfl) (f := 19) (args := #[.agg (fps [f.re.val, f.im.val])]) (v := .agg (dgQ f.re.val f.im.val)) (fun _ => by kernel_rfl) (ofQ_q) (fun w52 hb52 => ⟨K51.go hb52, ?_⟩) ?_
                  · have K52 := K51.go hb52
                    have G52_10 := nb_heap G51_n _ hb52
                    have L52 := hb52.size
                    refine t_store (by kernel_rfl) (d := none) (by kernel_rfl) (ty := 39) (x := (.tmp 9)) (y := (.tmp 37)) (by kernel_rfl) (g := w47.heap.size) (cells := (dgQ f.re.val f.im.val)) (by kernel_rfl) (by kernel_rfl) G52_10 (by kernel_rfl) (by kernel_rfl) (all_dgA _) (K52.puti (n := 16) (by kernel_rfl) (by omega) (neC (by omega) (neC (by omega) (neC (by omega) ne0))) ns0) ?_ ?_
                    · intro w53 hw53 K53
                      have G53_s : w53.heap[w47.heap.size]? = some (.cells (dgQ f.re.val f.im.val) _ (0, 0)) := hw53 ▸ setRow_heap _ _ _ _ _ _ G52_10
                      have L53 : w52.heap.size ≤ w53.heap.size := by rw [hw53]; exact Nat.le_of_eq (size_setRow _ _ _).symm
                      clear hw53
                      exact t_done ⟨rfl, w47.heap.size, by kernel_rfl, Kept.zero K53.nb (rowsC (K53.at 0 rfl) (rowsC (K53.at 1 rfl) (rowsC (K53.at 2 rfl) (rowsC ⟨_, G53_s⟩ rows0)))), (by omega)⟩
                    · -- another
                      exact t_nil
                  · -- another
                    exact t_nil
                · -- another
                  exact t_nil
            · -- another
              refine t_make (by kernel_rfl) (d := (some 9)) (by kernel_rfl) (v := .pointer (some ⟨w46.heap.size, 0, none⟩)) (w' := w46.alloc (.cells #[.int .u64 0, .int .u64 0, .int .u64 0, .int .u64 0, .int .u64 0, .int .u64 0, .int .u64 0, .int .u64 0, .int .u64 0, .int .u64 0, .int .u64 0, .int .u64 0, .int .u64 0, .int .u64 0, .int .u64 0, .int .u64 0] 39)) (by kernel_rfl) (K46.go ((Below.refl _ _).alloc (Nat.le_refl _) _)) ?_ ?_
              · intro w54 hw54 K54
                have G54_n : w54.heap[w46.heap.size]? = some (.cells (dgQ 0 0) 39 (0, 0)) := hw54 ▸ heap_alloc_new _ _
                have S54 : w46.heap.size < w54.heap.size := lt_of_heap G54_n
                have R54_0 : w.heap.size < w46.heap.size := (by obtain ⟨T, h⟩ := K46.at 0 rfl; exact lt_of_heap h)
                have R54_1 : w.heap.size + 1 < w46.heap.size := (by obtain ⟨T, h⟩ := K46.at 1 rfl; exact lt_of_heap h)
                have R54_2 : p8 < w46.heap.size := (by obtain ⟨T, h⟩ := K46.at 2 rfl; exact lt_of_heap h)
                have Z54 : w.heap.size ≤ w46.heap.size := K46.nb.size
                clear hw54
                refine t_call (by kernel_rfl) (d := (some 36)) (by kernel_rfl) (f := 26) (args := #[.agg (fps [(W * W * V).re.val, (W * W * V).im.val]), .agg (fps [V.re.val, V.im.val]), .int .i64 (-1)]) (v := .agg (fps [f.re.val, f.im.val])) (fun _ => by kernel_rfl) (implFqSqrt_M hf (hm.nb K54.nb)) (fun w55 hb55 => ⟨K54.go hb55, ?_⟩) ?_
                · have K55 := K54.go hb55
                  have G55_10 := nb_heap G54_n _ hb55
                  have L55 := hb55.size
                  refine t_call (by kernel_rfl) (d := (some 37)) (by kernel_rfl) (f := 19) (args := #[.agg (fps [f.re.val, f.im.val])]) (v := .agg (dgQ f.re.val f.im.val)) (fun _ => by kernel_rfl) (ofQ_q) (fun w56 hb56 => ⟨K55.go hb56, ?_⟩) ?_
                  · have K56 := K55.go hb56
                    have G56_10 := nb_heap G55_10 _ hb56
                    have L56 := hb56.size
                    refine t_store (by kernel_rfl) (d := none) (by kernel_rfl) (ty := 39) (x := (.tmp 9)) (y := (.tmp 37)) (by kernel_rfl) (g := w46.heap.size) (cells := (dgQ f.re.val f.im.val)) (by kernel_rfl) (by kernel_rfl) G56_10 (by kernel_rfl) (by kernel_rfl) (all_dgA _) (K56.puti (n := 16) (by kernel_rfl) (by omega) (neC (by omega) (neC (by omega) (neC (by omega) ne0))) ns0) ?_ ?_
                    · intro w57 hw57 K57
                      have G57_s : w57.heap[w46.heap.size]? = some (.cells (dgQ f.re.val f.im.val) _ (0, 0)) := hw57 ▸ setRow_heap _ _ _ _ _ _ G56_10
                      have L57 : w56.heap.size ≤ w57.heap.size := by rw [hw57]; exact Nat.le_of_eq (size_setRow _ _ _).symm
                      clear hw57
                      exact t_done ⟨rfl, w46.heap.size, by kernel_rfl, Kept.zero K57.nb (rowsC (K57.at 0 rfl) (rowsC (K57.at 1 rfl) (rowsC (K57.at 2 rfl) (rowsC ⟨_, G57_s⟩ rows0)))), (by omega)⟩
                    · -- another
                      exact t_nil
                  · -- another
                    exact t_nil
                · -- another
                  exact t_nil
              · -- another
                exact t_nil
          · -- another
            refine t_make (by kernel_rfl) (d := (some 9)) (by kernel_rfl) (v := .pointer (some ⟨w45.heap.size, 0, none⟩)) (w' := w45.alloc (.cells #[.int .u64 0, .int .u64 0, .int .u64 0, .int .u64 0, .int .u64 0, .int .u64 0, .int .u64 0, .int .u64 0, .int .u64 0, .int .u64 0, .int .u64 0, .int .u64 0, .int .u64 0, .int .u64 0, .int .u64 0, .int .u64 0] 39)) (by kernel_rfl) (K45.go ((Below.refl _ _).alloc (Nat.le_refl _) _)) ?_ ?_
            · intro w58 hw58 K58
              have G58_n : w58.heap[w45.heap.size]? = some (.cells (dgQ 0 0) 39 (0, 0)) := hw58 ▸ heap_alloc_new _ _
              have S58 : w45.heap.size < w58.heap.size := lt_of_heap G58_n
              have R58_0 : w.heap.size < w45.heap.size := (by obtain ⟨T, h⟩ := K45.at 0 rfl; exact lt_of_heap h)
              have R58_1 : w.heap.size + 1 < w45.heap.size := (by obtain ⟨T, h⟩ := K45.at 1 rfl; exact lt_of_heap h)
              have R58_2 : p8 < w45.heap.size := (by obtain ⟨T, h⟩ := K45.at 2 rfl; exact lt_of_heap h)
              have Z58 : w.heap.size ≤ w45.heap.size := K45.nb.size
              clear hw58
              refine t_call (by kernel_rfl) (d := (some 34)) (by kernel_rfl) (f := 27) (args := #[.agg (dgQ V.re.val V.im.val)]) (v := .agg (fps [V.re.val, V.im.val])) (fun _ => by kernel_rfl) (bytesQ_q) (fun w59 hb59 => ⟨K58.go hb59, ?_⟩) ?_
              · have K59 := K58.go hb59
                have G59_10 := nb_heap G58_n _ hb59
                have L59 := hb59.size
                refine t_call (by kernel_rfl) (d := (some 36)) (by kernel_rfl) (f := 26) (args := #[.agg (fps [(W * W * V).re.val, (W * W * V).im.val]), .agg (fps [V.re.val, V.im.val]), .int .i64 (-1)]) (v := .agg (fps [f.re.val, f.im.val])) (fun _ => by kernel_rfl) (implFqSqrt_M hf (hm.nb K59.nb)) (fun w60 hb60 => ⟨K59.go hb60, ?_⟩) ?_
                · have K60 := K59.go hb60
                  have G60_10 := nb_heap G59_10 _ hb60
                  have L60 := hb60.size
                  refine t_call (by kernel_rfl) (d := (some 37)) (by kernel_rfl) (f := 19) (args := #[.agg (fps [f.re.val, f.im.val])]) (v := .agg (dgQ f.re.val f.im.val)) (fun _ => by kernel_rfl) (ofQ_q) (fun w61 hb61 => ⟨K60.go hb61, ?_⟩) ?_
                  · have K61 := K60.go hb61
                    have G61_10 := nb_heap G60_10 _ hb61
                    have L61 := hb61.size
                    refine t_store (by kernel_rfl) (d := none) (by kernel_rfl) (ty := 39) (x := (.tmp 9)) (y := (.tmp 37)) (by kernel_rfl) (g := w45.heap.size) (cells := (dgQ f.re.val f.im.val)) (by kernel_rfl) (by kernel_rfl) G61_10 (by kernel_rfl) (by kernel_rfl) (all_dgA _) (K61.puti (n := 16) (by kernel_rfl) (by omega) (neC (by omega) (neC (by omega) (neC (by omega) ne0))) ns0) ?_ ?_
                    · intro w62 hw62 K62
                      have G62_s : w62.heap[w45.heap.size]? = some (.cells (dgQ f.re.val f.im.val) _ (0, 0)) := hw62 ▸ setRow_heap _ _ _ _ _ _ G61_10
                      have L62 : w61.heap.size ≤ w62.heap.size := by rw [hw62]; exact Nat.le_of_eq (size_setRow _ _ _).symm
                      clear hw62
                      exact t_done ⟨rfl, w45.heap.size, by kernel_rfl, Kept.zero K62.nb (rowsC (K62.at 0 rfl) (rowsC (K62.at 1 rfl) (rowsC (K62.at 2 rfl) (rowsC ⟨_, G62_s⟩ rows0)))), (by omega)⟩
                    · -- another
                      exact t_nil
                  · -- another
                    exact t_nil
                · -- another
                  exact t_nil
              · -- another
                exact t_nil
            · -- another
              exact t_nil
        · -- another
          refine t_make (by kernel_rfl) (d := (some 9)) (by kernel_rfl) (v := .pointer (some ⟨w44.heap.size, 0, none⟩)) (w' := w44.alloc (.cells #[.int .u64 0, .int .u64 0, .int .u64 0, .int .u64 0, .int .u64 0, .int .u64 0, .int .u64 0, .int .u64 0, .int .u64 0, .int .u64 0, .int .u64 0, .int .u64 0, .int .u64 0, .int .u64 0, .int .u64 0, .int .u64 0] 39)) (by kernel_rfl) (K44.go ((Below.refl _ _).alloc (Nat.le_refl _) _)) ?_ ?_
          · intro w63 hw63 K63
            have G63_n : w63.heap[w44.heap.size]? = some (.cells (dgQ 0 0) 39 (0, 0)) := hw63 ▸ heap_alloc_new _ _
            have S63 : w44.heap.size < w63.heap.size := lt_of_heap G63_n
            have R63_0 : w.heap.size < w44.heap.size := (by obtain ⟨T, h⟩ := K44.at 0 rfl; exact lt_of_heap h)
            have R63_1 : w.heap.size + 1 < w44.heap.size := (by obtain ⟨T, h⟩ := K44.at 1 rfl; exact lt_of_heap h)
            have R63_2 : p8 < w44.heap.size := (by obtain ⟨T, h⟩ := K44.at 2 rfl; exact lt_of_heap h)
            have Z63 : w.heap.size ≤ w44.heap.size := K44.nb.size
            clear hw63
            refine t_call (by kernel_rfl) (d := (some 33)) (by kernel_rfl) (f := 19) (args := #[.agg (fps [c0, c1])]) (v := .agg (dgQ V.re.val V.im.val)) (fun _ => by kernel_rfl) (OV) (fun w64 hb64 => ⟨K63.go hb64, ?_⟩) ?_
            · have K64 := K63.go hb64
              have G64_10 := nb_heap G63_n _ hb64
              have L64 := hb64.size
              refine t_call (by kernel_rfl) (d := (some 34)) (by kernel_rfl) (f := 27) (args := #[.agg (dgQ V.re.val V.im.val)]) (v := .agg (fps [V.re.val, V.im.val])) (fun _ => by kernel_rfl) (bytesQ_q) (fun w65 hb65 => ⟨K64.go hb65, ?_⟩) ?_
              · have K65 := K64.go hb65
                have G65_10 := nb_heap G64_10 _ hb65
                have L65 := hb65.size
                refine t_call (by kernel_rfl) (d := (some 36)) (by kernel_rfl) (f := 26) (args := #[.agg (fps [(W * W * V).re.val, (W * W * V).im.val]), .agg (fps [V.re.val, V.im.val]), .int .i64 (-1)]) (v := .agg (fps [f.re.val, f.im.val])) (fun _ => by kernel_rfl) (implFqSqrt_M hf (hm.nb K65.nb)) (fun w66 hb66 => ⟨K65.go hb66, ?_⟩) ?_
                · have K66 := K65.go hb66
                  have G66_10 := nb_heap G65_10 _ hb66
                  have L66 := hb66.size
                  refine t_call (by kernel_rfl) (d := (some 37)) (by kernel_rfl) (f := 19) (args := #[.agg (fps [f.re.val, f.im.val])]) (v := .agg (dgQ f.re.val f.im.val)) (fun _ => by kernel_rfl) (ofQ_q) (fun w67 hb67 => ⟨K66.go hb67, ?_⟩) ?_
                  · have K67 := K66.go hb67
                    have G67_10 := nb_heap G66_10 _ hb67
                    have L67 := hb67.size
                    refine t_store (by kernel_rfl) (d := none) (by kernel_rfl) (ty := 39) (x := (.tmp 9)) (y := (.tmp 37)) (by kernel_rfl) (g := w44.heap.size) (cells := (dgQ f.re.val f.im.val)) (by kernel_rfl) (by kernel_rfl) G67_10 (by kernel_rfl) (by kernel_rfl) (all_dgA _) (K67.puti (n := 16) (by kernel_rfl) (by omega) (neC (by omega) (neC (by omega) (neC (by omega) ne0))) ns0) ?_ ?_
                    · intro w68 hw68 K68
                      have G68_s : w68.heap[w44.heap.size]? = some (.cells (dgQ f.re.val f.im.val) _ (0, 0)) := hw68 ▸ setRow_heap _ _ _ _ _ _ G67_10
                      have L68 : w67.heap.size ≤ w68.heap.size := by rw [hw68]; exact Nat.le_of_eq (size_setRow _ _ _).symm
                      clear hw68
                      exact t_done ⟨rfl, w44.heap.size, by kernel_rfl, Kept.zero K68.nb (rowsC (K68.at 0 rfl) (rowsC (K68.at 1 rfl) (rowsC (K68.at 2 rfl) (rowsC ⟨_, G68_s⟩ rows0)))), (by omega)⟩
                    · -- another
                      exact t_nil
                  · -- another
                    exact t_nil
                · -- another
                  exact t_nil
              · -- another
                exact t_nil
            · -- another
              exact t_nil
          · -- another
            exact t_nil
      · -- another
        refine t_make (by kernel_rfl) (d := (some 9)) (by kernel_rfl) (v := .pointer (some ⟨W39.drew.heap.size, 0, none⟩)) (w' := W39.drew.alloc (.cells #[.int .u64 0, .int .u64 0, .int .u64 0, .int .u64 0, .int .u64 0, .int .u64 0, .int .u64 0, .int .u64 0, .int .u64 0, .int .u64 0, .int .u64 0, .int .u64 0, .int .u64 0, .int .u64 0, .int .u64 0, .int .u64 0] 39)) (by kernel_rfl) (K43.go ((Below.refl _ _).alloc (Nat.le_refl _) _)) ?_ ?_
        · intro w69 hw69 K69
          have G69_n : w69.heap[W39.drew.heap.size]? = some (.cells (dgQ 0 0) 39 (0, 0)) := hw69 ▸ heap_alloc_new _ _
          have S69 : W39.drew.heap.size < w69.heap.size := lt_of_heap G69_n
          have R69_0 : w.heap.size < W39.drew.heap.size := (by obtain ⟨T, h⟩ := K43.at 0 rfl; exact lt_of_heap h)
          have R69_1 : w.heap.size + 1 < W39.drew.heap.size := (by obtain ⟨T, h⟩ := K43.at 1 rfl; exact lt_of_heap h)
          have R69_2 : p8 < W39.drew.heap.size := (by obtain ⟨T, h⟩ := K43.at 2 rfl; exact lt_of_heap h)
          have Z69 : w.heap.size ≤ W39.drew.heap.size := K43.nb.size
          clear hw69
          refine t_call (by kernel_rfl) (d := (some 31)) (by kernel_rfl) (f := 27) (args := #[.agg (dgQ ((W * W * V).re.val) ((W * W * V).im.val))]) (v := .agg (fps [(W * W * V).re.val, (W * W * V).im.val])) (fun _ => by kernel_rfl) (bytesQ_q) (fun w70 hb70 => ⟨K69.go hb70, ?_⟩) ?_
          · have K70 := K69.go hb70
            have G70_10 := nb_heap G69_n _ hb70
            have L70 := hb70.size
            refine t_call (by kernel_rfl) (d := (some 33)) (by kernel_rfl) (f := 19) (args := #[.agg (fps [c0, c1])]) (v := .agg (dgQ V.re.val V.im.val)) (fun _ => by kernel_rfl) (OV) (fun w71 hb71 => ⟨K70.go hb71, ?_⟩) ?_
            · have K71 := K70.go hb71
              have G71_10 := nb_heap G70_10 _ hb71
              have L71 := hb71.size
              refine t_call (by kernel_rfl) (d := (some 34)) (by kernel_rfl) (f := 27) (args := #[.agg (dgQ V.re.val V.im.val)]) (v := .agg (fps [V.re.val, V.im.val])) (fun _ => by kernel_rfl) (bytesQ_q) (fun w72 hb72 => ⟨K71.go hb72, ?_⟩) ?_
              · have K72 := K71.go hb72
                have G72_10 := nb_heap G71_10 _ hb72
                have L72 := hb72.size
                refine t_call (by kernel_rfl) (d := (some 36)) (by kernel_rfl) (f := 26) (args := #[.agg (fps [(W * W * V).re.val, (W * W * V).im.val]), .agg (fps [V.re.val, V.im.val]), .int .i64 (-1)]) (v := .agg (fps [f.re.val, f.im.val])) (fun _ => by kernel_rfl) (implFqSqrt_M hf (hm.nb K72.nb)) (fun w73 hb73 => ⟨K72.go hb73, ?_⟩) ?_
                · have K73 := K72.go hb73
                  have G73_10 := nb_heap G72_10 _ hb73
                  have L73 := hb73.size
                  refine t_call (by kernel_rfl) (d := (some 37)) (by kernel_rfl) (f := 19) (args := #[.agg (fps [f.re.val, f.im.val])]) (v := .agg (dgQ f.re.val f.im.val)) (fun _ => by kernel_rfl) (ofQ_q) (fun w74 hb74 => ⟨K73.go hb74, ?_⟩) ?_
                  · have K74 := K73.go hb74
                    have G74_10 := nb_heap G73_10 _ hb74
                    have L74 := hb74.size
                    refine t_store (by kernel_rfl) (d := none) (by kernel_rfl) (ty := 39) (x := (.tmp 9)) (y := (.tmp 37)) (by kernel_rfl) (g := W39.drew.heap.size) (cells := (dgQ f.re.val f.im.val)) (by kernel_rfl) (by kernel_rfl) G74_10 (by kernel_rfl) (by kernel_rfl) (all_dgA _) (K74.puti (n := 16) (by kernel_rfl) (by omega) (neC (by omega) (neC (by omega) (neC (by omega) ne0))) ns0) ?_ ?_
                    · intro w75 hw75 K75
                      have G75_s : w75.heap[W39.drew.heap.size]? = some (.cells (dgQ f.re.val f.im.val) _ (0, 0)) := hw75 ▸ setRow_heap _ _ _ _ _ _ G74_10
                      have L75 : w74.heap.size ≤ w75.heap.size := by rw [hw75]; exact Nat.le_of_eq (size_setRow _ _ _).symm
                      clear hw75
                      exact t_done ⟨rfl, W39.drew.heap.size, by kernel_rfl, Kept.zero K75.nb (rowsC (K75.at 0 rfl) (rowsC (K75.at 1 rfl) (rowsC (K75.at 2 rfl) (rowsC ⟨_, G75_s⟩ rows0)))), (by omega)⟩
                    · -- another
                      exact t_nil
                  · -- another
                    exact t_nil
                · -- another
                  exact t_nil
              · -- another
                exact t_nil
            · -- another
              exact t_nil
          · -- another
            exact t_nil
        · -- another
          exact t_nil
    · rintro _ W76 ⟨p9, rfl, K77, l78⟩
      go_upto_region 8 with (fail)
      have K79 : Kept w [(w.heap.size, (fps [a0, a1])), (w.heap.size + 1, (fps [c0, c1])), (p8, (dgQ ((W * W * V).re.val) ((W * W * V).im.val))), (p9, (dgQ f.re.val f.im.val))] [] W76 := Kept.mks K77.nb (rowsC (K77.at 0 rfl) (rowsC (K77.at 1 rfl) (rowsC (K77.at 2 rfl) (rowsC (K77.at 3 rfl) rows0)))) rooms0
      refine wp_meet (fun a' w' => ∃ p10 : Nat, a' = { tmps := #[.agg (fps [a0, a1]), .agg (fps [c0, c1]), .bool false, .pointer (some ⟨w.heap.size, 0, none⟩), .pointer (some ⟨w.heap.size + 1, 0, none⟩), undef, .bool false, .int .i64 (-1), .pointer (some ⟨p8, 0, none⟩), .pointer (some ⟨p9, 0, none⟩), .pointer (some ⟨p10, 0, none⟩), .agg (fps [a0, a1]), .agg (dgQ W.re.val W.im.val), .agg (dgQ 0 0), .bool false, .bool false, .agg (fps [c0, c1]), .agg (dgQ V.re.val V.im.val), .agg (dgQ 0 0), .bool false, .bool false, .bool false, .agg (fps [a0, a1]), .agg (dgQ W.re.val W.im.val), .agg (fps [a0, a1]), .agg (dgQ W.re.val W.im.val), .agg (dgQ ((W * W).re.val) ((W * W).im.val)), .agg (fps [c0, c1]), .agg (dgQ V.re.val V.im.val), .agg (dgQ ((W * W * V).re.val) ((W * W * V).im.val)), .agg (dgQ ((W * W * V).re.val) ((W * W * V).im.val)), .agg (fps [(W * W * V).re.val, (W * W * V).im.val]), .agg (fps [c0, c1]), .agg (dgQ V.re.val V.im.val), .agg (fps [V.re.val, V.im.val]), .int .i64 (-1), .agg (fps [f.re.val, f.im.val]), .agg (dgQ f.re.val f.im.val), .pointer (some ⟨p9, 0, none⟩), .agg (dgA (digs 8 f.re.val)), .pointer (some ⟨p9, 8, none⟩), .agg (dgA (digs 8 f.im.val)), .agg (dgA (digs 8 ((-f.im).val))), .agg (dgQ f.re.val ((-f.im).val)), undef, undef, undef, undef, undef, undef, undef, undef, undef, undef, undef, undef, undef, undef, undef, undef, undef, undef], defers := [] } ∧ Kept w [(w.heap.size, (fps [a0, a1])), (w.heap.size + 1, (fps [c0, c1])), (p8, (dgQ ((W * W * V).re.val) ((W * W * V).im.val))), (p9, (dgQ f.re.val f.im.val)), (p10, (dgQ f.re.val ((-f.im).val)))] [] w' ∧ W76.heap.size ≤ p10) ?_ ?_
      · refine wp_tree_at (opsAt Tryd.f6 8) (.take 0 (.take 1 (.take 2 (.take 3 (.fork 4 (.take 5 (.fork 6 (.fork 7 .done .nil) .nil)) (.fork 6 (.fork 4 (.take 5 (.fork 7 .done .nil)) .nil) .nil)))))) (Kept w [(w.heap.size, (fps [a0, a1])), (w.heap.size + 1, (fps [c0, c1])), (p8, (dgQ ((W * W * V).re.val) ((W * W * V).im.val))), (p9, (dgQ f.re.val f.im.val))] []) (by kernel_rfl) rfl (by kernel_rfl) (by intro c a d v w h; exact absurd h.1 (by simp)) (by kernel_rfl) (by kernel_rfl) K79.drew ?_
        have K80 := K79.drew
        have DK80 : W76.heap.size ≤ W76.drew.heap.size := Nat.le_refl _
        refine t_pure (by kernel_rfl) (d := (some 38)) (by kernel_rfl) (v := .pointer (some ⟨p9, 0, none⟩)) (fun _ => by kernel_rfl) ?_
        refine t_part (by kernel_rfl) (d := (some 39)) (by kernel_rfl) (ty := 26) (x := (.tmp 38)) (by kernel_rfl) (b := p9) (off := 0) (by kernel_rfl) (all := (dgQ f.re.val f.im.val)) (cs := (dgA (digs 8 f.re.val))) (fun _ hs => hs.at 3 rfl) (dgQ_part0) Tryd.underlying26 rfl (by kernel_rfl) ?_
        refine t_pure (by kernel_rfl) (d := (some 40)) (by kernel_rfl) (v := .pointer (some ⟨p9, 8, none⟩)) (fun _ => by kernel_rfl) ?_
        refine t_part (by kernel_rfl) (d := (some 41)) (by kernel_rfl) (ty := 26) (x := (.tmp 40)) (by kernel_rfl) (b := p9) (off := 8) (by kernel_rfl) (all := (dgQ f.re.val f.im.val)) (cs := (dgA (digs 8 f.im.val))) (fun _ hs => hs.at 3 rfl) (dgQ_part1) Tryd.underlying26 rfl (by kernel_rfl) ?_
        refine t_call (by kernel_rfl) (d := (some 42)) (by kernel_rfl) (f := 28) (args := #[.agg (dgA (digs 8 f.im.val))]) (v := .agg (dgA (digs 8 ((-f.im).val)))) (fun _ => by kernel_rfl) (negZ_c _) (fun w81 hb81 => ⟨K80.go hb81, ?_⟩) ?_
        · have K81 := K80.go hb81
          have L81 := hb81.size
          refine t_pure (by kernel_rfl) (d := (some 43)) (by kernel_rfl) (v := .agg (dgQ f.re.val ((-f.im).val))) (fun _ => by kernel_rfl) ?_
          refine t_make (by kernel_rfl) (d := (some 10)) (by kernel_rfl) (v := .pointer (some ⟨w81.heap.size, 0, none⟩)) (w' := w81.alloc (.cells #[.int .u64 0, .int .u64 0, .int .u64 0, .int .u64 0, .int .u64 0, .int .u64 0, .int .u64 0, .int .u64 0, .int .u64 0, .int .u64 0, .int .u64 0, .int .u64 0, .int .u64 0, .int .u64 0, .int .u64 0, .int .u64 0] 39)) (by kernel_rfl) (K81.go ((Below.refl _ _).alloc (Nat.le_refl _) _)) ?_ ?_
          · intro w82 hw82 K82
            have G82_n : w82.heap[w81.heap.size]? = some (.cells (dgQ 0 0) 39 (0, 0)) := hw82 ▸ heap_alloc_new _ _
            have S82 : w81.heap.size < w82.heap.size := lt_of_heap G82_n
            have R82_0 : w.heap.size < w81.heap.size := (by obtain ⟨T, h⟩ := K81.at 0 rfl; exact lt_of_heap h)
            have R82_1 : w.heap.size + 1 < w81.heap.size := (by obtain ⟨T, h⟩ := K81.at 1 rfl; exact lt_of_heap h)
            have R82_2 : p8 < w81.heap.size := (by obtain ⟨T, h⟩ := K81.at 2 rfl; exact lt_of_heap h)
            have R82_3 : p9 < w81.heap.size := (by obtain ⟨T, h⟩ := K81.at 3 rfl; exact lt_of_heap h)
            have Z82 : w.heap.size ≤ w81.heap.size := K81.nb.size
            clear hw82
            refine t_store (by kernel_rfl) (d := none) (by kernel_rfl) (ty := 39) (x := (.tmp 10)) (y := (.tmp 43)) (by kernel_rfl) (g := w81.heap.size) (cells := (dgQ f.re.val ((-f.im).val))) (by kernel_rfl) (by kernel_rfl) G82_n (by kernel_rfl) (by kernel_rfl) (all_dgA _) (K82.puti (n := 16) (by kernel_rfl) (by omega) (neC (by omega) (neC (by omega) (neC (by omega) (neC (by omega) ne0)))) ns0) ?_ ?_
            · intro w83 hw83 K83
              have G83_s : w83.heap[w81.heap.size]? = some (.cells (dgQ f.re.val ((-f.im).val)) _ (0, 0)) := hw83 ▸ setRow_heap _ _ _ _ _ _ G82_n
              have L83 : w82.heap.size ≤ w83.heap.size := by rw [hw83]; exact Nat.le_of_eq (size_setRow _ _ _).symm
              clear hw83
              exact t_done ⟨rfl, w81.heap.size, by kernel_rfl, Kept.zero K83.nb (rowsC (K83.at 0 rfl) (rowsC (K83.at 1 rfl) (rowsC (K83.at 2 rfl) (rowsC (K83.at 3 rfl) (rowsC ⟨_, G83_s⟩ rows0))))), (by omega)⟩
            · -- another
              exact t_nil
          · -- another
            exact t_nil
        · -- another
          refine t_make (by kernel_rfl) (d := (some 10)) (by kernel_rfl) (v := .pointer (some ⟨W76.drew.heap.size, 0, none⟩)) (w' := W76.drew.alloc (.cells #[.int .u64 0, .int .u64 0, .int .u64 0, .int .u64 0, .int .u64 0, .int .u64 0, .int .u64 0, .int .u64 0, .int .u64 0, .int .u64 0, .int .u64 0, .int .u64 0, .int .u64 0, .int .u64 0, .int .u64 0, .int .u64 0] 39)) (by kernel_rfl) (K80.go ((Below.refl _ _).alloc (Nat.le_refl _) _)) ?_ ?_
          · intro w84 hw84 K84
            have G84_n : w84.heap[W76.drew.heap.size]? = some (.cells (dgQ 0 0) 39 (0, 0)) := hw84 ▸ heap_alloc_new _ _
            have S84 : W76.drew.heap.size < w84.heap.size := lt_of_heap G84_n
            have R84_0 : w.heap.size < W76.drew.heap.size := (by obtain ⟨T, h⟩ := K80.at 0 rfl; exact lt_of_heap h)
            have R84_1 : w.heap.size + 1 < W76.drew.heap.size := (by obtain ⟨T, h⟩ := K80.at 1 rfl; exact lt_of_heap h)
            have R84_2 : p8 < W76.drew.heap.size := (by obtain ⟨T, h⟩ := K80.at 2 rfl; exact lt_of_heap h)
            have R84_3 : p9 < W76.drew.heap.size := (by obtain ⟨T, h⟩ := K80.at 3 rfl; exact lt_of_heap h)
            have Z84 : w.heap.size ≤ W76.drew.heap.size := K80.nb.size
            clear hw84
            refine t_call (by kernel_rfl) (d := (some 42)) (by kernel_rfl) (f := 28) (args := #[.agg (dgA (digs 8 f.im.val))]) (v := .agg (dgA (digs 8 ((-f.im).val)))) (fun _ => by kernel_rfl) (negZ_c _) (fun w85 hb85 => ⟨K84.go hb85, ?_⟩) ?_
            · have K85 := K84.go hb85
              have G85_10 := nb_heap G84_n _ hb85
              have L85 := hb85.size
              refine t_pure (by kernel_rfl) (d := (some 43)) (by kernel_rfl) (v := .agg (dgQ f.re.val ((-f.im).val))) (fun _ => by kernel_rfl) ?_
              refine t_store (by kernel_rfl) (d := none) (by kernel_rfl) (ty := 39) (x := (.tmp 10)) (y := (.tmp 43)) (by kernel_rfl) (g := W76.drew.heap.size) (cells := (dgQ f.re.val ((-f.im).val))) (by kernel_rfl) (by kernel_rfl) G85_10 (by kernel_rfl) (by kernel_rfl) (all_dgA _) (K85.puti (n := 16) (by kernel_rfl) (by omega) (neC (by omega) (neC (by omega) (neC (by omega) (neC (by omega) ne0)))) ns0) ?_ ?_
              · intro w86 hw86 K86
                have G86_s : w86.heap[W76.drew.heap.size]? = some (.cells (dgQ f.re.val ((-f.im).val)) _ (0, 0)) := hw86 ▸ setRow_heap _ _ _ _ _ _ G85_10
                have L86 : w85.heap.size ≤ w86.heap.size := by rw [hw86]; exact Nat.le_of_eq (size_setRow _ _ _).symm
                clear hw86
                exact t_done ⟨rfl, W76.drew.heap.size, by kernel_rfl, Kept.zero K86.nb (rowsC (K86.at 0 rfl) (rowsC (K86.at 1 rfl) (rowsC (K86.at 2 rfl) (rowsC (K86.at 3 rfl) (rowsC ⟨_, G86_s⟩ rows0))))), (by omega)⟩
              · -- another
                exact t_nil
            · -- another
              exact t_nil
          · -- another
            exact t_nil
      · rintro _ W87 ⟨p10, rfl, K88, l89⟩
        go_upto_region 9 with (fail)
        have K90 : Kept w [(w.heap.size, (fps [a0, a1])), (w.heap.size + 1, (fps [c0, c1])), (p8, (dgQ ((W * W * V).re.val) ((W * W * V).im.val))), (p9, (dgQ f.re.val f.im.val)), (p10, (dgQ f.re.val ((-f.im).val)))] [] W87 := Kept.mks K88.nb (rowsC (K88.at 0 rfl) (rowsC (K88.at 1 rfl) (rowsC (K88.at 2 rfl) (rowsC (K88.at 3 rfl) (rowsC (K88.at 4 rfl) rows0))))) rooms0
        refine wp_region_atS (opsAt Tryd.f6 9) ((true, 0) :: (true, 1) :: (true, 3) :: (true, 6) :: (false, 2) :: (false, 4) :: (false, 5) :: (true, 7) :: (true, 8) :: (true, 9) :: (true, 10) :: (true, 12) :: (true, 15) :: (false, 11) :: (false, 13) :: (false, 14) :: (true, 16) :: (true, 17) :: (true, 18) :: []) (Kept w [(w.heap.size, (fps [a0, a1])), (w.heap.size + 1, (fps [c0, c1])), (p8, (dgQ ((W * W * V).re.val) ((W * W * V).im.val))), (p9, (dgQ f.re.val f.im.val)), (p10, (dgQ f.re.val ((-f.im).val)))] []) (by kernel_rfl) rfl (by kernel_rfl) (fun _ _ d _ _ h => by cases d <;> exact h) (by kernel_rfl) (by kernel_rfl) K90.drew ?_
        have K91 := K90.drew
        have DK91 : W87.heap.size ≤ W87.drew.heap.size := Nat.le_refl _
        refine k_row (by kernel_rfl) (d := (some 44)) (by kernel_rfl) (ty := 39) (x := (.tmp 9)) (by kernel_rfl) (b := p9) (by kernel_rfl) (cs := (dgQ f.re.val f.im.val)) (fun _ hs => hs.at 3 rfl) Tryd.underlying39 rfl (by kernel_rfl) ?_
        refine k_row (by kernel_rfl) (d := (some 45)) (by kernel_rfl) (ty := 39) (x := (.tmp 9)) (by kernel_rfl) (b := p9) (by kernel_rfl) (cs := (dgQ f.re.val f.im.val)) (fun _ hs => hs.at 3 rfl) Tryd.underlying39 rfl (by kernel_rfl) ?_
        refine k_row (by kernel_rfl) (d := (some 47)) (by kernel_rfl) (ty := 33) (x := (.tmp 4)) (by kernel_rfl) (b := w.heap.size + 1) (by kernel_rfl) (cs := (fps [c0, c1])) (fun _ hs => hs.at 1 rfl) Tryd.underlying33 rfl (by kernel_rfl) ?_
        refine k_row (by kernel_rfl) (d := (some 50)) (by kernel_rfl) (ty := 39) (x := (.tmp 8)) (by kernel_rfl) (b := p8) (by kernel_rfl) (cs := (dgQ ((W * W * V).re.val) ((W * W * V).im.val))) (fun _ hs => hs.at 2 rfl) Tryd.underlying39 rfl (by kernel_rfl) ?_
        refine k_call (by kernel_rfl) (d := (some 46)) (by kernel_rfl) (f := 25) (args := #[.agg (dgQ f.re.val f.im.val), .agg (dgQ f.re.val f.im.val)]) (v := .agg (dgQ ((f * f).re.val) ((f * f).im.val))) (fun _ => by kernel_rfl) (mulQ_q) (fun w92 hb92 => ⟨K91.go hb92, ?_⟩)
        have K92 := K91.go hb92
        have L92 := hb92.size
        refine k_call (by kernel_rfl) (d := (some 48)) (by kernel_rfl) (f := 19) (args := #[.agg (fps [c0, c1])]) (v := .agg (dgQ V.re.val V.im.val)) (fun _ => by kernel_rfl) (OV) (fun w93 hb93 => ⟨K92.go hb93, ?_⟩)
        have K93 := K92.go hb93
        have L93 := hb93.size
        refine k_call (by kernel_rfl) (d := (some 49)) (by kernel_rfl) (f := 25) (args := #[.agg (dgQ ((f * f).re.val) ((f * f).im.val)), .agg (dgQ V.re.val V.im.val)]) (v := .agg (dgQ ((f * f * V).re.val) ((f * f * V).im.val))) (fun _ => by kernel_rfl) (mulQ_q) (fun w94 hb94 => ⟨K93.go hb94, ?_⟩)
        have K94 := K93.go hb94
        have L94 := hb94.size
        refine k_eql (by kernel_rfl) (d := (some 51)) (by kernel_rfl) (ty := 39) (ty' := 39) (x := (.tmp 49)) (y := (.tmp 50)) (by kernel_rfl) (xs := (dgQ ((f * f * V).re.val) ((f * f * V).im.val))) (ys := (dgQ ((W * W * V).re.val) ((W * W * V).im.val))) (b := true) (by kernel_rfl) (by kernel_rfl) (by kernel_rfl) (fun w => eqQ_t h3 w) ?_
        refine k_pure (by kernel_rfl) (d := (some 52)) (by kernel_rfl) (v := .bool true) (fun _ => by kernel_rfl) ?_
        refine k_skip (by kernel_rfl) (d := (some 53)) (by kernel_rfl) ?_
        refine k_skip (by kernel_rfl) (d := (some 54)) (by kernel_rfl) ?_
        refine k_skip (by kernel_rfl) (d := (some 56)) (by kernel_rfl) ?_
        refine k_skip (by kernel_rfl) (d := (some 59)) (by kernel_rfl) ?_
        refine k_skip' K94 (by kernel_rfl) (d := (some 55)) (by kernel_rfl) ?_
        refine k_skip' K94 (by kernel_rfl) (d := (some 57)) (by kernel_rfl) ?_
        refine k_skip' K94 (by kernel_rfl) (d := (some 58)) (by kernel_rfl) ?_
        refine k_skip (by kernel_rfl) (d := (some 60)) (by kernel_rfl) ?_
        refine k_pure (by kernel_rfl) (d := (some 61)) (by kernel_rfl) (v := .bool true) (fun _ => by kernel_rfl) ?_
        refine k_pure (by kernel_rfl) (d := (some 6)) (by kernel_rfl) (v := .bool true) (fun _ => by kernel_rfl) ?_
        have K95 : Kept w [(w.heap.size, (fps [a0, a1])), (w.heap.size + 1, (fps [c0, c1])), (p8, (dgQ ((W * W * V).re.val) ((W * W * V).im.val))), (p9, (dgQ f.re.val f.im.val)), (p10, (dgQ f.re.val ((-f.im).val)))] [] w94 := Kept.zero K94.nb (rowsC (K94.at 0 rfl) (rowsC (K94.at 1 rfl) (rowsC (K94.at 2 rfl) (rowsC (K94.at 3 rfl) (rowsC (K94.at 4 rfl) rows0)))))
        refine k_end ?_
        go_simp
        go_wp2_with fail
        exact bodyPost_ret_by (by kernel_rfl) (by kernel_rfl) ⟨rfl, K95.nb⟩

set_option maxRecDepth 100000 in
set_option maxHeartbeats 1000000 in
theorem sqrtC2_false {w : World} {a0 a1 c0 c1 : Nat} {W V f : Zq} (hm : ModW w) (OW : ∀ {w : World}, Calls Tryd.prog 19 #[.agg (fps [a0, a1])] w fun e w' => e = .returned (.agg (dgQ W.re.val W.im.val)) ∧ Below w.heap.size w w') (OV : ∀ {w : World}, Calls Tryd.prog 19 #[.agg (fps [c0, c1])] w fun e w' => e = .returned (.agg (dgQ V.re.val V.im.val)) ∧ Below w.heap.size w w') (hW : W ≠ 0) (hV : V ≠ 0) (hf : SqV (W * W * V) V (-1) f) (h3 : f * f * V ≠ W * W * V) (h4 : conj f * conj f * V = W * W * V) :
    Calls Tryd.prog 6 #[.agg (fps [a0, a1]), .agg (fps [c0, c1]), .bool false] w fun e w' => e = .returned (.bool true) ∧ Below w.heap.size w w' := by
  go_enter Tryd.func6, Tryd.ntmps6
  go_upto_region 1 with (fail)
  have K0 : Kept w [(w.heap.size, (fps [a0, a1])), (w.heap.size + 1, (fps [c0, c1]))] [] ((w.alloc (.cells (fps [a0, a1]) 33)).alloc (.cells (fps [c0, c1]) 33)) := Kept.zero (nb_alloc (nb_alloc (Below.refl _ _) _) _) (rowsC ⟨_, hp2_0 (w := w) (.cells (fps [a0, a1]) 33) (.cells (fps [c0, c1]) 33)⟩ (rowsC ⟨_, hp2_1 (w := w) (.cells (fps [a0, a1]) 33) (.cells (fps [c0, c1]) 33)⟩ rows0))
  obtain ⟨W0, hW⟩ : ∃ W0 : World, W0 = ((w.alloc (.cells (fps [a0, a1]) 33)).alloc (.cells (fps [c0, c1]) 33)) := ⟨_, rfl⟩
  rw [← hW] at K0 ⊢
  clear hW
  have K1 : Kept w [(w.heap.size, (fps [a0, a1])), (w.heap.size + 1, (fps [c0, c1]))] [] W0 := Kept.mks K0.nb (rowsC (K0.at 0 rfl) (rowsC (K0.at 1 rfl) rows0)) rooms0
  refine wp_seq_atS (opsAt Tryd.f6 1) ((true, 0) :: (false, 1) :: (true, 2) :: (true, 3) :: (true, 4) :: (true, 5) :: (false, 6) :: (true, 7) :: (true, 8) :: (true, 9) :: []) (Kept w [(w.heap.size, (fps [a0, a1])), (w.heap.size + 1, (fps [c0, c1]))] []) (by kernel_rfl) (by kernel_rfl) K1 ?_
  refine k_row (by kernel_rfl) (d := (some 11)) (by kernel_rfl) (ty := 33) (x := (.tmp 3)) (by kernel_rfl) (b := w.heap.size) (by kernel_rfl) (cs := (fps [a0, a1])) (fun _ hs => hs.at 0 rfl) Tryd.underlying33 rfl (by kernel_rfl) ?_
  refine k_call (by kernel_rfl) (d := (some 12)) (by kernel_rfl) (f := 19) (args := #[.agg (fps [a0, a1])]) (v := .agg (dgQ W.re.val W.im.val)) (fun _ => by kernel_rfl) (OW) (fun w2 hb2 => ⟨K1.go hb2, ?_⟩)
  have K2 := K1.go hb2
  have L2 := hb2.size
  refine k_pure (by kernel_rfl) (d := (some 13)) (by kernel_rfl) (v := .agg (dgQ 0 0)) (fun _ => by kernel_rfl) ?_
  refine k_eql (by kernel_rfl) (d := (some 14)) (by kernel_rfl) (ty := 39) (ty' := 39) (x := (.tmp 12)) (y := (.tmp 13)) (by kernel_rfl) (xs := (dgQ W.re.val W.im.val)) (ys := (dgQ 0 0)) (b := false) (by kernel_rfl) (by kernel_rfl) (by kernel_rfl) (fun w => eqQ_f hW w) ?_
  refine k_pure (by kernel_rfl) (d := (some 15)) (by kernel_rfl) (v := .bool false) (fun _ => by kernel_rfl) ?_
  refine k_row (by kernel_rfl) (d := (some 16)) (by kernel_rfl) (ty := 33) (x := (.tmp 4)) (by kernel_rfl) (b := w.heap.size + 1) (by kernel_rfl) (cs := (fps [c0, c1])) (fun _ hs => hs.at 1 rfl) Tryd.underlying33 rfl (by kernel_rfl) ?_
  refine k_call (by kernel_rfl) (d := (some 17)) (by kernel_rfl) (f := 19) (args := #[.agg (fps [c0, c1])]) (v := .agg (dgQ V.re.val V.im.val)) (fun _ => by kernel_rfl) (OV) (fun w3 hb3 => ⟨K2.go hb3, ?_⟩)
  have K3 := K2.go hb3
  have L3 := hb3.size
  refine k_pure (by kernel_rfl) (d := (some 18)) (by kernel_rfl) (v := .agg (dgQ 0 0)) (fun _ => by kernel_rfl) ?_
  refine k_eql (by kernel_rfl) (d := (some 19)) (by kernel_rfl) (ty := 39) (ty' := 39) (x := (.tmp 17)) (y := (.tmp 18)) (by kernel_rfl) (xs := (dgQ V.re.val V.im.val)) (ys := (dgQ 0 0)) (b := false) (by kernel_rfl) (by kernel_rfl) (by kernel_rfl) (fun w => eqQ_f hV w) ?_
  refine k_pure (by kernel_rfl) (d := (some 20)) (by kernel_rfl) (v := .bool false) (fun _ => by kernel_rfl) ?_
  have K4 : Kept w [(w.heap.size, (fps [a0, a1])), (w.heap.size + 1, (fps [c0, c1]))] [] w3 := Kept.zero K3.nb (rowsC (K3.at 0 rfl) (rowsC (K3.at 1 rfl) rows0))
  refine k_end ?_
  go_simp
  go_upto_region 6 with (fail)
  have K5 : Kept w [(w.heap.size, (fps [a0, a1])), (w.heap.size + 1, (fps [c0, c1]))] [] w3 := Kept.mks K4.nb (rowsC (K4.at 0 rfl) (rowsC (K4.at 1 rfl) rows0)) rooms0
  refine wp_meet (fun a' w' => ∃ p8 : Nat, a' = { tmps := #[.agg (fps [a0, a1]), .agg (fps [c0, c1]), .bool false, .pointer (some ⟨w.heap.size, 0, none⟩), .pointer (some ⟨w.heap.size + 1, 0, none⟩), undef, .bool false, .int .i64 (-1), .pointer (some ⟨p8, 0, none⟩), undef, undef, .agg (fps [a0, a1]), .agg (dgQ W.re.val W.im.val), .agg (dgQ 0 0), .bool false, .bool false, .agg (fps [c0, c1]), .agg (dgQ V.re.val V.im.val), .agg (dgQ 0 0), .bool false, .bool false, .bool false, .agg (fps [a0, a1]), .agg (dgQ W.re.val W.im.val), .agg (fps [a0, a1]), .agg (dgQ W.re.val W.im.val), .agg (dgQ ((W * W).re.val) ((W * W).im.val)), .agg (fps [c0, c1]), .agg (dgQ V.re.val V.im.val), .agg (dgQ ((W * W * V).re.val) ((W * W * V).im.val)), undef, undef, undef, undef, undef, undef, undef, undef, undef, undef, undef, undef, undef, undef, undef, undef, undef, undef, undef, undef, undef, undef, undef, undef, undef, undef, undef, undef, undef, undef, undef, undef], defers := [] } ∧ Kept w [(w.heap.size, (fps [a0, a1])), (w.heap.size + 1, (fps [c0, c1])), (p8, (dgQ ((W * W * V).re.val) ((W * W * V).im.val)))] [] w' ∧ w3.heap.size ≤ p8) ?_ ?_
  · refine wp_tree_at (opsAt Tryd.f6 6) (.take 0 (.take 2 (.take 5 (.fork 1 (.fork 3 (.fork 4 (.fork 6 (.fork 7 (.fork 8 (.fork 9 .done .nil) .nil) (.fork 8 (.fork 7 (.fork 9 .done .nil) .nil) .nil)) (.fork 8 (.fork 6 (.fork 7 (.fork 9 .done .nil) .nil) .nil) .nil)) (.fork 8 (.fork 4 (.fork 6 (.fork 7 (.fork 9 .done .nil) .nil) .nil) .nil) .nil)) (.fork 8 (.fork 3 (.fork 4 (.fork 6 (.fork 7 (.fork 9 .done .nil) .nil) .nil) .nil) .nil) .nil)) (.fork 8 (.fork 1 (.fork 3 (.fork 4 (.fork 6 (.fork 7 (.fork 9 .done .nil) .nil) .nil) .nil) .nil) .nil) .nil))))) (Kept w [(w.heap.size, (fps [a0, a1])), (w.heap.size + 1, (fps [c0, c1]))] []) (by kernel_rfl) rfl (by kernel_rfl) (by intro c a d v w h; exact absurd h.1 (by simp)) (by kernel_rfl) (by kernel_rfl) K5.drew ?_
    have K6 := K5.drew
    have DK6 : w3.heap.size ≤ w3.drew.heap.size := Nat.le_refl _
    refine t_row (by kernel_rfl) (d := (some 22)) (by kernel_rfl) (ty := 33) (x := (.tmp 3)) (by kernel_rfl) (b := w.heap.size) (by kernel_rfl) (cs := (fps [a0, a1])) (fun _ hs => hs.at 0 rfl) Tryd.underlying33 rfl (by kernel_rfl) ?_
    refine t_row (by kernel_rfl) (d := (some 24)) (by kernel_rfl) (ty := 33) (x := (.tmp 3)) (by kernel_rfl) (b := w.heap.size) (by kernel_rfl) (cs := (fps [a0, a1])) (fun _ hs => hs.at 0 rfl) Tryd.underlying33 rfl (by kernel_rfl) ?_
    refine t_row (by kernel_rfl) (d := (some 27)) (by kernel_rfl) (ty := 33) (x := (.tmp 4)) (by kernel_rfl) (b := w.heap.size + 1) (by kernel_rfl) (cs := (fps [c0, c1])) (fun _ hs => hs.at 1 rfl) Tryd.underlying33 rfl (by kernel_rfl) ?_
    refine t_call (by kernel_rfl) (d := (some 23)) (by kernel_rfl) (f := 19) (args := #[.agg (fps [a0, a1])]) (v := .agg (dgQ W.re.val W.im.val)) (fun _ => by kernel_rfl) (OW) (fun w7 hb7 => ⟨K6.go hb7, ?_⟩) ?_
    · have K7 := K6.go hb7
      have L7 := hb7.size
      refine t_call (by kernel_rfl) (d := (some 25)) (by kernel_rfl) (f := 19) (args := #[.agg (fps [a0, a1])]) (v := .agg (dgQ W.re.val W.im.val)) (fun _ => by kernel_rfl) (OW) (fun w8 hb8 => ⟨K7.go hb8, ?_⟩) ?_
      · have K8 := K7.go hb8
        have L8 := hb8.size
        refine t_call (by kernel_rfl) (d := (some 26)) (by kernel_rfl) (f := 25) (args := #[.agg (dgQ W.re.val W.im.val), .agg (dgQ W.re.val W.im.val)]) (v := .agg (dgQ ((W * W).re.val) ((W * W).im.val))) (fun _ => by kernel_rfl) (mulQ_q) (fun w9 hb9 => ⟨K8.go hb9, ?_⟩) ?_
        · have K9 := K8.go hb9
          have L9 := hb9.size
          refine t_call (by kernel_rfl) (d := (some 28)) (by kernel_rfl) (f := 19) (args := #[.agg (fps [c0, c1])]) (v := .agg (dgQ V.re.val V.im.val)) (fun _ => by kernel_rfl) (OV) (fun w10 hb10 => ⟨K9.go hb10, ?_⟩) ?_
          · have K10 := K9.go hb10
            have L10 := hb10.size
            refine t_call (by kernel_rfl) (d := (some 29)) (by kernel_rfl) (f := 25) (args := #[.agg (dgQ ((W * W).re.val) ((W * W).im.val)), .agg (dgQ V.re.val V.im.val)]) (v := .agg (dgQ ((W * W * V).re.val) ((W * W * V).im.val))) (fun _ => by kernel_rfl) (mulQ_q) (fun w11 hb11 => ⟨K10.go hb11, ?_⟩) ?_
            · have K11 := K10.go hb11
              have L11 := hb11.size
              refine t_make (by kernel_rfl) (d := (some 8)) (by kernel_rfl) (v := .pointer (some ⟨w11.heap.size, 0, none⟩)) (w' := w11.alloc (.cells #[.int .u64 0, .int .u64 0, .int .u64 0, .int .u64 0, .int .u64 0, .int .u64 0, .int .u64 0, .int .u64 0, .int .u64 0, .int .u64 0, .int .u64 0, .int .u64 0, .int .u64 0, .int .u64 0, .int .u64 0, .int .u64 0] 39)) (by kernel_rfl) (K11.go ((Below.refl _ _).alloc (Nat.le_refl _) _)) ?_ ?_
              · intro w12 hw12 K12
                have G12_n : w12.heap[w11.heap.size]? = some (.cells (dgQ 0 0) 39 (0, 0)) := hw12 ▸ heap_alloc_new _ _
                have S12 : w11.heap.size < w12.heap.size := lt_of_heap G12_n
                have R12_0 : w.heap.size < w11.heap.size := (by obtain ⟨T, h⟩ := K11.at 0 rfl; exact lt_of_heap h)
                have R12_1 : w.heap.size + 1 < w11.heap.size := (by obtain ⟨T, h⟩ := K11.at 1 rfl; exact lt_of_heap h)
                have Z12 : w.heap.size ≤ w11.heap.size := K11.nb.size
                clear hw12
                refine t_store (by kernel_rfl) (d := none) (by kernel_rfl) (ty := 39) (x := (.tmp 8)) (y := (.tmp 29)) (by kernel_rfl) (g := w11.heap.size) (cells := (dgQ ((W * W * V).re.val) ((W * W * V).im.val))) (by kernel_rfl) (by kernel_rfl) G12_n (by kernel_rfl) (by kernel_rfl) (all_dgA _) (K12.puti (n := 16) (by kernel_rfl) (by omega) (neC (by omega) (neC (by omega) ne0)) ns0) ?_ ?_
                · intro w13 hw13 K13
                  have G13_s : w13.heap[w11.heap.size]? = some (.cells (dgQ ((W * W * V).re.val) ((W * W * V).im.val)) _ (0, 0)) := hw13 ▸ setRow_heap _ _ _ _ _ _ G12_n
                  have L13 : w12.heap.size ≤ w13.heap.size := by rw [hw13]; exact Nat.le_of_eq (size_setRow _ _ _).symm
                  clear hw13
                  exact t_done ⟨rfl, w11.heap.size, by kernel_rfl, Kept.zero K13.nb (rowsC (K13.at 0 rfl) (rowsC (K13.at 1 rfl) (rowsC ⟨_, G13_s⟩ rows0))), (by omega)⟩
                · -- another
                  exact t_nil
              · -- another
                exact t_nil
            · -- another
              refine t_make (by kernel_rfl) (d := (some 8)) (by kernel_rfl) (v := .pointer (some ⟨w10.heap.size, 0, none⟩)) (w' := w10.alloc (.cells #[.int .u64 0, .int .u64 0, .int .u64 0, .int .u64 0, .int .u64 0, .int .u64 0, .int .u64 0, .int .u64 0, .int .u64 0, .int .u64 0, .int .u64 0, .int .u64 0, .int .u64 0, .int .u64 0, .int .u64 0, .int .u64 0] 39)) (by kernel_rfl) (K10.go ((Below.refl _ _).alloc (Nat.le_refl _) _)) ?_ ?_
              · intro w14 hw14 K14
                have G14_n : w14.heap[w10.heap.size]? = some (.cells (dgQ 0 0) 39 (0, 0)) := hw14 ▸ heap_alloc_new _ _
                have S14 : w10.heap.size < w14.heap.size := lt_of_heap G14_n
                have R14_0 : w.heap.size < w10.heap.size := (by obtain ⟨T, h⟩ := K10.at 0 rfl; exact lt_of_heap h)
                have R14_1 : w.heap.size + 1 < w10.heap.size := (by obtain ⟨T, h⟩ := K10.at 1 rfl; exact lt_of_heap h)
                have Z14 : w.heap.size ≤ w10.heap.size := K10.nb.size
                clear hw14
                refine t_call (by kernel_rfl) (d := (some 29)) (by kernel_rfl) (f := 25) (args := #[.agg (dgQ ((W * W).re.val) ((W * W).im.val)), .agg (dgQ V.re.val V.im.val)]) (v := .agg (dgQ ((W * W * V).re.val) ((W * W * V).im.val))) (fun _ => by kernel_rfl) (mulQ_q) (fun w15 hb15 => ⟨K14.go hb15, ?_⟩) ?_
                · have K15 := K14.go hb15
                  have G15_10 := nb_heap G14_n _ hb15
                  have L15 := hb15.size
                  refine t_store (by kernel_rfl) (d := none) (by kernel_rfl) (ty := 39) (x := (.tmp 8)) (y := (.tmp 29)) (by kernel_rfl) (g := w10.heap.size) (cells := (dgQ ((W * W * V).re.val) ((W * W * V).im.val))) (by kernel_rfl) (by kernel_rfl) G15_10 (by kernel_rfl) (by kernel_rfl) (all_dgA _) (K15.puti (n := 16) (by kernel_rfl) (by omega) (neC (by omega) (neC (by omega) ne0)) ns0) ?_ ?_
                  · intro w16 hw16 K16
                    have G16_s : w16.heap[w10.heap.size]? = some (.cells (dgQ ((W * W * V).re.val) ((W * W * V).im.val)) _ (0, 0)) := hw16 ▸ setRow_heap _ _ _ _ _ _ G15_10
                    have L16 : w15.heap.size ≤ w16.heap.size := by rw [hw16]; exact Nat.le_of_eq (size_setRow _ _ _).symm
                    clear hw16
                    exact t_done ⟨rfl, w10.heap.size, by kernel_rfl, Kept.zero K16.nb (rowsC (K16.at 0 rfl) (rowsC (K16.at 1 rfl) (rowsC ⟨_, G16_s⟩ rows0))), (by omega)⟩
                  · -- another
                    exact t_nil
                · -- another
                  exact t_nil
              · -- another
                exact t_nil
          · -- another
            refine t_make (by kernel_rfl) (d := (some 8)) (by kernel_rfl) (v := .pointer (some ⟨w9.heap.size, 0, none⟩)) (w' := w9.alloc (.cells #[.int .u64 0, .int .u64 0, .int .u64 0, .int .u64 0, .int .u64 0, .int .u64 0, .int .u64 0, .int .u64 0, .int .u64 0, .int .u64 0, .int .u64 0, .int .u64 0, .int .u64 0, .int .u64 0, .int .u64 0, .int .u64 0] 39)) (by kernel_rfl) (K9.go ((Below.refl _ _).alloc (Nat.le_refl _) _)) ?_ ?_
            · intro w17 hw17 K17
              have G17_n : w17.heap[w9.heap.size]? = some (.cells (dgQ 0 0) 39 (0, 0)) := hw17 ▸ heap_alloc_new _ _
              have S17 : w9.heap.size < w17.heap.size := lt_of_heap G17_n
              have R17_0 : w.heap.size < w9.heap.size := (by obtain ⟨T, h⟩ := K9.at 0 rfl; exact lt_of_heap h)
              have R17_1 : w.heap.size + 1 < w9.heap.size := (by obtain ⟨T, h⟩ := K9.at 1 rfl; exact lt_of_heap h)
              have Z17 : w.heap.size ≤ w9.heap.size := K9.nb.size
              clear hw17
              refine t_call (by kernel_rfl) (d := (some 28)) (by kernel_rfl) (f := 19) (args := #[.agg (fps [c0, c1])]) (v := .agg (dgQ V.re.val V.im.val)) (fun _ => by kernel_rfl) (OV) (fun w18 hb18 => ⟨K17.go hb18, ?_⟩) ?_
              · have K18 := K17.go hb18
                have G18_10 := nb_heap G17_n _ hb18
                have L18 := hb18.size
                refine t_call (by kernel_rfl) (d := (some 29)) (by kernel_rfl) (f := 25) (args := #[.agg (dgQ ((W * W).re.val) ((W * W).im.val)), .agg (dgQ V.re.val V.im.val)]) (v := .agg (dgQ ((W * W * V).re.val) ((W * W * V).im.val))) (fun _ => by kernel_rfl) (mulQ_q) (fun w19 hb19 => ⟨K18.go hb19, ?_⟩) ?_
                · have K19 := K18.go hb19
                  have G19_10 := nb_heap G18_10 _ hb19
                  have L19 := hb19.size
                  refine t_store (by kernel_rfl) (d := none) (by kernel_rfl) (ty := 39) (x := (.tmp 8)) (y := (.tmp 29)) (by kernel_rfl) (g := w9.heap.size) (cells := (dgQ ((W * W * V).re.val) ((W * W * V).im.val))) (by kernel_rfl) (by kernel_rfl) G19_10 (by kernel_rfl) (by kernel_rfl) (all_dgA _) (K19.puti (n := 16) (by kernel_rfl) (by omega) (neC (by omega) (neC (by omega) ne0)) ns0) ?_ ?_
                  · intro w20 hw20 K20
                    have G20_s : w20.heap[w9.heap.size]? = some (.cells (dgQ ((W * W * V).re.val) ((W * W * V).im.val)) _ (0, 0)) := hw20 ▸ setRow_heap _ _ _ _ _ _ G19_10
                    have L20 : w19.heap.size ≤ w20.heap.size := by rw [hw20]; exact Nat.le_of_eq (size_setRow _ _ _).symm
                    clear hw20
                    exact t_done ⟨rfl, w9.heap.size, by kernel_rfl, Kept.zero K20.nb (rowsC (K20.at 0 rfl) (rowsC (K20.at 1 rfl) (rowsC ⟨_, G20_s⟩ rows0))), (by omega)⟩
                  · -- another
                    exact t_nil
                · -- another
                  exact t_nil
              · -- another
                exact t_nil
            · -- another
              exact t_nil
        · -- another
          refine t_make (by kernel_rfl) (d := (some 8)) (by kernel_rfl) (v := .pointer (some ⟨w8.heap.size, 0, none⟩)) (w' := w8.alloc (.cells #[.int .u64 0, .int .u64 0, .int .u64 0, .int .u64 0, .int .u64 0, .int .u64 0, .int .u64 0, .int .u64 0, .int .u64 0, .int .u64 0, .int .u64 0, .int .u64 0, .int .u64 0, .int .u64 0, .int .u64 0, .int .u64 0] 39)) (by kernel_rfl) (K8.go ((Below.refl _ _).alloc (Nat.le_refl _) _)) ?_ ?_
          · intro w21 hw21 K21
            have G21_n : w21.heap[w8.heap.size]? = some (.cells (dgQ 0 0) 39 (0, 0)) := hw21 ▸ heap_alloc_new _ _
            have S21 : w8.heap.size < w21.heap.size := lt_of_heap G21_n
            have R21_0 : w.heap.size < w8.heap.size := (by obtain ⟨T, h⟩ := K8.at 0 rfl; exact lt_of_heap h)
            have R21_1 : w.heap.size + 1 < w8.heap.size := (by obtain ⟨T, h⟩ := K8.at 1 rfl; exact lt_of_heap h)
            have Z21 : w.heap.size ≤ w8.heap.size := K8.nb.size
            clear hw21
            refine t_call (by kernel_rfl) (d := (some 26)) (by kernel_rfl) (f := 25) (args := #[.agg (dgQ W.re.val W.im.val), .agg (dgQ W.re.val W.im.val)]) (v := .agg (dgQ ((W * W).re.val) ((W * W).im.val))) (fun _ => by kernel_rfl) (mulQ_q) (fun w22 hb22 => ⟨K21.go hb22, ?_⟩) ?_
            · have K22 := K21.go hb22
              have G22_10 := nb_heap G21_n _ hb22
              have L22 := hb22.size
              refine t_call (by kernel_rfl) (d := (some 28)) (by kernel_rfl) (f := 19) (args := #[.agg (fps [c0, c1])]) (v := .agg (dgQ V.re.val V.im.val)) (fun _ => by kernel_rfl) (OV) (fun w23 hb23 => ⟨K22.go hb23, ?_⟩) ?_
              · have K23 := K22.go hb23
                have G23_10 := nb_heap G22_10 _ hb23
                have L23 := hb23.size
                refine t_call (by kernel_rfl) (d := (some 29)) (by kernel_rfl) (f := 25) (args := #[.agg (dgQ ((W * W).re.val) ((W * W).im.val)), .agg (dgQ V.re.val V.im.val)]) (v := .agg (dgQ ((W * W * V).re.val) ((W * W * V).im.val))) (fun _ => by kernel_rfl) (mulQ_q) (fun w24 hb24 => ⟨K23.go hb24, ?_⟩) ?_
                · have K24 := K23.go hb24
                  have G24_10 := nb_heap G23_10 _ hb24
                  have L24 := hb24.size
                  refine t_store (by kernel_rfl) (d := none) (by kernel_rfl) (ty := 39) (x := (.tmp 8)) (y := (.tmp 29)) (by kernel_rfl) (g := w8.heap.size) (cells := (dgQ ((W * W * V).re.val) ((W * W * V).im.val))) (by kernel_rfl) (by kernel_rfl) G24_10 (by kernel_rfl) (by kernel_rfl) (all_dgA _) (K24.puti (n := 16) (by kernel_rfl) (by omega) (neC (by omega) (neC (by omega) ne0)) ns0) ?_ ?_
                  · intro w25 hw25 K25
                    have G25_s : w25.heap[w8.heap.size]? = some (.cells (dgQ ((W * W * V).re.val) ((W * W * V).im.val)) _ (0, 0)) := hw25 ▸ setRow_heap _ _ _ _ _ _ G24_10
                    have L25 : w24.heap.size ≤ w25.heap.size := by rw [hw25]; exact Nat.le_of_eq (size_setRow _ _ _).symm
                    clear hw25
                    exact t_done ⟨rfl, w8.heap.size, by kernel_rfl, Kept.zero K25.nb (rowsC (K25.at 0 rfl) (rowsC (K25.at 1 rfl) (rowsC ⟨_, G25_s⟩ rows0))), (by omega)⟩
                  · -- another
                    exact t_nil
                · -- another
                  exact t_nil
              · -- another
                exact t_nil
            · -- another
              exact t_nil
          · -- another
            exact t_nil
      · -- another
        refine t_make (by kernel_rfl) (d := (some 8)) (by kernel_rfl) (v := .pointer (some ⟨w7.heap.size, 0, none⟩)) (w' := w7.alloc (.cells #[.int .u64 0, .int .u64 0, .int .u64 0, .int .u64 0, .int .u64 0, .int .u64 0, .int .u64 0, .int .u64 0, .int .u64 0, .int .u64 0, .int .u64 0, .int .u64 0, .int .u64 0, .int .u64 0, .int .u64 0, .int .u64 0] 39)) (by kernel_rfl) (K7.go ((Below.refl _ _).alloc (Nat.le_refl _) _)) ?_ ?_
        · intro w26 hw26 K26
          have G26_n : w26.heap[w7.heap.size]? = some (.cells (dgQ 0 0) 39 (0, 0)) := hw26 ▸ heap_alloc_new _ _
          have S26 : w7.heap.size < w26.heap.size := lt_of_heap G26_n
          have R26_0 : w.heap.size < w7.heap.size := (by obtain ⟨T, h⟩ := K7.at 0 rfl; exact lt_of_heap h)
          have R26_1 : w.heap.size + 1 < w7.heap.size := (by obtain ⟨T, h⟩ := K7.at 1 rfl; exact lt_of_heap h)
          have Z26 : w.heap.size ≤ w7.heap.size := K7.nb.size
          clear hw26
          refine t_call (by kernel_rfl) (d := (some 25)) (by kernel_rfl) (f := 19) (args := #[.agg (fps [a0, a1])]) (v := .agg (dgQ W.re.val W.im.val)) (fun _ => by kernel_rfl) (OW) (fun w27 hb27 => ⟨K26.go hb27, ?_⟩) ?_
          · have K27 := K26.go hb27
            have G27_10 := nb_heap G26_n _ hb27
            have L27 := hb27.size
            refine t_call (by kernel_rfl) (d := (some 26)) (by kernel_rfl) (f := 25) (args := #[.agg (dgQ W.re.val W.im.val), .agg (dgQ W.re.val W.im.val)]) (v := .agg (dgQ ((W * W).re.val) ((W * W).im.val))) (fun _ => by kernel_rfl) (mulQ_q) (fun w28 hb28 => ⟨K27.go hb28, ?_⟩) ?_
            · have K28 := K27.go hb28
              have G28_10 := nb_heap G27_10 _ hb28
              have L28 := hb28.size
              refine t_call (by kernel_rfl) (d := (some 28)) (by kernel_rfl) (f := 19) (args := #[.agg (fps [c0, c1])]) (v := .agg (dgQ V.re.val V.im.val)) (fun _ => by kernel_rfl) (OV) (fun w29 hb29 => ⟨K28.go hb29, ?_⟩) ?_
              · have K29 := K28.go hb29
                have G29_10 := nb_heap G28_10 _ hb29
                have L29 := hb29.size
                refine t_call (by kernel_rfl) (d := (some 29)) (by kernel_rfl) (f := 25) (args := #[.agg (dgQ ((W * W).re.val) ((W * W).im.val)), .agg (dgQ V.re.val V.im.val)]) (v := .agg (dgQ ((W * W * V).re.val) ((W * W * V).im.val))) (fun _ => by kernel_rfl) (mulQ_q) (fun w30 hb30 => ⟨K29.go hb30, ?_⟩) ?_
                · have K30 := K29.go hb30
                  have G30_10 := nb_heap G29_10 _ hb30
                  have L30 := hb30.size
                  refine t_store (by kernel_rfl) (d := none) (by kernel_rfl) (ty := 39) (x := (.tmp 8)) (y := (.tmp 29)) (by kernel_rfl) (g := w7.heap.size) (cells := (dgQ ((W * W * V).re.val) ((W * W * V).im.val))) (by kernel_rfl) (by kernel_rfl) G30_10 (by kernel_rfl) (by kernel_rfl) (all_dgA _) (K30.puti (n := 16) (by kernel_rfl) (by omega) (neC (by omega) (neC (by omega) ne0)) ns0) ?_ ?_
                  · intro w31 hw31 K31
                    have G31_s : w31.heap[w7.heap.size]? = some (.cells (dgQ ((W * W * V).re.val) ((W * W * V).im.val)) _ (0, 0)) := hw31 ▸ setRow_heap _ _ _ _ _ _ G30_10
                    have L31 : w30.heap.size ≤ w31.heap.size := by rw [hw31]; exact Nat.le_of_eq (size_setRow _ _ _).symm
                    clear hw31
                    exact t_done ⟨rfl, w7.heap.size, by kernel_rfl, Kept.zero K31.nb (rowsC (K31.at 0 rfl) (rowsC (K31.at 1 rfl) (rowsC ⟨_, G31_s⟩ rows0))), (by omega)⟩
                  · -- another
                    exact t_nil
                · -- another
                  exact t_nil
              · -- another
                exact t_nil
            · -- another
              exact t_nil
          · -- another
            exact t_nil
        · -- another
          exact t_nil
    · -- another
      refine t_make (by kernel_rfl) (d := (some 8)) (by kernel_rfl) (v := .pointer (some ⟨w3.drew.heap.size, 0, none⟩)) (w' := w3.drew.alloc (.cells #[.int .u64 0, .int .u64 0, .int .u64 0, .int .u64 0, .int .u64 0, .int .u64 0, .int .u64 0, .int .u64 0, .int .u64 0, .int .u64 0, .int .u64 0, .int .u64 0, .int .u64 0, .int .u64 0, .int .u64 0, .int .u64 0] 39)) (by kernel_rfl) (K6.go ((Below.refl _ _).alloc (Nat.le_refl _) _)) ?_ ?_
      · intro w32 hw32 K32
        have G32_n : w32.heap[w3.drew.heap.size]? = some (.cells (dgQ 0 0) 39 (0, 0)) := hw32 ▸ heap_alloc_new _ _
        have S32 : w3.drew.heap.size < w32.heap.size := lt_of_heap G32_n
        have R32_0 : w.heap.size < w3.drew.heap.size := (by obtain ⟨T, h⟩ := K6.at 0 rfl; exact lt_of_heap h)
        have R32_1 : w.heap.size + 1 < w3.drew.heap.size := (by obtain ⟨T, h⟩ := K6.at 1 rfl; exact lt_of_heap h)
        have Z32 : w.heap.size ≤ w3.drew.heap.size := K6.nb.size
        clear hw32
        refine t_call (by kernel_rfl) (d := (some 23)) (by kernel_rfl) (f := 19) (args := #[.agg (fps [a0, a1])]) (v := .agg (dgQ W.re.val W.im.val)) (fun _ => by kernel_rfl) (OW) (fun w33 hb33 => ⟨K32.go hb33, ?_⟩) ?_
        · have K33 := K32.go hb33
          have G33_10 := nb_heap G32_n _ hb33
          have L33 := hb33.size
          refine t_call (by kernel_rfl) (d := (some 25)) (by kernel_rfl) (f := 19) (args := #[.agg (fps [a0, a1])]) (v := .agg (dgQ W.re.val W.im.val)) (fun _ => by kernel_rfl) (OW) (fun w34 hb34 => ⟨K33.go hb34, ?_⟩) ?_
          · have K34 := K33.go hb34
            have G34_10 := nb_heap G33_10 _ hb34
            have L34 := hb34.size
            refine t_call (by kernel_rfl) (d := (some 26)) (by kernel_rfl) (f := 25) (args := #[.agg (dgQ W.re.val W.im.val), .agg (dgQ W.re.val W.im.val)]) (v := .agg (dgQ ((W * W).re.val) ((W * W).im.val))) (fun _ => by kernel_rfl) (mulQ_q) (fun w35 hb35 => ⟨K34.go hb35, ?_⟩) ?_
            · have K35 := K34.go hb35
              have G35_10 := nb_heap G34_10 _ hb35
              have L35 := hb35.size
              refine t_call (by kernel_rfl) (d := (some 28)) (by kernel_rfl) (f := 19) (args := #[.agg (fps [c0, c1])]) (v := .agg (dgQ V.re.val V.im.val)) (fun _ => by kernel_rfl) (OV) (fun w36 hb36 => ⟨K35.go hb36, ?_⟩) ?_
              · have K36 := K35.go hb36
                have G36_10 := nb_heap G35_10 _ hb36
                have L36 := hb36.size
                refine t_call (by kernel_rfl) (d := (some 29)) (by kernel_rfl) (f := 25) (args := #[.agg (dgQ ((W * W).re.val) ((W * W).im.val)), .agg (dgQ V.re.val V.im.val)]) (v := .agg (dgQ ((W * W * V).re.val) ((W * W * V).im.val))) (fun _ => by kernel_rfl) (mulQ_q) (fun w37 hb37 => ⟨K36.go hb37, ?_⟩) ?_
                · have K37 := K36.go hb37
                  have G37_10 := nb_heap G36_10 _ hb37
                  have L37 := hb37.size
                  refine t_store (by kernel_rfl) (d := none) (by kernel_rfl) (ty := 39) (x := (.tmp 8)) (y := (.tmp 29)) (by kernel_rfl) (g := w3.drew.heap.size) (cells := (dgQ ((W * W * V).re.val) ((W * W * V).im.val))) (by kernel_rfl) (by kernel_rfl) G37_10 (by kernel_rfl) (by kernel_rfl) (all_dgA _) (K37.puti (n := 16) (by kernel_rfl) (by omega) (neC (by omega) (neC (by omega) ne0)) ns0) ?_ ?_
                  · intro w38 hw38 K38
                    have G38_s : w38.heap[w3.drew.heap.size]? = some (.cells (dgQ ((W * W * V).re.val) ((W * W * V).im.val)) _ (0, 0)) := hw38 ▸ setRow_heap _ _ _ _ _ _ G37_10
                    have L38 : w37.heap.size ≤ w38.heap.size := by rw [hw38]; exact Nat.le_of_eq (size_setRow _ _ _).symm
                    clear hw38
                    exact t_done ⟨rfl, w3.drew.heap.size, by kernel_rfl, Kept.zero K38.nb (rowsC (K38.at 0 rfl) (rowsC (K38.at 1 rfl) (rowsC ⟨_, G38_s⟩ rows0))), (by omega)⟩
                  · -- another
                    exact t_nil
                · -- another
                  exact t_nil
              · -- another
                exact t_nil
            · -- another
              exact t_nil
          · -- another
            exact t_nil
        · -- another
          exact t_nil
      · -- another
        exact t_nil
  · rintro _ W39 ⟨p8, rfl, K40, l41⟩
    go_upto_region 7 with (fail)
    have K42 : Kept w [(w.heap.size, (fps [a0, a1])), (w.heap.size + 1, (fps [c0, c1])), (p8, (dgQ ((W * W * V).re.val) ((W * W * V).im.val)))] [] W39 := Kept.mks K40.nb (rowsC (K40.at 0 rfl) (rowsC (K40.at 1 rfl) (rowsC (K40.at 2 rfl) rows0))) rooms0
    refine wp_meet (fun a' w' => ∃ p9 : Nat, a' = { tmps := #[.agg (fps [a0, a1]), .agg (fps [c0, c1]), .bool false, .pointer (some ⟨w.heap.size, 0, none⟩), .pointer (some ⟨w.heap.size + 1, 0, none⟩), undef, .bool false, .int .i64 (-1), .pointer (some ⟨p8, 0, none⟩), .pointer (some ⟨p9, 0, none⟩), undef, .agg (fps [a0, a1]), .agg (dgQ W.re.val W.im.val), .agg (dgQ 0 0), .bool false, .bool false, .agg (fps [c0, c1]), .agg (dgQ V.re.val V.im.val), .agg (dgQ 0 0), .bool false, .bool false, .bool false, .agg (fps [a0, a1]), .agg (dgQ W.re.val W.im.val), .agg (fps [a0, a1]), .agg (dgQ W.re.val W.im.val), .agg (dgQ ((W * W).re.val) ((W * W).im.val)), .agg (fps [c0, c1]), .agg (dgQ V.re.val V.im.val), .agg (dgQ ((W * W * V).re.val) ((W * W * V).im.val)), .agg (dgQ ((W * W * V).re.val) ((W * W * V).im.val)), .agg (fps [(W * W * V).re.val, (W * W * V).im.val]), .agg (fps [c0, c1]), .agg (dgQ V.re.val V.im.val), .agg (fps [V.re.val, V.im.val]), .int .i64 (-1), .agg (fps [f.re.val, f.im.val]), .agg (dgQ f.re.val f.im.val), undef, undef, undef, undef, undef, undef, undef, undef, undef, undef, undef, undef, undef, undef, undef, undef, undef, undef, undef, undef, undef, undef, undef, undef], defers := [] } ∧ Kept w [(w.heap.size, (fps [a0, a1])), (w.heap.size + 1, (fps [c0, c1])), (p8, (dgQ ((W * W * V).re.val) ((W * W * V).im.val))), (p9, (dgQ f.re.val f.im.val))] [] w' ∧ W39.heap.size ≤ p9) ?_ ?_
    · refine wp_tree_at (opsAt Tryd.f6 7) (.take 0 (.take 2 (.take 5 (.fork 1 (.fork 3 (.fork 4 (.fork 6 (.fork 7 (.fork 8 (.fork 9 .done .nil) .nil) (.fork 8 (.fork 7 (.fork 9 .done .nil) .nil) .nil)) (.fork 8 (.fork 6 (.fork 7 (.fork 9 .done .nil) .nil) .nil) .nil)) (.fork 8 (.fork 4 (.fork 6 (.fork 7 (.fork 9 .done .nil) .nil) .nil) .nil) .nil)) (.fork 8 (.fork 3 (.fork 4 (.fork 6 (.fork 7 (.fork 9 .done .nil) .nil) .nil) .nil) .nil) .nil)) (.fork 8 (.fork 1 (.fork 3 (.fork 4 (.fork 6 (.fork 7 (.fork 9 .done .nil) .nil) .nil) .nil) .nil) .nil) .nil))))) (Kept w [(w.heap.size, (fps [a0, a1])), (w.heap.size + 1, (fps [c0, c1])), (p8, (dgQ ((W * W * V).re.val) ((W * W * V).im.val)))] []) (by kernel_rfl) rfl (by kernel_rfl) (by intro c a d v w h; exact absurd h.1 (by simp)) (by kernel_rfl) (by kernel_rfl) K42.drew ?_
      have K43 := K42.drew
      have DK43 : W39.heap.size ≤ W39.drew.heap.size := Nat.le_refl _
      refine t_row (by kernel_rfl) (d := (some 30)) (by kernel_rfl) (ty := 39) (x := (.tmp 8)) (by kernel_rfl) (b := p8) (by kernel_rfl) (cs := (dgQ ((W * W * V).re.val) ((W * W * V).im.val))) (fun _ hs => hs.at 2 rfl) Tryd.underlying39 rfl (by kernel_rfl) ?_
      refine t_row (by kernel_rfl) (d := (some 32)) (by kernel_rfl) (ty := 33) (x := (.tmp 4)) (by kernel_rfl) (b := w.heap.size + 1) (by kernel_rfl) (cs := (fps [c0, c1])) (fun _ hs => hs.at 1 rfl) Tryd.underlying33 rfl (by kernel_rfl) ?_
      refine t_pure (by kernel_rfl) (d := (some 35)) (by kernel_rfl) (v := .int .i64 (-1)) (fun _ => by kernel_rfl) ?_
      refine t_call (by kernel_rfl) (d := (some 31)) (by kernel_rfl) (f := 27) (args := #[.agg (dgQ ((W * W * V).re.val) ((W * W * V).im.val))]) (v := .agg (fps [(W * W * V).re.val, (W * W * V).im.val])) (fun _ => by kernel_rfl) (bytesQ_q) (fun w44 hb44 => ⟨K43.go hb44, ?_⟩) ?_
      · have K44 := K43.go hb44
        have L44 := hb44.size
        refine t_call (by kernel_rfl) (d := (some 33)) (by kernel_rfl) (f := 19) (args := #[.agg (fps [c0, c1])]) (v := .agg (dgQ V.re.val V.im.val)) (fun _ => by kernel_rfl) (OV) (fun w45 hb45 => ⟨K44.go hb45, ?_⟩) ?_
        · have K45 := K44.go hb45
          have L45 := hb45.size
          refine t_call (by kernel_rfl) (d := (some 34)) (by kernel_rfl) (f := 27) (args := #[.agg (dgQ V.re.val V.im.val)]) (v := .agg (fps [V.re.val, V.im.val])) (fun _ => by kernel_rfl) (bytesQ_q) (fun w46 hb46 => ⟨K45.go hb46, ?_⟩) ?_
          · have K46 := K45.go hb46
            have L46 := hb46.size
            refine t_call (by kernel_rfl) (d := (some 36)) (by kernel_rfl) (f := 26) (args := #[.agg (fps [(W * W * V).re.val, (W * W * V).im.val]), .agg (fps [V.re.val, V.im.val]), .int .i64 (-1)]) (v := .agg (fps [f.re.val, f.im.val])) (fun _ => by kernel_rfl) (implFqSqrt_M hf (hm.nb K46.nb)) (fun w47 hb47 => ⟨K46.go hb47, ?_⟩) ?_
            · have K47 := K46.go hb47
              have L47 := hb47.size
              refine t_call (by kernel_rfl) (d := (some 37)) (by kernel_rfl) (f := 19) (args := #[.agg (fps [f.re.val, f.im.val])]) (v := .agg (dgQ f.re.val f.im.val)) (fun _ => by kernel_rfl) (ofQ_q) (fun w48 hb48 => ⟨K47.go hb48, ?_⟩) ?_
              · have K48 := K47.go hb48
                have L48 := hb48.size
                refine t_make (by kernel_rfl) (d := (some 9)) (by kernel_rfl) (v := .pointer (some ⟨w48.heap.size, 0, none⟩)) (w' := w48.alloc (.cells #[.int .u64 0, .int .u64 0, .int .u64 0, .int .u64 0, .int .u64 0, .int .u64 0, .int .u64 0, .int .u64 0, .int .u64 0, .int .u64 0, .int .u64 0, .int .u64 0, .int .u64 0, .int .u64 0, .int .u64 0, .int .u64 0] 39)) (by kernel_rfl) (K48.go ((Below.refl _ _).alloc (Nat.le_refl _) _)) ?_ ?_
                · intro w49 hw49 K49
                  have G49_n : w49.heap[w48.heap.size]? = some (.cells (dgQ 0 0) 39 (0, 0)) := hw49 ▸ heap_alloc_new _ _
                  have S49 : w48.heap.size < w49.heap.size := lt_of_heap G49_n
                  have R49_0 : w.heap.size < w48.heap.size := (by obtain ⟨T, h⟩ := K48.at 0 rfl; exact lt_of_heap h)
                  have R49_1 : w.heap.size + 1 < w48.heap.size := (by obtain ⟨T, h⟩ := K48.at 1 rfl; exact lt_of_heap h)
                  have R49_2 : p8 < w48.heap.size := (by obtain ⟨T, h⟩ := K48.at 2 rfl; exact lt_of_heap h)
                  have Z49 : w.heap.size ≤ w48.heap.size := K48.nb.size
                  clear hw49
                  refine t_store (by kernel_rfl) (d := none) (by kernel_rfl) (ty := 39) (x := (.tmp 9)) (y := (.tmp 37)) (by kernel_rfl) (g := w48.heap.size) (cells := (dgQ f.re.val f.im.val)) (by kernel_rfl) (by kernel_rfl) G49_n (by kernel_rfl) (by kernel_rfl) (all_dgA _) (K49.puti (n := 16) (by kernel_rfl) (by omega) (neC (by omega) (neC (by omega) (neC (by omega) ne0))) ns0) ?_ ?_
                  · intro w50 hw50 K50
                    have G50_s : w50.heap[w48.heap.size]? = some (.cells (dgQ f.re.val f.im.val) _ (0, 0)) := hw50 ▸ setRow_heap _ _ _ _ _ _ G49_n
                    have L50 : w49.heap.size ≤ w50.heap.size := by rw [hw50]; exact Nat.le_of_eq (size_setRow _ _ _).symm
                    clear hw50
                    exact t_done ⟨rfl, w48.heap.size, by kernel_rfl, Kept.zero K50.nb (rowsC (K50.at 0 rfl) (rowsC (K50.at 1 rfl) (rowsC (K50.at 2 rfl) (rowsC ⟨_, G50_s⟩ rows0)))), (by omega)⟩
                  · -- another
                    exact t_nil
                · -- another
                  exact t_nil
              · -- another
                refine t_make (by kernel_rfl) (d := (some 9)) (by kernel_rfl) (v := .pointer (some ⟨w47.heap.size, 0, none⟩)) (w' := w47.alloc (.cells #[.int .u64 0, .int .u64 0, .int .u64 0, .int .u64 0, .int .u64 0, .int .u64 0, .int .u64 0, .int .u64 0, .int .u64 0, .int .u64 0, .int .u64 0, .int .u64 0, .int .u64 0, .int .u64 0, .int .u64 0, .int .u64 0] 39)) (by kernel_rfl) (K47.go ((Below.refl _ _).alloc (Nat.le_refl _) _)) ?_ ?_
                · intro w51 hw51 K51
                  have G51_n : w51.heap[w47.heap.size]? = some (.cells (dgQ 0 0) 39 (0, 0)) := hw51 ▸ heap_alloc_new _ _
                  have S51 : w47.heap.size < w51.heap.size := lt_of_heap G51_n
                  have R51_0 : w.heap.size < w47.heap.size := (by obtain ⟨T, h⟩ := K47.at 0 rfl; exact lt_of_heap h)
                  have R51_1 : w.heap.size + 1 < w47.heap.size := (by obtain ⟨T, h⟩ := K47.at 1 rfl; exact lt_of_heap h)
                  have R51_2 : p8 < w47.heap.size := (by obtain ⟨T, h⟩ := K47.at 2 rfl; exact lt_of_heap h)
                  have Z51 : w.heap.size ≤ w47.heap.size := K47.nb.size
                  clear hw51
                  refine t_call (by kernel_rfl) (d := (some 37)) (by kernel_rfl) (f := 19) (args := #[.agg (fps [f.re.val, f.im.val])]) (v := .agg (dgQ f.re.val f.im.val)) (fun _ => by kernel_rfl) (ofQ_q) (fun w52 hb52 => ⟨K51.go hb52, ?_⟩) ?_
                  · have K52 := K51.go hb52
                    have G52_10 := nb_heap G51_n _ hb52
                    have L52 := hb52.size
                    refine t_store (by kernel_rfl) (d := none) (by kernel_rfl) (ty := 39) (x := (.tmp 9)) (y := (.tmp 37)) (by kernel_rfl) (g := w47.heap.size) (cells := (dgQ f.re.val f.im.val)) (by kernel_rfl) (by kernel_rfl) G52_10 (by kernel_rfl) (by kernel_rfl) (all_dgA _) (K52.puti (n := 16) (by kernel_rfl) (by omega) (neC (by omega) (neC (by omega) (neC (by omega) ne0))) ns0) ?_ ?_
                    · intro w53 hw53 K53
                      have G53_s : w53.heap[w47.heap.size]? = some (.cells (dgQ f.re.val f.im.val) _ (0, 0)) := hw53 ▸ setRow_heap _ _ _ _ _ _ G52_10
                      have L53 : w52.heap.size ≤ w53.heap.size := by rw [hw53]; exact Nat.le_of_eq (size_setRow _ _ _).symm
                      clear hw53
                      exact t_done ⟨rfl, w47.heap.size, by kernel_rfl, Kept.zero K53.nb (rowsC (K53.at 0 rfl) (rowsC (K53.at 1 rfl) (rowsC (K53.at 2 rfl) (rowsC ⟨_, G53_s⟩ rows0)))), (by omega)⟩
                    · -- another
                      exact t_nil
                  · -- another
                    exact t_nil
                · -- another
                  exact t_nil
            · -- another
              refine t_make (by kernel_rfl) (d := (some 9)) (by kernel_rfl) (v := .pointer (some ⟨w46.heap.size, 0, none⟩)) (w' := w46.alloc (.cells #[.int .u64 0, .int .u64 0, .int .u64 0, .int .u64 0, .int .u64 0, .int .u64 0, .int .u64 0, .int .u64 0, .int .u64 0, .int .u64 0, .int .u64 0, .int .u64 0, .int .u64 0, .int .u64 0, .int .u64 0, .int .u64 0] 39)) (by kernel_rfl) (K46.go ((Below.refl _ _).alloc (Nat.le_refl _) _)) ?_ ?_
              · intro w54 hw54 K54
                have G54_n : w54.heap[w46.heap.size]? = some (.cells (dgQ 0 0) 39 (0, 0)) := hw54 ▸ heap_alloc_new _ _
                have S54 : w46.heap.size < w54.heap.size := lt_of_heap G54_n
                have R54_0 : w.heap.size < w46.heap.size := (by obtain ⟨T, h⟩ := K46.at 0 rfl; exact lt_of_heap h)
                have R54_1 : w.heap.size + 1 < w46.heap.size := (by obtain ⟨T, h⟩ := K46.at 1 rfl; exact lt_of_heap h)
                have R54_2 : p8 < w46.heap.size := (by obtain ⟨T, h⟩ := K46.at 2 rfl; exact lt_of_heap h)
                have Z54 : w.heap.size ≤ w46.heap.size := K46.nb.size
                clear hw54
                refine t_call (by kernel_rfl) (d := (some 36)) (by kernel_rfl) (f := 26) (args := #[.agg (fps [(W * W * V).re.val, (W * W * V).im.val]), .agg (fps [V.re.val, V.im.val]), .int .i64 (-1)]) (v := .agg (fps [f.re.val, f.im.val])) (fun _ => by kernel_rfl) (implFqSqrt_M hf (hm.nb K54.nb)) (fun w55 hb55 => ⟨K54.go hb55, ?_⟩) ?_
                · have K55 := K54.go hb55
                  have G55_10 := nb_heap G54_n _ hb55
                  have L55 := hb55.size
                  refine t_call (by kernel_rfl) (d := (some 37)) (by kernel_rfl) (f := 19) (args := #[.agg (fps [f.re.val, f.im.val])]) (v := .agg (dgQ f.re.val f.im.val)) (fun _ => by kernel_rfl) (ofQ_q) (fun w56 hb56 => ⟨K55.go hb56, ?_⟩) ?_
                  · have K56 := K55.go hb56
                    have G56_10 := nb_heap G55_10 _ hb56
                    have L56 := hb56.size
                    refine t_store (by kernel_rfl) (d := none) (by kernel_rfl) (ty := 39) (x := (.tmp 9)) (y := (.tmp 37)) (by kernel_rfl) (g := w46.heap.size) (cells := (dgQ f.re.val f.im.val)) (by kernel_rfl) (by kernel_rfl) G56_10 (by kernel_rfl) (by kernel_rfl) (all_dgA _) (K56.puti (n := 16) (by kernel_rfl) (by omega) (neC (by omega) (neC (by omega) (neC (by omega) ne0))) ns0) ?_ ?_
                    · intro w57 hw57 K57
                      have G57_s : w57.heap[w46.heap.size]? = some (.cells (dgQ f.re.val f.im.val) _ (0, 0)) := hw57 ▸ setRow_heap _ _ _ _ _ _ G56_10
                      have L57 : w56.heap.size ≤ w57.heap.size := by rw [hw57]; exact Nat.le_of_eq (size_setRow _ _ _).symm
                      clear hw57
                      exact t_done ⟨rfl, w46.heap.size, by kernel_rfl, Kept.zero K57.nb (rowsC (K57.at 0 rfl) (rowsC (K57.at 1 rfl) (rowsC (K57.at 2 rfl) (rowsC ⟨_, G57_s⟩ rows0)))), (by omega)⟩
                    · -- another
                      exact t_nil
                  · -- another
                    exact t_nil
                · -- another
                  exact t_nil
              · -- another
                exact t_nil
          · -- another
            refine t_make (by kernel_rfl) (d := (some 9)) (by kernel_rfl) (v := .pointer (some ⟨w45.heap.size, 0, none⟩)) (w' := w45.alloc (.cells #[.int .u64 0, .int .u64 0, .int .u64 0, .int .u64 0, .int .u64 0, .int .u64 0, .int .u64 0, .int .u64 0, .int .u64 0, .int .u64 0, .int .u64 0, .int .u64 0, .int .u64 0, .int .u64 0, .int .u64 0, .int .u64 0] 39)) (by kernel_rfl) (K45.go ((Below.refl _ _).alloc (Nat.le_refl _) _)) ?_ ?_
            · intro w58 hw58 K58
              have G58_n : w58.heap[w45.heap.size]? = some (.cells (dgQ 0 0) 39 (0, 0)) := hw58 ▸ heap_alloc_new _ _
              have S58 : w45.heap.size < w58.heap.size := lt_of_heap G58_n
              have R58_0 : w.heap.size < w45.heap.size := (by obtain ⟨T, h⟩ := K45.at 0 rfl; exact lt_of_heap h)
              have R58_1 : w.heap.size + 1 < w45.heap.size := (by obtain ⟨T, h⟩ := K45.at 1 rfl; exact lt_of_heap h)
              have R58_2 : p8 < w45.heap.size := (by obtain ⟨T, h⟩ := K45.at 2 rfl; exact lt_of_heap h)
              have Z58 : w.heap.size ≤ w45.heap.size := K45.nb.size
              clear hw58
              refine t_call (by kernel_rfl) (d := (some 34)) (by kernel_rfl) (f := 27) (args := #[.agg (dgQ V.re.val V.im.val)]) (v := .agg (fps [V.re.val, V.im.val])) (fun _ => by kernel_rfl) (bytesQ_q) (fun w59 hb59 => ⟨K58.go hb59, ?_⟩) ?_
              · have K59 := K58.go hb59
                have G59_10 := nb_heap G58_n _ hb59
                have L59 := hb59.size
                refine t_call (by kernel_rfl) (d := (some 36)) (by kernel_rfl) (f := 26) (args := #[.agg (fps [(W * W * V).re.val, (W * W * V).im.val]), .agg (fps [V.re.val, V.im.val]), .int .i64 (-1)]) (v := .agg (fps [f.re.val, f.im.val])) (fun _ => by kernel_rfl) (implFqSqrt_M hf (hm.nb K59.nb)) (fun w60 hb60 => ⟨K59.go hb60, ?_⟩) ?_
                · have K60 := K59.go hb60
                  have G60_10 := nb_heap G59_10 _ hb60
                  have L60 := hb60.size
                  refine t_call (by kernel_rfl) (d := (some 37)) (by kernel_rfl) (f := 19) (args := #[.agg (fps [f.re.val, f.im.val])]) (v := .agg (dgQ f.re.val f.im.val)) (fun _ => by kernel_rfl) (ofQ_q) (fun w61 hb61 => ⟨K60.go hb61, ?_⟩) ?_
                  · have K61 := K60.go hb61
                    have G61_10 := nb_heap G60_10 _ hb61
                    have L61 := hb61.size
                    refine t_store (by kernel_rfl) (d := none) (by kernel_rfl) (ty := 39) (x := (.tmp 9)) (y := (.tmp 37)) (by kernel_rfl) (g := w45.heap.size) (cells := (dgQ f.re.val f.im.val)) (by kernel_rfl) (by kernel_rfl) G61_10 (by kernel_rfl) (by kernel_rfl) (all_dgA _) (K61.puti (n := 16) (by kernel_rfl) (by omega) (neC (by omega) (neC (by omega) (neC (by omega) ne0))) ns0) ?_ ?_
                    · intro w62 hw62 K62
                      have G62_s : w62.heap[w45.heap.size]? = some (.cells (dgQ f.re.val f.im.val) _ (0, 0)) := hw62 ▸ setRow_heap _ _ _ _ _ _ G61_10
                      have L62 : w61.heap.size ≤ w62.heap.size := by rw [hw62]; exact Nat.le_of_eq (size_setRow _ _ _).symm
                      clear hw62
                      exact t_done ⟨rfl, w45.heap.size, by kernel_rfl, Kept.zero K62.nb (rowsC (K62.at 0 rfl) (rowsC (K62.at 1 rfl) (rowsC (K62.at 2 rfl) (rowsC ⟨_, G62_s⟩ rows0)))), (by omega)⟩
                    · -- another
                      exact t_nil
                  · -- another
                    exact t_nil
                · -- another
                  exact t_nil
              · -- another
                exact t_nil
            · -- another
              exact t_nil
        · -- another
          refine t_make (by kernel_rfl) (d := (some 9)) (by kernel_rfl) (v := .pointer (some ⟨w44.heap.size, 0, none⟩)) (w' := w44.alloc (.cells #[.int .u64 0, .int .u64 0, .int .u64 0, .int .u64 0, .int .u64 0, .int .u64 0, .int .u64 0, .int .u64 0, .int .u64 0, .int .u64 0, .int .u64 0, .int .u64 0, .int .u64 0, .int .u64 0, .int .u64 0, .int .u64 0] 39)) (by kernel_rfl) (K44.go ((Below.refl _ _).alloc (Nat.le_refl _) _)) ?_ ?_
          · intro w63 hw63 K63
            have G63_n : w63.heap[w44.heap.size]? = some (.cells (dgQ 0 0) 39 (0, 0)) := hw63 ▸ heap_alloc_new _ _
            have S63 : w44.heap.size < w63.heap.size := lt_of_heap G63_n
            have R63_0 : w.heap.size < w44.heap.size := (by obtain ⟨T, h⟩ := K44.at 0 rfl; exact lt_of_heap h)
            have R63_1 : w.heap.size + 1 < w44.heap.size := (by obtain ⟨T, h⟩ := K44.at 1 rfl; exact lt_of_heap h)
            have R63_2 : p8 < w44.heap.size := (by obtain ⟨T, h⟩ := K44.at 2 rfl; exact lt_of_heap h)
            have Z63 : w.heap.size ≤ w44.heap.size := K44.nb.size
            clear hw63
            refine t_call (by kernel_rfl) (d := (some 33)) (by kernel_rfl) (f := 19) (args := #[.agg (fps [c0, c1])]) (v := .agg (dgQ V.re.val V.im.val)) (fun _ => by kernel_rfl) (OV) (fun w64 hb64 => ⟨K63.go hb64, ?_⟩) ?_
            · have K64 := K63.go hb64
              have G64_10 := nb_heap G63_n _ hb64
              have L64 := hb64.size
              refine t_call (by kernel_rfl) (d := (some 34)) (by kernel_rfl) (f := 27) (args := #[.agg (dgQ V.re.val V.im.val)]) (v := .agg (fps [V.re.val, V.im.val])) (fun _ => by kernel_rfl) (bytesQ_q) (fun w65 hb65 => ⟨K64.go hb65, ?_⟩) ?_
              · have K65 := K64.go hb65
                have G65_10 := nb_heap G64_10 _ hb65
                have L65 := hb65.size
                refine t_call (by kernel_rfl) (d := (some 36)) (by kernel_rfl) (f := 26) (args := #[.agg (fps [(W * W * V).re.val, (W * W * V).im.val]), .agg (fps [V.re.val, V.im.val]), .int .i64 (-1)]) (v := .agg (fps [f.re.val, f.im.val])) (fun _ => by kernel_rfl) (implFqSqrt_M hf (hm.nb K65.nb)) (fun w66 hb66 => ⟨K65.go hb66, ?_⟩) ?_
                · have K66 := K65.go hb66
                  have G66_10 := nb_heap G65_10 _ hb66
                  have L66 := hb66.size
                  refine t_call (by kernel_rfl) (d := (some 37)) (by kernel_rfl) (f := 19) (args := #[.agg (fps [f.re.val, f.im.val])]) (v := .agg (dgQ f.re.val f.im.val)) (fun _ => by kernel_rfl) (ofQ_q) (fun w67 hb67 => ⟨K66.go hb67, ?_⟩) ?_
                  · have K67 := K66.go hb67
                    have G67_10 := nb_heap G66_10 _ hb67
                    have L67 := hb67.size
                    refine t_store (by kernel_rfl) (d := none) (by kernel_rfl) (ty := 39) (x := (.tmp 9)) (y := (.tmp 37)) (by kernel_rfl) (g := w44.heap.size) (cells := (dgQ f.re.val f.im.val)) (by kernel_rfl) (by kernel_rfl) G67_10 (by kernel_rfl) (by kernel_rfl) (all_dgA _) (K67.puti (n := 16) (by kernel_rfl) (by omega) (neC (by omega) (neC (by omega) (neC (by omega) ne0))) ns0) ?_ ?_
                    · intro w68 hw68 K68
                      have G68_s : w68.heap[w44.heap.size]? = some (.cells (dgQ f.re.val f.im.val) _ (0, 0)) := hw68 ▸ setRow_heap _ _ _ _ _ _ G67_10
                      have L68 : w67.heap.size ≤ w68.heap.size := by rw [hw68]; exact Nat.le_of_eq (size_setRow _ _ _).symm
                      clear hw68
                      exact t_done ⟨rfl, w44.heap.size, by kernel_rfl, Kept.zero K68.nb (rowsC (K68.at 0 rfl) (rowsC (K68.at 1 rfl) (rowsC (K68.at 2 rfl) (rowsC ⟨_, G68_s⟩ rows0)))), (by omega)⟩
                    · -- another
                      exact t_nil
                  · -- another
                    exact t_nil
                · -- another
                  exact t_nil
              · -- another
                exact t_nil
            · -- another
              exact t_nil
          · -- another
            exact t_nil
      · -- another
        refine t_make (by kernel_rfl) (d := (some 9)) (by kernel_rfl) (v := .pointer (some ⟨W39.drew.heap.size, 0, none⟩)) (w' := W39.drew.alloc (.cells #[.int .u64 0, .int .u64 0, .int .u64 0, .int .u64 0, .int .u64 0, .int .u64 0, .int .u64 0, .int .u64 0, .int .u64 0, .int .u64 0, .int .u64 0, .int .u64 0, .int .u64 0, .int .u64 0, .int .u64 0, .int .u64 0] 39)) (by kernel_rfl) (K43.go ((Below.refl _ _).alloc (Nat.le_refl _) _)) ?_ ?_
        · intro w69 hw69 K69
          have G69_n : w69.heap[W39.drew.heap.size]? = some (.cells (dgQ 0 0) 39 (0, 0)) := hw69 ▸ heap_alloc_new _ _
          have S69 : W39.drew.heap.size < w69.heap.size := lt_of_heap G69_n
          have R69_0 : w.heap.size < W39.drew.heap.size := (by obtain ⟨T, h⟩ := K43.at 0 rfl; exact lt_of_heap h)
          have R69_1 : w.heap.size + 1 < W39.drew.heap.size := (by obtain ⟨T, h⟩ := K43.at 1 rfl; exact lt_of_heap h)
          have R69_2 : p8 < W39.drew.heap.size := (by obtain ⟨T, h⟩ := K43.at 2 rfl; exact lt_of_heap h)
          have Z69 : w.heap.size ≤ W39.drew.heap.size := K43.nb.size
          clear hw69
          refine t_call (by kernel_rfl) (d := (some 31)) (by kernel_rfl) (f := 27) (args := #[.agg (dgQ ((W * W * V).re.val) ((W * W * V).im.val))]) (v := .agg (fps [(W * W * V).re.val, (W * W * V).im.val])) (fun _ => by kernel_rfl) (bytesQ_q) (fun w70 hb70 => ⟨K69.go hb70, ?_⟩) ?_
          · have K70 := K69.go hb70
            have G70_10 := nb_heap G69_n _ hb70
            have L70 := hb70.size
            refine t_call (by kernel_rfl) (d := (some 33)) (by kernel_rfl) (f := 19) (args := #[.agg (fps [c0, c1])]) (v := .agg (dgQ V.re.val V.im.val)) (fun _ => by kernel_rfl) (OV) (fun w71 hb71 => ⟨K70.go hb71, ?_⟩) ?_
            · have K71 := K70.go hb71
              have G71_10 := nb_heap G70_10 _ hb71
              have L71 := hb71.size
              refine t_call (by kernel_rfl) (d := (some 34)) (by kernel_rfl) (f := 27) (args := #[.agg (dgQ V.re.val V.im.val)]) (v := .agg (fps [V.re.val, V.im.val])) (fun _ => by kernel_rfl) (bytesQ_q) (fun w72 hb72 => ⟨K71.go hb72, ?_⟩) ?_
              · have K72 := K71.go hb72
                have G72_10 := nb_heap G71_10 _ hb72
                have L72 := hb72.size
                refine t_call (by kernel_rfl) (d := (some 36)) (by kernel_rfl) (f := 26) (args := #[.agg (fps [(W * W * V).re.val, (W * W * V).im.val]), .agg (fps [V.re.val, V.im.val]), .int .i64 (-1)]) (v := .agg (fps [f.re.val, f.im.val])) (fun _ => by kernel_rfl) (implFqSqrt_M hf (hm.nb K72.nb)) (fun w73 hb73 => ⟨K72.go hb73, ?_⟩) ?_
                · have K73 := K72.go hb73
                  have G73_10 := nb_heap G72_10 _ hb73
                  have L73 := hb73.size
                  refine t_call (by kernel_rfl) (d := (some 37)) (by kernel_rfl) (f := 19) (args := #[.agg (fps [f.re.val, f.im.val])]) (v := .agg (dgQ f.re.val f.im.val)) (fun _ => by kernel_rfl) (ofQ_q) (fun w74 hb74 => ⟨K73.go hb74, ?_⟩) ?_
                  · have K74 := K73.go hb74
                    have G74_10 := nb_heap G73_10 _ hb74
                    have L74 := hb74.size
                    refine t_store (by kernel_rfl) (d := none) (by kernel_rfl) (ty := 39) (x := (.tmp 9)) (y := (.tmp 37)) (by kernel_rfl) (g := W39.drew.heap.size) (cells := (dgQ f.re.val f.im.val)) (by kernel_rfl) (by kernel_rfl) G74_10 (by kernel_rfl) (by kernel_rfl) (all_dgA _) (K74.puti (n := 16) (by kernel_rfl) (by omega) (neC (by omega) (neC (by omega) (neC (by omega) ne0))) ns0) ?_ ?_
                    · intro w75 hw75 K75
                      have G75_s : w75.heap[W39.drew.heap.size]? = some (.cells (dgQ f.re.val f.im.val) _ (0, 0)) := hw75 ▸ setRow_heap _ _ _ _ _ _ G74_10
                      have L75 : w74.heap.size ≤ w75.heap.size := by rw [hw75]; exact Nat.le_of_eq (size_setRow _ _ _).symm
                      clear hw75
                      exact t_done ⟨rfl, W39.drew.heap.size, by kernel_rfl, Kept.zero K75.nb (rowsC (K75.at 0 rfl) (rowsC (K75.at 1 rfl) (rowsC (K75.at 2 rfl) (rowsC ⟨_, G75_s⟩ rows0)))), (by omega)⟩
                    · -- another
                      exact t_nil
                  · -- another
                    exact t_nil
                · -- another
                  exact t_nil
              · -- another
                exact t_nil
            · -- another
              exact t_nil
          · -- another
            exact t_nil
        · -- another
          exact t_nil
    · rintro _ W76 ⟨p9, rfl, K77, l78⟩
      go_upto_region 8 with (fail)
      have K79 : Kept w [(w.heap.size, (fps [a0, a1])), (w.heap.size + 1, (fps [c0, c1])), (p8, (dgQ ((W * W * V).re.val) ((W * W * V).im.val))), (p9, (dgQ f.re.val f.im.val))] [] W76 := Kept.mks K77.nb (rowsC (K77.at 0 rfl) (rowsC (K77.at 1 rfl) (rowsC (K77.at 2 rfl) (rowsC (K77.at 3 rfl) rows0)))) rooms0
      refine wp_meet (fun a' w' => ∃ p10 : Nat, a' = { tmps := #[.agg (fps [a0, a1]), .agg (fps [c0, c1]), .bool false, .pointer (some ⟨w.heap.size, 0, none⟩), .pointer (some ⟨w.heap.size + 1, 0, none⟩), undef, .bool false, .int .i64 (-1), .pointer (some ⟨p8, 0, none⟩), .pointer (some ⟨p9, 0, none⟩), .pointer (some ⟨p10, 0, none⟩), .agg (fps [a0, a1]), .agg (dgQ W.re.val W.im.val), .agg (dgQ 0 0), .bool false, .bool false, .agg (fps [c0, c1]), .agg (dgQ V.re.val V.im.val), .agg (dgQ 0 0), .bool false, .bool false, .bool false, .agg (fps [a0, a1]), .agg (dgQ W.re.val W.im.val), .agg (fps [a0, a1]), .agg (dgQ W.re.val W.im.val), .agg (dgQ ((W * W).re.val) ((W * W).im.val)), .agg (fps [c0, c1]), .agg (dgQ V.re.val V.im.val), .agg (dgQ ((W * W * V).re.val) ((W * W * V).im.val)), .agg (dgQ ((W * W * V).re.val) ((W * W * V).im.val)), .agg (fps [(W * W * V).re.val, (W * W * V).im.val]), .agg (fps [c0, c1]), .agg (dgQ V.re.val V.im.val), .agg (fps [V.re.val, V.im.val]), .int .i64 (-1), .agg (fps [f.re.val, f.im.val]), .agg (dgQ f.re.val f.im.val), .pointer (some ⟨p9, 0, none⟩), .agg (dgA (digs 8 f.re.val)), .pointer (some ⟨p9, 8, none⟩), .agg (dgA (digs 8 f.im.val)), .agg (dgA (digs 8 ((-f.im).val))), .agg (dgQ f.re.val ((-f.im).val)), undef, undef, undef, undef, undef, undef, undef, undef, undef, undef, undef, undef, undef, undef, undef, undef, undef, undef], defers := [] } ∧ Kept w [(w.heap.size, (fps [a0, a1])), (w.heap.size + 1, (fps [c0, c1])), (p8, (dgQ ((W * W * V).re.val) ((W * W * V).im.val))), (p9, (dgQ f.re.val f.im.val)), (p10, (dgQ f.re.val ((-f.im).val)))] [] w' ∧ W76.heap.size ≤ p10) ?_ ?_
      · refine wp_tree_at (opsAt Tryd.f6 8) (.take 0 (.take 1 (.take 2 (.take 3 (.fork 4 (.take 5 (.fork 6 (.fork 7 .done .nil) .nil)) (.fork 6 (.fork 4 (.take 5 (.fork 7 .done .nil)) .nil) .nil)))))) (Kept w [(w.heap.size, (fps [a0, a1])), (w.heap.size + 1, (fps [c0, c1])), (p8, (dgQ ((W * W * V).re.val) ((W * W * V).im.val))), (p9, (dgQ f.re.val f.im.val))] []) (by kernel_rfl) rfl (by kernel_rfl) (by intro c a d v w h; exact absurd h.1 (by simp)) (by kernel_rfl) (by kernel_rfl) K79.drew ?_
        have K80 := K79.drew
        have DK80 : W76.heap.size ≤ W76.drew.heap.size := Nat.le_refl _
        refine t_pure (by kernel_rfl) (d := (some 38)) (by kernel_rfl) (v := .pointer (some ⟨p9, 0, none⟩)) (fun _ => by kernel_rfl) ?_
        refine t_part (by kernel_rfl) (d := (some 39)) (by kernel_rfl) (ty := 26) (x := (.tmp 38)) (by kernel_rfl) (b := p9) (off := 0) (by kernel_rfl) (all := (dgQ f.re.val f.im.val)) (cs := (dgA (digs 8 f.re.val))) (fun _ hs => hs.at 3 rfl) (dgQ_part0) Tryd.underlying26 rfl (by kernel_rfl) ?_
        refine t_pure (by kernel_rfl) (d := (some 40)) (by kernel_rfl) (v := .pointer (some ⟨p9, 8, none⟩)) (fun _ => by kernel_rfl) ?_
        refine t_part (by kernel_rfl) (d := (some 41)) (by kernel_rfl) (ty := 26) (x := (.tmp 40)) (by kernel_rfl) (b := p9) (off := 8) (by kernel_rfl) (all := (dgQ f.re.val f.im.val)) (cs := (dgA (digs 8 f.im.val))) (fun _ hs => hs.at 3 rfl) (dgQ_part1) Tryd.underlying26 rfl (by kernel_rfl) ?_
        refine t_call (by kernel_rfl) (d := (some 42)) (by kernel_rfl) (f := 28) (args := #[.agg (dgA (digs 8 f.im.val))]) (v := .agg (dgA (digs 8 ((-f.im).val)))) (fun _ => by kernel_rfl) (negZ_c _) (fun w81 hb81 => ⟨K80.go hb81, ?_⟩) ?_
        · have K81 := K80.go hb81
          have L81 := hb81.size
          refine t_pure (by kernel_rfl) (d := (some 43)) (by kernel_rfl) (v := .agg (dgQ f.re.val ((-f.im).val))) (fun _ => by kernel_rfl) ?_
          refine t_make (by kernel_rfl) (d := (some 10)) (by kernel_rfl) (v := .pointer (some ⟨w81.heap.size, 0, none⟩)) (w' := w81.alloc (.cells #[.int .u64 0, .int .u64 0, .int .u64 0, .int .u64 0, .int .u64 0, .int .u64 0, .int .u64 0, .int .u64 0, .int .u64 0, .int .u64 0, .int .u64 0, .int .u64 0, .int .u64 0, .int .u64 0, .int .u64 0, .int .u64 0] 39)) (by kernel_rfl) (K81.go ((Below.refl _ _).alloc (Nat.le_refl _) _)) ?_ ?_
          · intro w82 hw82 K82
            have G82_n : w82.heap[w81.heap.size]? = some (.cells (dgQ 0 0) 39 (0, 0)) := hw82 ▸ heap_alloc_new _ _
            have S82 : w81.heap.size < w82.heap.size := lt_of_heap G82_n
            have R82_0 : w.heap.size < w81.heap.size := (by obtain ⟨T, h⟩ := K81.at 0 rfl; exact lt_of_heap h)
            have R82_1 : w.heap.size + 1 < w81.heap.size := (by obtain ⟨T, h⟩ := K81.at 1 rfl; exact lt_of_heap h)
            have R82_2 : p8 < w81.heap.size := (by obtain ⟨T, h⟩ := K81.at 2 rfl; exact lt_of_heap h)
            have R82_3 : p9 < w81.heap.size := (by obtain ⟨T, h⟩ := K81.at 3 rfl; exact lt_of_heap h)
            have Z82 : w.heap.size ≤ w81.heap.size := K81.nb.size
            clear hw82
            refine t_store (by kernel_rfl) (d := none) (by kernel_rfl) (ty := 39) (x := (.tmp 10)) (y := (.tmp 43)) (by kernel_rfl) (g := w81.heap.size) (cells := (dgQ f.re.val ((-f.im).val))) (by kernel_rfl) (by kernel_rfl) G82_n (by kernel_rfl) (by kernel_rfl) (all_dgA _) (K82.puti (n := 16) (by kernel_rfl) (by omega) (neC (by omega) (neC (by omega) (neC (by omega) (neC (by omega) ne0)))) ns0) ?_ ?_
            · intro w83 hw83 K83
              have G83_s : w83.heap[w81.heap.size]? = some (.cells (dgQ f.re.val ((-f.im).val)) _ (0, 0)) := hw83 ▸ setRow_heap _ _ _ _ _ _ G82_n
              have L83 : w82.heap.size ≤ w83.heap.size := by rw [hw83]; exact Nat.le_of_eq (size_setRow _ _ _).symm
              clear hw83
              exact t_done ⟨rfl, w81.heap.size, by kernel_rfl, Kept.zero K83.nb (rowsC (K83.at 0 rfl) (rowsC (K83.at 1 rfl) (rowsC (K83.at 2 rfl) (rowsC (K83.at 3 rfl) (rowsC ⟨_, G83_s⟩ rows0))))), (by omega)⟩
            · -- another
              exact t_nil
          · -- another
            exact t_nil
        · -- another
          refine t_make (by kernel_rfl) (d := (some 10)) (by kernel_rfl) (v := .pointer (some ⟨W76.drew.heap.size, 0, none⟩)) (w' := W76.drew.alloc (.cells #[.int .u64 0, .int .u64 0, .int .u64 0, .int .u64 0, .int .u64 0, .int .u64 0, .int .u64 0, .int .u64 0, .int .u64 0, .int .u64 0, .int .u64 0, .int .u64 0, .int .u64 0, .int .u64 0, .int .u64 0, .int .u64 0] 39)) (by kernel_rfl) (K80.go ((Below.refl _ _).alloc (Nat.le_refl _) _)) ?_ ?_
          · intro w84 hw84 K84
            have G84_n : w84.heap[W76.drew.heap.size]? = some (.cells (dgQ 0 0) 39 (0, 0)) := hw84 ▸ heap_alloc_new _ _
            have S84 : W76.drew.heap.size < w84.heap.size := lt_of_heap G84_n
            have R84_0 : w.heap.size < W76.drew.heap.size := (by obtain ⟨T, h⟩ := K80.at 0 rfl; exact lt_of_heap h)
            have R84_1 : w.heap.size + 1 < W76.drew.heap.size := (by obtain ⟨T, h⟩ := K80.at 1 rfl; exact lt_of_heap h)
            have R84_2 : p8 < W76.drew.heap.size := (by obtain ⟨T, h⟩ := K80.at 2 rfl; exact lt_of_heap h)
            have R84_3 : p9 < W76.drew.heap.size := (by obtain ⟨T, h⟩ := K80.at 3 rfl; exact lt_of_heap h)
            have Z84 : w.heap.size ≤ W76.drew.heap.size := K80.nb.size
            clear hw84
            refine t_call (by kernel_rfl) (d := (some 42)) (by kernel_rfl) (f := 28) (args := #[.agg (dgA (digs 8 f.im.val))]) (v := .agg (dgA (digs 8 ((-f.im).val)))) (fun _ => by kernel_rfl) (negZ_c _) (fun w85 hb85 => ⟨K84.go hb85, ?_⟩) ?_
            · have K85 := K84.go hb85
              have G85_10 := nb_heap G84_n _ hb85
              have L85 := hb85.size
              refine t_pure (by kernel_rfl) (d := (some 43)) (by kernel_rfl) (v := .agg (dgQ f.re.val ((-f.im).val))) (fun _ => by kernel_rfl) ?_
              refine t_store (by kernel_rfl) (d := none) (by kernel_rfl) (ty := 39) (x := (.tmp 10)) (y := (.tmp 43)) (by kernel_rfl) (g := W76.drew.heap.size) (cells := (dgQ f.re.val ((-f.im).val))) (by kernel_rfl) (by kernel_rfl) G85_10 (by kernel_rfl) (by kernel_rfl) (all_dgA _) (K85.puti (n := 16) (by kernel_rfl) (by omega) (neC (by omega) (neC (by omega) (neC (by omega) (neC (by omega) ne0)))) ns0) ?_ ?_
              · intro w86 hw86 K86
                have G86_s : w86.heap[W76.drew.heap.size]? = some (.cells (dgQ f.re.val ((-f.im).val)) _ (0, 0)) := hw86 ▸ setRow_heap _ _ _ _ _ _ G85_10
                have L86 : w85.heap.size ≤ w86.heap.size := by rw [hw86]; exact Nat.le_of_eq (size_setRow _ _ _).symm
                clear hw86
                exact t_done ⟨rfl, W76.drew.heap.size, by kernel_rfl, Kept.zero K86.nb (rowsC (K86.at 0 rfl) (rowsC (K86.at 1 rfl) (rowsC (K86.at 2 rfl) (rowsC (K86.at 3 rfl) (rowsC ⟨_, G86_s⟩ rows0))))), (by omega)⟩
              · -- another
                exact t_nil
            · -- another
              exact t_nil
          · -- another
            exact t_nil
      · rintro _ W87 ⟨p10, rfl, K88, l89⟩
        go_upto_region 9 with (fail)
        have K90 : Kept w [(w.heap.size, (fps [a0, a1])), (w.heap.size + 1, (fps [c0, c1])), (p8, (dgQ ((W * W * V).re.val) ((W * W * V).im.val))), (p9, (dgQ f.re.val f.im.val)), (p10, (dgQ f.re.val ((-f.im).val)))] [] W87 := Kept.mks K88.nb (rowsC (K88.at 0 rfl) (rowsC (K88.at 1 rfl) (rowsC (K88.at 2 rfl) (rowsC (K88.at 3 rfl) (rowsC (K88.at 4 rfl) rows0))))) rooms0
        refine wp_region_atS (opsAt Tryd.f6 9) ((true, 0) :: (true, 1) :: (true, 3) :: (true, 6) :: (false, 2) :: (false, 4) :: (false, 5) :: (true, 7) :: (true, 8) :: (true, 9) :: (true, 10) :: (true, 12) :: (true, 15) :: (false, 11) :: (false, 13) :: (false, 14) :: (true, 16) :: (true, 17) :: (true, 18) :: []) (Kept w [(w.heap.size, (fps [a0, a1])), (w.heap.size + 1, (fps [c0, c1])), (p8, (dgQ ((W * W * V).re.val) ((W * W * V).im.val))), (p9, (dgQ f.re.val f.im.val)), (p10, (dgQ f.re.val ((-f.im).val)))] []) (by kernel_rfl) rfl (by kernel_rfl) (fun _ _ d _ _ h => by cases d <;> exact h) (by kernel_rfl) (by kernel_rfl) K90.drew ?_
        have K91 := K90.drew
        have DK91 : W87.heap.size ≤ W87.drew.heap.size := Nat.le_refl _
        refine k_row (by kernel_rfl) (d := (some 44)) (by kernel_rfl) (ty := 39) (x := (.tmp 9)) (by kernel_rfl) (b := p9) (by kernel_rfl) (cs := (dgQ f.re.val f.im.val)) (fun _ hs => hs.at 3 rfl) Tryd.underlying39 rfl (by kernel_rfl) ?_
        refine k_row (by kernel_rfl) (d := (some 45)) (by kernel_rfl) (ty := 39) (x := (.tmp 9)) (by kernel_rfl) (b := p9) (by kernel_rfl) (cs := (dgQ f.re.val f.im.val)) (fun _ hs => hs.at 3 rfl) Tryd.underlying39 rfl (by kernel_rfl) ?_
        refine k_row (by kernel_rfl) (d := (some 47)) (by kernel_rfl) (ty := 33) (x := (.tmp 4)) (by kernel_rfl) (b := w.heap.size + 1) (by kernel_rfl) (cs := (fps [c0, c1])) (fun _ hs => hs.at 1 rfl) Tryd.underlying33 rfl (by kernel_rfl) ?_
        refine k_row (by kernel_rfl) (d := (some 50)) (by kernel_rfl) (ty := 39) (x := (.tmp 8)) (by kernel_rfl) (b := p8) (by kernel_rfl) (cs := (dgQ ((W * W * V).re.val) ((W * W * V).im.val))) (fun _ hs => hs.at 2 rfl) Tryd.underlying39 rfl (by kernel_rfl) ?_
        refine k_call (by kernel_rfl) (d := (some 46)) (by kernel_rfl) (f := 25) (args := #[.agg (dgQ f.re.val f.im.val), .agg (dgQ f.re.val f.im.val)]) (v := .agg (dgQ ((f * f).re.val) ((f * f).im.val))) (fun _ => by kernel_rfl) (mulQ_q) (fun w92 hb92 => ⟨K91.go hb92, ?_⟩)
        have K92 := K91.go hb92
        have L92 := hb92.size
        refine k_call (by kernel_rfl) (d := (some 48)) (by kernel_rfl) (f := 19) (args := #[.agg (fps [c0, c1])]) (v := .agg (dgQ V.re.val V.im.val)) (fun _ => by kernel_rfl) (OV) (fun w93 hb93 => ⟨K92.go hb93, ?_⟩)
        have K93 := K92.go hb93
        have L93 := hb93.size
        refine k_call (by kernel_rfl) (d := (some 49)) (by kernel_rfl) (f := 25) (args := #[.agg (dgQ ((f * f).re.val) ((f * f).im.val)), .agg (dgQ V.re.val V.im.val)]) (v := .agg (dgQ ((f * f * V).re.val) ((f * f * V).im.val))) (fun _ => by kernel_rfl) (mulQ_q) (fun w94 hb94 => ⟨K93.go hb94, ?_⟩)
        have K94 := K93.go hb94
        have L94 := hb94.size
        refine k_eql (by kernel_rfl) (d := (some 51)) (by kernel_rfl) (ty := 39) (ty' := 39) (x := (.tmp 49)) (y := (.tmp 50)) (by kernel_rfl) (xs := (dgQ ((f * f * V).re.val) ((f * f * V).im.val))) (ys := (dgQ ((W * W * V).re.val) ((W * W * V).im.val))) (b := false) (by kernel_rfl) (by kernel_rfl) (by kernel_rfl) (fun w => eqQ_f h3 w) ?_
        refine k_pure (by kernel_rfl) (d := (some 52)) (by kernel_rfl) (v := .bool false) (fun _ => by kernel_rfl) ?_
        refine k_row (by kernel_rfl) (d := (some 53)) (by kernel_rfl) (ty := 39) (x := (.tmp 10)) (by kernel_rfl) (b := p10) (by kernel_rfl) (cs := (dgQ f.re.val ((-f.im).val))) (fun _ hs => hs.at 4 rfl) Tryd.underlying39 rfl (by kernel_rfl) ?_
        refine k_row (by kernel_rfl) (d := (some 54)) (by kernel_rfl) (ty := 39) (x := (.tmp 10)) (by kernel_rfl) (b := p10) (by kernel_rfl) (cs := (dgQ f.re.val ((-f.im).val))) (fun _ hs => hs.at 4 rfl) Tryd.underlying39 rfl (by kernel_rfl) ?_
        refine k_row (by kernel_rfl) (d := (some 56)) (by kernel_rfl) (ty := 33) (x := (.tmp 4)) (by kernel_rfl) (b := w.heap.size + 1) (by kernel_rfl) (cs := (fps [c0, c1])) (fun _ hs => hs.at 1 rfl) Tryd.underlying33 rfl (by kernel_rfl) ?_
        refine k_row (by kernel_rfl) (d := (some 59)) (by kernel_rfl) (ty := 39) (x := (.tmp 8)) (by kernel_rfl) (b := p8) (by kernel_rfl) (cs := (dgQ ((W * W * V).re.val) ((W * W * V).im.val))) (fun _ hs => hs.at 2 rfl) Tryd.underlying39 rfl (by kernel_rfl) ?_
        refine k_call (by kernel_rfl) (d := (some 55)) (by kernel_rfl) (f := 25) (args := #[.agg (dgQ f.re.val ((-f.im).val)), .agg (dgQ f.re.val ((-f.im).val))]) (v := .agg (dgQ ((conj f * conj f).re.val) ((conj f * conj f).im.val))) (fun _ => by kernel_rfl) (mulQ_q (x := conj f) (y := conj f)) (fun w95 hb95 => ⟨K94.go hb95, ?_⟩)
        have K95 := K94.go hb95
        have L95 := hb95.size
        refine k_call (by kernel_rfl) (d := (some 57)) (by kernel_rfl) (f := 19) (args := #[.agg (fps [c0, c1])]) (v := .agg (dgQ V.re.val V.im.val)) (fun _ => by kernel_rfl) (OV) (fun w96 hb96 => ⟨K95.go hb96, ?_⟩)
        have K96 := K95.go hb96
        have L96 := hb96.size
        refine k_call (by kernel_rfl) (d := (some 58)) (by kernel_rfl) (f := 25) (args := #[.agg (dgQ ((conj f * conj f).re.val) ((conj f * conj f).im.val)), .agg (dgQ V.re.val V.im.val)]) (v := .agg (dgQ ((conj f * conj f * V).re.val) ((conj f * conj f * V).im.val))) (fun _ => by kernel_rfl) (mulQ_q) (fun w97 hb97 => ⟨K96.go hb97, ?_⟩)
        have K97 := K96.go hb97
        have L97 := hb97.size
        refine k_eql (by kernel_rfl) (d := (some 60)) (by kernel_rfl) (ty := 39) (ty' := 39) (x := (.tmp 58)) (y := (.tmp 59)) (by kernel_rfl) (xs := (dgQ ((conj f * conj f * V).re.val) ((conj f * conj f * V).im.val))) (ys := (dgQ ((W * W * V).re.val) ((W * W * V).im.val))) (b := true) (by kernel_rfl) (by kernel_rfl) (by kernel_rfl) (fun w => eqQ_t h4 w) ?_
        refine k_pure (by kernel_rfl) (d := (some 61)) (by kernel_rfl) (v := .bool true) (fun _ => by kernel_rfl) ?_
        refine k_pure (by kernel_rfl) (d := (some 6)) (by kernel_rfl) (v := .bool true) (fun _ => by kernel_rfl) ?_
        have K98 : Kept w [(w.heap.size, (fps [a0, a1])), (w.heap.size + 1, (fps [c0, c1])), (p8, (dgQ ((W * W * V).re.val) ((W * W * V).im.val))), (p9, (dgQ f.re.val f.im.val)), (p10, (dgQ f.re.val ((-f.im).val)))] [] w97 := Kept.zero K97.nb (rowsC (K97.at 0 rfl) (rowsC (K97.at 1 rfl) (rowsC (K97.at 2 rfl) (rowsC (K97.at 3 rfl) (rowsC (K97.at 4 rfl) rows0)))))
        refine k_end ?_
        go_simp
        go_wp2_with fail
        exact bodyPost_ret_by (by kernel_rfl) (by kernel_rfl) ⟨rfl, K98.nb⟩

theorem fqSqrtLaw_c {w : World} {a0 a1 c0 c1 : Nat} {b : Bool} (hm : ModW w) (ha0 : a0 < 256 ^ 16) (ha1 : a1 < 256 ^ 16) (hc0 : c0 < 256 ^ 16) (hc1 : c1 < 256 ^ 16) :
    Calls Tryd.prog 6 #[.agg (fps [a0, a1]), .agg (fps [c0, c1]), .bool b] w fun e w' => e = .returned (.bool true) ∧ Below w.heap.size w w' := by
  obtain ⟨W, hW⟩ : ∃ W : Zq, W = ⟨zp a0, zp a1⟩ := ⟨_, rfl⟩
  obtain ⟨V, hV⟩ : ∃ V : Zq, V = ⟨zp c0, zp c1⟩ := ⟨_, rfl⟩
  have OW := fun {w : World} => ofQ_b (w := w) ha0 ha1 hW
  have OV := fun {w : World} => ofQ_b (w := w) hc0 hc1 hV
  by_cases w0 : W = 0
  · cases b
    · exact sqrtA_false OW w0
    · exact sqrtA_true OW w0
  by_cases v0 : V = 0
  · cases b
    · exact sqrtB_false OW OV w0 v0
    · exact sqrtB_true OW OV w0 v0
  cases b
  · obtain ⟨f, hf⟩ := SqV.ex (W * W * V) V (-1)
    by_cases h3 : f * f * V = W * W * V
    · exact sqrtC1_false hm OW OV w0 v0 hf h3
    · exact sqrtC2_false hm OW OV w0 v0 hf h3 ((hf.law v0 w0 rfl).resolve_left h3)
  · obtain ⟨f, hf⟩ := SqV.ex (W * W * V) V 1
    by_cases h3 : f * f * V = W * W * V
    · exact sqrtC1_true hm OW OV w0 v0 hf h3
    · exact sqrtC2_true hm OW OV w0 v0 hf h3 ((hf.law v0 w0 rfl).resolve_left h3)
end Go.Proofs.YtfkfljohhabldaaDoor
