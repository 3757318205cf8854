/- FnIsIdentity: whatever coordinates: true. The package's variables lie below block 5: modulusP holds the prime, paramD the curve's constant. -/
import Derived.Test.YtfkfljohhabldaaDoorG5
namespace Go.Proofs.YtfkfljohhabldaaDoor
open Go.RowKit Go.FourQ

theorem on_r {w : World} {b0 : Nat} {l : List P4} {r : Bool} (hr : onAll l = r) (h : Fps w b0 (fl l)) (hl : ∀ p ∈ l, p.1 < 256 ^ 16 ∧ p.2.1 < 256 ^ 16 ∧ p.2.2.1 < 256 ^ 16 ∧ p.2.2.2 < 256 ^ 16) (hlen : l.length < 1000) :
    Calls Tryd.prog 15 #[.slice (some ⟨b0, 0, none⟩) l.length l.length] w fun e w' => e = .returned (.bool r) ∧ Below w.heap.size w w' := by
  subst hr; exact on_c h hl hlen
theorem lt4 {a b c d : Nat} (ha : a < 256 ^ 16) (hb : b < 256 ^ 16) (hc : c < 256 ^ 16) (hd : d < 256 ^ 16) : (a, b, c, d).1 < 256 ^ 16 ∧ (a, b, c, d).2.1 < 256 ^ 16 ∧ (a, b, c, d).2.2.1 < 256 ^ 16 ∧ (a, b, c, d).2.2.2 < 256 ^ 16 := ⟨ha, hb, hc, hd⟩
theorem lts0 : ∀ p ∈ ([] : List P4), p.1 < 256 ^ 16 ∧ p.2.1 < 256 ^ 16 ∧ p.2.2.1 < 256 ^ 16 ∧ p.2.2.2 < 256 ^ 16 := fun _ h => by simp at h
theorem ltsC {q : P4} {l : List P4} (h : q.1 < 256 ^ 16 ∧ q.2.1 < 256 ^ 16 ∧ q.2.2.1 < 256 ^ 16 ∧ q.2.2.2 < 256 ^ 16) (r : ∀ p ∈ l, p.1 < 256 ^ 16 ∧ p.2.1 < 256 ^ 16 ∧ p.2.2.1 < 256 ^ 16 ∧ p.2.2.2 < 256 ^ 16) : ∀ p ∈ q :: l, p.1 < 256 ^ 16 ∧ p.2.1 < 256 ^ 16 ∧ p.2.2.1 < 256 ^ 16 ∧ p.2.2.2 < 256 ^ 16 := fun p hp => by
  rcases List.mem_cons.1 hp with rfl | hp
  · exact h
  · exact r p hp
theorem ltPt (p : Pt) : p.x.re.val < 256 ^ 16 ∧ p.x.im.val < 256 ^ 16 ∧ p.y.re.val < 256 ^ 16 ∧ p.y.im.val < 256 ^ 16 := ⟨lt16 _, lt16 _, lt16 _, lt16 _⟩
theorem onB_pt (p : Pt) : onB (p.x.re.val, p.x.im.val, p.y.re.val, p.y.im.val) = true := by
  unfold onB
  simp only [zp_val]
  exact decide_eq_true ⟨⟨trivial, trivial⟩, ⟨trivial, trivial⟩, p.on⟩
/-- Whoever passes is a point. -/
theorem of_onB {a b c d : Nat} (h : onB (a, b, c, d) = true) : ∃ p : Pt, a = p.x.re.val ∧ b = p.x.im.val ∧ c = p.y.re.val ∧ d = p.y.im.val := by
  have h := of_decide_eq_true h
  exact ⟨⟨⟨zp a, zp b⟩, ⟨zp c, zp d⟩, h.2.2⟩, h.1.1, h.1.2, h.2.1.1, h.2.1.2⟩

set_option maxRecDepth 100000 in
set_option maxHeartbeats 1000000 in
theorem isId_f {w : World} {a0 b0 c0 d0 : Nat} (ha0 : a0 < 256 ^ 16) (hb0 : b0 < 256 ^ 16) (hc0 : c0 < 256 ^ 16) (hd0 : d0 < 256 ^ 16) (hon : onAll [(a0, b0, c0, d0)] = false) :
    Calls Tryd.prog 4 #[.agg (fps [a0, b0, c0, d0])] w fun e w' => e = .returned (.bool true) ∧ Below w.heap.size w w' := by
  go_enter Tryd.func4, Tryd.ntmps4
  go_upto_region 1 with (fail)
  refine wp_gen (fun WW => Kept w [(w.heap.size, (fps [a0, b0, c0, d0]))] [] WW) (Kept.zero (nb_alloc (Below.refl _ _) _) (rowsC (row_as (hp1_0 (w := w) _) (by kernel_rfl)) rows0)) ?_
  intro W0 K0
  have K1 : Kept w [(w.heap.size, (fps [a0, b0, c0, d0]))] [] W0 := Kept.mks K0.nb (rowsC (K0.at 0 rfl) rows0) rooms0
  refine wp_region_atS (opsAt Tryd.f4 1) ((true, 0) :: (false, 1) :: (false, 2) :: (true, 3) :: (true, 4) :: (true, 5) :: (true, 8) :: (true, 9) :: (true, 11) :: (true, 12) :: (false, 6) :: (false, 7) :: (false, 10) :: (false, 13) :: (false, 14) :: (true, 15) :: (true, 16) :: (false, 17) :: (false, 18) :: (true, 19) :: (true, 20) :: (true, 21) :: []) (Kept w [(w.heap.size, (fps [a0, b0, c0, d0]))] []) (by kernel_rfl) rfl (by kernel_rfl) (fun _ _ d _ _ h => by cases d <;> exact h) (by kernel_rfl) (by kernel_rfl) K1.drew ?_
  have K2 := K1.drew
  have DK2 : W0.heap.size ≤ W0.drew.heap.size := Nat.le_refl _
  refine k_row (by kernel_rfl) (d := (some 3)) (by kernel_rfl) (ty := 35) (x := (.tmp 1)) (by kernel_rfl) (b := w.heap.size) (by kernel_rfl) (cs := (fps [a0, b0, c0, d0])) (fun _ hs => hs.at 0 rfl) Tryd.underlying35 rfl (by kernel_rfl) ?_
  refine k_make (by kernel_rfl) (d := (some 4)) (by kernel_rfl) (v := .slice (some ⟨W0.drew.heap.size, 0, none⟩) 1 1) (w' := W0.drew.alloc (.cells (fps [a0, b0, c0, d0]) 35)) (by kernel_rfl) (K2.go ((Below.refl _ _).alloc (Nat.le_refl _) _)) ?_
  intro w3 hw3 K3
  have G3_n : w3.heap[W0.drew.heap.size]? = some (.cells (fps [a0, b0, c0, d0]) 35 (0, 0)) := hw3 ▸ heap_alloc_new _ _
  have S3 : W0.drew.heap.size < w3.heap.size := lt_of_heap G3_n
  have R3_0 : w.heap.size < W0.drew.heap.size := (by obtain ⟨T, h⟩ := K2.at 0 rfl; exact lt_of_heap h)
  have Z3 : w.heap.size ≤ W0.drew.heap.size := K2.nb.size
  clear hw3
  refine k_call (by kernel_rfl) (d := (some 5)) (by kernel_rfl) (f := 15) (args := #[.slice (some ⟨W0.drew.heap.size, 0, none⟩) 1 1]) (v := .bool false) (fun _ => by kernel_rfl) (on_r (l := [(a0, b0, c0, d0)]) hon ⟨_, G3_n⟩ (ltsC (lt4 ha0 hb0 hc0 hd0) lts0) (Nat.le_of_ble_eq_true rfl)) (fun w4 hb4 => ⟨K3.go hb4, ?_⟩)
  have K4 := K3.go hb4
  have G4_10 := nb_heap G3_n _ hb4
  have L4 := hb4.size
  refine k_pure (by kernel_rfl) (d := (some 6)) (by kernel_rfl) (v := .bool true) (fun _ => by kernel_rfl) ?_
  refine k_pure (by kernel_rfl) (d := (some 7)) (by kernel_rfl) (v := .bool true) (fun _ => by kernel_rfl) ?_
  refine k_skip (by kernel_rfl) (d := (some 8)) (by kernel_rfl) ?_
  refine k_skip (by kernel_rfl) (d := (some 11)) (by kernel_rfl) ?_
  refine k_skip (by kernel_rfl) (d := (some 12)) (by kernel_rfl) ?_
  refine k_skip (by kernel_rfl) (d := (some 14)) (by kernel_rfl) ?_
  refine k_skip (by kernel_rfl) (d := (some 15)) (by kernel_rfl) ?_
  refine k_skip' K4 (by kernel_rfl) (d := (some 9)) (by kernel_rfl) ?_
  refine k_skip' K4 (by kernel_rfl) (d := (some 10)) (by kernel_rfl) ?_
  refine k_skip' K4 (by kernel_rfl) (d := (some 13)) (by kernel_rfl) ?_
  refine k_skip' K4 (by kernel_rfl) (d := (some 16)) (by kernel_rfl) ?_
  refine k_skip' K4 (by kernel_rfl) (d := (some 17)) (by kernel_rfl) ?_
  refine k_skip (by kernel_rfl) (d := (some 18)) (by kernel_rfl) ?_
  refine k_skip (by kernel_rfl) (d := (some 19)) (by kernel_rfl) ?_
  refine k_skip' K4 (by kernel_rfl) (d := (some 20)) (by kernel_rfl) ?_
  refine k_skip' K4 (by kernel_rfl) (d := (some 21)) (by kernel_rfl) ?_
  refine k_skip (by kernel_rfl) (d := (some 22)) (by kernel_rfl) ?_
  refine k_pure (by kernel_rfl) (d := (some 23)) (by kernel_rfl) (v := .bool true) (fun _ => by kernel_rfl) ?_
  refine k_pure (by kernel_rfl) (d := (some 2)) (by kernel_rfl) (v := .bool true) (fun _ => by kernel_rfl) ?_
  have K5 : Kept w [(w.heap.size, (fps [a0, b0, c0, d0])), (W0.drew.heap.size, (fps [a0, b0, c0, d0]))] [] w4 := Kept.zero K4.nb (rowsC (K4.at 0 rfl) (rowsC ⟨_, G4_10⟩ rows0))
  clear G4_10 G3_n
  refine k_end ?_
  go_simp
  go_wp2_with fail
  exact bodyPost_ret_by (by kernel_rfl) (by kernel_rfl) ⟨rfl, K5.nb⟩

theorem isPF {w : World} {X Y Z x y : Zq} (h : ¬ (x * Z = X ∧ y * Z = Y)) : Calls Tryd.prog 18 #[.agg (dgL [X.re.val, X.im.val, Y.re.val, Y.im.val, Z.re.val, Z.im.val]), .agg (dgQ x.re.val x.im.val), .agg (dgQ y.re.val y.im.val)] w fun e w' => e = .returned (.bool false) ∧ Below w.heap.size w w' := by
  by_cases h1 : x * Z = X
  · exact isP2 h1 (fun h2 => h ⟨h1, h2⟩)
  · exact isP1 h1
theorem idB_iff {x y : Zq} : idB x (x * y) (y - 1) = true ↔ (x * 1 = 0 ∧ y * 1 = 1) := by
  unfold idB
  rw [decide_eq_true_eq, qmul_one, qmul_one]
  exact ⟨fun h => ⟨h.1, qeq_of_sub h.2.2⟩, fun h => ⟨h.1, by rw [h.1, qzero_mul], by rw [h.2, qsub_self]⟩⟩
theorem isIdZ {w : World} {x y : Zq} (hz : x * 1 = 0 ∧ y * 1 = 1) (hm : ModW w) (hg : 5 ≤ w.heap.size) : Calls Tryd.prog 16 #[.agg (fps [x.re.val, x.im.val, y.re.val, y.im.val])] w fun e w' => e = .returned (.bool true) ∧ Below w.heap.size w w' := by
  have := implIsId (x := x) (y := y) hm hg
  rwa [idB_iff.2 hz] at this
theorem isIdN {w : World} {x y : Zq} (hz : ¬ (x * 1 = 0 ∧ y * 1 = 1)) (hm : ModW w) (hg : 5 ≤ w.heap.size) : Calls Tryd.prog 16 #[.agg (fps [x.re.val, x.im.val, y.re.val, y.im.val])] w fun e w' => e = .returned (.bool false) ∧ Below w.heap.size w w' := by
  have := implIsId (x := x) (y := y) hm hg
  rwa [Bool.eq_false_iff.2 (fun e => hz (idB_iff.1 e))] at this
theorem isIdOne {w : World} (hm : ModW w) (hg : 5 ≤ w.heap.size) : Calls Tryd.prog 16 #[.agg (fps [(0 : Zq).re.val, (0 : Zq).im.val, (1 : Zq).re.val, (1 : Zq).im.val])] w fun e w' => e = .returned (.bool true) ∧ Below w.heap.size w w' := isIdZ ⟨qmul_one 0, qmul_one 1⟩ hm hg

set_option maxRecDepth 100000 in
set_option maxHeartbeats 1000000 in
theorem isId_tp {w : World} {p : Pt} (hm : ModW w) (hg : 5 ≤ w.heap.size) (hz : (p.x * 1 = 0 ∧ p.y * 1 = 1)) (hon : onAll [(p.x.re.val, p.x.im.val, p.y.re.val, p.y.im.val)] = true) :
    Calls Tryd.prog 4 #[.agg (fps [(p.x).re.val, (p.x).im.val, (p.y).re.val, (p.y).im.val])] w fun e w' => e = .returned (.bool true) ∧ Below w.heap.size w w' := by
  go_enter Tryd.func4, Tryd.ntmps4
  go_upto_region 1 with (fail)
  refine wp_gen (fun WW => Kept w [(w.heap.size, (fps [(p.x).re.val, (p.x).im.val, (p.y).re.val, (p.y).im.val]))] [] WW) (Kept.zero (nb_alloc (Below.refl _ _) _) (rowsC (row_as (hp1_0 (w := w) _) (by kernel_rfl)) rows0)) ?_
  intro W0 K0
  have K1 : Kept w [(w.heap.size, (fps [(p.x).re.val, (p.x).im.val, (p.y).re.val, (p.y).im.val]))] [] W0 := Kept.mks K0.nb (rowsC (K0.at 0 rfl) rows0) rooms0
  refine wp_region_atS (opsAt Tryd.f4 1) ((true, 0) :: (false, 1) :: (false, 2) :: (true, 3) :: (true, 4) :: (true, 5) :: (true, 8) :: (true, 9) :: (true, 11) :: (true, 12) :: (false, 6) :: (false, 7) :: (false, 10) :: (false, 13) :: (false, 14) :: (true, 15) :: (true, 16) :: (false, 17) :: (false, 18) :: (true, 19) :: (true, 20) :: (true, 21) :: []) (Kept w [(w.heap.size, (fps [(p.x).re.val, (p.x).im.val, (p.y).re.val, (p.y).im.val]))] []) (by kernel_rfl) rfl (by kernel_rfl) (fun _ _ d _ _ h => by cases d <;> exact h) (by kernel_rfl) (by kernel_rfl) K1.drew ?_
  have K2 := K1.drew
  have DK2 : W0.heap.size ≤ W0.drew.heap.size := Nat.le_refl _
  refine k_row (by kernel_rfl) (d := (some 3)) (by kernel_rfl) (ty := 35) (x := (.tmp 1)) (by kernel_rfl) (b := w.heap.size) (by kernel_rfl) (cs := (fps [(p.x).re.val, (p.x).im.val, (p.y).re.val, (p.y).im.val])) (fun _ hs => hs.at 0 rfl) Tryd.underlying35 rfl (by kernel_rfl) ?_
  refine k_make (by kernel_rfl) (d := (some 4)) (by kernel_rfl) (v := .slice (some ⟨W0.drew.heap.size, 0, none⟩) 1 1) (w' := W0.drew.alloc (.cells (fps [(p.x).re.val, (p.x).im.val, (p.y).re.val, (p.y).im.val]) 35)) (by kernel_rfl) (K2.go ((Below.refl _ _).alloc (Nat.le_refl _) _)) ?_
  intro w3 hw3 K3
  have G3_n : w3.heap[W0.drew.heap.size]? = some (.cells (fps [(p.x).re.val, (p.x).im.val, (p.y).re.val, (p.y).im.val]) 35 (0, 0)) := hw3 ▸ heap_alloc_new _ _
  have S3 : W0.drew.heap.size < w3.heap.size := lt_of_heap G3_n
  have R3_0 : w.heap.size < W0.drew.heap.size := (by obtain ⟨T, h⟩ := K2.at 0 rfl; exact lt_of_heap h)
  have Z3 : w.heap.size ≤ W0.drew.heap.size := K2.nb.size
  clear hw3
  refine k_call (by kernel_rfl) (d := (some 5)) (by kernel_rfl) (f := 15) (args := #[.slice (some ⟨W0.drew.heap.size, 0, none⟩) 1 1]) (v := .bool true) (fun _ => by kernel_rfl) (on_r (l := [(p.x.re.val, p.x.im.val, p.y.re.val, p.y.im.val)]) hon ⟨_, G3_n⟩ (ltsC (ltPt p) lts0) (Nat.le_of_ble_eq_true rfl)) (fun w4 hb4 => ⟨K3.go hb4, ?_⟩)
  have K4 := K3.go hb4
  have G4_10 := nb_heap G3_n _ hb4
  have L4 := hb4.size
  refine k_pure (by kernel_rfl) (d := (some 6)) (by kernel_rfl) (v := .bool false) (fun _ => by kernel_rfl) ?_
  refine k_pure (by kernel_rfl) (d := (some 7)) (by kernel_rfl) (v := .bool false) (fun _ => by kernel_rfl) ?_
  refine k_row (by kernel_rfl) (d := (some 8)) (by kernel_rfl) (ty := 35) (x := (.tmp 1)) (by kernel_rfl) (b := w.heap.size) (by kernel_rfl) (cs := (fps [(p.x).re.val, (p.x).im.val, (p.y).re.val, (p.y).im.val])) (fun _ hs => hs.at 0 rfl) Tryd.underlying35 rfl (by kernel_rfl) ?_
  refine k_pure (by kernel_rfl) (d := (some 11)) (by kernel_rfl) (v := .pointer (some ⟨w.heap.size, 0, none⟩)) (fun _ => by kernel_rfl) ?_
  refine k_part (by kernel_rfl) (d := (some 12)) (by kernel_rfl) (ty := 33) (x := (.tmp 11)) (by kernel_rfl) (b := w.heap.size) (off := 0) (by kernel_rfl) (all := (fps [(p.x).re.val, (p.x).im.val, (p.y).re.val, (p.y).im.val])) (cs := (fps [(p.x).re.val, (p.x).im.val])) (fun _ hs => hs.at 0 rfl) (fpsub2 (k := 0) rfl rfl) Tryd.underlying33 rfl (by kernel_rfl) ?_
  refine k_pure (by kernel_rfl) (d := (some 14)) (by kernel_rfl) (v := .pointer (some ⟨w.heap.size, 32, none⟩)) (fun _ => by kernel_rfl) ?_
  refine k_part (by kernel_rfl) (d := (some 15)) (by kernel_rfl) (ty := 33) (x := (.tmp 14)) (by kernel_rfl) (b := w.heap.size) (off := 32) (by kernel_rfl) (all := (fps [(p.x).re.val, (p.x).im.val, (p.y).re.val, (p.y).im.val])) (cs := (fps [(p.y).re.val, (p.y).im.val])) (fun _ hs => hs.at 0 rfl) (fpsub2 (k := 2) rfl rfl) Tryd.underlying33 rfl (by kernel_rfl) ?_
  refine k_call (by kernel_rfl) (d := (some 9)) (by kernel_rfl) (f := 16) (args := #[.agg (fps [(p.x).re.val, (p.x).im.val, (p.y).re.val, (p.y).im.val])]) (v := .bool true) (fun _ => by kernel_rfl) (isIdZ hz (hm.nb K4.nb) (Nat.le_trans hg K4.nb.size)) (fun w5 hb5 => ⟨K4.go hb5, ?_⟩)
  have K5 := K4.go hb5
  have G5_10 := nb_heap G4_10 _ hb5
  have L5 := hb5.size
  refine k_call (by kernel_rfl) (d := (some 10)) (by kernel_rfl) (f := 17) (args := #[]) (v := .agg (dgL [((0 : Zq)).re.val, ((0 : Zq)).im.val, ((1 : Zq)).re.val, ((1 : Zq)).im.val, ((1 : Zq)).re.val, ((1 : Zq)).im.val])) (fun _ => by kernel_rfl) (zeroP_c) (fun w6 hb6 => ⟨K5.go hb6, ?_⟩)
  have K6 := K5.go hb6
  have G6_10 := nb_heap G5_10 _ hb6
  have L6 := hb6.size
  refine k_call (by kernel_rfl) (d := (some 13)) (by kernel_rfl) (f := 19) (args := #[.agg (fps [(p.x).re.val, (p.x).im.val])]) (v := .agg (dgQ ((p.x).re.val) ((p.x).im.val))) (fun _ => by kernel_rfl) (ofQ_q) (fun w7 hb7 => ⟨K6.go hb7, ?_⟩)
  have K7 := K6.go hb7
  have G7_10 := nb_heap G6_10 _ hb7
  have L7 := hb7.size
  refine k_call (by kernel_rfl) (d := (some 16)) (by kernel_rfl) (f := 19) (args := #[.agg (fps [(p.y).re.val, (p.y).im.val])]) (v := .agg (dgQ ((p.y).re.val) ((p.y).im.val))) (fun _ => by kernel_rfl) (ofQ_q) (fun w8 hb8 => ⟨K7.go hb8, ?_⟩)
  have K8 := K7.go hb8
  have G8_10 := nb_heap G7_10 _ hb8
  have L8 := hb8.size
  refine k_call (by kernel_rfl) (d := (some 17)) (by kernel_rfl) (f := 18) (args := #[.agg (dgL [((0 : Zq)).re.val, ((0 : Zq)).im.val, ((1 : Zq)).re.val, ((1 : Zq)).im.val, ((1 : Zq)).re.val, ((1 : Zq)).im.val]), .agg (dgQ ((p.x).re.val) ((p.x).im.val)), .agg (dgQ ((p.y).re.val) ((p.y).im.val))]) (v := .bool true) (fun _ => by kernel_rfl) (isP0 (x := p.x) (y := p.y) (X := 0) (Y := 1) (Z := 1) hz.1 hz.2) (fun w9 hb9 => ⟨K8.go hb9, ?_⟩)
  have K9 := K8.go hb9
  have G9_10 := nb_heap G8_10 _ hb9
  have L9 := hb9.size
  refine k_pure (by kernel_rfl) (d := (some 18)) (by kernel_rfl) (v := .bool true) (fun _ => by kernel_rfl) ?_
  refine k_pure (by kernel_rfl) (d := (some 19)) (by kernel_rfl) (v := .bool true) (fun _ => by kernel_rfl) ?_
  refine k_call (by kernel_rfl) (d := (some 20)) (by kernel_rfl) (f := 20) (args := #[]) (v := .agg (fps [((0 : Zq)).re.val, ((0 : Zq)).im.val, ((1 : Zq)).re.val, ((1 : Zq)).im.val])) (fun _ => by kernel_rfl) (implIdentity (X := 0) (Y := 1) rfl rfl (hm.nb K9.nb) (Nat.le_trans hg K9.nb.size)) (fun w10 hb10 => ⟨K9.go hb10, ?_⟩)
  have K10 := K9.go hb10
  have G10_10 := nb_heap G9_10 _ hb10
  have L10 := hb10.size
  refine k_call (by kernel_rfl) (d := (some 21)) (by kernel_rfl) (f := 16) (args := #[.agg (fps [((0 : Zq)).re.val, ((0 : Zq)).im.val, ((1 : Zq)).re.val, ((1 : Zq)).im.val])]) (v := .bool true) (fun _ => by kernel_rfl) (isIdOne (hm.nb K10.nb) (Nat.le_trans hg K10.nb.size)) (fun w11 hb11 => ⟨K10.go hb11, ?_⟩)
  have K11 := K10.go hb11
  have G11_10 := nb_heap G10_10 _ hb11
  have L11 := hb11.size
  refine k_pure (by kernel_rfl) (d := (some 22)) (by kernel_rfl) (v := .bool true) (fun _ => by kernel_rfl) ?_
  refine k_pure (by kernel_rfl) (d := (some 23)) (by kernel_rfl) (v := .bool true) (fun _ => by kernel_rfl) ?_
  refine k_pure (by kernel_rfl) (d := (some 2)) (by kernel_rfl) (v := .bool true) (fun _ => by kernel_rfl) ?_
  have K12 : Kept w [(w.heap.size, (fps [(p.x).re.val, (p.x).im.val, (p.y).re.val, (p.y).im.val])), (W0.drew.heap.size, (fps [(p.x).re.val, (p.x).im.val, (p.y).re.val, (p.y).im.val]))] [] w11 := Kept.zero K11.nb (rowsC (K11.at 0 rfl) (rowsC ⟨_, G11_10⟩ rows0))
  clear G11_10 G10_10 G9_10 G8_10 G7_10 G6_10 G5_10 G4_10 G3_n
  refine k_end ?_
  go_simp
  go_wp2_with fail
  exact bodyPost_ret_by (by kernel_rfl) (by kernel_rfl) ⟨rfl, K12.nb⟩

set_option maxRecDepth 100000 in
set_option maxHeartbeats 1000000 in
theorem isId_fp {w : World} {p : Pt} (hm : ModW w) (hg : 5 ≤ w.heap.size) (hz : ¬ (p.x * 1 = 0 ∧ p.y * 1 = 1)) (hon : onAll [(p.x.re.val, p.x.im.val, p.y.re.val, p.y.im.val)] = true) :
    Calls Tryd.prog 4 #[.agg (fps [(p.x).re.val, (p.x).im.val, (p.y).re.val, (p.y).im.val])] w fun e w' => e = .returned (.bool true) ∧ Below w.heap.size w w' := by
  go_enter Tryd.func4, Tryd.ntmps4
  go_upto_region 1 with (fail)
  refine wp_gen (fun WW => Kept w [(w.heap.size, (fps [(p.x).re.val, (p.x).im.val, (p.y).re.val, (p.y).im.val]))] [] WW) (Kept.zero (nb_alloc (Below.refl _ _) _) (rowsC (row_as (hp1_0 (w := w) _) (by kernel_rfl)) rows0)) ?_
  intro W0 K0
  have K1 : Kept w [(w.heap.size, (fps [(p.x).re.val, (p.x).im.val, (p.y).re.val, (p.y).im.val]))] [] W0 := Kept.mks K0.nb (rowsC (K0.at 0 rfl) rows0) rooms0
  refine wp_region_atS (opsAt Tryd.f4 1) ((true, 0) :: (false, 1) :: (false, 2) :: (true, 3) :: (true, 4) :: (true, 5) :: (true, 8) :: (true, 9) :: (true, 11) :: (true, 12) :: (false, 6) :: (false, 7) :: (false, 10) :: (false, 13) :: (false, 14) :: (true, 15) :: (true, 16) :: (false, 17) :: (false, 18) :: (true, 19) :: (true, 20) :: (true, 21) :: []) (Kept w [(w.heap.size, (fps [(p.x).re.val, (p.x).im.val, (p.y).re.val, (p.y).im.val]))] []) (by kernel_rfl) rfl (by kernel_rfl) (fun _ _ d _ _ h => by cases d <;> exact h) (by kernel_rfl) (by kernel_rfl) K1.drew ?_
  have K2 := K1.drew
  have DK2 : W0.heap.size ≤ W0.drew.heap.size := Nat.le_refl _
  refine k_row (by kernel_rfl) (d := (some 3)) (by kernel_rfl) (ty := 35) (x := (.tmp 1)) (by kernel_rfl) (b := w.heap.size) (by kernel_rfl) (cs := (fps [(p.x).re.val, (p.x).im.val, (p.y).re.val, (p.y).im.val])) (fun _ hs => hs.at 0 rfl) Tryd.underlying35 rfl (by kernel_rfl) ?_
  refine k_make (by kernel_rfl) (d := (some 4)) (by kernel_rfl) (v := .slice (some ⟨W0.drew.heap.size, 0, none⟩) 1 1) (w' := W0.drew.alloc (.cells (fps [(p.x).re.val, (p.x).im.val, (p.y).re.val, (p.y).im.val]) 35)) (by kernel_rfl) (K2.go ((Below.refl _ _).alloc (Nat.le_refl _) _)) ?_
  intro w3 hw3 K3
  have G3_n : w3.heap[W0.drew.heap.size]? = some (.cells (fps [(p.x).re.val, (p.x).im.val, (p.y).re.val, (p.y).im.val]) 35 (0, 0)) := hw3 ▸ heap_alloc_new _ _
  have S3 : W0.drew.heap.size < w3.heap.size := lt_of_heap G3_n
  have R3_0 : w.heap.size < W0.drew.heap.size := (by obtain ⟨T, h⟩ := K2.at 0 rfl; exact lt_of_heap h)
  have Z3 : w.heap.size ≤ W0.drew.heap.size := K2.nb.size
  clear hw3
  refine k_call (by kernel_rfl) (d := (some 5)) (by kernel_rfl) (f := 15) (args := #[.slice (some ⟨W0.drew.heap.size, 0, none⟩) 1 1]) (v := .bool true) (fun _ => by kernel_rfl) (on_r (l := [(p.x.re.val, p.x.im.val, p.y.re.val, p.y.im.val)]) hon ⟨_, G3_n⟩ (ltsC (ltPt p) lts0) (Nat.le_of_ble_eq_true rfl)) (fun w4 hb4 => ⟨K3.go hb4, ?_⟩)
  have K4 := K3.go hb4
  have G4_10 := nb_heap G3_n _ hb4
  have L4 := hb4.size
  refine k_pure (by kernel_rfl) (d := (some 6)) (by kernel_rfl) (v := .bool false) (fun _ => by kernel_rfl) ?_
  refine k_pure (by kernel_rfl) (d := (some 7)) (by kernel_rfl) (v := .bool false) (fun _ => by kernel_rfl) ?_
  refine k_row (by kernel_rfl) (d := (some 8)) (by kernel_rfl) (ty := 35) (x := (.tmp 1)) (by kernel_rfl) (b := w.heap.size) (by kernel_rfl) (cs := (fps [(p.x).re.val, (p.x).im.val, (p.y).re.val, (p.y).im.val])) (fun _ hs => hs.at 0 rfl) Tryd.underlying35 rfl (by kernel_rfl) ?_
  refine k_pure (by kernel_rfl) (d := (some 11)) (by kernel_rfl) (v := .pointer (some ⟨w.heap.size, 0, none⟩)) (fun _ => by kernel_rfl) ?_
  refine k_part (by kernel_rfl) (d := (some 12)) (by kernel_rfl) (ty := 33) (x := (.tmp 11)) (by kernel_rfl) (b := w.heap.size) (off := 0) (by kernel_rfl) (all := (fps [(p.x).re.val, (p.x).im.val, (p.y).re.val, (p.y).im.val])) (cs := (fps [(p.x).re.val, (p.x).im.val])) (fun _ hs => hs.at 0 rfl) (fpsub2 (k := 0) rfl rfl) Tryd.underlying33 rfl (by kernel_rfl) ?_
  refine k_pure (by kernel_rfl) (d := (some 14)) (by kernel_rfl) (v := .pointer (some ⟨w.heap.size, 32, none⟩)) (fun _ => by kernel_rfl) ?_
  refine k_part (by kernel_rfl) (d := (some 15)) (by kernel_rfl) (ty := 33) (x := (.tmp 14)) (by kernel_rfl) (b := w.heap.size) (off := 32) (by kernel_rfl) (all := (fps [(p.x).re.val, (p.x).im.val, (p.y).re.val, (p.y).im.val])) (cs := (fps [(p.y).re.val, (p.y).im.val])) (fun _ hs => hs.at 0 rfl) (fpsub2 (k := 2) rfl rfl) Tryd.underlying33 rfl (by kernel_rfl) ?_
  refine k_call (by kernel_rfl) (d := (some 9)) (by kernel_rfl) (f := 16) (args := #[.agg (fps [(p.x).re.val, (p.x).im.val, (p.y).re.val, (p.y).im.val])]) (v := .bool false) (fun _ => by kernel_rfl) (isIdN hz (hm.nb K4.nb) (Nat.le_trans hg K4.nb.size)) (fun w5 hb5 => ⟨K4.go hb5, ?_⟩)
  have K5 := K4.go hb5
  have G5_10 := nb_heap G4_10 _ hb5
  have L5 := hb5.size
  refine k_call (by kernel_rfl) (d := (some 10)) (by kernel_rfl) (f := 17) (args := #[]) (v := .agg (dgL [((0 : Zq)).re.val, ((0 : Zq)).im.val, ((1 : Zq)).re.val, ((1 : Zq)).im.val, ((1 : Zq)).re.val, ((1 : Zq)).im.val])) (fun _ => by kernel_rfl) (zeroP_c) (fun w6 hb6 => ⟨K5.go hb6, ?_⟩)
  have K6 := K5.go hb6
  have G6_10 := nb_heap G5_10 _ hb6
  have L6 := hb6.size
  refine k_call (by kernel_rfl) (d := (some 13)) (by kernel_rfl) (f := 19) (args := #[.agg (fps [(p.x).re.val, (p.x).im.val])]) (v := .agg (dgQ ((p.x).re.val) ((p.x).im.val))) (fun _ => by kernel_rfl) (ofQ_q) (fun w7 hb7 => ⟨K6.go hb7, ?_⟩)
  have K7 := K6.go hb7
  have G7_10 := nb_heap G6_10 _ hb7
  have L7 := hb7.size
  refine k_call (by kernel_rfl) (d := (some 16)) (by kernel_rfl) (f := 19) (args := #[.agg (fps [(p.y).re.val, (p.y).im.val])]) (v := .agg (dgQ ((p.y).re.val) ((p.y).im.val))) (fun _ => by kernel_rfl) (ofQ_q) (fun w8 hb8 => ⟨K7.go hb8, ?_⟩)
  have K8 := K7.go hb8
  have G8_10 := nb_heap G7_10 _ hb8
  have L8 := hb8.size
  refine k_call (by kernel_rfl) (d := (some 17)) (by kernel_rfl) (f := 18) (args := #[.agg (dgL [((0 : Zq)).re.val, ((0 : Zq)).im.val, ((1 : Zq)).re.val, ((1 : Zq)).im.val, ((1 : Zq)).re.val, ((1 : Zq)).im.val]), .agg (dgQ ((p.x).re.val) ((p.x).im.val)), .agg (dgQ ((p.y).re.val) ((p.y).im.val))]) (v := .bool false) (fun _ => by kernel_rfl) (isPF hz) (fun w9 hb9 => ⟨K8.go hb9, ?_⟩)
  have K9 := K8.go hb9
  have G9_10 := nb_heap G8_10 _ hb9
  have L9 := hb9.size
  refine k_pure (by kernel_rfl) (d := (some 18)) (by kernel_rfl) (v := .bool true) (fun _ => by kernel_rfl) ?_
  refine k_pure (by kernel_rfl) (d := (some 19)) (by kernel_rfl) (v := .bool true) (fun _ => by kernel_rfl) ?_
  refine k_call (by kernel_rfl) (d := (some 20)) (by kernel_rfl) (f := 20) (args := #[]) (v := .agg (fps [((0 : Zq)).re.val, ((0 : Zq)).im.val, ((1 : Zq)).re.val, ((1 : Zq)).im.val])) (fun _ => by kernel_rfl) (implIdentity (X := 0) (Y := 1) rfl rfl (hm.nb K9.nb) (Nat.le_trans hg K9.nb.size)) (fun w10 hb10 => ⟨K9.go hb10, ?_⟩)
  have K10 := K9.go hb10
  have G10_10 := nb_heap G9_10 _ hb10
  have L10 := hb10.size
  refine k_call (by kernel_rfl) (d := (some 21)) (by kernel_rfl) (f := 16) (args := #[.agg (fps [((0 : Zq)).re.val, ((0 : Zq)).im.val, ((1 : Zq)).re.val, ((1 : Zq)).im.val])]) (v := .bool true) (fun _ => by kernel_rfl) (isIdOne (hm.nb K10.nb) (Nat.le_trans hg K10.nb.size)) (fun w11 hb11 => ⟨K10.go hb11, ?_⟩)
  have K11 := K10.go hb11
  have G11_10 := nb_heap G10_10 _ hb11
  have L11 := hb11.size
  refine k_pure (by kernel_rfl) (d := (some 22)) (by kernel_rfl) (v := .bool true) (fun _ => by kernel_rfl) ?_
  refine k_pure (by kernel_rfl) (d := (some 23)) (by kernel_rfl) (v := .bool true) (fun _ => by kernel_rfl) ?_
  refine k_pure (by kernel_rfl) (d := (some 2)) (by kernel_rfl) (v := .bool true) (fun _ => by kernel_rfl) ?_
  have K12 : Kept w [(w.heap.size, (fps [(p.x).re.val, (p.x).im.val, (p.y).re.val, (p.y).im.val])), (W0.drew.heap.size, (fps [(p.x).re.val, (p.x).im.val, (p.y).re.val, (p.y).im.val]))] [] w11 := Kept.zero K11.nb (rowsC (K11.at 0 rfl) (rowsC ⟨_, G11_10⟩ rows0))
  clear G11_10 G10_10 G9_10 G8_10 G7_10 G6_10 G5_10 G4_10 G3_n
  refine k_end ?_
  go_simp
  go_wp2_with fail
  exact bodyPost_ret_by (by kernel_rfl) (by kernel_rfl) ⟨rfl, K12.nb⟩

theorem fnIsIdentity_c {w : World} {a0 b0 c0 d0 : Nat} (hm : ModW w) (hg : 5 ≤ w.heap.size) (ha0 : a0 < 256 ^ 16) (hb0 : b0 < 256 ^ 16) (hc0 : c0 < 256 ^ 16) (hd0 : d0 < 256 ^ 16) :
    Calls Tryd.prog 4 #[.agg (fps [a0, b0, c0, d0])] w fun e w' => e = .returned (.bool true) ∧ Below w.heap.size w w' := by
  cases h0 : onB (a0, b0, c0, d0) with
  | false => exact isId_f ha0 hb0 hc0 hd0 (by simp only [onAll, List.all, h0, Bool.false_and])
  | true =>
    obtain ⟨p, rfl, rfl, rfl, rfl⟩ := of_onB h0
    have hon : onAll [(p.x.re.val, p.x.im.val, p.y.re.val, p.y.im.val)] = true := by simp only [onAll, List.all, onB_pt, Bool.and_true]
    by_cases hz : p.x * 1 = 0 ∧ p.y * 1 = 1
    · exact isId_tp hm hg hz hon
    · exact isId_fp hm hg hz hon
end Go.Proofs.YtfkfljohhabldaaDoor
