/- FnBase: whatever coordinates: true. The package's variables lie below block 5: modulusP holds the prime, paramD the curve's constant. -/
import Derived.Test.YtfkfljohhabldaaDoorGLawIsId
import Derived.Test.YtfkfljohhabldaaDoorG5
namespace Go.Proofs.YtfkfljohhabldaaDoor
open Go.RowKit Go.FourQ

theorem low_r {w : World} {b : Nat} {l : List Nat} {r : Bool} (hr : lowAll l = r) (h : Fps w b l) (hl : ∀ x ∈ l, x < 256 ^ 16) (hlen : l.length < 1000) :
    Calls Tryd.prog 29 #[.slice (some ⟨b, 0, none⟩) l.length l.length] w fun e w' => e = .returned (.bool r) ∧ Below w.heap.size w w' := by
  subst hr; exact low_c h hl hlen
theorem baseP_g {w : World} {X Y : Zq} (hX : gxx = X) (hY : gyy = Y) : Calls Tryd.prog 36 #[] w fun e w' => e = .returned (.agg (dgL [X.re.val, X.im.val, Y.re.val, Y.im.val, (1 : Zq).re.val, (1 : Zq).im.val])) ∧ Below w.heap.size w w' := by
  subst hX hY; exact baseP_c
theorem dD_g {w : World} {X : Zq} (hX : dd = X) : Calls Tryd.prog 32 #[] w fun e w' => e = .returned (.agg (dgQ X.re.val X.im.val)) ∧ Below w.heap.size w w' := by
  subst hX; exact dD_c
theorem all_w4 {a b c d : Int} : (#[.int .u64 a, .int .u64 b, .int .u64 c, .int .u64 d] : Array Value).all (·.oneCell') = true := by rw [← Array.all_toList]; rfl
theorem eqOrd (w : World) : (binOp .eql 60 (.agg #[.int .u64 3436901888089820391, .int .u64 16122042576031152537, .int .u64 17317351579400803557, .int .u64 11764505149049458]) (.agg #[.int .u64 3436901888089820391, .int .u64 16122042576031152537, .int .u64 17317351579400803557, .int .u64 11764505149049458])).run Tryd.prog w = .ok (.bool true) w := by
  refine run_eql_agg w _ _ _ _ ?_
  rw [run_eq_ints (P := Tryd.prog) 9998 Tryd.underlying60 (by kernel_rfl) Tryd.underlying24 (fun i => [3436901888089820391, 16122042576031152537, 17317351579400803557, 11764505149049458].getD i 0) (fun i => [3436901888089820391, 16122042576031152537, 17317351579400803557, 11764505149049458].getD i 0) (fun i hi => by match i, hi with | 0, _ => rfl | 1, _ => rfl | 2, _ => rfl | 3, _ => rfl) (fun i hi => by match i, hi with | 0, _ => rfl | 1, _ => rfl | 2, _ => rfl | 3, _ => rfl) w]
  rfl

set_option maxRecDepth 100000 in
set_option maxHeartbeats 1000000 in
theorem specOrder {w : World}  :
    Calls Tryd.prog 34 #[] w fun e w' => e = .returned (.agg #[.int .u64 3436901888089820391, .int .u64 16122042576031152537, .int .u64 17317351579400803557, .int .u64 11764505149049458]) ∧ Below w.heap.size w w' := by
  go_enter Tryd.func34, Tryd.ntmps34
  go_upto_region 1 with (fail)
  refine wp_gen (fun WW => Kept w [(w.heap.size, #[.int .u64 0, .int .u64 0, .int .u64 0, .int .u64 0])] [] WW) (Kept.zero (nb_alloc (Below.refl _ _) _) (rowsC (row_as (hp1_0 (w := w) _) (by kernel_rfl)) rows0)) ?_
  intro W0 K0
  have O0K1 := K0.at 0 rfl
  obtain ⟨T0K1, O0K1⟩ := O0K1
  have K1 : Kept w [] [(w.heap.size, 4)] W0 := Kept.mks K0.nb rows0 (roomsC (by kernel_rfl) O0K1 rooms0)
  refine wp_seq_atS (opsAt Tryd.f34 1) ((true, 0) :: (false, 1) :: []) (Kept w [] [(w.heap.size, 4)]) (by kernel_rfl) (by kernel_rfl) K1 ?_
  refine k_pure (by kernel_rfl) (d := (some 1)) (by kernel_rfl) (v := .agg #[.int .u64 3436901888089820391, .int .u64 16122042576031152537, .int .u64 17317351579400803557, .int .u64 11764505149049458]) (fun _ => by kernel_rfl) ?_
  refine k_put (by kernel_rfl) (d := none) (by kernel_rfl) (ty := 60) (x := (.tmp 0)) (y := (.tmp 1)) (by kernel_rfl) (g := w.heap.size) (cells := #[.int .u64 3436901888089820391, .int .u64 16122042576031152537, .int .u64 17317351579400803557, .int .u64 11764505149049458]) (by kernel_rfl) (by kernel_rfl) O0K1 (by kernel_rfl) (by kernel_rfl) all_w4 (K1.puti (n := 4) (by kernel_rfl) (by omega) ne0 (nsE ns0)) ?_
  intro w2 hw2 K2
  have G2_s : w2.heap[w.heap.size]? = some (.cells #[.int .u64 3436901888089820391, .int .u64 16122042576031152537, .int .u64 17317351579400803557, .int .u64 11764505149049458] _ (0, 0)) := hw2 ▸ setRow_heap _ _ _ _ _ _ O0K1
  have L2 : W0.heap.size ≤ w2.heap.size := by rw [hw2]; exact Nat.le_of_eq (size_setRow _ _ _).symm
  clear hw2
  have K3 : Kept w [(w.heap.size, #[.int .u64 3436901888089820391, .int .u64 16122042576031152537, .int .u64 17317351579400803557, .int .u64 11764505149049458])] [] w2 := Kept.zero K2.nb (rowsC ⟨_, G2_s⟩ rows0)
  clear O0K1 G2_s
  refine k_end ?_
  go_simp
  go_wp2_with fail
  obtain ⟨TR, hR⟩ := K3.at 0 rfl
  exact bodyPost_ret_by (results_cell_row rfl _ _ (w.heap.size) _ #[.int .u64 3436901888089820391, .int .u64 16122042576031152537, .int .u64 17317351579400803557, .int .u64 11764505149049458] _ _ rfl hR Tryd.underlying60 rfl (by kernel_rfl)) rfl ⟨rfl, K3.nb⟩

set_option maxRecDepth 100000 in
set_option maxHeartbeats 1000000 in
theorem zzOrder {w : World} (ho : ∃ T, w.heap[1]? = some (.cells #[.int .u64 3436901888089820391, .int .u64 16122042576031152537, .int .u64 17317351579400803557, .int .u64 11764505149049458] T (0, 0))) :
    Calls Tryd.prog 68 #[] w fun e w' => e = .returned (.agg #[.int .u64 3436901888089820391, .int .u64 16122042576031152537, .int .u64 17317351579400803557, .int .u64 11764505149049458]) ∧ Below w.heap.size w w' := by
  have HB2 : 1 < w.heap.size := by obtain ⟨T, h⟩ := ho; exact lt_of_heap h
  go_enter Tryd.func68, Tryd.ntmps68
  go_upto_region 1 with (fail)
  refine wp_gen (fun WW => Kept w [(1, #[.int .u64 3436901888089820391, .int .u64 16122042576031152537, .int .u64 17317351579400803557, .int .u64 11764505149049458]), (w.heap.size, #[.int .u64 0, .int .u64 0, .int .u64 0, .int .u64 0])] [] WW) (Kept.zero (nb_alloc (Below.refl _ _) _) (rowsC (by obtain ⟨T, h⟩ := ho; exact ⟨T, (hp_alloc h _)⟩) (rowsC (row_as (hp1_0 (w := w) _) (by kernel_rfl)) rows0))) ?_
  intro W0 K0
  have O1K1 := K0.at 1 rfl
  obtain ⟨T1K1, O1K1⟩ := O1K1
  have K1 : Kept w [(1, #[.int .u64 3436901888089820391, .int .u64 16122042576031152537, .int .u64 17317351579400803557, .int .u64 11764505149049458])] [(w.heap.size, 4)] W0 := Kept.mks K0.nb (rowsC (K0.at 0 rfl) rows0) (roomsC (by kernel_rfl) O1K1 rooms0)
  refine wp_seq_atS (opsAt Tryd.f68 1) ((true, 0) :: (false, 1) :: []) (Kept w [(1, #[.int .u64 3436901888089820391, .int .u64 16122042576031152537, .int .u64 17317351579400803557, .int .u64 11764505149049458])] [(w.heap.size, 4)]) (by kernel_rfl) (by kernel_rfl) K1 ?_
  refine k_row (by kernel_rfl) (d := (some 1)) (by kernel_rfl) (ty := 60) (x := (.global 1)) (by kernel_rfl) (b := 1) (by kernel_rfl) (cs := #[.int .u64 3436901888089820391, .int .u64 16122042576031152537, .int .u64 17317351579400803557, .int .u64 11764505149049458]) (fun _ hs => hs.at 0 rfl) Tryd.underlying60 rfl (by kernel_rfl) ?_
  refine k_put (by kernel_rfl) (d := none) (by kernel_rfl) (ty := 60) (x := (.tmp 0)) (y := (.tmp 1)) (by kernel_rfl) (g := w.heap.size) (cells := #[.int .u64 3436901888089820391, .int .u64 16122042576031152537, .int .u64 17317351579400803557, .int .u64 11764505149049458]) (by kernel_rfl) (by kernel_rfl) O1K1 (by kernel_rfl) (by kernel_rfl) all_w4 (K1.puti (n := 4) (by kernel_rfl) (by omega) (neC (by omega) ne0) (nsE ns0)) ?_
  intro w2 hw2 K2
  have G2_s : w2.heap[w.heap.size]? = some (.cells #[.int .u64 3436901888089820391, .int .u64 16122042576031152537, .int .u64 17317351579400803557, .int .u64 11764505149049458] _ (0, 0)) := hw2 ▸ setRow_heap _ _ _ _ _ _ O1K1
  have L2 : W0.heap.size ≤ w2.heap.size := by rw [hw2]; exact Nat.le_of_eq (size_setRow _ _ _).symm
  clear hw2
  have K3 : Kept w [(1, #[.int .u64 3436901888089820391, .int .u64 16122042576031152537, .int .u64 17317351579400803557, .int .u64 11764505149049458]), (w.heap.size, #[.int .u64 3436901888089820391, .int .u64 16122042576031152537, .int .u64 17317351579400803557, .int .u64 11764505149049458])] [] w2 := Kept.zero K2.nb (rowsC (K2.at 0 rfl) (rowsC ⟨_, G2_s⟩ rows0))
  clear O1K1 G2_s
  refine k_end ?_
  go_simp
  go_wp2_with fail
  obtain ⟨TR, hR⟩ := K3.at 1 rfl
  exact bodyPost_ret_by (results_cell_row rfl _ _ (w.heap.size) _ #[.int .u64 3436901888089820391, .int .u64 16122042576031152537, .int .u64 17317351579400803557, .int .u64 11764505149049458] _ _ rfl hR Tryd.underlying60 rfl (by kernel_rfl)) rfl ⟨rfl, K3.nb⟩

set_option maxRecDepth 100000 in
set_option maxHeartbeats 1000000 in
theorem implOrder {w : World} (ho : ∃ T, w.heap[1]? = some (.cells #[.int .u64 3436901888089820391, .int .u64 16122042576031152537, .int .u64 17317351579400803557, .int .u64 11764505149049458] T (0, 0))) :
    Calls Tryd.prog 33 #[] w fun e w' => e = .returned (.agg #[.int .u64 3436901888089820391, .int .u64 16122042576031152537, .int .u64 17317351579400803557, .int .u64 11764505149049458]) ∧ Below w.heap.size w w' := by
  go_enter Tryd.func33, Tryd.ntmps33
  go_upto_region 1 with (fail)
  refine wp_gen (fun WW => Kept w [(w.heap.size, #[.int .u64 0, .int .u64 0, .int .u64 0, .int .u64 0])] [] WW) (Kept.zero (nb_alloc (Below.refl _ _) _) (rowsC (row_as (hp1_0 (w := w) _) (by kernel_rfl)) rows0)) ?_
  intro W0 K0
  have O0K1 := K0.at 0 rfl
  obtain ⟨T0K1, O0K1⟩ := O0K1
  have K1 : Kept w [] [(w.heap.size, 4)] W0 := Kept.mks K0.nb rows0 (roomsC (by kernel_rfl) O0K1 rooms0)
  refine wp_seq_atS (opsAt Tryd.f33 1) ((false, 0) :: (false, 1) :: []) (Kept w [] [(w.heap.size, 4)]) (by kernel_rfl) (by kernel_rfl) K1 ?_
  refine k_call (by kernel_rfl) (d := (some 1)) (by kernel_rfl) (f := 68) (args := #[]) (v := .agg #[.int .u64 3436901888089820391, .int .u64 16122042576031152537, .int .u64 17317351579400803557, .int .u64 11764505149049458]) (fun _ => by kernel_rfl) (zzOrder (by obtain ⟨T, h⟩ := ho; exact ⟨T, nb_heap h _ K1.nb⟩)) (fun w2 hb2 => ⟨K1.go hb2, ?_⟩)
  have K2 := K1.go hb2
  have G2_10 := nb_heap O0K1 _ hb2
  have L2 := hb2.size
  refine k_put (by kernel_rfl) (d := none) (by kernel_rfl) (ty := 60) (x := (.tmp 0)) (y := (.tmp 1)) (by kernel_rfl) (g := w.heap.size) (cells := #[.int .u64 3436901888089820391, .int .u64 16122042576031152537, .int .u64 17317351579400803557, .int .u64 11764505149049458]) (by kernel_rfl) (by kernel_rfl) G2_10 (by kernel_rfl) (by kernel_rfl) all_w4 (K2.puti (n := 4) (by kernel_rfl) (by omega) ne0 (nsE ns0)) ?_
  intro w3 hw3 K3
  have G3_s : w3.heap[w.heap.size]? = some (.cells #[.int .u64 3436901888089820391, .int .u64 16122042576031152537, .int .u64 17317351579400803557, .int .u64 11764505149049458] _ (0, 0)) := hw3 ▸ setRow_heap _ _ _ _ _ _ G2_10
  have L3 : w2.heap.size ≤ w3.heap.size := by rw [hw3]; exact Nat.le_of_eq (size_setRow _ _ _).symm
  clear hw3
  have K4 : Kept w [(w.heap.size, #[.int .u64 3436901888089820391, .int .u64 16122042576031152537, .int .u64 17317351579400803557, .int .u64 11764505149049458])] [] w3 := Kept.zero K3.nb (rowsC ⟨_, G3_s⟩ rows0)
  clear O0K1 G3_s G2_10
  refine k_end ?_
  go_simp
  go_wp2_with fail
  obtain ⟨TR, hR⟩ := K4.at 0 rfl
  exact bodyPost_ret_by (results_cell_row rfl _ _ (w.heap.size) _ #[.int .u64 3436901888089820391, .int .u64 16122042576031152537, .int .u64 17317351579400803557, .int .u64 11764505149049458] _ _ rfl hR Tryd.underlying60 rfl (by kernel_rfl)) rfl ⟨rfl, K4.nb⟩

set_option maxRecDepth 100000 in
set_option maxHeartbeats 1000000 in
theorem base_f {w : World} {a0 b0 c0 d0 : Nat} {X Y : Zq} (ha0 : a0 < 256 ^ 16) (hb0 : b0 < 256 ^ 16) (hc0 : c0 < 256 ^ 16) (hd0 : d0 < 256 ^ 16) (hX : X = ⟨zp a0, zp b0⟩) (hY : Y = ⟨zp c0, zp d0⟩) (hl : lowAll [a0, b0, c0, d0] = false) :
    Calls Tryd.prog 7 #[.agg (fps [a0, b0, c0, d0])] w fun e w' => e = .returned (.bool true) ∧ Below w.heap.size w w' := by
  go_enter Tryd.func7, Tryd.ntmps7
  go_upto_region 1 with (fail)
  refine wp_gen (fun WW => Kept w [(w.heap.size, (fps [a0, b0, c0, d0]))] [] WW) (Kept.zero (nb_alloc (Below.refl _ _) _) (rowsC (row_as (hp1_0 (w := w) _) (by kernel_rfl)) rows0)) ?_
  intro W0 K0
  have K1 : Kept w [(w.heap.size, (fps [a0, b0, c0, d0]))] [] W0 := Kept.mks K0.nb (rowsC (K0.at 0 rfl) rows0) rooms0
  have RK1_0 : w.heap.size < W0.heap.size := (by obtain ⟨T, h⟩ := K0.at 0 rfl; exact lt_of_heap h)
  refine wp_meet (fun a' w' => ∃ p3 p4 : Nat, a' = { tmps := #[.agg (fps [a0, b0, c0, d0]), .pointer (some ⟨w.heap.size, 0, none⟩), .bool false, .pointer (some ⟨p3, 0, none⟩), .pointer (some ⟨p4, 0, none⟩), .pointer (some ⟨w.heap.size, 0, none⟩), .agg (fps [a0, b0]), .agg (dgQ X.re.val X.im.val), .pointer (some ⟨w.heap.size, 32, none⟩), .agg (fps [c0, d0]), .agg (dgQ Y.re.val Y.im.val), undef, undef, undef, undef, undef, undef, undef, undef, undef, undef, undef, undef, undef, undef, undef, undef, undef, undef, undef, undef, undef, undef, undef, undef, undef, undef, undef, undef, undef, undef, undef, undef, undef, undef, undef, undef, undef, undef, undef, undef, undef], defers := [] } ∧ Kept w [(w.heap.size, (fps [a0, b0, c0, d0])), (p3, (dgQ X.re.val X.im.val)), (p4, (dgQ Y.re.val Y.im.val))] [] w' ∧ W0.heap.size ≤ p3 ∧ W0.heap.size ≤ p4 ∧ p3 ≠ p4) ?_ ?_
  · refine wp_tree_at (opsAt Tryd.f7 1) (.take 0 (.take 1 (.take 3 (.take 4 (.fork 2 (.fork 5 (.fork 6 (.fork 7 (.fork 8 (.fork 9 .done .nil) .nil) .nil) (.fork 7 (.fork 6 (.fork 8 (.fork 9 .done .nil) .nil) .nil) .nil)) (.fork 6 (.fork 5 (.fork 7 (.fork 8 (.fork 9 .done .nil) .nil) .nil) (.fork 7 (.fork 5 (.fork 8 (.fork 9 .done .nil) .nil) .nil) .nil)) (.fork 7 (.fork 5 (.fork 6 (.fork 8 (.fork 9 .done .nil) .nil) .nil) (.fork 6 (.fork 5 (.fork 8 (.fork 9 .done .nil) .nil) .nil) .nil)) .nil))) (.fork 6 (.fork 2 (.fork 5 (.fork 7 (.fork 8 (.fork 9 .done .nil) .nil) .nil) (.fork 7 (.fork 5 (.fork 8 (.fork 9 .done .nil) .nil) .nil) .nil)) (.fork 7 (.fork 2 (.fork 5 (.fork 8 (.fork 9 .done .nil) .nil) .nil) .nil) .nil)) (.fork 7 (.fork 2 (.fork 5 (.fork 6 (.fork 8 (.fork 9 .done .nil) .nil) .nil) (.fork 6 (.fork 5 (.fork 8 (.fork 9 .done .nil) .nil) .nil) .nil)) (.fork 6 (.fork 2 (.fork 5 (.fork 8 (.fork 9 .done .nil) .nil) .nil) .nil) .nil)) .nil))))))) (Kept w [(w.heap.size, (fps [a0, b0, c0, d0]))] []) (by kernel_rfl) rfl (by kernel_rfl) (by intro c a d v w h; exact absurd h.1 (by simp)) (by kernel_rfl) (by kernel_rfl) K1.drew ?_
    have K2 := K1.drew
    have DK2 : W0.heap.size ≤ W0.drew.heap.size := Nat.le_refl _
    refine t_pure (by kernel_rfl) (d := (some 5)) (by kernel_rfl) (v := .pointer (some ⟨w.heap.size, 0, none⟩)) (fun _ => by kernel_rfl) ?_
    refine t_part (by kernel_rfl) (d := (some 6)) (by kernel_rfl) (ty := 33) (x := (.tmp 5)) (by kernel_rfl) (b := w.heap.size) (off := 0) (by kernel_rfl) (all := (fps [a0, b0, c0, d0])) (cs := (fps [a0, b0])) (fun _ hs => hs.at 0 rfl) (fpsub2 (k := 0) rfl rfl) Tryd.underlying33 rfl (by kernel_rfl) ?_
    refine t_pure (by kernel_rfl) (d := (some 8)) (by kernel_rfl) (v := .pointer (some ⟨w.heap.size, 32, none⟩)) (fun _ => by kernel_rfl) ?_
    refine t_part (by kernel_rfl) (d := (some 9)) (by kernel_rfl) (ty := 33) (x := (.tmp 8)) (by kernel_rfl) (b := w.heap.size) (off := 32) (by kernel_rfl) (all := (fps [a0, b0, c0, d0])) (cs := (fps [c0, d0])) (fun _ hs => hs.at 0 rfl) (fpsub2 (k := 2) rfl rfl) Tryd.underlying33 rfl (by kernel_rfl) ?_
    refine t_call (by kernel_rfl) (d := (some 7)) (by kernel_rfl) (f := 19) (args := #[.agg (fps [a0, b0])]) (v := .agg (dgQ X.re.val X.im.val)) (fun _ => by kernel_rfl) (ofQ_b ha0 hb0 hX) (fun w3 hb3 => ⟨K2.go hb3, ?_⟩) ?_
    · have K3 := K2.go hb3
      have L3 := hb3.size
      refine t_call (by kernel_rfl) (d := (some 10)) (by kernel_rfl) (f := 19) (args := #[.agg (fps [c0, d0])]) (v := .agg (dgQ Y.re.val Y.im.val)) (fun _ => by kernel_rfl) (ofQ_b hc0 hd0 hY) (fun w4 hb4 => ⟨K3.go hb4, ?_⟩) ?_
      · have K4 := K3.go hb4
        have L4 := hb4.size
        refine t_make (by kernel_rfl) (d := (some 3)) (by kernel_rfl) (v := .pointer (some ⟨w4.heap.size, 0, none⟩)) (w' := w4.alloc (.cells (dgQ 0 0) 39)) (by kernel_rfl) (K4.go ((Below.refl _ _).alloc (Nat.le_refl _) _)) ?_ ?_
        · intro w5 hw5 K5
          have G5_n : w5.heap[w4.heap.size]? = some (.cells (dgQ 0 0) 39 (0, 0)) := hw5 ▸ heap_alloc_new _ _
          have S5 : w4.heap.size < w5.heap.size := lt_of_heap G5_n
          have R5_0 : w.heap.size < w4.heap.size := (by obtain ⟨T, h⟩ := K4.at 0 rfl; exact lt_of_heap h)
          have Z5 : w.heap.size ≤ w4.heap.size := K4.nb.size
          clear hw5
          refine t_make (by kernel_rfl) (d := (some 4)) (by kernel_rfl) (v := .pointer (some ⟨w5.heap.size, 0, none⟩)) (w' := w5.alloc (.cells (dgQ 0 0) 39)) (by kernel_rfl) (K5.go ((Below.refl _ _).alloc (Nat.le_refl _) _)) ?_ ?_
          · intro w6 hw6 K6
            have L6_0 := lt_of_heap G5_n
            have G6_0 : w6.heap[w4.heap.size]? = some (.cells (dgQ 0 0) _ (0, 0)) := hw6 ▸ hp_alloc G5_n _
            have G6_n : w6.heap[w5.heap.size]? = some (.cells (dgQ 0 0) 39 (0, 0)) := hw6 ▸ heap_alloc_new _ _
            have S6 : w5.heap.size < w6.heap.size := lt_of_heap G6_n
            have R6_0 : w.heap.size < w5.heap.size := (by obtain ⟨T, h⟩ := K5.at 0 rfl; exact lt_of_heap h)
            have Z6 : w.heap.size ≤ w5.heap.size := K5.nb.size
            clear hw6
            refine t_store (by kernel_rfl) (d := none) (by kernel_rfl) (ty := 39) (x := (.tmp 3)) (y := (.tmp 7)) (by kernel_rfl) (g := w4.heap.size) (cells := (dgQ X.re.val X.im.val)) (by kernel_rfl) (by kernel_rfl) G6_0 (by kernel_rfl) (by kernel_rfl) (all_dgA _) (K6.puti (n := 16) (by kernel_rfl) (by omega) (neC (by omega) ne0) ns0) ?_ ?_
            · intro w7 hw7 K7
              have G7_s : w7.heap[w4.heap.size]? = some (.cells (dgQ X.re.val X.im.val) _ (0, 0)) := hw7 ▸ setRow_heap _ _ _ _ _ _ G6_0
              have G7_1 : w7.heap[w5.heap.size]? = some (.cells (dgQ 0 0) _ (0, 0)) := hw7 ▸ (setRow_other _ _ _ _ (by omega)).trans G6_n
              have L7 : w6.heap.size ≤ w7.heap.size := by rw [hw7]; exact Nat.le_of_eq (size_setRow _ _ _).symm
              clear hw7
              refine t_store (by kernel_rfl) (d := none) (by kernel_rfl) (ty := 39) (x := (.tmp 4)) (y := (.tmp 10)) (by kernel_rfl) (g := w5.heap.size) (cells := (dgQ Y.re.val Y.im.val)) (by kernel_rfl) (by kernel_rfl) G7_1 (by kernel_rfl) (by kernel_rfl) (all_dgA _) (K7.puti (n := 16) (by kernel_rfl) (by omega) (neC (by omega) ne0) ns0) ?_ ?_
              · intro w8 hw8 K8
                have G8_s : w8.heap[w5.heap.size]? = some (.cells (dgQ Y.re.val Y.im.val) _ (0, 0)) := hw8 ▸ setRow_heap _ _ _ _ _ _ G7_1
                have G8_0 : w8.heap[w4.heap.size]? = some (.cells (dgQ X.re.val X.im.val) _ (0, 0)) := hw8 ▸ (setRow_other _ _ _ _ (by omega)).trans G7_s
                have L8 : w7.heap.size ≤ w8.heap.size := by rw [hw8]; exact Nat.le_of_eq (size_setRow _ _ _).symm
                clear hw8
                exact t_done ⟨rfl, w4.heap.size, w5.heap.size, by kernel_rfl, Kept.zero K8.nb (rowsC (K8.at 0 rfl) (rowsC ⟨_, G8_0⟩ (rowsC ⟨_, G8_s⟩ rows0))), (by omega), (by omega), (by omega)⟩
              · -- another
                exact t_nil
            · -- another
              exact t_nil
          · -- another
            exact t_nil
        · -- another
          refine t_make (by kernel_rfl) (d := (some 4)) (by kernel_rfl) (v := .pointer (some ⟨w4.heap.size, 0, none⟩)) (w' := w4.alloc (.cells (dgQ 0 0) 39)) (by kernel_rfl) (K4.go ((Below.refl _ _).alloc (Nat.le_refl _) _)) ?_ ?_
          · intro w9 hw9 K9
            have G9_n : w9.heap[w4.heap.size]? = some (.cells (dgQ 0 0) 39 (0, 0)) := hw9 ▸ heap_alloc_new _ _
            have S9 : w4.heap.size < w9.heap.size := lt_of_heap G9_n
            have R9_0 : w.heap.size < w4.heap.size := (by obtain ⟨T, h⟩ := K4.at 0 rfl; exact lt_of_heap h)
            have Z9 : w.heap.size ≤ w4.heap.size := K4.nb.size
            clear hw9
            refine t_make (by kernel_rfl) (d := (some 3)) (by kernel_rfl) (v := .pointer (some ⟨w9.heap.size, 0, none⟩)) (w' := w9.alloc (.cells (dgQ 0 0) 39)) (by kernel_rfl) (K9.go ((Below.refl _ _).alloc (Nat.le_refl _) _)) ?_ ?_
            · intro w10 hw10 K10
              have L10_0 := lt_of_heap G9_n
              have G10_0 : w10.heap[w4.heap.size]? = some (.cells (dgQ 0 0) _ (0, 0)) := hw10 ▸ hp_alloc G9_n _
              have G10_n : w10.heap[w9.heap.size]? = some (.cells (dgQ 0 0) 39 (0, 0)) := hw10 ▸ heap_alloc_new _ _
              have S10 : w9.heap.size < w10.heap.size := lt_of_heap G10_n
              have R10_0 : w.heap.size < w9.heap.size := (by obtain ⟨T, h⟩ := K9.at 0 rfl; exact lt_of_heap h)
              have Z10 : w.heap.size ≤ w9.heap.size := K9.nb.size
              clear hw10
              refine t_store (by kernel_rfl) (d := none) (by kernel_rfl) (ty := 39) (x := (.tmp 3)) (y := (.tmp 7)) (by kernel_rfl) (g := w9.heap.size) (cells := (dgQ X.re.val X.im.val)) (by kernel_rfl) (by kernel_rfl) G10_n (by kernel_rfl) (by kernel_rfl) (all_dgA _) (K10.puti (n := 16) (by kernel_rfl) (by omega) (neC (by omega) ne0) ns0) ?_ ?_
              · intro w11 hw11 K11
                have G11_s : w11.heap[w9.heap.size]? = some (.cells (dgQ X.re.val X.im.val) _ (0, 0)) := hw11 ▸ setRow_heap _ _ _ _ _ _ G10_n
                have G11_0 : w11.heap[w4.heap.size]? = some (.cells (dgQ 0 0) _ (0, 0)) := hw11 ▸ (setRow_other _ _ _ _ (by omega)).trans G10_0
                have L11 : w10.heap.size ≤ w11.heap.size := by rw [hw11]; exact Nat.le_of_eq (size_setRow _ _ _).symm
                clear hw11
                refine t_store (by kernel_rfl) (d := none) (by kernel_rfl) (ty := 39) (x := (.tmp 4)) (y := (.tmp 10)) (by kernel_rfl) (g := w4.heap.size) (cells := (dgQ Y.re.val Y.im.val)) (by kernel_rfl) (by kernel_rfl) G11_0 (by kernel_rfl) (by kernel_rfl) (all_dgA _) (K11.puti (n := 16) (by kernel_rfl) (by omega) (neC (by omega) ne0) ns0) ?_ ?_
                · intro w12 hw12 K12
                  have G12_s : w12.heap[w4.heap.size]? = some (.cells (dgQ Y.re.val Y.im.val) _ (0, 0)) := hw12 ▸ setRow_heap _ _ _ _ _ _ G11_0
                  have G12_1 : w12.heap[w9.heap.size]? = some (.cells (dgQ X.re.val X.im.val) _ (0, 0)) := hw12 ▸ (setRow_other _ _ _ _ (by omega)).trans G11_s
                  have L12 : w11.heap.size ≤ w12.heap.size := by rw [hw12]; exact Nat.le_of_eq (size_setRow _ _ _).symm
                  clear hw12
                  exact t_done ⟨rfl, w9.heap.size, w4.heap.size, by kernel_rfl, Kept.zero K12.nb (rowsC (K12.at 0 rfl) (rowsC ⟨_, G12_1⟩ (rowsC ⟨_, G12_s⟩ rows0))), (by omega), (by omega), (by omega)⟩
                · -- another
                  exact t_nil
              · -- another
                exact t_nil
            · -- another
              exact t_nil
          · -- another
            exact t_nil
      · -- another
        refine t_make (by kernel_rfl) (d := (some 3)) (by kernel_rfl) (v := .pointer (some ⟨w3.heap.size, 0, none⟩)) (w' := w3.alloc (.cells (dgQ 0 0) 39)) (by kernel_rfl) (K3.go ((Below.refl _ _).alloc (Nat.le_refl _) _)) ?_ ?_
        · intro w13 hw13 K13
          have G13_n : w13.heap[w3.heap.size]? = some (.cells (dgQ 0 0) 39 (0, 0)) := hw13 ▸ heap_alloc_new _ _
          have S13 : w3.heap.size < w13.heap.size := lt_of_heap G13_n
          have R13_0 : w.heap.size < w3.heap.size := (by obtain ⟨T, h⟩ := K3.at 0 rfl; exact lt_of_heap h)
          have Z13 : w.heap.size ≤ w3.heap.size := K3.nb.size
          clear hw13
          refine t_call (by kernel_rfl) (d := (some 10)) (by kernel_rfl) (f := 19) (args := #[.agg (fps [c0, d0])]) (v := .agg (dgQ Y.re.val Y.im.val)) (fun _ => by kernel_rfl) (ofQ_b hc0 hd0 hY) (fun w14 hb14 => ⟨K13.go hb14, ?_⟩) ?_
          · have K14 := K13.go hb14
            have G14_10 := nb_heap G13_n _ hb14
            have L14 := hb14.size
            refine t_make (by kernel_rfl) (d := (some 4)) (by kernel_rfl) (v := .pointer (some ⟨w14.heap.size, 0, none⟩)) (w' := w14.alloc (.cells (dgQ 0 0) 39)) (by kernel_rfl) (K14.go ((Below.refl _ _).alloc (Nat.le_refl _) _)) ?_ ?_
            · intro w15 hw15 K15
              have L15_0 := lt_of_heap G14_10
              have G15_0 : w15.heap[w3.heap.size]? = some (.cells (dgQ 0 0) _ (0, 0)) := hw15 ▸ hp_alloc G14_10 _
              have G15_n : w15.heap[w14.heap.size]? = some (.cells (dgQ 0 0) 39 (0, 0)) := hw15 ▸ heap_alloc_new _ _
              have S15 : w14.heap.size < w15.heap.size := lt_of_heap G15_n
              have R15_0 : w.heap.size < w14.heap.size := (by obtain ⟨T, h⟩ := K14.at 0 rfl; exact lt_of_heap h)
              have Z15 : w.heap.size ≤ w14.heap.size := K14.nb.size
              clear hw15
              refine t_store (by kernel_rfl) (d := none) (by kernel_rfl) (ty := 39) (x := (.tmp 3)) (y := (.tmp 7)) (by kernel_rfl) (g := w3.heap.size) (cells := (dgQ X.re.val X.im.val)) (by kernel_rfl) (by kernel_rfl) G15_0 (by kernel_rfl) (by kernel_rfl) (all_dgA _) (K15.puti (n := 16) (by kernel_rfl) (by omega) (neC (by omega) ne0) ns0) ?_ ?_
              · intro w16 hw16 K16
                have G16_s : w16.heap[w3.heap.size]? = some (.cells (dgQ X.re.val X.im.val) _ (0, 0)) := hw16 ▸ setRow_heap _ _ _ _ _ _ G15_0
                have G16_1 : w16.heap[w14.heap.size]? = some (.cells (dgQ 0 0) _ (0, 0)) := hw16 ▸ (setRow_other _ _ _ _ (by omega)).trans G15_n
                have L16 : w15.heap.size ≤ w16.heap.size := by rw [hw16]; exact Nat.le_of_eq (size_setRow _ _ _).symm
                clear hw16
                refine t_store (by kernel_rfl) (d := none) (by kernel_rfl) (ty := 39) (x := (.tmp 4)) (y := (.tmp 10)) (by kernel_rfl) (g := w14.heap.size) (cells := (dgQ Y.re.val Y.im.val)) (by kernel_rfl) (by kernel_rfl) G16_1 (by kernel_rfl) (by kernel_rfl) (all_dgA _) (K16.puti (n := 16) (by kernel_rfl) (by omega) (neC (by omega) ne0) ns0) ?_ ?_
                · intro w17 hw17 K17
                  have G17_s : w17.heap[w14.heap.size]? = some (.cells (dgQ Y.re.val Y.im.val) _ (0, 0)) := hw17 ▸ setRow_heap _ _ _ _ _ _ G16_1
                  have G17_0 : w17.heap[w3.heap.size]? = some (.cells (dgQ X.re.val X.im.val) _ (0, 0)) := hw17 ▸ (setRow_other _ _ _ _ (by omega)).trans G16_s
                  have L17 : w16.heap.size ≤ w17.heap.size := by rw [hw17]; exact Nat.le_of_eq (size_setRow _ _ _).symm
                  clear hw17
                  exact t_done ⟨rfl, w3.heap.size, w14.heap.size, by kernel_rfl, Kept.zero K17.nb (rowsC (K17.at 0 rfl) (rowsC ⟨_, G17_0⟩ (rowsC ⟨_, G17_s⟩ rows0))), (by omega), (by omega), (by omega)⟩
                · -- another
                  exact t_nil
              · -- another
                exact t_nil
            · -- another
              exact t_nil
          · -- another
            refine t_make (by kernel_rfl) (d := (some 4)) (by kernel_rfl) (v := .pointer (some ⟨w13.heap.size, 0, none⟩)) (w' := w13.alloc (.cells (dgQ 0 0) 39)) (by kernel_rfl) (K13.go ((Below.refl _ _).alloc (Nat.le_refl _) _)) ?_ ?_
            · intro w18 hw18 K18
              have L18_0 := lt_of_heap G13_n
              have G18_0 : w18.heap[w3.heap.size]? = some (.cells (dgQ 0 0) _ (0, 0)) := hw18 ▸ hp_alloc G13_n _
              have G18_n : w18.heap[w13.heap.size]? = some (.cells (dgQ 0 0) 39 (0, 0)) := hw18 ▸ heap_alloc_new _ _
              have S18 : w13.heap.size < w18.heap.size := lt_of_heap G18_n
              have R18_0 : w.heap.size < w13.heap.size := (by obtain ⟨T, h⟩ := K13.at 0 rfl; exact lt_of_heap h)
              have Z18 : w.heap.size ≤ w13.heap.size := K13.nb.size
              clear hw18
              refine t_call (by kernel_rfl) (d := (some 10)) (by kernel_rfl) (f := 19) (args := #[.agg (fps [c0, d0])]) (v := .agg (dgQ Y.re.val Y.im.val)) (fun _ => by kernel_rfl) (ofQ_b hc0 hd0 hY) (fun w19 hb19 => ⟨K18.go hb19, ?_⟩) ?_
              · have K19 := K18.go hb19
                have G19_20 := nb_heap G18_0 _ hb19
                have G19_21 := nb_heap G18_n _ hb19
                have L19 := hb19.size
                refine t_store (by kernel_rfl) (d := none) (by kernel_rfl) (ty := 39) (x := (.tmp 3)) (y := (.tmp 7)) (by kernel_rfl) (g := w3.heap.size) (cells := (dgQ X.re.val X.im.val)) (by kernel_rfl) (by kernel_rfl) G19_20 (by kernel_rfl) (by kernel_rfl) (all_dgA _) (K19.puti (n := 16) (by kernel_rfl) (by omega) (neC (by omega) ne0) ns0) ?_ ?_
                · intro w20 hw20 K20
                  have G20_s : w20.heap[w3.heap.size]? = some (.cells (dgQ X.re.val X.im.val) _ (0, 0)) := hw20 ▸ setRow_heap _ _ _ _ _ _ G19_20
                  have G20_1 : w20.heap[w13.heap.size]? = some (.cells (dgQ 0 0) _ (0, 0)) := hw20 ▸ (setRow_other _ _ _ _ (by omega)).trans G19_21
                  have L20 : w19.heap.size ≤ w20.heap.size := by rw [hw20]; exact Nat.le_of_eq (size_setRow _ _ _).symm
                  clear hw20
                  refine t_store (by kernel_rfl) (d := none) (by kernel_rfl) (ty := 39) (x := (.tmp 4)) (y := (.tmp 10)) (by kernel_rfl) (g := w13.heap.size) (cells := (dgQ Y.re.val Y.im.val)) (by kernel_rfl) (by kernel_rfl) G20_1 (by kernel_rfl) (by kernel_rfl) (all_dgA _) (K20.puti (n := 16) (by kernel_rfl) (by omega) (neC (by omega) ne0) ns0) ?_ ?_
                  · intro w21 hw21 K21
                    have G21_s : w21.heap[w13.heap.size]? = some (.cells (dgQ Y.re.val Y.im.val) _ (0, 0)) := hw21 ▸ setRow_heap _ _ _ _ _ _ G20_1
                    have G21_0 : w21.heap[w3.heap.size]? = some (.cells (dgQ X.re.val X.im.val) _ (0, 0)) := hw21 ▸ (setRow_other _ _ _ _ (by omega)).trans G20_s
                    have L21 : w20.heap.size ≤ w21.heap.size := by rw [hw21]; exact Nat.le_of_eq (size_setRow _ _ _).symm
                    clear hw21
                    exact t_done ⟨rfl, w3.heap.size, w13.heap.size, by kernel_rfl, Kept.zero K21.nb (rowsC (K21.at 0 rfl) (rowsC ⟨_, G21_0⟩ (rowsC ⟨_, G21_s⟩ rows0))), (by omega), (by omega), (by omega)⟩
                  · -- another
                    exact t_nil
                · -- another
                  exact t_nil
              · -- another
                exact t_nil
            · -- another
              exact t_nil
        · -- another
          refine t_make (by kernel_rfl) (d := (some 4)) (by kernel_rfl) (v := .pointer (some ⟨w3.heap.size, 0, none⟩)) (w' := w3.alloc (.cells (dgQ 0 0) 39)) (by kernel_rfl) (K3.go ((Below.refl _ _).alloc (Nat.le_refl _) _)) ?_ ?_
          · intro w22 hw22 K22
            have G22_n : w22.heap[w3.heap.size]? = some (.cells (dgQ 0 0) 39 (0, 0)) := hw22 ▸ heap_alloc_new _ _
            have S22 : w3.heap.size < w22.heap.size := lt_of_heap G22_n
            have R22_0 : w.heap.size < w3.heap.size := (by obtain ⟨T, h⟩ := K3.at 0 rfl; exact lt_of_heap h)
            have Z22 : w.heap.size ≤ w3.heap.size := K3.nb.size
            clear hw22
            refine t_call (by kernel_rfl) (d := (some 10)) (by kernel_rfl) (f := 19) (args := #[.agg (fps [c0, d0])]) (v := .agg (dgQ Y.re.val Y.im.val)) (fun _ => by kernel_rfl) (ofQ_b hc0 hd0 hY) (fun w23 hb23 => ⟨K22.go hb23, ?_⟩) ?_
            · have K23 := K22.go hb23
              have G23_10 := nb_heap G22_n _ hb23
              have L23 := hb23.size
              refine t_make (by kernel_rfl) (d := (some 3)) (by kernel_rfl) (v := .pointer (some ⟨w23.heap.size, 0, none⟩)) (w' := w23.alloc (.cells (dgQ 0 0) 39)) (by kernel_rfl) (K23.go ((Below.refl _ _).alloc (Nat.le_refl _) _)) ?_ ?_
              · intro w24 hw24 K24
                have L24_0 := lt_of_heap G23_10
                have G24_0 : w24.heap[w3.heap.size]? = some (.cells (dgQ 0 0) _ (0, 0)) := hw24 ▸ hp_alloc G23_10 _
                have G24_n : w24.heap[w23.heap.size]? = some (.cells (dgQ 0 0) 39 (0, 0)) := hw24 ▸ heap_alloc_new _ _
                have S24 : w23.heap.size < w24.heap.size := lt_of_heap G24_n
                have R24_0 : w.heap.size < w23.heap.size := (by obtain ⟨T, h⟩ := K23.at 0 rfl; exact lt_of_heap h)
                have Z24 : w.heap.size ≤ w23.heap.size := K23.nb.size
                clear hw24
                refine t_store (by kernel_rfl) (d := none) (by kernel_rfl) (ty := 39) (x := (.tmp 3)) (y := (.tmp 7)) (by kernel_rfl) (g := w23.heap.size) (cells := (dgQ X.re.val X.im.val)) (by kernel_rfl) (by kernel_rfl) G24_n (by kernel_rfl) (by kernel_rfl) (all_dgA _) (K24.puti (n := 16) (by kernel_rfl) (by omega) (neC (by omega) ne0) ns0) ?_ ?_
                · intro w25 hw25 K25
                  have G25_s : w25.heap[w23.heap.size]? = some (.cells (dgQ X.re.val X.im.val) _ (0, 0)) := hw25 ▸ setRow_heap _ _ _ _ _ _ G24_n
                  have G25_0 : w25.heap[w3.heap.size]? = some (.cells (dgQ 0 0) _ (0, 0)) := hw25 ▸ (setRow_other _ _ _ _ (by omega)).trans G24_0
                  have L25 : w24.heap.size ≤ w25.heap.size := by rw [hw25]; exact Nat.le_of_eq (size_setRow _ _ _).symm
                  clear hw25
                  refine t_store (by kernel_rfl) (d := none) (by kernel_rfl) (ty := 39) (x := (.tmp 4)) (y := (.tmp 10)) (by kernel_rfl) (g := w3.heap.size) (cells := (dgQ Y.re.val Y.im.val)) (by kernel_rfl) (by kernel_rfl) G25_0 (by kernel_rfl) (by kernel_rfl) (all_dgA _) (K25.puti (n := 16) (by kernel_rfl) (by omega) (neC (by omega) ne0) ns0) ?_ ?_
                  · intro w26 hw26 K26
                    have G26_s : w26.heap[w3.heap.size]? = some (.cells (dgQ Y.re.val Y.im.val) _ (0, 0)) := hw26 ▸ setRow_heap _ _ _ _ _ _ G25_0
                    have G26_1 : w26.heap[w23.heap.size]? = some (.cells (dgQ X.re.val X.im.val) _ (0, 0)) := hw26 ▸ (setRow_other _ _ _ _ (by omega)).trans G25_s
                    have L26 : w25.heap.size ≤ w26.heap.size := by rw [hw26]; exact Nat.le_of_eq (size_setRow _ _ _).symm
                    clear hw26
                    exact t_done ⟨rfl, w23.heap.size, w3.heap.size, by kernel_rfl, Kept.zero K26.nb (rowsC (K26.at 0 rfl) (rowsC ⟨_, G26_1⟩ (rowsC ⟨_, G26_s⟩ rows0))), (by omega), (by omega), (by omega)⟩
                  · -- another
                    exact t_nil
                · -- another
                  exact t_nil
              · -- another
                exact t_nil
            · -- another
              refine t_make (by kernel_rfl) (d := (some 3)) (by kernel_rfl) (v := .pointer (some ⟨w22.heap.size, 0, none⟩)) (w' := w22.alloc (.cells (dgQ 0 0) 39)) (by kernel_rfl) (K22.go ((Below.refl _ _).alloc (Nat.le_refl _) _)) ?_ ?_
              · intro w27 hw27 K27
                have L27_0 := lt_of_heap G22_n
                have G27_0 : w27.heap[w3.heap.size]? = some (.cells (dgQ 0 0) _ (0, 0)) := hw27 ▸ hp_alloc G22_n _
                have G27_n : w27.heap[w22.heap.size]? = some (.cells (dgQ 0 0) 39 (0, 0)) := hw27 ▸ heap_alloc_new _ _
                have S27 : w22.heap.size < w27.heap.size := lt_of_heap G27_n
                have R27_0 : w.heap.size < w22.heap.size := (by obtain ⟨T, h⟩ := K22.at 0 rfl; exact lt_of_heap h)
                have Z27 : w.heap.size ≤ w22.heap.size := K22.nb.size
                clear hw27
                refine t_call (by kernel_rfl) (d := (some 10)) (by kernel_rfl) (f := 19) (args := #[.agg (fps [c0, d0])]) (v := .agg (dgQ Y.re.val Y.im.val)) (fun _ => by kernel_rfl) (ofQ_b hc0 hd0 hY) (fun w28 hb28 => ⟨K27.go hb28, ?_⟩) ?_
                · have K28 := K27.go hb28
                  have G28_20 := nb_heap G27_0 _ hb28
                  have G28_21 := nb_heap G27_n _ hb28
                  have L28 := hb28.size
                  refine t_store (by kernel_rfl) (d := none) (by kernel_rfl) (ty := 39) (x := (.tmp 3)) (y := (.tmp 7)) (by kernel_rfl) (g := w22.heap.size) (cells := (dgQ X.re.val X.im.val)) (by kernel_rfl) (by kernel_rfl) G28_21 (by kernel_rfl) (by kernel_rfl) (all_dgA _) (K28.puti (n := 16) (by kernel_rfl) (by omega) (neC (by omega) ne0) ns0) ?_ ?_
                  · intro w29 hw29 K29
                    have G29_s : w29.heap[w22.heap.size]? = some (.cells (dgQ X.re.val X.im.val) _ (0, 0)) := hw29 ▸ setRow_heap _ _ _ _ _ _ G28_21
                    have G29_0 : w29.heap[w3.heap.size]? = some (.cells (dgQ 0 0) _ (0, 0)) := hw29 ▸ (setRow_other _ _ _ _ (by omega)).trans G28_20
                    have L29 : w28.heap.size ≤ w29.heap.size := by rw [hw29]; exact Nat.le_of_eq (size_setRow _ _ _).symm
                    clear hw29
                    refine t_store (by kernel_rfl) (d := none) (by kernel_rfl) (ty := 39) (x := (.tmp 4)) (y := (.tmp 10)) (by kernel_rfl) (g := w3.heap.size) (cells := (dgQ Y.re.val Y.im.val)) (by kernel_rfl) (by kernel_rfl) G29_0 (by kernel_rfl) (by kernel_rfl) (all_dgA _) (K29.puti (n := 16) (by kernel_rfl) (by omega) (neC (by omega) ne0) ns0) ?_ ?_
                    · intro w30 hw30 K30
                      have G30_s : w30.heap[w3.heap.size]? = some (.cells (dgQ Y.re.val Y.im.val) _ (0, 0)) := hw30 ▸ setRow_heap _ _ _ _ _ _ G29_0
                      have G30_1 : w30.heap[w22.heap.size]? = some (.cells (dgQ X.re.val X.im.val) _ (0, 0)) := hw30 ▸ (setRow_other _ _ _ _ (by omega)).trans G29_s
                      have L30 : w29.heap.size ≤ w30.heap.size := by rw [hw30]; exact Nat.le_of_eq (size_setRow _ _ _).symm
                      clear hw30
                      exact t_done ⟨rfl, w22.heap.size, w3.heap.size, by kernel_rfl, Kept.zero K30.nb (rowsC (K30.at 0 rfl) (rowsC ⟨_, G30_1⟩ (rowsC ⟨_, G30_s⟩ rows0))), (by omega), (by omega), (by omega)⟩
                    · -- another
                      exact t_nil
                  · -- another
                    exact t_nil
                · -- another
                  exact t_nil
              · -- another
                exact t_nil
          · -- another
            exact t_nil
    · -- another
      refine t_make (by kernel_rfl) (d := (some 3)) (by kernel_rfl) (v := .pointer (some ⟨W0.drew.heap.size, 0, none⟩)) (w' := W0.drew.alloc (.cells (dgQ 0 0) 39)) (by kernel_rfl) (K2.go ((Below.refl _ _).alloc (Nat.le_refl _) _)) ?_ ?_
      · intro w31 hw31 K31
        have G31_n : w31.heap[W0.drew.heap.size]? = some (.cells (dgQ 0 0) 39 (0, 0)) := hw31 ▸ heap_alloc_new _ _
        have S31 : W0.drew.heap.size < w31.heap.size := lt_of_heap G31_n
        have R31_0 : w.heap.size < W0.drew.heap.size := (by obtain ⟨T, h⟩ := K2.at 0 rfl; exact lt_of_heap h)
        have Z31 : w.heap.size ≤ W0.drew.heap.size := K2.nb.size
        clear hw31
        refine t_call (by kernel_rfl) (d := (some 7)) (by kernel_rfl) (f := 19) (args := #[.agg (fps [a0, b0])]) (v := .agg (dgQ X.re.val X.im.val)) (fun _ => by kernel_rfl) (ofQ_b ha0 hb0 hX) (fun w32 hb32 => ⟨K31.go hb32, ?_⟩) ?_
        · have K32 := K31.go hb32
          have G32_10 := nb_heap G31_n _ hb32
          have L32 := hb32.size
          refine t_call (by kernel_rfl) (d := (some 10)) (by kernel_rfl) (f := 19) (args := #[.agg (fps [c0, d0])]) (v := .agg (dgQ Y.re.val Y.im.val)) (fun _ => by kernel_rfl) (ofQ_b hc0 hd0 hY) (fun w33 hb33 => ⟨K32.go hb33, ?_⟩) ?_
          · have K33 := K32.go hb33
            have G33_10 := nb_heap G32_10 _ hb33
            have L33 := hb33.size
            refine t_make (by kernel_rfl) (d := (some 4)) (by kernel_rfl) (v := .pointer (some ⟨w33.heap.size, 0, none⟩)) (w' := w33.alloc (.cells (dgQ 0 0) 39)) (by kernel_rfl) (K33.go ((Below.refl _ _).alloc (Nat.le_refl _) _)) ?_ ?_
            · intro w34 hw34 K34
              have L34_0 := lt_of_heap G33_10
              have G34_0 : w34.heap[W0.drew.heap.size]? = some (.cells (dgQ 0 0) _ (0, 0)) := hw34 ▸ hp_alloc G33_10 _
              have G34_n : w34.heap[w33.heap.size]? = some (.cells (dgQ 0 0) 39 (0, 0)) := hw34 ▸ heap_alloc_new _ _
              have S34 : w33.heap.size < w34.heap.size := lt_of_heap G34_n
              have R34_0 : w.heap.size < w33.heap.size := (by obtain ⟨T, h⟩ := K33.at 0 rfl; exact lt_of_heap h)
              have Z34 : w.heap.size ≤ w33.heap.size := K33.nb.size
              clear hw34
              refine t_store (by kernel_rfl) (d := none) (by kernel_rfl) (ty := 39) (x := (.tmp 3)) (y := (.tmp 7)) (by kernel_rfl) (g := W0.drew.heap.size) (cells := (dgQ X.re.val X.im.val)) (by kernel_rfl) (by kernel_rfl) G34_0 (by kernel_rfl) (by kernel_rfl) (all_dgA _) (K34.puti (n := 16) (by kernel_rfl) (by omega) (neC (by omega) ne0) ns0) ?_ ?_
              · intro w35 hw35 K35
                have G35_s : w35.heap[W0.drew.heap.size]? = some (.cells (dgQ X.re.val X.im.val) _ (0, 0)) := hw35 ▸ setRow_heap _ _ _ _ _ _ G34_0
                have G35_1 : w35.heap[w33.heap.size]? = some (.cells (dgQ 0 0) _ (0, 0)) := hw35 ▸ (setRow_other _ _ _ _ (by omega)).trans G34_n
                have L35 : w34.heap.size ≤ w35.heap.size := by rw [hw35]; exact Nat.le_of_eq (size_setRow _ _ _).symm
                clear hw35
                refine t_store (by kernel_rfl) (d := none) (by kernel_rfl) (ty := 39) (x := (.tmp 4)) (y := (.tmp 10)) (by kernel_rfl) (g := w33.heap.size) (cells := (dgQ Y.re.val Y.im.val)) (by kernel_rfl) (by kernel_rfl) G35_1 (by kernel_rfl) (by kernel_rfl) (all_dgA _) (K35.puti (n := 16) (by kernel_rfl) (by omega) (neC (by omega) ne0) ns0) ?_ ?_
                · intro w36 hw36 K36
                  have G36_s : w36.heap[w33.heap.size]? = some (.cells (dgQ Y.re.val Y.im.val) _ (0, 0)) := hw36 ▸ setRow_heap _ _ _ _ _ _ G35_1
                  have G36_0 : w36.heap[W0.drew.heap.size]? = some (.cells (dgQ X.re.val X.im.val) _ (0, 0)) := hw36 ▸ (setRow_other _ _ _ _ (by omega)).trans G35_s
                  have L36 : w35.heap.size ≤ w36.heap.size := by rw [hw36]; exact Nat.le_of_eq (size_setRow _ _ _).symm
                  clear hw36
                  exact t_done ⟨rfl, W0.drew.heap.size, w33.heap.size, by kernel_rfl, Kept.zero K36.nb (rowsC (K36.at 0 rfl) (rowsC ⟨_, G36_0⟩ (rowsC ⟨_, G36_s⟩ rows0))), (by omega), (by omega), (by omega)⟩
                · -- another
                  exact t_nil
              · -- another
                exact t_nil
            · -- another
              exact t_nil
          · -- another
            refine t_make (by kernel_rfl) (d := (some 4)) (by kernel_rfl) (v := .pointer (some ⟨w32.heap.size, 0, none⟩)) (w' := w32.alloc (.cells (dgQ 0 0) 39)) (by kernel_rfl) (K32.go ((Below.refl _ _).alloc (Nat.le_refl _) _)) ?_ ?_
            · intro w37 hw37 K37
              have L37_0 := lt_of_heap G32_10
              have G37_0 : w37.heap[W0.drew.heap.size]? = some (.cells (dgQ 0 0) _ (0, 0)) := hw37 ▸ hp_alloc G32_10 _
              have G37_n : w37.heap[w32.heap.size]? = some (.cells (dgQ 0 0) 39 (0, 0)) := hw37 ▸ heap_alloc_new _ _
              have S37 : w32.heap.size < w37.heap.size := lt_of_heap G37_n
              have R37_0 : w.heap.size < w32.heap.size := (by obtain ⟨T, h⟩ := K32.at 0 rfl; exact lt_of_heap h)
              have Z37 : w.heap.size ≤ w32.heap.size := K32.nb.size
              clear hw37
              refine t_call (by kernel_rfl) (d := (some 10)) (by kernel_rfl) (f := 19) (args := #[.agg (fps [c0, d0])]) (v := .agg (dgQ Y.re.val Y.im.val)) (fun _ => by kernel_rfl) (ofQ_b hc0 hd0 hY) (fun w38 hb38 => ⟨K37.go hb38, ?_⟩) ?_
              · have K38 := K37.go hb38
                have G38_20 := nb_heap G37_0 _ hb38
                have G38_21 := nb_heap G37_n _ hb38
                have L38 := hb38.size
                refine t_store (by kernel_rfl) (d := none) (by kernel_rfl) (ty := 39) (x := (.tmp 3)) (y := (.tmp 7)) (by kernel_rfl) (g := W0.drew.heap.size) (cells := (dgQ X.re.val X.im.val)) (by kernel_rfl) (by kernel_rfl) G38_20 (by kernel_rfl) (by kernel_rfl) (all_dgA _) (K38.puti (n := 16) (by kernel_rfl) (by omega) (neC (by omega) ne0) ns0) ?_ ?_
                · intro w39 hw39 K39
                  have G39_s : w39.heap[W0.drew.heap.size]? = some (.cells (dgQ X.re.val X.im.val) _ (0, 0)) := hw39 ▸ setRow_heap _ _ _ _ _ _ G38_20
                  have G39_1 : w39.heap[w32.heap.size]? = some (.cells (dgQ 0 0) _ (0, 0)) := hw39 ▸ (setRow_other _ _ _ _ (by omega)).trans G38_21
                  have L39 : w38.heap.size ≤ w39.heap.size := by rw [hw39]; exact Nat.le_of_eq (size_setRow _ _ _).symm
                  clear hw39
                  refine t_store (by kernel_rfl) (d := none) (by kernel_rfl) (ty := 39) (x := (.tmp 4)) (y := (.tmp 10)) (by kernel_rfl) (g := w32.heap.size) (cells := (dgQ Y.re.val Y.im.val)) (by kernel_rfl) (by kernel_rfl) G39_1 (by kernel_rfl) (by kernel_rfl) (all_dgA _) (K39.puti (n := 16) (by kernel_rfl) (by omega) (neC (by omega) ne0) ns0) ?_ ?_
                  · intro w40 hw40 K40
                    have G40_s : w40.heap[w32.heap.size]? = some (.cells (dgQ Y.re.val Y.im.val) _ (0, 0)) := hw40 ▸ setRow_heap _ _ _ _ _ _ G39_1
                    have G40_0 : w40.heap[W0.drew.heap.size]? = some (.cells (dgQ X.re.val X.im.val) _ (0, 0)) := hw40 ▸ (setRow_other _ _ _ _ (by omega)).trans G39_s
                    have L40 : w39.heap.size ≤ w40.heap.size := by rw [hw40]; exact Nat.le_of_eq (size_setRow _ _ _).symm
                    clear hw40
                    exact t_done ⟨rfl, W0.drew.heap.size, w32.heap.size, by kernel_rfl, Kept.zero K40.nb (rowsC (K40.at 0 rfl) (rowsC ⟨_, G40_0⟩ (rowsC ⟨_, G40_s⟩ rows0))), (by omega), (by omega), (by omega)⟩
                  · -- another
                    exact t_nil
                · -- another
                  exact t_nil
              · -- another
                exact t_nil
            · -- another
              exact t_nil
        · -- another
          refine t_make (by kernel_rfl) (d := (some 4)) (by kernel_rfl) (v := .pointer (some ⟨w31.heap.size, 0, none⟩)) (w' := w31.alloc (.cells (dgQ 0 0) 39)) (by kernel_rfl) (K31.go ((Below.refl _ _).alloc (Nat.le_refl _) _)) ?_ ?_
          · intro w41 hw41 K41
            have L41_0 := lt_of_heap G31_n
            have G41_0 : w41.heap[W0.drew.heap.size]? = some (.cells (dgQ 0 0) _ (0, 0)) := hw41 ▸ hp_alloc G31_n _
            have G41_n : w41.heap[w31.heap.size]? = some (.cells (dgQ 0 0) 39 (0, 0)) := hw41 ▸ heap_alloc_new _ _
            have S41 : w31.heap.size < w41.heap.size := lt_of_heap G41_n
            have R41_0 : w.heap.size < w31.heap.size := (by obtain ⟨T, h⟩ := K31.at 0 rfl; exact lt_of_heap h)
            have Z41 : w.heap.size ≤ w31.heap.size := K31.nb.size
            clear hw41
            refine t_call (by kernel_rfl) (d := (some 7)) (by kernel_rfl) (f := 19) (args := #[.agg (fps [a0, b0])]) (v := .agg (dgQ X.re.val X.im.val)) (fun _ => by kernel_rfl) (ofQ_b ha0 hb0 hX) (fun w42 hb42 => ⟨K41.go hb42, ?_⟩) ?_
            · have K42 := K41.go hb42
              have G42_20 := nb_heap G41_0 _ hb42
              have G42_21 := nb_heap G41_n _ hb42
              have L42 := hb42.size
              refine t_call (by kernel_rfl) (d := (some 10)) (by kernel_rfl) (f := 19) (args := #[.agg (fps [c0, d0])]) (v := .agg (dgQ Y.re.val Y.im.val)) (fun _ => by kernel_rfl) (ofQ_b hc0 hd0 hY) (fun w43 hb43 => ⟨K42.go hb43, ?_⟩) ?_
              · have K43 := K42.go hb43
                have G43_20 := nb_heap G42_20 _ hb43
                have G43_21 := nb_heap G42_21 _ hb43
                have L43 := hb43.size
                refine t_store (by kernel_rfl) (d := none) (by kernel_rfl) (ty := 39) (x := (.tmp 3)) (y := (.tmp 7)) (by kernel_rfl) (g := W0.drew.heap.size) (cells := (dgQ X.re.val X.im.val)) (by kernel_rfl) (by kernel_rfl) G43_20 (by kernel_rfl) (by kernel_rfl) (all_dgA _) (K43.puti (n := 16) (by kernel_rfl) (by omega) (neC (by omega) ne0) ns0) ?_ ?_
                · intro w44 hw44 K44
                  have G44_s : w44.heap[W0.drew.heap.size]? = some (.cells (dgQ X.re.val X.im.val) _ (0, 0)) := hw44 ▸ setRow_heap _ _ _ _ _ _ G43_20
                  have G44_1 : w44.heap[w31.heap.size]? = some (.cells (dgQ 0 0) _ (0, 0)) := hw44 ▸ (setRow_other _ _ _ _ (by omega)).trans G43_21
                  have L44 : w43.heap.size ≤ w44.heap.size := by rw [hw44]; exact Nat.le_of_eq (size_setRow _ _ _).symm
                  clear hw44
                  refine t_store (by kernel_rfl) (d := none) (by kernel_rfl) (ty := 39) (x := (.tmp 4)) (y := (.tmp 10)) (by kernel_rfl) (g := w31.heap.size) (cells := (dgQ Y.re.val Y.im.val)) (by kernel_rfl) (by kernel_rfl) G44_1 (by kernel_rfl) (by kernel_rfl) (all_dgA _) (K44.puti (n := 16) (by kernel_rfl) (by omega) (neC (by omega) ne0) ns0) ?_ ?_
                  · intro w45 hw45 K45
                    have G45_s : w45.heap[w31.heap.size]? = some (.cells (dgQ Y.re.val Y.im.val) _ (0, 0)) := hw45 ▸ setRow_heap _ _ _ _ _ _ G44_1
                    have G45_0 : w45.heap[W0.drew.heap.size]? = some (.cells (dgQ X.re.val X.im.val) _ (0, 0)) := hw45 ▸ (setRow_other _ _ _ _ (by omega)).trans G44_s
                    have L45 : w44.heap.size ≤ w45.heap.size := by rw [hw45]; exact Nat.le_of_eq (size_setRow _ _ _).symm
                    clear hw45
                    exact t_done ⟨rfl, W0.drew.heap.size, w31.heap.size, by kernel_rfl, Kept.zero K45.nb (rowsC (K45.at 0 rfl) (rowsC ⟨_, G45_0⟩ (rowsC ⟨_, G45_s⟩ rows0))), (by omega), (by omega), (by omega)⟩
                  · -- another
                    exact t_nil
                · -- another
                  exact t_nil
              · -- another
                exact t_nil
            · -- another
              exact t_nil
          · -- another
            exact t_nil
      · -- another
        refine t_make (by kernel_rfl) (d := (some 4)) (by kernel_rfl) (v := .pointer (some ⟨W0.drew.heap.size, 0, none⟩)) (w' := W0.drew.alloc (.cells (dgQ 0 0) 39)) (by kernel_rfl) (K2.go ((Below.refl _ _).alloc (Nat.le_refl _) _)) ?_ ?_
        · intro w46 hw46 K46
          have G46_n : w46.heap[W0.drew.heap.size]? = some (.cells (dgQ 0 0) 39 (0, 0)) := hw46 ▸ heap_alloc_new _ _
          have S46 : W0.drew.heap.size < w46.heap.size := lt_of_heap G46_n
          have R46_0 : w.heap.size < W0.drew.heap.size := (by obtain ⟨T, h⟩ := K2.at 0 rfl; exact lt_of_heap h)
          have Z46 : w.heap.size ≤ W0.drew.heap.size := K2.nb.size
          clear hw46
          refine t_call (by kernel_rfl) (d := (some 7)) (by kernel_rfl) (f := 19) (args := #[.agg (fps [a0, b0])]) (v := .agg (dgQ X.re.val X.im.val)) (fun _ => by kernel_rfl) (ofQ_b ha0 hb0 hX) (fun w47 hb47 => ⟨K46.go hb47, ?_⟩) ?_
          · have K47 := K46.go hb47
            have G47_10 := nb_heap G46_n _ hb47
            have L47 := hb47.size
            refine t_call (by kernel_rfl) (d := (some 10)) (by kernel_rfl) (f := 19) (args := #[.agg (fps [c0, d0])]) (v := .agg (dgQ Y.re.val Y.im.val)) (fun _ => by kernel_rfl) (ofQ_b hc0 hd0 hY) (fun w48 hb48 => ⟨K47.go hb48, ?_⟩) ?_
            · have K48 := K47.go hb48
              have G48_10 := nb_heap G47_10 _ hb48
              have L48 := hb48.size
              refine t_make (by kernel_rfl) (d := (some 3)) (by kernel_rfl) (v := .pointer (some ⟨w48.heap.size, 0, none⟩)) (w' := w48.alloc (.cells (dgQ 0 0) 39)) (by kernel_rfl) (K48.go ((Below.refl _ _).alloc (Nat.le_refl _) _)) ?_ ?_
              · intro w49 hw49 K49
                have L49_0 := lt_of_heap G48_10
                have G49_0 : w49.heap[W0.drew.heap.size]? = some (.cells (dgQ 0 0) _ (0, 0)) := hw49 ▸ hp_alloc G48_10 _
                have G49_n : w49.heap[w48.heap.size]? = some (.cells (dgQ 0 0) 39 (0, 0)) := hw49 ▸ heap_alloc_new _ _
                have S49 : w48.heap.size < w49.heap.size := lt_of_heap G49_n
                have R49_0 : w.heap.size < w48.heap.size := (by obtain ⟨T, h⟩ := K48.at 0 rfl; exact lt_of_heap h)
                have Z49 : w.heap.size ≤ w48.heap.size := K48.nb.size
                clear hw49
                refine t_store (by kernel_rfl) (d := none) (by kernel_rfl) (ty := 39) (x := (.tmp 3)) (y := (.tmp 7)) (by kernel_rfl) (g := w48.heap.size) (cells := (dgQ X.re.val X.im.val)) (by kernel_rfl) (by kernel_rfl) G49_n (by kernel_rfl) (by kernel_rfl) (all_dgA _) (K49.puti (n := 16) (by kernel_rfl) (by omega) (neC (by omega) ne0) ns0) ?_ ?_
                · intro w50 hw50 K50
                  have G50_s : w50.heap[w48.heap.size]? = some (.cells (dgQ X.re.val X.im.val) _ (0, 0)) := hw50 ▸ setRow_heap _ _ _ _ _ _ G49_n
                  have G50_0 : w50.heap[W0.drew.heap.size]? = some (.cells (dgQ 0 0) _ (0, 0)) := hw50 ▸ (setRow_other _ _ _ _ (by omega)).trans G49_0
                  have L50 : w49.heap.size ≤ w50.heap.size := by rw [hw50]; exact Nat.le_of_eq (size_setRow _ _ _).symm
                  clear hw50
                  refine t_store (by kernel_rfl) (d := none) (by kernel_rfl) (ty := 39) (x := (.tmp 4)) (y := (.tmp 10)) (by kernel_rfl) (g := W0.drew.heap.size) (cells := (dgQ Y.re.val Y.im.val)) (by kernel_rfl) (by kernel_rfl) G50_0 (by kernel_rfl) (by kernel_rfl) (all_dgA _) (K50.puti (n := 16) (by kernel_rfl) (by omega) (neC (by omega) ne0) ns0) ?_ ?_
                  · intro w51 hw51 K51
                    have G51_s : w51.heap[W0.drew.heap.size]? = some (.cells (dgQ Y.re.val Y.im.val) _ (0, 0)) := hw51 ▸ setRow_heap _ _ _ _ _ _ G50_0
                    have G51_1 : w51.heap[w48.heap.size]? = some (.cells (dgQ X.re.val X.im.val) _ (0, 0)) := hw51 ▸ (setRow_other _ _ _ _ (by omega)).trans G50_s
                    have L51 : w50.heap.size ≤ w51.heap.size := by rw [hw51]; exact Nat.le_of_eq (size_setRow _ _ _).symm
                    clear hw51
                    exact t_done ⟨rfl, w48.heap.size, W0.drew.heap.size, by kernel_rfl, Kept.zero K51.nb (rowsC (K51.at 0 rfl) (rowsC ⟨_, G51_1⟩ (rowsC ⟨_, G51_s⟩ rows0))), (by omega), (by omega), (by omega)⟩
                  · -- another
                    exact t_nil
                · -- another
                  exact t_nil
              · -- another
                exact t_nil
            · -- another
              refine t_make (by kernel_rfl) (d := (some 3)) (by kernel_rfl) (v := .pointer (some ⟨w47.heap.size, 0, none⟩)) (w' := w47.alloc (.cells (dgQ 0 0) 39)) (by kernel_rfl) (K47.go ((Below.refl _ _).alloc (Nat.le_refl _) _)) ?_ ?_
              · intro w52 hw52 K52
                have L52_0 := lt_of_heap G47_10
                have G52_0 : w52.heap[W0.drew.heap.size]? = some (.cells (dgQ 0 0) _ (0, 0)) := hw52 ▸ hp_alloc G47_10 _
                have G52_n : w52.heap[w47.heap.size]? = some (.cells (dgQ 0 0) 39 (0, 0)) := hw52 ▸ heap_alloc_new _ _
                have S52 : w47.heap.size < w52.heap.size := lt_of_heap G52_n
                have R52_0 : w.heap.size < w47.heap.size := (by obtain ⟨T, h⟩ := K47.at 0 rfl; exact lt_of_heap h)
                have Z52 : w.heap.size ≤ w47.heap.size := K47.nb.size
                clear hw52
                refine t_call (by kernel_rfl) (d := (some 10)) (by kernel_rfl) (f := 19) (args := #[.agg (fps [c0, d0])]) (v := .agg (dgQ Y.re.val Y.im.val)) (fun _ => by kernel_rfl) (ofQ_b hc0 hd0 hY) (fun w53 hb53 => ⟨K52.go hb53, ?_⟩) ?_
                · have K53 := K52.go hb53
                  have G53_20 := nb_heap G52_0 _ hb53
                  have G53_21 := nb_heap G52_n _ hb53
                  have L53 := hb53.size
                  refine t_store (by kernel_rfl) (d := none) (by kernel_rfl) (ty := 39) (x := (.tmp 3)) (y := (.tmp 7)) (by kernel_rfl) (g := w47.heap.size) (cells := (dgQ X.re.val X.im.val)) (by kernel_rfl) (by kernel_rfl) G53_21 (by kernel_rfl) (by kernel_rfl) (all_dgA _) (K53.puti (n := 16) (by kernel_rfl) (by omega) (neC (by omega) ne0) ns0) ?_ ?_
                  · intro w54 hw54 K54
                    have G54_s : w54.heap[w47.heap.size]? = some (.cells (dgQ X.re.val X.im.val) _ (0, 0)) := hw54 ▸ setRow_heap _ _ _ _ _ _ G53_21
                    have G54_0 : w54.heap[W0.drew.heap.size]? = some (.cells (dgQ 0 0) _ (0, 0)) := hw54 ▸ (setRow_other _ _ _ _ (by omega)).trans G53_20
                    have L54 : w53.heap.size ≤ w54.heap.size := by rw [hw54]; exact Nat.le_of_eq (size_setRow _ _ _).symm
                    clear hw54
                    refine t_store (by kernel_rfl) (d := none) (by kernel_rfl) (ty := 39) (x := (.tmp 4)) (y := (.tmp 10)) (by kernel_rfl) (g := W0.drew.heap.size) (cells := (dgQ Y.re.val Y.im.val)) (by kernel_rfl) (by kernel_rfl) G54_0 (by kernel_rfl) (by kernel_rfl) (all_dgA _) (K54.puti (n := 16) (by kernel_rfl) (by omega) (neC (by omega) ne0) ns0) ?_ ?_
                    · intro w55 hw55 K55
                      have G55_s : w55.heap[W0.drew.heap.size]? = some (.cells (dgQ Y.re.val Y.im.val) _ (0, 0)) := hw55 ▸ setRow_heap _ _ _ _ _ _ G54_0
                      have G55_1 : w55.heap[w47.heap.size]? = some (.cells (dgQ X.re.val X.im.val) _ (0, 0)) := hw55 ▸ (setRow_other _ _ _ _ (by omega)).trans G54_s
                      have L55 : w54.heap.size ≤ w55.heap.size := by rw [hw55]; exact Nat.le_of_eq (size_setRow _ _ _).symm
                      clear hw55
                      exact t_done ⟨rfl, w47.heap.size, W0.drew.heap.size, by kernel_rfl, Kept.zero K55.nb (rowsC (K55.at 0 rfl) (rowsC ⟨_, G55_1⟩ (rowsC ⟨_, G55_s⟩ rows0))), (by omega), (by omega), (by omega)⟩
                    · -- another
                      exact t_nil
                  · -- another
                    exact t_nil
                · -- another
                  exact t_nil
              · -- another
                exact t_nil
          · -- another
            refine t_make (by kernel_rfl) (d := (some 3)) (by kernel_rfl) (v := .pointer (some ⟨w46.heap.size, 0, none⟩)) (w' := w46.alloc (.cells (dgQ 0 0) 39)) (by kernel_rfl) (K46.go ((Below.refl _ _).alloc (Nat.le_refl _) _)) ?_ ?_
            · intro w56 hw56 K56
              have L56_0 := lt_of_heap G46_n
              have G56_0 : w56.heap[W0.drew.heap.size]? = some (.cells (dgQ 0 0) _ (0, 0)) := hw56 ▸ hp_alloc G46_n _
              have G56_n : w56.heap[w46.heap.size]? = some (.cells (dgQ 0 0) 39 (0, 0)) := hw56 ▸ heap_alloc_new _ _
              have S56 : w46.heap.size < w56.heap.size := lt_of_heap G56_n
              have R56_0 : w.heap.size < w46.heap.size := (by obtain ⟨T, h⟩ := K46.at 0 rfl; exact lt_of_heap h)
              have Z56 : w.heap.size ≤ w46.heap.size := K46.nb.size
              clear hw56
              refine t_call (by kernel_rfl) (d := (some 7)) (by kernel_rfl) (f := 19) (args := #[.agg (fps [a0, b0])]) (v := .agg (dgQ X.re.val X.im.val)) (fun _ => by kernel_rfl) (ofQ_b ha0 hb0 hX) (fun w57 hb57 => ⟨K56.go hb57, ?_⟩) ?_
              · have K57 := K56.go hb57
                have G57_20 := nb_heap G56_0 _ hb57
                have G57_21 := nb_heap G56_n _ hb57
                have L57 := hb57.size
                refine t_call (by kernel_rfl) (d := (some 10)) (by kernel_rfl) (f := 19) (args := #[.agg (fps [c0, d0])]) (v := .agg (dgQ Y.re.val Y.im.val)) (fun _ => by kernel_rfl) (ofQ_b hc0 hd0 hY) (fun w58 hb58 => ⟨K57.go hb58, ?_⟩) ?_
                · have K58 := K57.go hb58
                  have G58_20 := nb_heap G57_20 _ hb58
                  have G58_21 := nb_heap G57_21 _ hb58
                  have L58 := hb58.size
                  refine t_store (by kernel_rfl) (d := none) (by kernel_rfl) (ty := 39) (x := (.tmp 3)) (y := (.tmp 7)) (by kernel_rfl) (g := w46.heap.size) (cells := (dgQ X.re.val X.im.val)) (by kernel_rfl) (by kernel_rfl) G58_21 (by kernel_rfl) (by kernel_rfl) (all_dgA _) (K58.puti (n := 16) (by kernel_rfl) (by omega) (neC (by omega) ne0) ns0) ?_ ?_
                  · intro w59 hw59 K59
                    have G59_s : w59.heap[w46.heap.size]? = some (.cells (dgQ X.re.val X.im.val) _ (0, 0)) := hw59 ▸ setRow_heap _ _ _ _ _ _ G58_21
                    have G59_0 : w59.heap[W0.drew.heap.size]? = some (.cells (dgQ 0 0) _ (0, 0)) := hw59 ▸ (setRow_other _ _ _ _ (by omega)).trans G58_20
                    have L59 : w58.heap.size ≤ w59.heap.size := by rw [hw59]; exact Nat.le_of_eq (size_setRow _ _ _).symm
                    clear hw59
                    refine t_store (by kernel_rfl) (d := none) (by kernel_rfl) (ty := 39) (x := (.tmp 4)) (y := (.tmp 10)) (by kernel_rfl) (g := W0.drew.heap.size) (cells := (dgQ Y.re.val Y.im.val)) (by kernel_rfl) (by kernel_rfl) G59_0 (by kernel_rfl) (by kernel_rfl) (all_dgA _) (K59.puti (n := 16) (by kernel_rfl) (by omega) (neC (by omega) ne0) ns0) ?_ ?_
                    · intro w60 hw60 K60
                      have G60_s : w60.heap[W0.drew.heap.size]? = some (.cells (dgQ Y.re.val Y.im.val) _ (0, 0)) := hw60 ▸ setRow_heap _ _ _ _ _ _ G59_0
                      have G60_1 : w60.heap[w46.heap.size]? = some (.cells (dgQ X.re.val X.im.val) _ (0, 0)) := hw60 ▸ (setRow_other _ _ _ _ (by omega)).trans G59_s
                      have L60 : w59.heap.size ≤ w60.heap.size := by rw [hw60]; exact Nat.le_of_eq (size_setRow _ _ _).symm
                      clear hw60
                      exact t_done ⟨rfl, w46.heap.size, W0.drew.heap.size, by kernel_rfl, Kept.zero K60.nb (rowsC (K60.at 0 rfl) (rowsC ⟨_, G60_1⟩ (rowsC ⟨_, G60_s⟩ rows0))), (by omega), (by omega), (by omega)⟩
                    · -- another
                      exact t_nil
                  · -- another
                    exact t_nil
                · -- another
                  exact t_nil
              · -- another
                exact t_nil
            · -- another
              exact t_nil
        · -- another
          exact t_nil
  · rintro _ W61 ⟨p3, p4, rfl, K62, l63, l64, n65⟩
    go_upto_region 2 with (fail)
    have K66 : Kept w [(w.heap.size, (fps [a0, b0, c0, d0])), (p3, (dgQ X.re.val X.im.val)), (p4, (dgQ Y.re.val Y.im.val))] [] W61 := Kept.mks K62.nb (rowsC (K62.at 0 rfl) (rowsC (K62.at 1 rfl) (rowsC (K62.at 2 rfl) rows0))) rooms0
    refine wp_seq_atS (opsAt Tryd.f7 2) ((true, 0) :: (true, 1) :: (true, 2) :: (true, 3) :: (true, 4) :: (true, 5) :: (true, 6) :: (true, 7) :: (true, 8) :: (true, 9) :: (true, 10) :: (true, 11) :: (false, 12) :: (false, 13) :: (true, 14) :: []) (Kept w [(w.heap.size, (fps [a0, b0, c0, d0])), (p3, (dgQ X.re.val X.im.val)), (p4, (dgQ Y.re.val Y.im.val))] []) (by kernel_rfl) (by kernel_rfl) K66 ?_
    refine k_pure (by kernel_rfl) (d := (some 11)) (by kernel_rfl) (v := .pointer (some ⟨w.heap.size, 0, none⟩)) (fun _ => by kernel_rfl) ?_
    refine k_pure (by kernel_rfl) (d := (some 12)) (by kernel_rfl) (v := .pointer (some ⟨w.heap.size, 0, none⟩)) (fun _ => by kernel_rfl) ?_
    refine k_part (by kernel_rfl) (d := (some 13)) (by kernel_rfl) (ty := 22) (x := (.tmp 12)) (by kernel_rfl) (b := w.heap.size) (off := 0) (by kernel_rfl) (all := (fps [a0, b0, c0, d0])) (cs := (fpC a0)) (fun _ hs => hs.at 0 rfl) (fpsub1 (k := 0) rfl) Tryd.underlying22 rfl (by kernel_rfl) ?_
    refine k_pure (by kernel_rfl) (d := (some 14)) (by kernel_rfl) (v := .pointer (some ⟨w.heap.size, 0, none⟩)) (fun _ => by kernel_rfl) ?_
    refine k_pure (by kernel_rfl) (d := (some 15)) (by kernel_rfl) (v := .pointer (some ⟨w.heap.size, 16, none⟩)) (fun _ => by kernel_rfl) ?_
    refine k_part (by kernel_rfl) (d := (some 16)) (by kernel_rfl) (ty := 22) (x := (.tmp 15)) (by kernel_rfl) (b := w.heap.size) (off := 16) (by kernel_rfl) (all := (fps [a0, b0, c0, d0])) (cs := (fpC b0)) (fun _ hs => hs.at 0 rfl) (fpsub1 (k := 1) rfl) Tryd.underlying22 rfl (by kernel_rfl) ?_
    refine k_pure (by kernel_rfl) (d := (some 17)) (by kernel_rfl) (v := .pointer (some ⟨w.heap.size, 32, none⟩)) (fun _ => by kernel_rfl) ?_
    refine k_pure (by kernel_rfl) (d := (some 18)) (by kernel_rfl) (v := .pointer (some ⟨w.heap.size, 32, none⟩)) (fun _ => by kernel_rfl) ?_
    refine k_part (by kernel_rfl) (d := (some 19)) (by kernel_rfl) (ty := 22) (x := (.tmp 18)) (by kernel_rfl) (b := w.heap.size) (off := 32) (by kernel_rfl) (all := (fps [a0, b0, c0, d0])) (cs := (fpC c0)) (fun _ hs => hs.at 0 rfl) (fpsub1 (k := 2) rfl) Tryd.underlying22 rfl (by kernel_rfl) ?_
    refine k_pure (by kernel_rfl) (d := (some 20)) (by kernel_rfl) (v := .pointer (some ⟨w.heap.size, 32, none⟩)) (fun _ => by kernel_rfl) ?_
    refine k_pure (by kernel_rfl) (d := (some 21)) (by kernel_rfl) (v := .pointer (some ⟨w.heap.size, 48, none⟩)) (fun _ => by kernel_rfl) ?_
    refine k_part (by kernel_rfl) (d := (some 22)) (by kernel_rfl) (ty := 22) (x := (.tmp 21)) (by kernel_rfl) (b := w.heap.size) (off := 48) (by kernel_rfl) (all := (fps [a0, b0, c0, d0])) (cs := (fpC d0)) (fun _ hs => hs.at 0 rfl) (fpsub1 (k := 3) rfl) Tryd.underlying22 rfl (by kernel_rfl) ?_
    refine k_make (by kernel_rfl) (d := (some 23)) (by kernel_rfl) (v := .slice (some ⟨W61.heap.size, 0, none⟩) 4 4) (w' := W61.alloc (.cells (fps [a0, b0, c0, d0]) 22)) (by kernel_rfl) (K66.go ((Below.refl _ _).alloc (Nat.le_refl _) _)) ?_
    intro w67 hw67 K67
    have G67_n : w67.heap[W61.heap.size]? = some (.cells (fps [a0, b0, c0, d0]) 22 (0, 0)) := hw67 ▸ heap_alloc_new _ _
    have S67 : W61.heap.size < w67.heap.size := lt_of_heap G67_n
    have R67_0 : w.heap.size < W61.heap.size := (by obtain ⟨T, h⟩ := K66.at 0 rfl; exact lt_of_heap h)
    have R67_1 : p3 < W61.heap.size := (by obtain ⟨T, h⟩ := K66.at 1 rfl; exact lt_of_heap h)
    have R67_2 : p4 < W61.heap.size := (by obtain ⟨T, h⟩ := K66.at 2 rfl; exact lt_of_heap h)
    have Z67 : w.heap.size ≤ W61.heap.size := K66.nb.size
    clear hw67
    refine k_call (by kernel_rfl) (d := (some 24)) (by kernel_rfl) (f := 29) (args := #[.slice (some ⟨W61.heap.size, 0, none⟩) 4 4]) (v := .bool false) (fun _ => by kernel_rfl) (low_r (l := [a0, b0, c0, d0]) hl ⟨_, G67_n⟩ (all4 ha0 hb0 hc0 hd0) (Nat.le_of_ble_eq_true rfl)) (fun w68 hb68 => ⟨K67.go hb68, ?_⟩)
    have K68 := K67.go hb68
    have G68_10 := nb_heap G67_n _ hb68
    have L68 := hb68.size
    refine k_pure (by kernel_rfl) (d := (some 25)) (by kernel_rfl) (v := .bool true) (fun _ => by kernel_rfl) ?_
    have K69 : Kept w [(w.heap.size, (fps [a0, b0, c0, d0])), (p3, (dgQ X.re.val X.im.val)), (p4, (dgQ Y.re.val Y.im.val)), (W61.heap.size, (fps [a0, b0, c0, d0]))] [] w68 := Kept.zero K68.nb (rowsC (K68.at 0 rfl) (rowsC (K68.at 1 rfl) (rowsC (K68.at 2 rfl) (rowsC ⟨_, G68_10⟩ rows0))))
    clear G68_10 G67_n
    refine k_end ?_
    go_simp
    go_wp2_with fail
    exact bodyPost_ret_by (by kernel_rfl) (by kernel_rfl) ⟨rfl, K69.nb⟩

theorem row_low {w : World} {b a0 b0 c0 d0 : Nat} {x y : Zq} {T : TypeId} (h : w.heap[b]? = some (.cells (fps [a0, b0, c0, d0]) T (0, 0))) (hl : lowAll [a0, b0, c0, d0] = true) (hX : x = ⟨zp a0, zp b0⟩) (hY : y = ⟨zp c0, zp d0⟩) : FpsZ w b (flat [x, y]) := by
  subst hX hY; exact FpsZ.ofFps ⟨T, h⟩ (lowAll_iff.1 hl)

set_option maxRecDepth 100000 in
set_option maxHeartbeats 1000000 in
theorem implOnB0 {w : World} {a0 b0 c0 d0 : Nat} {x y : Zq} (hm : ModW w) (hg : 5 ≤ w.heap.size) (hd : AtZ w 0 0 dd) (hX : Hid (x = ⟨zp a0, zp b0⟩)) (hY : Hid (y = ⟨zp c0, zp d0⟩)) (hl : lowAll [a0, b0, c0, d0] = true) (h : ¬ OnC x y) :
    Calls Tryd.prog 37 #[.agg (fps [a0, b0, c0, d0])] w fun e w' => e = .returned (.bool false) ∧ Below w.heap.size w w' := by
  go_enter Tryd.func37, Tryd.ntmps37
  go_upto_region 1 with (fail)
  refine wp_gen (fun WW => Kept w [(w.heap.size, (fps [a0, b0, c0, d0]))] [] WW) (Kept.zero (nb_alloc (Below.refl _ _) _) (rowsC (row_as (hp1_0 (w := w) _) (by kernel_rfl)) rows0)) ?_
  intro W0 K0
  have K1 : Kept w [(w.heap.size, (fps [a0, b0, c0, d0]))] [] W0 := Kept.mks K0.nb (rowsC (K0.at 0 rfl) rows0) rooms0
  refine wp_seq_atS (opsAt Tryd.f37 1) ((true, 0) :: (false, 1) :: (false, 2) :: (true, 3) :: []) (Kept w [(w.heap.size, (fps [a0, b0, c0, d0]))] []) (by kernel_rfl) (by kernel_rfl) K1 ?_
  refine k_row (by kernel_rfl) (d := (some 3)) (by kernel_rfl) (ty := 35) (x := (.tmp 1)) (by kernel_rfl) (b := w.heap.size) (by kernel_rfl) (cs := (fps [a0, b0, c0, d0])) (fun _ hs => hs.at 0 rfl) Tryd.underlying35 rfl (by kernel_rfl) ?_
  refine k_callR (by kernel_rfl) (d := (some 4)) (by kernel_rfl) (f := 50) (args := #[.agg (fps [a0, b0, c0, d0])]) (fun _ => by kernel_rfl) (made_c) (fun _ w2 ⟨n2, he2, hge2, ⟨T2, F2⟩, hb2⟩ => ⟨_, he2, K1.go hb2, ?_⟩)
  have K2 := K1.go hb2
  have R2_0 : w.heap.size < W0.heap.size := (by obtain ⟨T, h⟩ := K1.at 0 rfl; exact lt_of_heap h)
  have Z2 : w.heap.size ≤ W0.heap.size := K1.nb.size
  have L2 := hb2.size
  have S2 := lt_of_heap F2
  refine k_call (by kernel_rfl) (d := (some 5)) (by kernel_rfl) (f := 70) (args := #[.pointer (some ⟨n2, 0, none⟩)]) (v := .bool false) (fun _ => by kernel_rfl) (onCP0 (hm.nb K2.nb) (Nat.le_trans hg K2.nb.size) (hd.nb K2.nb) (row_low F2 hl hX.out hY.out).atL h) (fun w3 hb3 => ⟨K2.go hb3, ?_⟩)
  have K3 := K2.go hb3
  have G3_10 := nb_heap F2 _ hb3
  have L3 := hb3.size
  refine k_pure (by kernel_rfl) (d := (some 2)) (by kernel_rfl) (v := .bool false) (fun _ => by kernel_rfl) ?_
  have K4 : Kept w [(w.heap.size, (fps [a0, b0, c0, d0])), (n2, (fps [a0, b0, c0, d0]))] [] w3 := Kept.zero K3.nb (rowsC (K3.at 0 rfl) (rowsC ⟨_, G3_10⟩ rows0))
  clear F2 G3_10
  refine k_end ?_
  go_simp
  go_wp2_with fail
  exact bodyPost_ret_by (by kernel_rfl) (by kernel_rfl) ⟨rfl, K4.nb⟩

set_option maxRecDepth 100000 in
set_option maxHeartbeats 1000000 in
theorem implOnB1 {w : World} {a0 b0 c0 d0 : Nat} {x y : Zq} (hm : ModW w) (hg : 5 ≤ w.heap.size) (hd : AtZ w 0 0 dd) (hX : Hid (x = ⟨zp a0, zp b0⟩)) (hY : Hid (y = ⟨zp c0, zp d0⟩)) (hl : lowAll [a0, b0, c0, d0] = true) (h : OnC x y) :
    Calls Tryd.prog 37 #[.agg (fps [a0, b0, c0, d0])] w fun e w' => e = .returned (.bool true) ∧ Below w.heap.size w w' := by
  go_enter Tryd.func37, Tryd.ntmps37
  go_upto_region 1 with (fail)
  refine wp_gen (fun WW => Kept w [(w.heap.size, (fps [a0, b0, c0, d0]))] [] WW) (Kept.zero (nb_alloc (Below.refl _ _) _) (rowsC (row_as (hp1_0 (w := w) _) (by kernel_rfl)) rows0)) ?_
  intro W0 K0
  have K1 : Kept w [(w.heap.size, (fps [a0, b0, c0, d0]))] [] W0 := Kept.mks K0.nb (rowsC (K0.at 0 rfl) rows0) rooms0
  refine wp_seq_atS (opsAt Tryd.f37 1) ((true, 0) :: (false, 1) :: (false, 2) :: (true, 3) :: []) (Kept w [(w.heap.size, (fps [a0, b0, c0, d0]))] []) (by kernel_rfl) (by kernel_rfl) K1 ?_
  refine k_row (by kernel_rfl) (d := (some 3)) (by kernel_rfl) (ty := 35) (x := (.tmp 1)) (by kernel_rfl) (b := w.heap.size) (by kernel_rfl) (cs := (fps [a0, b0, c0, d0])) (fun _ hs => hs.at 0 rfl) Tryd.underlying35 rfl (by kernel_rfl) ?_
  refine k_callR (by kernel_rfl) (d := (some 4)) (by kernel_rfl) (f := 50) (args := #[.agg (fps [a0, b0, c0, d0])]) (fun _ => by kernel_rfl) (made_c) (fun _ w2 ⟨n2, he2, hge2, ⟨T2, F2⟩, hb2⟩ => ⟨_, he2, K1.go hb2, ?_⟩)
  have K2 := K1.go hb2
  have R2_0 : w.heap.size < W0.heap.size := (by obtain ⟨T, h⟩ := K1.at 0 rfl; exact lt_of_heap h)
  have Z2 : w.heap.size ≤ W0.heap.size := K1.nb.size
  have L2 := hb2.size
  have S2 := lt_of_heap F2
  refine k_call (by kernel_rfl) (d := (some 5)) (by kernel_rfl) (f := 70) (args := #[.pointer (some ⟨n2, 0, none⟩)]) (v := .bool true) (fun _ => by kernel_rfl) (onCP1 (hm.nb K2.nb) (Nat.le_trans hg K2.nb.size) (hd.nb K2.nb) (row_low F2 hl hX.out hY.out).atL h) (fun w3 hb3 => ⟨K2.go hb3, ?_⟩)
  have K3 := K2.go hb3
  have G3_10 := nb_heap F2 _ hb3
  have L3 := hb3.size
  refine k_pure (by kernel_rfl) (d := (some 2)) (by kernel_rfl) (v := .bool true) (fun _ => by kernel_rfl) ?_
  have K4 : Kept w [(w.heap.size, (fps [a0, b0, c0, d0])), (n2, (fps [a0, b0, c0, d0]))] [] w3 := Kept.zero K3.nb (rowsC (K3.at 0 rfl) (rowsC ⟨_, G3_10⟩ rows0))
  clear F2 G3_10
  refine k_end ?_
  go_simp
  go_wp2_with fail
  exact bodyPost_ret_by (by kernel_rfl) (by kernel_rfl) ⟨rfl, K4.nb⟩

set_option maxRecDepth 100000 in
set_option maxHeartbeats 1000000 in
theorem base_tt {w : World} {a0 b0 c0 d0 da db : Nat} {x y gx gy D : Zq} (hm : ModW w) (hg : 5 ≤ w.heap.size) (hd : AtZ w 0 0 dd) (hx : AtZ w 2 0 gx) (hy : AtZ w 3 0 gy) (ho : ∃ T, w.heap[1]? = some (.cells #[.int .u64 3436901888089820391, .int .u64 16122042576031152537, .int .u64 17317351579400803557, .int .u64 11764505149049458] T (0, 0))) (hv : ∃ T, w.heap[0]? = some (.cells (fps [da, db]) T (0, 0))) (hda : LowB da) (hdb : LowB db) (hza : zp da = D.re) (hzb : zp db = D.im) (hgx : gxx = gx) (hgy : gyy = gy) (hdd : dd = D) (hon : OnC x y) (ha0 : a0 < 256 ^ 16) (hb0 : b0 < 256 ^ 16) (hc0 : c0 < 256 ^ 16) (hd0 : d0 < 256 ^ 16) (hl : lowAll [a0, b0, c0, d0] = true) (hxx : x = ⟨zp a0, zp b0⟩) (hyy : y = ⟨zp c0, zp d0⟩) :
    Calls Tryd.prog 7 #[.agg (fps [a0, b0, c0, d0])] w fun e w' => e = .returned (.bool true) ∧ Below w.heap.size w w' := by
  have HXX := Lib.hid hxx; have HYY := Lib.hid hyy
  clear hxx hyy
  have HX := Lib.hid hgx; have HY := Lib.hid hgy; have HD := Lib.hid hdd
  clear hgx hgy hdd
  go_enter Tryd.func7, Tryd.ntmps7
  go_upto_region 1 with (fail)
  refine wp_gen (fun WW => Kept w [(w.heap.size, (fps [a0, b0, c0, d0]))] [] WW) (Kept.zero (nb_alloc (Below.refl _ _) _) (rowsC (row_as (hp1_0 (w := w) _) (by kernel_rfl)) rows0)) ?_
  intro W0 K0
  have K1 : Kept w [(w.heap.size, (fps [a0, b0, c0, d0]))] [] W0 := Kept.mks K0.nb (rowsC (K0.at 0 rfl) rows0) rooms0
  have RK1_0 : w.heap.size < W0.heap.size := (by obtain ⟨T, h⟩ := K0.at 0 rfl; exact lt_of_heap h)
  refine wp_meet (fun a' w' => ∃ p3 p4 : Nat, a' = { tmps := #[.agg (fps [a0, b0, c0, d0]), .pointer (some ⟨w.heap.size, 0, none⟩), .bool false, .pointer (some ⟨p3, 0, none⟩), .pointer (some ⟨p4, 0, none⟩), .pointer (some ⟨w.heap.size, 0, none⟩), .agg (fps [a0, b0]), .agg (dgQ x.re.val x.im.val), .pointer (some ⟨w.heap.size, 32, none⟩), .agg (fps [c0, d0]), .agg (dgQ y.re.val y.im.val), undef, undef, undef, undef, undef, undef, undef, undef, undef, undef, undef, undef, undef, undef, undef, undef, undef, undef, undef, undef, undef, undef, undef, undef, undef, undef, undef, undef, undef, undef, undef, undef, undef, undef, undef, undef, undef, undef, undef, undef, undef], defers := [] } ∧ Kept w [(w.heap.size, (fps [a0, b0, c0, d0])), (p3, (dgQ x.re.val x.im.val)), (p4, (dgQ y.re.val y.im.val))] [] w' ∧ W0.heap.size ≤ p3 ∧ W0.heap.size ≤ p4 ∧ p3 ≠ p4) ?_ ?_
  · refine wp_tree_at (opsAt Tryd.f7 1) (.take 0 (.take 1 (.take 3 (.take 4 (.fork 2 (.fork 5 (.fork 6 (.fork 7 (.fork 8 (.fork 9 .done .nil) .nil) .nil) (.fork 7 (.fork 6 (.fork 8 (.fork 9 .done .nil) .nil) .nil) .nil)) (.fork 6 (.fork 5 (.fork 7 (.fork 8 (.fork 9 .done .nil) .nil) .nil) (.fork 7 (.fork 5 (.fork 8 (.fork 9 .done .nil) .nil) .nil) .nil)) (.fork 7 (.fork 5 (.fork 6 (.fork 8 (.fork 9 .done .nil) .nil) .nil) (.fork 6 (.fork 5 (.fork 8 (.fork 9 .done .nil) .nil) .nil) .nil)) .nil))) (.fork 6 (.fork 2 (.fork 5 (.fork 7 (.fork 8 (.fork 9 .done .nil) .nil) .nil) (.fork 7 (.fork 5 (.fork 8 (.fork 9 .done .nil) .nil) .nil) .nil)) (.fork 7 (.fork 2 (.fork 5 (.fork 8 (.fork 9 .done .nil) .nil) .nil) .nil) .nil)) (.fork 7 (.fork 2 (.fork 5 (.fork 6 (.fork 8 (.fork 9 .done .nil) .nil) .nil) (.fork 6 (.fork 5 (.fork 8 (.fork 9 .done .nil) .nil) .nil) .nil)) (.fork 6 (.fork 2 (.fork 5 (.fork 8 (.fork 9 .done .nil) .nil) .nil) .nil) .nil)) .nil))))))) (Kept w [(w.heap.size, (fps [a0, b0, c0, d0]))] []) (by kernel_rfl) rfl (by kernel_rfl) (by intro c a d v w h; exact absurd h.1 (by simp)) (by kernel_rfl) (by kernel_rfl) K1.drew ?_
    have K2 := K1.drew
    have DK2 : W0.heap.size ≤ W0.drew.heap.size := Nat.le_refl _
    refine t_pure (by kernel_rfl) (d := (some 5)) (by kernel_rfl) (v := .pointer (some ⟨w.heap.size, 0, none⟩)) (fun _ => by kernel_rfl) ?_
    refine t_part (by kernel_rfl) (d := (some 6)) (by kernel_rfl) (ty := 33) (x := (.tmp 5)) (by kernel_rfl) (b := w.heap.size) (off := 0) (by kernel_rfl) (all := (fps [a0, b0, c0, d0])) (cs := (fps [a0, b0])) (fun _ hs => hs.at 0 rfl) (fpsub2 (k := 0) rfl rfl) Tryd.underlying33 rfl (by kernel_rfl) ?_
    refine t_pure (by kernel_rfl) (d := (some 8)) (by kernel_rfl) (v := .pointer (some ⟨w.heap.size, 32, none⟩)) (fun _ => by kernel_rfl) ?_
    refine t_part (by kernel_rfl) (d := (some 9)) (by kernel_rfl) (ty := 33) (x := (.tmp 8)) (by kernel_rfl) (b := w.heap.size) (off := 32) (by kernel_rfl) (all := (fps [a0, b0, c0, d0])) (cs := (fps [c0, d0])) (fun _ hs => hs.at 0 rfl) (fpsub2 (k := 2) rfl rfl) Tryd.underlying33 rfl (by kernel_rfl) ?_
    refine t_call (by kernel_rfl) (d := (some 7)) (by kernel_rfl) (f := 19) (args := #[.agg (fps [a0, b0])]) (v := .agg (dgQ x.re.val x.im.val)) (fun _ => by kernel_rfl) (ofQ_b ha0 hb0 HXX.out) (fun w3 hb3 => ⟨K2.go hb3, ?_⟩) ?_
    · have K3 := K2.go hb3
      have L3 := hb3.size
      refine t_call (by kernel_rfl) (d := (some 10)) (by kernel_rfl) (f := 19) (args := #[.agg (fps [c0, d0])]) (v := .agg (dgQ y.re.val y.im.val)) (fun _ => by kernel_rfl) (ofQ_b hc0 hd0 HYY.out) (fun w4 hb4 => ⟨K3.go hb4, ?_⟩) ?_
      · have K4 := K3.go hb4
        have L4 := hb4.size
        refine t_make (by kernel_rfl) (d := (some 3)) (by kernel_rfl) (v := .pointer (some ⟨w4.heap.size, 0, none⟩)) (w' := w4.alloc (.cells (dgQ 0 0) 39)) (by kernel_rfl) (K4.go ((Below.refl _ _).alloc (Nat.le_refl _) _)) ?_ ?_
        · intro w5 hw5 K5
          have G5_n : w5.heap[w4.heap.size]? = some (.cells (dgQ 0 0) 39 (0, 0)) := hw5 ▸ heap_alloc_new _ _
          have S5 : w4.heap.size < w5.heap.size := lt_of_heap G5_n
          have R5_0 : w.heap.size < w4.heap.size := (by obtain ⟨T, h⟩ := K4.at 0 rfl; exact lt_of_heap h)
          have Z5 : w.heap.size ≤ w4.heap.size := K4.nb.size
          clear hw5
          refine t_make (by kernel_rfl) (d := (some 4)) (by kernel_rfl) (v := .pointer (some ⟨w5.heap.size, 0, none⟩)) (w' := w5.alloc (.cells (dgQ 0 0) 39)) (by kernel_rfl) (K5.go ((Below.refl _ _).alloc (Nat.le_refl _) _)) ?_ ?_
          · intro w6 hw6 K6
            have L6_0 := lt_of_heap G5_n
            have G6_0 : w6.heap[w4.heap.size]? = some (.cells (dgQ 0 0) _ (0, 0)) := hw6 ▸ hp_alloc G5_n _
            have G6_n : w6.heap[w5.heap.size]? = some (.cells (dgQ 0 0) 39 (0, 0)) := hw6 ▸ heap_alloc_new _ _
            have S6 : w5.heap.size < w6.heap.size := lt_of_heap G6_n
            have R6_0 : w.heap.size < w5.heap.size := (by obtain ⟨T, h⟩ := K5.at 0 rfl; exact lt_of_heap h)
            have Z6 : w.heap.size ≤ w5.heap.size := K5.nb.size
            clear hw6
            refine t_store (by kernel_rfl) (d := none) (by kernel_rfl) (ty := 39) (x := (.tmp 3)) (y := (.tmp 7)) (by kernel_rfl) (g := w4.heap.size) (cells := (dgQ x.re.val x.im.val)) (by kernel_rfl) (by kernel_rfl) G6_0 (by kernel_rfl) (by kernel_rfl) (all_dgA _) (K6.puti (n := 16) (by kernel_rfl) (by omega) (neC (by omega) ne0) ns0) ?_ ?_
            · intro w7 hw7 K7
              have G7_s : w7.heap[w4.heap.size]? = some (.cells (dgQ x.re.val x.im.val) _ (0, 0)) := hw7 ▸ setRow_heap _ _ _ _ _ _ G6_0
              have G7_1 : w7.heap[w5.heap.size]? = some (.cells (dgQ 0 0) _ (0, 0)) := hw7 ▸ (setRow_other _ _ _ _ (by omega)).trans G6_n
              have L7 : w6.heap.size ≤ w7.heap.size := by rw [hw7]; exact Nat.le_of_eq (size_setRow _ _ _).symm
              clear hw7
              refine t_store (by kernel_rfl) (d := none) (by kernel_rfl) (ty := 39) (x := (.tmp 4)) (y := (.tmp 10)) (by kernel_rfl) (g := w5.heap.size) (cells := (dgQ y.re.val y.im.val)) (by kernel_rfl) (by kernel_rfl) G7_1 (by kernel_rfl) (by kernel_rfl) (all_dgA _) (K7.puti (n := 16) (by kernel_rfl) (by omega) (neC (by omega) ne0) ns0) ?_ ?_
              · intro w8 hw8 K8
                have G8_s : w8.heap[w5.heap.size]? = some (.cells (dgQ y.re.val y.im.val) _ (0, 0)) := hw8 ▸ setRow_heap _ _ _ _ _ _ G7_1
                have G8_0 : w8.heap[w4.heap.size]? = some (.cells (dgQ x.re.val x.im.val) _ (0, 0)) := hw8 ▸ (setRow_other _ _ _ _ (by omega)).trans G7_s
                have L8 : w7.heap.size ≤ w8.heap.size := by rw [hw8]; exact Nat.le_of_eq (size_setRow _ _ _).symm
                clear hw8
                exact t_done ⟨rfl, w4.heap.size, w5.heap.size, by kernel_rfl, Kept.zero K8.nb (rowsC (K8.at 0 rfl) (rowsC ⟨_, G8_0⟩ (rowsC ⟨_, G8_s⟩ rows0))), (by omega), (by omega), (by omega)⟩
              · -- another
                exact t_nil
            · -- another
              exact t_nil
          · -- another
            exact t_nil
        · -- another
          refine t_make (by kernel_rfl) (d := (some 4)) (by kernel_rfl) (v := .pointer (some ⟨w4.heap.size, 0, none⟩)) (w' := w4.alloc (.cells (dgQ 0 0) 39)) (by kernel_rfl) (K4.go ((Below.refl _ _).alloc (Nat.le_refl _) _)) ?_ ?_
          · intro w9 hw9 K9
            have G9_n : w9.heap[w4.heap.size]? = some (.cells (dgQ 0 0) 39 (0, 0)) := hw9 ▸ heap_alloc_new _ _
            have S9 : w4.heap.size < w9.heap.size := lt_of_heap G9_n
            have R9_0 : w.heap.size < w4.heap.size := (by obtain ⟨T, h⟩ := K4.at 0 rfl; exact lt_of_heap h)
            have Z9 : w.heap.size ≤ w4.heap.size := K4.nb.size
            clear hw9
            refine t_make (by kernel_rfl) (d := (some 3)) (by kernel_rfl) (v := .pointer (some ⟨w9.heap.size, 0, none⟩)) (w' := w9.alloc (.cells (dgQ 0 0) 39)) (by kernel_rfl) (K9.go ((Below.refl _ _).alloc (Nat.le_refl _) _)) ?_ ?_
            · intro w10 hw10 K10
              have L10_0 := lt_of_heap G9_n
              have G10_0 : w10.heap[w4.heap.size]? = some (.cells (dgQ 0 0) _ (0, 0)) := hw10 ▸ hp_alloc G9_n _
              have G10_n : w10.heap[w9.heap.size]? = some (.cells (dgQ 0 0) 39 (0, 0)) := hw10 ▸ heap_alloc_new _ _
              have S10 : w9.heap.size < w10.heap.size := lt_of_heap G10_n
              have R10_0 : w.heap.size < w9.heap.size := (by obtain ⟨T, h⟩ := K9.at 0 rfl; exact lt_of_heap h)
              have Z10 : w.heap.size ≤ w9.heap.size := K9.nb.size
              clear hw10
              refine t_store (by kernel_rfl) (d := none) (by kernel_rfl) (ty := 39) (x := (.tmp 3)) (y := (.tmp 7)) (by kernel_rfl) (g := w9.heap.size) (cells := (dgQ x.re.val x.im.val)) (by kernel_rfl) (by kernel_rfl) G10_n (by kernel_rfl) (by kernel_rfl) (all_dgA _) (K10.puti (n := 16) (by kernel_rfl) (by omega) (neC (by omega) ne0) ns0) ?_ ?_
              · intro w11 hw11 K11
                have G11_s : w11.heap[w9.heap.size]? = some (.cells (dgQ x.re.val x.im.val) _ (0, 0)) := hw11 ▸ setRow_heap _ _ _ _ _ _ G10_n
                have G11_0 : w11.heap[w4.heap.size]? = some (.cells (dgQ 0 0) _ (0, 0)) := hw11 ▸ (setRow_other _ _ _ _ (by omega)).trans G10_0
                have L11 : w10.heap.size ≤ w11.heap.size := by rw [hw11]; exact Nat.le_of_eq (size_setRow _ _ _).symm
                clear hw11
                refine t_store (by kernel_rfl) (d := none) (by kernel_rfl) (ty := 39) (x := (.tmp 4)) (y := (.tmp 10)) (by kernel_rfl) (g := w4.heap.size) (cells := (dgQ y.re.val y.im.val)) (by kernel_rfl) (by kernel_rfl) G11_0 (by kernel_rfl) (by kernel_rfl) (all_dgA _) (K11.puti (n := 16) (by kernel_rfl) (by omega) (neC (by omega) ne0) ns0) ?_ ?_
                · intro w12 hw12 K12
                  have G12_s : w12.heap[w4.heap.size]? = some (.cells (dgQ y.re.val y.im.val) _ (0, 0)) := hw12 ▸ setRow_heap _ _ _ _ _ _ G11_0
                  have G12_1 : w12.heap[w9.heap.size]? = some (.cells (dgQ x.re.val x.im.val) _ (0, 0)) := hw12 ▸ (setRow_other _ _ _ _ (by omega)).trans G11_s
                  have L12 : w11.heap.size ≤ w12.heap.size := by rw [hw12]; exact Nat.le_of_eq (size_setRow _ _ _).symm
                  clear hw12
                  exact t_done ⟨rfl, w9.heap.size, w4.heap.size, by kernel_rfl, Kept.zero K12.nb (rowsC (K12.at 0 rfl) (rowsC ⟨_, G12_1⟩ (rowsC ⟨_, G12_s⟩ rows0))), (by omega), (by omega), (by omega)⟩
                · -- another
                  exact t_nil
              · -- another
                exact t_nil
            · -- another
              exact t_nil
          · -- another
            exact t_nil
      · -- another
        refine t_make (by kernel_rfl) (d := (some 3)) (by kernel_rfl) (v := .pointer (some ⟨w3.heap.size, 0, none⟩)) (w' := w3.alloc (.cells (dgQ 0 0) 39)) (by kernel_rfl) (K3.go ((Below.refl _ _).alloc (Nat.le_refl _) _)) ?_ ?_
        · intro w13 hw13 K13
          have G13_n : w13.heap[w3.heap.size]? = some (.cells (dgQ 0 0) 39 (0, 0)) := hw13 ▸ heap_alloc_new _ _
          have S13 : w3.heap.size < w13.heap.size := lt_of_heap G13_n
          have R13_0 : w.heap.size < w3.heap.size := (by obtain ⟨T, h⟩ := K3.at 0 rfl; exact lt_of_heap h)
          have Z13 : w.heap.size ≤ w3.heap.size := K3.nb.size
          clear hw13
          refine t_call (by kernel_rfl) (d := (some 10)) (by kernel_rfl) (f := 19) (args := #[.agg (fps [c0, d0])]) (v := .agg (dgQ y.re.val y.im.val)) (fun _ => by kernel_rfl) (ofQ_b hc0 hd0 HYY.out) (fun w14 hb14 => ⟨K13.go hb14, ?_⟩) ?_
          · have K14 := K13.go hb14
            have G14_10 := nb_heap G13_n _ hb14
            have L14 := hb14.size
            refine t_make (by kernel_rfl) (d := (some 4)) (by kernel_rfl) (v := .pointer (some ⟨w14.heap.size, 0, none⟩)) (w' := w14.alloc (.cells (dgQ 0 0) 39)) (by kernel_rfl) (K14.go ((Below.refl _ _).alloc (Nat.le_refl _) _)) ?_ ?_
            · intro w15 hw15 K15
              have L15_0 := lt_of_heap G14_10
              have G15_0 : w15.heap[w3.heap.size]? = some (.cells (dgQ 0 0) _ (0, 0)) := hw15 ▸ hp_alloc G14_10 _
              have G15_n : w15.heap[w14.heap.size]? = some (.cells (dgQ 0 0) 39 (0, 0)) := hw15 ▸ heap_alloc_new _ _
              have S15 : w14.heap.size < w15.heap.size := lt_of_heap G15_n
              have R15_0 : w.heap.size < w14.heap.size := (by obtain ⟨T, h⟩ := K14.at 0 rfl; exact lt_of_heap h)
              have Z15 : w.heap.size ≤ w14.heap.size := K14.nb.size
              clear hw15
              refine t_store (by kernel_rfl) (d := none) (by kernel_rfl) (ty := 39) (x := (.tmp 3)) (y := (.tmp 7)) (by kernel_rfl) (g := w3.heap.size) (cells := (dgQ x.re.val x.im.val)) (by kernel_rfl) (by kernel_rfl) G15_0 (by kernel_rfl) (by kernel_rfl) (all_dgA _) (K15.puti (n := 16) (by kernel_rfl) (by omega) (neC (by omega) ne0) ns0) ?_ ?_
              · intro w16 hw16 K16
                have G16_s : w16.heap[w3.heap.size]? = some (.cells (dgQ x.re.val x.im.val) _ (0, 0)) := hw16 ▸ setRow_heap _ _ _ _ _ _ G15_0
                have G16_1 : w16.heap[w14.heap.size]? = some (.cells (dgQ 0 0) _ (0, 0)) := hw16 ▸ (setRow_other _ _ _ _ (by omega)).trans G15_n
                have L16 : w15.heap.size ≤ w16.heap.size := by rw [hw16]; exact Nat.le_of_eq (size_setRow _ _ _).symm
                clear hw16
                refine t_store (by kernel_rfl) (d := none) (by kernel_rfl) (ty := 39) (x := (.tmp 4)) (y := (.tmp 10)) (by kernel_rfl) (g := w14.heap.size) (cells := (dgQ y.re.val y.im.val)) (by kernel_rfl) (by kernel_rfl) G16_1 (by kernel_rfl) (by kernel_rfl) (all_dgA _) (K16.puti (n := 16) (by kernel_rfl) (by omega) (neC (by omega) ne0) ns0) ?_ ?_
                · intro w17 hw17 K17
                  have G17_s : w17.heap[w14.heap.size]? = some (.cells (dgQ y.re.val y.im.val) _ (0, 0)) := hw17 ▸ setRow_heap _ _ _ _ _ _ G16_1
                  have G17_0 : w17.heap[w3.heap.size]? = some (.cells (dgQ x.re.val x.im.val) _ (0, 0)) := hw17 ▸ (setRow_other _ _ _ _ (by omega)).trans G16_s
                  have L17 : w16.heap.size ≤ w17.heap.size := by rw [hw17]; exact Nat.le_of_eq (size_setRow _ _ _).symm
                  clear hw17
                  exact t_done ⟨rfl, w3.heap.size, w14.heap.size, by kernel_rfl, Kept.zero K17.nb (rowsC (K17.at 0 rfl) (rowsC ⟨_, G17_0⟩ (rowsC ⟨_, G17_s⟩ rows0))), (by omega), (by omega), (by omega)⟩
                · -- another
                  exact t_nil
              · -- another
                exact t_nil
            · -- another
              exact t_nil
          · -- another
            refine t_make (by kernel_rfl) (d := (some 4)) (by kernel_rfl) (v := .pointer (some ⟨w13.heap.size, 0, none⟩)) (w' := w13.alloc (.cells (dgQ 0 0) 39)) (by kernel_rfl) (K13.go ((Below.refl _ _).alloc (Nat.le_refl _) _)) ?_ ?_
            · intro w18 hw18 K18
              have L18_0 := lt_of_heap G13_n
              have G18_0 : w18.heap[w3.heap.size]? = some (.cells (dgQ 0 0) _ (0, 0)) := hw18 ▸ hp_alloc G13_n _
              have G18_n : w18.heap[w13.heap.size]? = some (.cells (dgQ 0 0) 39 (0, 0)) := hw18 ▸ heap_alloc_new _ _
              have S18 : w13.heap.size < w18.heap.size := lt_of_heap G18_n
              have R18_0 : w.heap.size < w13.heap.size := (by obtain ⟨T, h⟩ := K13.at 0 rfl; exact lt_of_heap h)
              have Z18 : w.heap.size ≤ w13.heap.size := K13.nb.size
              clear hw18
              refine t_call (by kernel_rfl) (d := (some 10)) (by kernel_rfl) (f := 19) (args := #[.agg (fps [c0, d0])]) (v := .agg (dgQ y.re.val y.im.val)) (fun _ => by kernel_rfl) (ofQ_b hc0 hd0 HYY.out) (fun w19 hb19 => ⟨K18.go hb19, ?_⟩) ?_
              · have K19 := K18.go hb19
                have G19_20 := nb_heap G18_0 _ hb19
                have G19_21 := nb_heap G18_n _ hb19
                have L19 := hb19.size
                refine t_store (by kernel_rfl) (d := none) (by kernel_rfl) (ty := 39) (x := (.tmp 3)) (y := (.tmp 7)) (by kernel_rfl) (g := w3.heap.size) (cells := (dgQ x.re.val x.im.val)) (by kernel_rfl) (by kernel_rfl) G19_20 (by kernel_rfl) (by kernel_rfl) (all_dgA _) (K19.puti (n := 16) (by kernel_rfl) (by omega) (neC (by omega) ne0) ns0) ?_ ?_
                · intro w20 hw20 K20
                  have G20_s : w20.heap[w3.heap.size]? = some (.cells (dgQ x.re.val x.im.val) _ (0, 0)) := hw20 ▸ setRow_heap _ _ _ _ _ _ G19_20
                  have G20_1 : w20.heap[w13.heap.size]? = some (.cells (dgQ 0 0) _ (0, 0)) := hw20 ▸ (setRow_other _ _ _ _ (by omega)).trans G19_21
                  have L20 : w19.heap.size ≤ w20.heap.size := by rw [hw20]; exact Nat.le_of_eq (size_setRow _ _ _).symm
                  clear hw20
                  refine t_store (by kernel_rfl) (d := none) (by kernel_rfl) (ty := 39) (x := (.tmp 4)) (y := (.tmp 10)) (by kernel_rfl) (g := w13.heap.size) (cells := (dgQ y.re.val y.im.val)) (by kernel_rfl) (by kernel_rfl) G20_1 (by kernel_rfl) (by kernel_rfl) (all_dgA _) (K20.puti (n := 16) (by kernel_rfl) (by omega) (neC (by omega) ne0) ns0) ?_ ?_
                  · intro w21 hw21 K21
                    have G21_s : w21.heap[w13.heap.size]? = some (.cells (dgQ y.re.val y.im.val) _ (0, 0)) := hw21 ▸ setRow_heap _ _ _ _ _ _ G20_1
                    have G21_0 : w21.heap[w3.heap.size]? = some (.cells (dgQ x.re.val x.im.val) _ (0, 0)) := hw21 ▸ (setRow_other _ _ _ _ (by omega)).trans G20_s
                    have L21 : w20.heap.size ≤ w21.heap.size := by rw [hw21]; exact Nat.le_of_eq (size_setRow _ _ _).symm
                    clear hw21
                    exact t_done ⟨rfl, w3.heap.size, w13.heap.size, by kernel_rfl, Kept.zero K21.nb (rowsC (K21.at 0 rfl) (rowsC ⟨_, G21_0⟩ (rowsC ⟨_, G21_s⟩ rows0))), (by omega), (by omega), (by omega)⟩
                  · -- another
                    exact t_nil
                · -- another
                  exact t_nil
              · -- another
                exact t_nil
            · -- another
              exact t_nil
        · -- another
          refine t_make (by kernel_rfl) (d := (some 4)) (by kernel_rfl) (v := .pointer (some ⟨w3.heap.size, 0, none⟩)) (w' := w3.alloc (.cells (dgQ 0 0) 39)) (by kernel_rfl) (K3.go ((Below.refl _ _).alloc (Nat.le_refl _) _)) ?_ ?_
          · intro w22 hw22 K22
            have G22_n : w22.heap[w3.heap.size]? = some (.cells (dgQ 0 0) 39 (0, 0)) := hw22 ▸ heap_alloc_new _ _
            have S22 : w3.heap.size < w22.heap.size := lt_of_heap G22_n
            have R22_0 : w.heap.size < w3.heap.size := (by obtain ⟨T, h⟩ := K3.at 0 rfl; exact lt_of_heap h)
            have Z22 : w.heap.size ≤ w3.heap.size := K3.nb.size
            clear hw22
            refine t_call (by kernel_rfl) (d := (some 10)) (by kernel_rfl) (f := 19) (args := #[.agg (fps [c0, d0])]) (v := .agg (dgQ y.re.val y.im.val)) (fun _ => by kernel_rfl) (ofQ_b hc0 hd0 HYY.out) (fun w23 hb23 => ⟨K22.go hb23, ?_⟩) ?_
            · have K23 := K22.go hb23
              have G23_10 := nb_heap G22_n _ hb23
              have L23 := hb23.size
              refine t_make (by kernel_rfl) (d := (some 3)) (by kernel_rfl) (v := .pointer (some ⟨w23.heap.size, 0, none⟩)) (w' := w23.alloc (.cells (dgQ 0 0) 39)) (by kernel_rfl) (K23.go ((Below.refl _ _).alloc (Nat.le_refl _) _)) ?_ ?_
              · intro w24 hw24 K24
                have L24_0 := lt_of_heap G23_10
                have G24_0 : w24.heap[w3.heap.size]? = some (.cells (dgQ 0 0) _ (0, 0)) := hw24 ▸ hp_alloc G23_10 _
                have G24_n : w24.heap[w23.heap.size]? = some (.cells (dgQ 0 0) 39 (0, 0)) := hw24 ▸ heap_alloc_new _ _
                have S24 : w23.heap.size < w24.heap.size := lt_of_heap G24_n
                have R24_0 : w.heap.size < w23.heap.size := (by obtain ⟨T, h⟩ := K23.at 0 rfl; exact lt_of_heap h)
                have Z24 : w.heap.size ≤ w23.heap.size := K23.nb.size
                clear hw24
                refine t_store (by kernel_rfl) (d := none) (by kernel_rfl) (ty := 39) (x := (.tmp 3)) (y := (.tmp 7)) (by kernel_rfl) (g := w23.heap.size) (cells := (dgQ x.re.val x.im.val)) (by kernel_rfl) (by kernel_rfl) G24_n (by kernel_rfl) (by kernel_rfl) (all_dgA _) (K24.puti (n := 16) (by kernel_rfl) (by omega) (neC (by omega) ne0) ns0) ?_ ?_
                · intro w25 hw25 K25
                  have G25_s : w25.heap[w23.heap.size]? = some (.cells (dgQ x.re.val x.im.val) _ (0, 0)) := hw25 ▸ setRow_heap _ _ _ _ _ _ G24_n
                  have G25_0 : w25.heap[w3.heap.size]? = some (.cells (dgQ 0 0) _ (0, 0)) := hw25 ▸ (setRow_other _ _ _ _ (by omega)).trans G24_0
                  have L25 : w24.heap.size ≤ w25.heap.size := by rw [hw25]; exact Nat.le_of_eq (size_setRow _ _ _).symm
                  clear hw25
                  refine t_store (by kernel_rfl) (d := none) (by kernel_rfl) (ty := 39) (x := (.tmp 4)) (y := (.tmp 10)) (by kernel_rfl) (g := w3.heap.size) (cells := (dgQ y.re.val y.im.val)) (by kernel_rfl) (by kernel_rfl) G25_0 (by kernel_rfl) (by kernel_rfl) (all_dgA _) (K25.puti (n := 16) (by kernel_rfl) (by omega) (neC (by omega) ne0) ns0) ?_ ?_
                  · intro w26 hw26 K26
                    have G26_s : w26.heap[w3.heap.size]? = some (.cells (dgQ y.re.val y.im.val) _ (0, 0)) := hw26 ▸ setRow_heap _ _ _ _ _ _ G25_0
                    have G26_1 : w26.heap[w23.heap.size]? = some (.cells (dgQ x.re.val x.im.val) _ (0, 0)) := hw26 ▸ (setRow_other _ _ _ _ (by omega)).trans G25_s
                    have L26 : w25.heap.size ≤ w26.heap.size := by rw [hw26]; exact Nat.le_of_eq (size_setRow _ _ _).symm
                    clear hw26
                    exact t_done ⟨rfl, w23.heap.size, w3.heap.size, by kernel_rfl, Kept.zero K26.nb (rowsC (K26.at 0 rfl) (rowsC ⟨_, G26_1⟩ (rowsC ⟨_, G26_s⟩ rows0))), (by omega), (by omega), (by omega)⟩
                  · -- another
                    exact t_nil
                · -- another
                  exact t_nil
              · -- another
                exact t_nil
            · -- another
              refine t_make (by kernel_rfl) (d := (some 3)) (by kernel_rfl) (v := .pointer (some ⟨w22.heap.size, 0, none⟩)) (w' := w22.alloc (.cells (dgQ 0 0) 39)) (by kernel_rfl) (K22.go ((Below.refl _ _).alloc (Nat.le_refl _) _)) ?_ ?_
              · intro w27 hw27 K27
                have L27_0 := lt_of_heap G22_n
                have G27_0 : w27.heap[w3.heap.size]? = some (.cells (dgQ 0 0) _ (0, 0)) := hw27 ▸ hp_alloc G22_n _
                have G27_n : w27.heap[w22.heap.size]? = some (.cells (dgQ 0 0) 39 (0, 0)) := hw27 ▸ heap_alloc_new _ _
                have S27 : w22.heap.size < w27.heap.size := lt_of_heap G27_n
                have R27_0 : w.heap.size < w22.heap.size := (by obtain ⟨T, h⟩ := K22.at 0 rfl; exact lt_of_heap h)
                have Z27 : w.heap.size ≤ w22.heap.size := K22.nb.size
                clear hw27
                refine t_call (by kernel_rfl) (d := (some 10)) (by kernel_rfl) (f := 19) (args := #[.agg (fps [c0, d0])]) (v := .agg (dgQ y.re.val y.im.val)) (fun _ => by kernel_rfl) (ofQ_b hc0 hd0 HYY.out) (fun w28 hb28 => ⟨K27.go hb28, ?_⟩) ?_
                · have K28 := K27.go hb28
                  have G28_20 := nb_heap G27_0 _ hb28
                  have G28_21 := nb_heap G27_n _ hb28
                  have L28 := hb28.size
                  refine t_store (by kernel_rfl) (d := none) (by kernel_rfl) (ty := 39) (x := (.tmp 3)) (y := (.tmp 7)) (by kernel_rfl) (g := w22.heap.size) (cells := (dgQ x.re.val x.im.val)) (by kernel_rfl) (by kernel_rfl) G28_21 (by kernel_rfl) (by kernel_rfl) (all_dgA _) (K28.puti (n := 16) (by kernel_rfl) (by omega) (neC (by omega) ne0) ns0) ?_ ?_
                  · intro w29 hw29 K29
                    have G29_s : w29.heap[w22.heap.size]? = some (.cells (dgQ x.re.val x.im.val) _ (0, 0)) := hw29 ▸ setRow_heap _ _ _ _ _ _ G28_21
                    have G29_0 : w29.heap[w3.heap.size]? = some (.cells (dgQ 0 0) _ (0, 0)) := hw29 ▸ (setRow_other _ _ _ _ (by omega)).trans G28_20
                    have L29 : w28.heap.size ≤ w29.heap.size := by rw [hw29]; exact Nat.le_of_eq (size_setRow _ _ _).symm
                    clear hw29
                    refine t_store (by kernel_rfl) (d := none) (by kernel_rfl) (ty := 39) (x := (.tmp 4)) (y := (.tmp 10)) (by kernel_rfl) (g := w3.heap.size) (cells := (dgQ y.re.val y.im.val)) (by kernel_rfl) (by kernel_rfl) G29_0 (by kernel_rfl) (by kernel_rfl) (all_dgA _) (K29.puti (n := 16) (by kernel_rfl) (by omega) (neC (by omega) ne0) ns0) ?_ ?_
                    · intro w30 hw30 K30
                      have G30_s : w30.heap[w3.heap.size]? = some (.cells (dgQ y.re.val y.im.val) _ (0, 0)) := hw30 ▸ setRow_heap _ _ _ _ _ _ G29_0
                      have G30_1 : w30.heap[w22.heap.size]? = some (.cells (dgQ x.re.val x.im.val) _ (0, 0)) := hw30 ▸ (setRow_other _ _ _ _ (by omega)).trans G29_s
                      have L30 : w29.heap.size ≤ w30.heap.size := by rw [hw30]; exact Nat.le_of_eq (size_setRow _ _ _).symm
                      clear hw30
                      exact t_done ⟨rfl, w22.heap.size, w3.heap.size, by kernel_rfl, Kept.zero K30.nb (rowsC (K30.at 0 rfl) (rowsC ⟨_, G30_1⟩ (rowsC ⟨_, G30_s⟩ rows0))), (by omega), (by omega), (by omega)⟩
                    · -- another
                      exact t_nil
                  · -- another
                    exact t_nil
                · -- another
                  exact t_nil
              · -- another
                exact t_nil
          · -- another
            exact t_nil
    · -- another
      refine t_make (by kernel_rfl) (d := (some 3)) (by kernel_rfl) (v := .pointer (some ⟨W0.drew.heap.size, 0, none⟩)) (w' := W0.drew.alloc (.cells (dgQ 0 0) 39)) (by kernel_rfl) (K2.go ((Below.refl _ _).alloc (Nat.le_refl _) _)) ?_ ?_
      · intro w31 hw31 K31
        have G31_n : w31.heap[W0.drew.heap.size]? = some (.cells (dgQ 0 0) 39 (0, 0)) := hw31 ▸ heap_alloc_new _ _
        have S31 : W0.drew.heap.size < w31.heap.size := lt_of_heap G31_n
        have R31_0 : w.heap.size < W0.drew.heap.size := (by obtain ⟨T, h⟩ := K2.at 0 rfl; exact lt_of_heap h)
        have Z31 : w.heap.size ≤ W0.drew.heap.size := K2.nb.size
        clear hw31
        refine t_call (by kernel_rfl) (d := (some 7)) (by kernel_rfl) (f := 19) (args := #[.agg (fps [a0, b0])]) (v := .agg (dgQ x.re.val x.im.val)) (fun _ => by kernel_rfl) (ofQ_b ha0 hb0 HXX.out) (fun w32 hb32 => ⟨K31.go hb32, ?_⟩) ?_
        · have K32 := K31.go hb32
          have G32_10 := nb_heap G31_n _ hb32
          have L32 := hb32.size
          refine t_call (by kernel_rfl) (d := (some 10)) (by kernel_rfl) (f := 19) (args := #[.agg (fps [c0, d0])]) (v := .agg (dgQ y.re.val y.im.val)) (fun _ => by kernel_rfl) (ofQ_b hc0 hd0 HYY.out) (fun w33 hb33 => ⟨K32.go hb33, ?_⟩) ?_
          · have K33 := K32.go hb33
            have G33_10 := nb_heap G32_10 _ hb33
            have L33 := hb33.size
            refine t_make (by kernel_rfl) (d := (some 4)) (by kernel_rfl) (v := .pointer (some ⟨w33.heap.size, 0, none⟩)) (w' := w33.alloc (.cells (dgQ 0 0) 39)) (by kernel_rfl) (K33.go ((Below.refl _ _).alloc (Nat.le_refl _) _)) ?_ ?_
            · intro w34 hw34 K34
              have L34_0 := lt_of_heap G33_10
              have G34_0 : w34.heap[W0.drew.heap.size]? = some (.cells (dgQ 0 0) _ (0, 0)) := hw34 ▸ hp_alloc G33_10 _
              have G34_n : w34.heap[w33.heap.size]? = some (.cells (dgQ 0 0) 39 (0, 0)) := hw34 ▸ heap_alloc_new _ _
              have S34 : w33.heap.size < w34.heap.size := lt_of_heap G34_n
              have R34_0 : w.heap.size < w33.heap.size := (by obtain ⟨T, h⟩ := K33.at 0 rfl; exact lt_of_heap h)
              have Z34 : w.heap.size ≤ w33.heap.size := K33.nb.size
              clear hw34
              refine t_store (by kernel_rfl) (d := none) (by kernel_rfl) (ty := 39) (x := (.tmp 3)) (y := (.tmp 7)) (by kernel_rfl) (g := W0.drew.heap.size) (cells := (dgQ x.re.val x.im.val)) (by kernel_rfl) (by kernel_rfl) G34_0 (by kernel_rfl) (by kernel_rfl) (all_dgA _) (K34.puti (n := 16) (by kernel_rfl) (by omega) (neC (by omega) ne0) ns0) ?_ ?_
              · intro w35 hw35 K35
                have G35_s : w35.heap[W0.drew.heap.size]? = some (.cells (dgQ x.re.val x.im.val) _ (0, 0)) := hw35 ▸ setRow_heap _ _ _ _ _ _ G34_0
                have G35_1 : w35.heap[w33.heap.size]? = some (.cells (dgQ 0 0) _ (0, 0)) := hw35 ▸ (setRow_other _ _ _ _ (by omega)).trans G34_n
                have L35 : w34.heap.size ≤ w35.heap.size := by rw [hw35]; exact Nat.le_of_eq (size_setRow _ _ _).symm
                clear hw35
                refine t_store (by kernel_rfl) (d := none) (by kernel_rfl) (ty := 39) (x := (.tmp 4)) (y := (.tmp 10)) (by kernel_rfl) (g := w33.heap.size) (cells := (dgQ y.re.val y.im.val)) (by kernel_rfl) (by kernel_rfl) G35_1 (by kernel_rfl) (by kernel_rfl) (all_dgA _) (K35.puti (n := 16) (by kernel_rfl) (by omega) (neC (by omega) ne0) ns0) ?_ ?_
                · intro w36 hw36 K36
                  have G36_s : w36.heap[w33.heap.size]? = some (.cells (dgQ y.re.val y.im.val) _ (0, 0)) := hw36 ▸ setRow_heap _ _ _ _ _ _ G35_1
                  have G36_0 : w36.heap[W0.drew.heap.size]? = some (.cells (dgQ x.re.val x.im.val) _ (0, 0)) := hw36 ▸ (setRow_other _ _ _ _ (by omega)).trans G35_s
                  have L36 : w35.heap.size ≤ w36.heap.size := by rw [hw36]; exact Nat.le_of_eq (size_setRow _ _ _).symm
                  clear hw36
                  exact t_done ⟨rfl, W0.drew.heap.size, w33.heap.size, by kernel_rfl, Kept.zero K36.nb (rowsC (K36.at 0 rfl) (rowsC ⟨_, G36_0⟩ (rowsC ⟨_, G36_s⟩ rows0))), (by omega), (by omega), (by omega)⟩
                · -- another
                  exact t_nil
              · -- another
                exact t_nil
            · -- another
              exact t_nil
          · -- another
            refine t_make (by kernel_rfl) (d := (some 4)) (by kernel_rfl) (v := .pointer (some ⟨w32.heap.size, 0, none⟩)) (w' := w32.alloc (.cells (dgQ 0 0) 39)) (by kernel_rfl) (K32.go ((Below.refl _ _).alloc (Nat.le_refl _) _)) ?_ ?_
            · intro w37 hw37 K37
              have L37_0 := lt_of_heap G32_10
              have G37_0 : w37.heap[W0.drew.heap.size]? = some (.cells (dgQ 0 0) _ (0, 0)) := hw37 ▸ hp_alloc G32_10 _
              have G37_n : w37.heap[w32.heap.size]? = some (.cells (dgQ 0 0) 39 (0, 0)) := hw37 ▸ heap_alloc_new _ _
              have S37 : w32.heap.size < w37.heap.size := lt_of_heap G37_n
              have R37_0 : w.heap.size < w32.heap.size := (by obtain ⟨T, h⟩ := K32.at 0 rfl; exact lt_of_heap h)
              have Z37 : w.heap.size ≤ w32.heap.size := K32.nb.size
              clear hw37
              refine t_call (by kernel_rfl) (d := (some 10)) (by kernel_rfl) (f := 19) (args := #[.agg (fps [c0, d0])]) (v := .agg (dgQ y.re.val y.im.val)) (fun _ => by kernel_rfl) (ofQ_b hc0 hd0 HYY.out) (fun w38 hb38 => ⟨K37.go hb38, ?_⟩) ?_
              · have K38 := K37.go hb38
                have G38_20 := nb_heap G37_0 _ hb38
                have G38_21 := nb_heap G37_n _ hb38
                have L38 := hb38.size
                refine t_store (by kernel_rfl) (d := none) (by kernel_rfl) (ty := 39) (x := (.tmp 3)) (y := (.tmp 7)) (by kernel_rfl) (g := W0.drew.heap.size) (cells := (dgQ x.re.val x.im.val)) (by kernel_rfl) (by kernel_rfl) G38_20 (by kernel_rfl) (by kernel_rfl) (all_dgA _) (K38.puti (n := 16) (by kernel_rfl) (by omega) (neC (by omega) ne0) ns0) ?_ ?_
                · intro w39 hw39 K39
                  have G39_s : w39.heap[W0.drew.heap.size]? = some (.cells (dgQ x.re.val x.im.val) _ (0, 0)) := hw39 ▸ setRow_heap _ _ _ _ _ _ G38_20
                  have G39_1 : w39.heap[w32.heap.size]? = some (.cells (dgQ 0 0) _ (0, 0)) := hw39 ▸ (setRow_other _ _ _ _ (by omega)).trans G38_21
                  have L39 : w38.heap.size ≤ w39.heap.size := by rw [hw39]; exact Nat.le_of_eq (size_setRow _ _ _).symm
                  clear hw39
                  refine t_store (by kernel_rfl) (d := none) (by kernel_rfl) (ty := 39) (x := (.tmp 4)) (y := (.tmp 10)) (by kernel_rfl) (g := w32.heap.size) (cells := (dgQ y.re.val y.im.val)) (by kernel_rfl) (by kernel_rfl) G39_1 (by kernel_rfl) (by kernel_rfl) (all_dgA _) (K39.puti (n := 16) (by kernel_rfl) (by omega) (neC (by omega) ne0) ns0) ?_ ?_
                  · intro w40 hw40 K40
                    have G40_s : w40.heap[w32.heap.size]? = some (.cells (dgQ y.re.val y.im.val) _ (0, 0)) := hw40 ▸ setRow_heap _ _ _ _ _ _ G39_1
                    have G40_0 : w40.heap[W0.drew.heap.size]? = some (.cells (dgQ x.re.val x.im.val) _ (0, 0)) := hw40 ▸ (setRow_other _ _ _ _ (by omega)).trans G39_s
                    have L40 : w39.heap.size ≤ w40.heap.size := by rw [hw40]; exact Nat.le_of_eq (size_setRow _ _ _).symm
                    clear hw40
                    exact t_done ⟨rfl, W0.drew.heap.size, w32.heap.size, by kernel_rfl, Kept.zero K40.nb (rowsC (K40.at 0 rfl) (rowsC ⟨_, G40_0⟩ (rowsC ⟨_, G40_s⟩ rows0))), (by omega), (by omega), (by omega)⟩
                  · -- another
                    exact t_nil
                · -- another
                  exact t_nil
              · -- another
                exact t_nil
            · -- another
              exact t_nil
        · -- another
          refine t_make (by kernel_rfl) (d := (some 4)) (by kernel_rfl) (v := .pointer (some ⟨w31.heap.size, 0, none⟩)) (w' := w31.alloc (.cells (dgQ 0 0) 39)) (by kernel_rfl) (K31.go ((Below.refl _ _).alloc (Nat.le_refl _) _)) ?_ ?_
          · intro w41 hw41 K41
            have L41_0 := lt_of_heap G31_n
            have G41_0 : w41.heap[W0.drew.heap.size]? = some (.cells (dgQ 0 0) _ (0, 0)) := hw41 ▸ hp_alloc G31_n _
            have G41_n : w41.heap[w31.heap.size]? = some (.cells (dgQ 0 0) 39 (0, 0)) := hw41 ▸ heap_alloc_new _ _
            have S41 : w31.heap.size < w41.heap.size := lt_of_heap G41_n
            have R41_0 : w.heap.size < w31.heap.size := (by obtain ⟨T, h⟩ := K31.at 0 rfl; exact lt_of_heap h)
            have Z41 : w.heap.size ≤ w31.heap.size := K31.nb.size
            clear hw41
            refine t_call (by kernel_rfl) (d := (some 7)) (by kernel_rfl) (f := 19) (args := #[.agg (fps [a0, b0])]) (v := .agg (dgQ x.re.val x.im.val)) (fun _ => by kernel_rfl) (ofQ_b ha0 hb0 HXX.out) (fun w42 hb42 => ⟨K41.go hb42, ?_⟩) ?_
            · have K42 := K41.go hb42
              have G42_20 := nb_heap G41_0 _ hb42
              have G42_21 := nb_heap G41_n _ hb42
              have L42 := hb42.size
              refine t_call (by kernel_rfl) (d := (some 10)) (by kernel_rfl) (f := 19) (args := #[.agg (fps [c0, d0])]) (v := .agg (dgQ y.re.val y.im.val)) (fun _ => by kernel_rfl) (ofQ_b hc0 hd0 HYY.out) (fun w43 hb43 => ⟨K42.go hb43, ?_⟩) ?_
              · have K43 := K42.go hb43
                have G43_20 := nb_heap G42_20 _ hb43
                have G43_21 := nb_heap G42_21 _ hb43
                have L43 := hb43.size
                refine t_store (by kernel_rfl) (d := none) (by kernel_rfl) (ty := 39) (x := (.tmp 3)) (y := (.tmp 7)) (by kernel_rfl) (g := W0.drew.heap.size) (cells := (dgQ x.re.val x.im.val)) (by kernel_rfl) (by kernel_rfl) G43_20 (by kernel_rfl) (by kernel_rfl) (all_dgA _) (K43.puti (n := 16) (by kernel_rfl) (by omega) (neC (by omega) ne0) ns0) ?_ ?_
                · intro w44 hw44 K44
                  have G44_s : w44.heap[W0.drew.heap.size]? = some (.cells (dgQ x.re.val x.im.val) _ (0, 0)) := hw44 ▸ setRow_heap _ _ _ _ _ _ G43_20
                  have G44_1 : w44.heap[w31.heap.size]? = some (.cells (dgQ 0 0) _ (0, 0)) := hw44 ▸ (setRow_other _ _ _ _ (by omega)).trans G43_21
                  have L44 : w43.heap.size ≤ w44.heap.size := by rw [hw44]; exact Nat.le_of_eq (size_setRow _ _ _).symm
                  clear hw44
                  refine t_store (by kernel_rfl) (d := none) (by kernel_rfl) (ty := 39) (x := (.tmp 4)) (y := (.tmp 10)) (by kernel_rfl) (g := w31.heap.size) (cells := (dgQ y.re.val y.im.val)) (by kernel_rfl) (by kernel_rfl) G44_1 (by kernel_rfl) (by kernel_rfl) (all_dgA _) (K44.puti (n := 16) (by kernel_rfl) (by omega) (neC (by omega) ne0) ns0) ?_ ?_
                  · intro w45 hw45 K45
                    have G45_s : w45.heap[w31.heap.size]? = some (.cells (dgQ y.re.val y.im.val) _ (0, 0)) := hw45 ▸ setRow_heap _ _ _ _ _ _ G44_1
                    have G45_0 : w45.heap[W0.drew.heap.size]? = some (.cells (dgQ x.re.val x.im.val) _ (0, 0)) := hw45 ▸ (setRow_other _ _ _ _ (by omega)).trans G44_s
                    have L45 : w44.heap.size ≤ w45.heap.size := by rw [hw45]; exact Nat.le_of_eq (size_setRow _ _ _).symm
                    clear hw45
                    exact t_done ⟨rfl, W0.drew.heap.size, w31.heap.size, by kernel_rfl, Kept.zero K45.nb (rowsC (K45.at 0 rfl) (rowsC ⟨_, G45_0⟩ (rowsC ⟨_, G45_s⟩ rows0))), (by omega), (by omega), (by omega)⟩
                  · -- another
                    exact t_nil
                · -- another
                  exact t_nil
              · -- another
                exact t_nil
            · -- another
              exact t_nil
          · -- another
            exact t_nil
      · -- another
        refine t_make (by kernel_rfl) (d := (some 4)) (by kernel_rfl) (v := .pointer (some ⟨W0.drew.heap.size, 0, none⟩)) (w' := W0.drew.alloc (.cells (dgQ 0 0) 39)) (by kernel_rfl) (K2.go ((Below.refl _ _).alloc (Nat.le_refl _) _)) ?_ ?_
        · intro w46 hw46 K46
          have G46_n : w46.heap[W0.drew.heap.size]? = some (.cells (dgQ 0 0) 39 (0, 0)) := hw46 ▸ heap_alloc_new _ _
          have S46 : W0.drew.heap.size < w46.heap.size := lt_of_heap G46_n
          have R46_0 : w.heap.size < W0.drew.heap.size := (by obtain ⟨T, h⟩ := K2.at 0 rfl; exact lt_of_heap h)
          have Z46 : w.heap.size ≤ W0.drew.heap.size := K2.nb.size
          clear hw46
          refine t_call (by kernel_rfl) (d := (some 7)) (by kernel_rfl) (f := 19) (args := #[.agg (fps [a0, b0])]) (v := .agg (dgQ x.re.val x.im.val)) (fun _ => by kernel_rfl) (ofQ_b ha0 hb0 HXX.out) (fun w47 hb47 => ⟨K46.go hb47, ?_⟩) ?_
          · have K47 := K46.go hb47
            have G47_10 := nb_heap G46_n _ hb47
            have L47 := hb47.size
            refine t_call (by kernel_rfl) (d := (some 10)) (by kernel_rfl) (f := 19) (args := #[.agg (fps [c0, d0])]) (v := .agg (dgQ y.re.val y.im.val)) (fun _ => by kernel_rfl) (ofQ_b hc0 hd0 HYY.out) (fun w48 hb48 => ⟨K47.go hb48, ?_⟩) ?_
            · have K48 := K47.go hb48
              have G48_10 := nb_heap G47_10 _ hb48
              have L48 := hb48.size
              refine t_make (by kernel_rfl) (d := (some 3)) (by kernel_rfl) (v := .pointer (some ⟨w48.heap.size, 0, none⟩)) (w' := w48.alloc (.cells (dgQ 0 0) 39)) (by kernel_rfl) (K48.go ((Below.refl _ _).alloc (Nat.le_refl _) _)) ?_ ?_
              · intro w49 hw49 K49
                have L49_0 := lt_of_heap G48_10
                have G49_0 : w49.heap[W0.drew.heap.size]? = some (.cells (dgQ 0 0) _ (0, 0)) := hw49 ▸ hp_alloc G48_10 _
                have G49_n : w49.heap[w48.heap.size]? = some (.cells (dgQ 0 0) 39 (0, 0)) := hw49 ▸ heap_alloc_new _ _
                have S49 : w48.heap.size < w49.heap.size := lt_of_heap G49_n
                have R49_0 : w.heap.size < w48.heap.size := (by obtain ⟨T, h⟩ := K48.at 0 rfl; exact lt_of_heap h)
                have Z49 : w.heap.size ≤ w48.heap.size := K48.nb.size
                clear hw49
                refine t_store (by kernel_rfl) (d := none) (by kernel_rfl) (ty := 39) (x := (.tmp 3)) (y := (.tmp 7)) (by kernel_rfl) (g := w48.heap.size) (cells := (dgQ x.re.val x.im.val)) (by kernel_rfl) (by kernel_rfl) G49_n (by kernel_rfl) (by kernel_rfl) (all_dgA _) (K49.puti (n := 16) (by kernel_rfl) (by omega) (neC (by omega) ne0) ns0) ?_ ?_
                · intro w50 hw50 K50
                  have G50_s : w50.heap[w48.heap.size]? = some (.cells (dgQ x.re.val x.im.val) _ (0, 0)) := hw50 ▸ setRow_heap _ _ _ _ _ _ G49_n
                  have G50_0 : w50.heap[W0.drew.heap.size]? = some (.cells (dgQ 0 0) _ (0, 0)) := hw50 ▸ (setRow_other _ _ _ _ (by omega)).trans G49_0
                  have L50 : w49.heap.size ≤ w50.heap.size := by rw [hw50]; exact Nat.le_of_eq (size_setRow _ _ _).symm
                  clear hw50
                  refine t_store (by kernel_rfl) (d := none) (by kernel_rfl) (ty := 39) (x := (.tmp 4)) (y := (.tmp 10)) (by kernel_rfl) (g := W0.drew.heap.size) (cells := (dgQ y.re.val y.im.val)) (by kernel_rfl) (by kernel_rfl) G50_0 (by kernel_rfl) (by kernel_rfl) (all_dgA _) (K50.puti (n := 16) (by kernel_rfl) (by omega) (neC (by omega) ne0) ns0) ?_ ?_
                  · intro w51 hw51 K51
                    have G51_s : w51.heap[W0.drew.heap.size]? = some (.cells (dgQ y.re.val y.im.val) _ (0, 0)) := hw51 ▸ setRow_heap _ _ _ _ _ _ G50_0
                    have G51_1 : w51.heap[w48.heap.size]? = some (.cells (dgQ x.re.val x.im.val) _ (0, 0)) := hw51 ▸ (setRow_other _ _ _ _ (by omega)).trans G50_s
                    have L51 : w50.heap.size ≤ w51.heap.size := by rw [hw51]; exact Nat.le_of_eq (size_setRow _ _ _).symm
                    clear hw51
                    exact t_done ⟨rfl, w48.heap.size, W0.drew.heap.size, by kernel_rfl, Kept.zero K51.nb (rowsC (K51.at 0 rfl) (rowsC ⟨_, G51_1⟩ (rowsC ⟨_, G51_s⟩ rows0))), (by omega), (by omega), (by omega)⟩
                  · -- another
                    exact t_nil
                · -- another
                  exact t_nil
              · -- another
                exact t_nil
            · -- another
              refine t_make (by kernel_rfl) (d := (some 3)) (by kernel_rfl) (v := .pointer (some ⟨w47.heap.size, 0, none⟩)) (w' := w47.alloc (.cells (dgQ 0 0) 39)) (by kernel_rfl) (K47.go ((Below.refl _ _).alloc (Nat.le_refl _) _)) ?_ ?_
              · intro w52 hw52 K52
                have L52_0 := lt_of_heap G47_10
                have G52_0 : w52.heap[W0.drew.heap.size]? = some (.cells (dgQ 0 0) _ (0, 0)) := hw52 ▸ hp_alloc G47_10 _
                have G52_n : w52.heap[w47.heap.size]? = some (.cells (dgQ 0 0) 39 (0, 0)) := hw52 ▸ heap_alloc_new _ _
                have S52 : w47.heap.size < w52.heap.size := lt_of_heap G52_n
                have R52_0 : w.heap.size < w47.heap.size := (by obtain ⟨T, h⟩ := K47.at 0 rfl; exact lt_of_heap h)
                have Z52 : w.heap.size ≤ w47.heap.size := K47.nb.size
                clear hw52
                refine t_call (by kernel_rfl) (d := (some 10)) (by kernel_rfl) (f := 19) (args := #[.agg (fps [c0, d0])]) (v := .agg (dgQ y.re.val y.im.val)) (fun _ => by kernel_rfl) (ofQ_b hc0 hd0 HYY.out) (fun w53 hb53 => ⟨K52.go hb53, ?_⟩) ?_
                · have K53 := K52.go hb53
                  have G53_20 := nb_heap G52_0 _ hb53
                  have G53_21 := nb_heap G52_n _ hb53
                  have L53 := hb53.size
                  refine t_store (by kernel_rfl) (d := none) (by kernel_rfl) (ty := 39) (x := (.tmp 3)) (y := (.tmp 7)) (by kernel_rfl) (g := w47.heap.size) (cells := (dgQ x.re.val x.im.val)) (by kernel_rfl) (by kernel_rfl) G53_21 (by kernel_rfl) (by kernel_rfl) (all_dgA _) (K53.puti (n := 16) (by kernel_rfl) (by omega) (neC (by omega) ne0) ns0) ?_ ?_
                  · intro w54 hw54 K54
                    have G54_s : w54.heap[w47.heap.size]? = some (.cells (dgQ x.re.val x.im.val) _ (0, 0)) := hw54 ▸ setRow_heap _ _ _ _ _ _ G53_21
                    have G54_0 : w54.heap[W0.drew.heap.size]? = some (.cells (dgQ 0 0) _ (0, 0)) := hw54 ▸ (setRow_other _ _ _ _ (by omega)).trans G53_20
                    have L54 : w53.heap.size ≤ w54.heap.size := by rw [hw54]; exact Nat.le_of_eq (size_setRow _ _ _).symm
                    clear hw54
                    refine t_store (by kernel_rfl) (d := none) (by kernel_rfl) (ty := 39) (x := (.tmp 4)) (y := (.tmp 10)) (by kernel_rfl) (g := W0.drew.heap.size) (cells := (dgQ y.re.val y.im.val)) (by kernel_rfl) (by kernel_rfl) G54_0 (by kernel_rfl) (by kernel_rfl) (all_dgA _) (K54.puti (n := 16) (by kernel_rfl) (by omega) (neC (by omega) ne0) ns0) ?_ ?_
                    · intro w55 hw55 K55
                      have G55_s : w55.heap[W0.drew.heap.size]? = some (.cells (dgQ y.re.val y.im.val) _ (0, 0)) := hw55 ▸ setRow_heap _ _ _ _ _ _ G54_0
                      have G55_1 : w55.heap[w47.heap.size]? = some (.cells (dgQ x.re.val x.im.val) _ (0, 0)) := hw55 ▸ (setRow_other _ _ _ _ (by omega)).trans G54_s
                      have L55 : w54.heap.size ≤ w55.heap.size := by rw [hw55]; exact Nat.le_of_eq (size_setRow _ _ _).symm
                      clear hw55
                      exact t_done ⟨rfl, w47.heap.size, W0.drew.heap.size, by kernel_rfl, Kept.zero K55.nb (rowsC (K55.at 0 rfl) (rowsC ⟨_, G55_1⟩ (rowsC ⟨_, G55_s⟩ rows0))), (by omega), (by omega), (by omega)⟩
                    · -- another
                      exact t_nil
                  · -- another
                    exact t_nil
                · -- another
                  exact t_nil
              · -- another
                exact t_nil
          · -- another
            refine t_make (by kernel_rfl) (d := (some 3)) (by kernel_rfl) (v := .pointer (some ⟨w46.heap.size, 0, none⟩)) (w' := w46.alloc (.cells (dgQ 0 0) 39)) (by kernel_rfl) (K46.go ((Below.refl _ _).alloc (Nat.le_refl _) _)) ?_ ?_
            · intro w56 hw56 K56
              have L56_0 := lt_of_heap G46_n
              have G56_0 : w56.heap[W0.drew.heap.size]? = some (.cells (dgQ 0 0) _ (0, 0)) := hw56 ▸ hp_alloc G46_n _
              have G56_n : w56.heap[w46.heap.size]? = some (.cells (dgQ 0 0) 39 (0, 0)) := hw56 ▸ heap_alloc_new _ _
              have S56 : w46.heap.size < w56.heap.size := lt_of_heap G56_n
              have R56_0 : w.heap.size < w46.heap.size := (by obtain ⟨T, h⟩ := K46.at 0 rfl; exact lt_of_heap h)
              have Z56 : w.heap.size ≤ w46.heap.size := K46.nb.size
              clear hw56
              refine t_call (by kernel_rfl) (d := (some 7)) (by kernel_rfl) (f := 19) (args := #[.agg (fps [a0, b0])]) (v := .agg (dgQ x.re.val x.im.val)) (fun _ => by kernel_rfl) (ofQ_b ha0 hb0 HXX.out) (fun w57 hb57 => ⟨K56.go hb57, ?_⟩) ?_
              · have K57 := K56.go hb57
                have G57_20 := nb_heap G56_0 _ hb57
                have G57_21 := nb_heap G56_n _ hb57
                have L57 := hb57.size
                refine t_call (by kernel_rfl) (d := (some 10)) (by kernel_rfl) (f := 19) (args := #[.agg (fps [c0, d0])]) (v := .agg (dgQ y.re.val y.im.val)) (fun _ => by kernel_rfl) (ofQ_b hc0 hd0 HYY.out) (fun w58 hb58 => ⟨K57.go hb58, ?_⟩) ?_
                · have K58 := K57.go hb58
                  have G58_20 := nb_heap G57_20 _ hb58
                  have G58_21 := nb_heap G57_21 _ hb58
                  have L58 := hb58.size
                  refine t_store (by kernel_rfl) (d := none) (by kernel_rfl) (ty := 39) (x := (.tmp 3)) (y := (.tmp 7)) (by kernel_rfl) (g := w46.heap.size) (cells := (dgQ x.re.val x.im.val)) (by kernel_rfl) (by kernel_rfl) G58_21 (by kernel_rfl) (by kernel_rfl) (all_dgA _) (K58.puti (n := 16) (by kernel_rfl) (by omega) (neC (by omega) ne0) ns0) ?_ ?_
                  · intro w59 hw59 K59
                    have G59_s : w59.heap[w46.heap.size]? = some (.cells (dgQ x.re.val x.im.val) _ (0, 0)) := hw59 ▸ setRow_heap _ _ _ _ _ _ G58_21
                    have G59_0 : w59.heap[W0.drew.heap.size]? = some (.cells (dgQ 0 0) _ (0, 0)) := hw59 ▸ (setRow_other _ _ _ _ (by omega)).trans G58_20
                    have L59 : w58.heap.size ≤ w59.heap.size := by rw [hw59]; exact Nat.le_of_eq (size_setRow _ _ _).symm
                    clear hw59
                    refine t_store (by kernel_rfl) (d := none) (by kernel_rfl) (ty := 39) (x := (.tmp 4)) (y := (.tmp 10)) (by kernel_rfl) (g := W0.drew.heap.size) (cells := (dgQ y.re.val y.im.val)) (by kernel_rfl) (by kernel_rfl) G59_0 (by kernel_rfl) (by kernel_rfl) (all_dgA _) (K59.puti (n := 16) (by kernel_rfl) (by omega) (neC (by omega) ne0) ns0) ?_ ?_
                    · intro w60 hw60 K60
                      have G60_s : w60.heap[W0.drew.heap.size]? = some (.cells (dgQ y.re.val y.im.val) _ (0, 0)) := hw60 ▸ setRow_heap _ _ _ _ _ _ G59_0
                      have G60_1 : w60.heap[w46.heap.size]? = some (.cells (dgQ x.re.val x.im.val) _ (0, 0)) := hw60 ▸ (setRow_other _ _ _ _ (by omega)).trans G59_s
                      have L60 : w59.heap.size ≤ w60.heap.size := by rw [hw60]; exact Nat.le_of_eq (size_setRow _ _ _).symm
                      clear hw60
                      exact t_done ⟨rfl, w46.heap.size, W0.drew.heap.size, by kernel_rfl, Kept.zero K60.nb (rowsC (K60.at 0 rfl) (rowsC ⟨_, G60_1⟩ (rowsC ⟨_, G60_s⟩ rows0))), (by omega), (by omega), (by omega)⟩
                    · -- another
                      exact t_nil
                  · -- another
                    exact t_nil
                · -- another
                  exact t_nil
              · -- another
                exact t_nil
            · -- another
              exact t_nil
        · -- another
          exact t_nil
  · rintro _ W61 ⟨p3, p4, rfl, K62, l63, l64, n65⟩
    go_upto_region 2 with (fail)
    have K66 : Kept w [(w.heap.size, (fps [a0, b0, c0, d0])), (p3, (dgQ x.re.val x.im.val)), (p4, (dgQ y.re.val y.im.val))] [] W61 := Kept.mks K62.nb (rowsC (K62.at 0 rfl) (rowsC (K62.at 1 rfl) (rowsC (K62.at 2 rfl) rows0))) rooms0
    refine wp_seq_atS (opsAt Tryd.f7 2) ((true, 0) :: (true, 1) :: (true, 2) :: (true, 3) :: (true, 4) :: (true, 5) :: (true, 6) :: (true, 7) :: (true, 8) :: (true, 9) :: (true, 10) :: (true, 11) :: (false, 12) :: (false, 13) :: (true, 14) :: []) (Kept w [(w.heap.size, (fps [a0, b0, c0, d0])), (p3, (dgQ x.re.val x.im.val)), (p4, (dgQ y.re.val y.im.val))] []) (by kernel_rfl) (by kernel_rfl) K66 ?_
    refine k_pure (by kernel_rfl) (d := (some 11)) (by kernel_rfl) (v := .pointer (some ⟨w.heap.size, 0, none⟩)) (fun _ => by kernel_rfl) ?_
    refine k_pure (by kernel_rfl) (d := (some 12)) (by kernel_rfl) (v := .pointer (some ⟨w.heap.size, 0, none⟩)) (fun _ => by kernel_rfl) ?_
    refine k_part (by kernel_rfl) (d := (some 13)) (by kernel_rfl) (ty := 22) (x := (.tmp 12)) (by kernel_rfl) (b := w.heap.size) (off := 0) (by kernel_rfl) (all := (fps [a0, b0, c0, d0])) (cs := (fpC a0)) (fun _ hs => hs.at 0 rfl) (fpsub1 (k := 0) rfl) Tryd.underlying22 rfl (by kernel_rfl) ?_
    refine k_pure (by kernel_rfl) (d := (some 14)) (by kernel_rfl) (v := .pointer (some ⟨w.heap.size, 0, none⟩)) (fun _ => by kernel_rfl) ?_
    refine k_pure (by kernel_rfl) (d := (some 15)) (by kernel_rfl) (v := .pointer (some ⟨w.heap.size, 16, none⟩)) (fun _ => by kernel_rfl) ?_
    refine k_part (by kernel_rfl) (d := (some 16)) (by kernel_rfl) (ty := 22) (x := (.tmp 15)) (by kernel_rfl) (b := w.heap.size) (off := 16) (by kernel_rfl) (all := (fps [a0, b0, c0, d0])) (cs := (fpC b0)) (fun _ hs => hs.at 0 rfl) (fpsub1 (k := 1) rfl) Tryd.underlying22 rfl (by kernel_rfl) ?_
    refine k_pure (by kernel_rfl) (d := (some 17)) (by kernel_rfl) (v := .pointer (some ⟨w.heap.size, 32, none⟩)) (fun _ => by kernel_rfl) ?_
    refine k_pure (by kernel_rfl) (d := (some 18)) (by kernel_rfl) (v := .pointer (some ⟨w.heap.size, 32, none⟩)) (fun _ => by kernel_rfl) ?_
    refine k_part (by kernel_rfl) (d := (some 19)) (by kernel_rfl) (ty := 22) (x := (.tmp 18)) (by kernel_rfl) (b := w.heap.size) (off := 32) (by kernel_rfl) (all := (fps [a0, b0, c0, d0])) (cs := (fpC c0)) (fun _ hs => hs.at 0 rfl) (fpsub1 (k := 2) rfl) Tryd.underlying22 rfl (by kernel_rfl) ?_
    refine k_pure (by kernel_rfl) (d := (some 20)) (by kernel_rfl) (v := .pointer (some ⟨w.heap.size, 32, none⟩)) (fun _ => by kernel_rfl) ?_
    refine k_pure (by kernel_rfl) (d := (some 21)) (by kernel_rfl) (v := .pointer (some ⟨w.heap.size, 48, none⟩)) (fun _ => by kernel_rfl) ?_
    refine k_part (by kernel_rfl) (d := (some 22)) (by kernel_rfl) (ty := 22) (x := (.tmp 21)) (by kernel_rfl) (b := w.heap.size) (off := 48) (by kernel_rfl) (all := (fps [a0, b0, c0, d0])) (cs := (fpC d0)) (fun _ hs => hs.at 0 rfl) (fpsub1 (k := 3) rfl) Tryd.underlying22 rfl (by kernel_rfl) ?_
    refine k_make (by kernel_rfl) (d := (some 23)) (by kernel_rfl) (v := .slice (some ⟨W61.heap.size, 0, none⟩) 4 4) (w' := W61.alloc (.cells (fps [a0, b0, c0, d0]) 22)) (by kernel_rfl) (K66.go ((Below.refl _ _).alloc (Nat.le_refl _) _)) ?_
    intro w67 hw67 K67
    have G67_n : w67.heap[W61.heap.size]? = some (.cells (fps [a0, b0, c0, d0]) 22 (0, 0)) := hw67 ▸ heap_alloc_new _ _
    have S67 : W61.heap.size < w67.heap.size := lt_of_heap G67_n
    have R67_0 : w.heap.size < W61.heap.size := (by obtain ⟨T, h⟩ := K66.at 0 rfl; exact lt_of_heap h)
    have R67_1 : p3 < W61.heap.size := (by obtain ⟨T, h⟩ := K66.at 1 rfl; exact lt_of_heap h)
    have R67_2 : p4 < W61.heap.size := (by obtain ⟨T, h⟩ := K66.at 2 rfl; exact lt_of_heap h)
    have Z67 : w.heap.size ≤ W61.heap.size := K66.nb.size
    clear hw67
    refine k_call (by kernel_rfl) (d := (some 24)) (by kernel_rfl) (f := 29) (args := #[.slice (some ⟨W61.heap.size, 0, none⟩) 4 4]) (v := .bool true) (fun _ => by kernel_rfl) (low_r (l := [a0, b0, c0, d0]) hl ⟨_, G67_n⟩ (all4 ha0 hb0 hc0 hd0) (Nat.le_of_ble_eq_true rfl)) (fun w68 hb68 => ⟨K67.go hb68, ?_⟩)
    have K68 := K67.go hb68
    have G68_10 := nb_heap G67_n _ hb68
    have L68 := hb68.size
    refine k_pure (by kernel_rfl) (d := (some 25)) (by kernel_rfl) (v := .bool false) (fun _ => by kernel_rfl) ?_
    have K69 : Kept w [(w.heap.size, (fps [a0, b0, c0, d0])), (p3, (dgQ x.re.val x.im.val)), (p4, (dgQ y.re.val y.im.val)), (W61.heap.size, (fps [a0, b0, c0, d0]))] [] w68 := Kept.zero K68.nb (rowsC (K68.at 0 rfl) (rowsC (K68.at 1 rfl) (rowsC (K68.at 2 rfl) (rowsC ⟨_, G68_10⟩ rows0))))
    clear G68_10 G67_n
    refine k_end ?_
    go_simp
    go_upto_region 4 with (fail)
    have K70 : Kept w [(w.heap.size, (fps [a0, b0, c0, d0])), (p3, (dgQ x.re.val x.im.val)), (p4, (dgQ y.re.val y.im.val)), (W61.heap.size, (fps [a0, b0, c0, d0]))] [] w68 := Kept.mks K69.nb (rowsC (K69.at 0 rfl) (rowsC (K69.at 1 rfl) (rowsC (K69.at 2 rfl) (rowsC (K69.at 3 rfl) rows0)))) rooms0
    refine wp_region_atS (opsAt Tryd.f7 4) ((false, 0) :: (false, 1) :: (false, 2) :: (true, 3) :: (false, 4) :: (false, 5) :: (true, 6) :: (true, 7) :: (true, 8) :: (false, 9) :: (false, 10) :: (false, 11) :: (true, 12) :: (true, 13) :: (false, 14) :: (false, 15) :: (false, 16) :: (true, 17) :: (true, 18) :: (true, 19) :: (true, 21) :: (true, 22) :: (false, 20) :: (false, 23) :: (true, 24) :: (true, 25) :: (true, 26) :: []) (Kept w [(w.heap.size, (fps [a0, b0, c0, d0])), (p3, (dgQ x.re.val x.im.val)), (p4, (dgQ y.re.val y.im.val)), (W61.heap.size, (fps [a0, b0, c0, d0]))] []) (by kernel_rfl) rfl (by kernel_rfl) (fun _ _ d _ _ h => by cases d <;> exact h) (by kernel_rfl) (by kernel_rfl) K70.drew ?_
    have K71 := K70.drew
    have DK71 : w68.heap.size ≤ w68.drew.heap.size := Nat.le_refl _
    refine k_call (by kernel_rfl) (d := (some 26)) (by kernel_rfl) (f := 31) (args := #[]) (v := .agg (fps [D.re.val, D.im.val])) (fun _ => by kernel_rfl) (implD (hm.nb K71.nb) (by obtain ⟨T, h⟩ := hv; exact ⟨T, nb_heap h _ K71.nb⟩) hda hdb hza hzb) (fun w72 hb72 => ⟨K71.go hb72, ?_⟩)
    have K72 := K71.go hb72
    have L72 := hb72.size
    refine k_call (by kernel_rfl) (d := (some 27)) (by kernel_rfl) (f := 32) (args := #[]) (v := .agg (dgQ D.re.val D.im.val)) (fun _ => by kernel_rfl) (dD_g HD.out) (fun w73 hb73 => ⟨K72.go hb73, ?_⟩)
    have K73 := K72.go hb73
    have L73 := hb73.size
    refine k_call (by kernel_rfl) (d := (some 28)) (by kernel_rfl) (f := 30) (args := #[.agg (fps [D.re.val, D.im.val]), .agg (dgQ D.re.val D.im.val)]) (v := .bool true) (fun _ => by kernel_rfl) (isQ_true rfl rfl) (fun w74 hb74 => ⟨K73.go hb74, ?_⟩)
    have K74 := K73.go hb74
    have L74 := hb74.size
    refine k_pure (by kernel_rfl) (d := (some 29)) (by kernel_rfl) (v := .bool true) (fun _ => by kernel_rfl) ?_
    refine k_call (by kernel_rfl) (d := (some 30)) (by kernel_rfl) (f := 33) (args := #[]) (v := .agg #[.int .u64 3436901888089820391, .int .u64 16122042576031152537, .int .u64 17317351579400803557, .int .u64 11764505149049458]) (fun _ => by kernel_rfl) (implOrder (by obtain ⟨T, h⟩ := ho; exact ⟨T, nb_heap h _ K74.nb⟩)) (fun w75 hb75 => ⟨K74.go hb75, ?_⟩)
    have K75 := K74.go hb75
    have L75 := hb75.size
    refine k_call (by kernel_rfl) (d := (some 31)) (by kernel_rfl) (f := 34) (args := #[]) (v := .agg #[.int .u64 3436901888089820391, .int .u64 16122042576031152537, .int .u64 17317351579400803557, .int .u64 11764505149049458]) (fun _ => by kernel_rfl) (specOrder) (fun w76 hb76 => ⟨K75.go hb76, ?_⟩)
    have K76 := K75.go hb76
    have L76 := hb76.size
    refine k_eql (by kernel_rfl) (d := (some 32)) (by kernel_rfl) (ty := 60) (ty' := 60) (x := (.tmp 30)) (y := (.tmp 31)) (by kernel_rfl) (xs := #[.int .u64 3436901888089820391, .int .u64 16122042576031152537, .int .u64 17317351579400803557, .int .u64 11764505149049458]) (ys := #[.int .u64 3436901888089820391, .int .u64 16122042576031152537, .int .u64 17317351579400803557, .int .u64 11764505149049458]) (b := true) (by kernel_rfl) (by kernel_rfl) (by kernel_rfl) eqOrd ?_
    refine k_pure (by kernel_rfl) (d := (some 33)) (by kernel_rfl) (v := .bool true) (fun _ => by kernel_rfl) ?_
    refine k_pure (by kernel_rfl) (d := (some 34)) (by kernel_rfl) (v := .bool true) (fun _ => by kernel_rfl) ?_
    refine k_call (by kernel_rfl) (d := (some 35)) (by kernel_rfl) (f := 35) (args := #[]) (v := .agg (fps [gx.re.val, gx.im.val, gy.re.val, gy.im.val])) (fun _ => by kernel_rfl) (implGenerator (hm.nb K76.nb) (Nat.le_trans hg K76.nb.size) (hx.nb K76.nb) (hy.nb K76.nb)) (fun w77 hb77 => ⟨K76.go hb77, ?_⟩)
    have K77 := K76.go hb77
    have L77 := hb77.size
    refine k_call (by kernel_rfl) (d := (some 36)) (by kernel_rfl) (f := 36) (args := #[]) (v := .agg (dgL [gx.re.val, gx.im.val, gy.re.val, gy.im.val, ((1 : Zq)).re.val, ((1 : Zq)).im.val])) (fun _ => by kernel_rfl) (baseP_g HX.out HY.out) (fun w78 hb78 => ⟨K77.go hb78, ?_⟩)
    have K78 := K77.go hb78
    have L78 := hb78.size
    refine k_call (by kernel_rfl) (d := (some 37)) (by kernel_rfl) (f := 21) (args := #[.agg (fps [gx.re.val, gx.im.val, gy.re.val, gy.im.val]), .agg (dgL [gx.re.val, gx.im.val, gy.re.val, gy.im.val, ((1 : Zq)).re.val, ((1 : Zq)).im.val])]) (v := .bool true) (fun _ => by kernel_rfl) (told_t (qmul_one _) (qmul_one _)) (fun w79 hb79 => ⟨K78.go hb79, ?_⟩)
    have K79 := K78.go hb79
    have L79 := hb79.size
    refine k_pure (by kernel_rfl) (d := (some 38)) (by kernel_rfl) (v := .bool true) (fun _ => by kernel_rfl) ?_
    refine k_pure (by kernel_rfl) (d := (some 39)) (by kernel_rfl) (v := .bool true) (fun _ => by kernel_rfl) ?_
    refine k_call (by kernel_rfl) (d := (some 40)) (by kernel_rfl) (f := 20) (args := #[]) (v := .agg (fps [((0 : Zq)).re.val, ((0 : Zq)).im.val, ((1 : Zq)).re.val, ((1 : Zq)).im.val])) (fun _ => by kernel_rfl) (implIdentity (X := 0) (Y := 1) rfl rfl (hm.nb K79.nb) (Nat.le_trans hg K79.nb.size)) (fun w80 hb80 => ⟨K79.go hb80, ?_⟩)
    have K80 := K79.go hb80
    have L80 := hb80.size
    refine k_call (by kernel_rfl) (d := (some 41)) (by kernel_rfl) (f := 17) (args := #[]) (v := .agg (dgL [((0 : Zq)).re.val, ((0 : Zq)).im.val, ((1 : Zq)).re.val, ((1 : Zq)).im.val, ((1 : Zq)).re.val, ((1 : Zq)).im.val])) (fun _ => by kernel_rfl) (zeroP_c) (fun w81 hb81 => ⟨K80.go hb81, ?_⟩)
    have K81 := K80.go hb81
    have L81 := hb81.size
    refine k_call (by kernel_rfl) (d := (some 42)) (by kernel_rfl) (f := 21) (args := #[.agg (fps [((0 : Zq)).re.val, ((0 : Zq)).im.val, ((1 : Zq)).re.val, ((1 : Zq)).im.val]), .agg (dgL [((0 : Zq)).re.val, ((0 : Zq)).im.val, ((1 : Zq)).re.val, ((1 : Zq)).im.val, ((1 : Zq)).re.val, ((1 : Zq)).im.val])]) (v := .bool true) (fun _ => by kernel_rfl) (told_t (qmul_one _) (qmul_one _)) (fun w82 hb82 => ⟨K81.go hb82, ?_⟩)
    have K82 := K81.go hb82
    have L82 := hb82.size
    refine k_pure (by kernel_rfl) (d := (some 43)) (by kernel_rfl) (v := .bool true) (fun _ => by kernel_rfl) ?_
    refine k_pure (by kernel_rfl) (d := (some 44)) (by kernel_rfl) (v := .bool true) (fun _ => by kernel_rfl) ?_
    refine k_row (by kernel_rfl) (d := (some 45)) (by kernel_rfl) (ty := 35) (x := (.tmp 1)) (by kernel_rfl) (b := w.heap.size) (by kernel_rfl) (cs := (fps [a0, b0, c0, d0])) (fun _ hs => hs.at 0 rfl) Tryd.underlying35 rfl (by kernel_rfl) ?_
    refine k_row (by kernel_rfl) (d := (some 47)) (by kernel_rfl) (ty := 39) (x := (.tmp 3)) (by kernel_rfl) (b := p3) (by kernel_rfl) (cs := (dgQ x.re.val x.im.val)) (fun _ hs => hs.at 1 rfl) Tryd.underlying39 rfl (by kernel_rfl) ?_
    refine k_row (by kernel_rfl) (d := (some 48)) (by kernel_rfl) (ty := 39) (x := (.tmp 4)) (by kernel_rfl) (b := p4) (by kernel_rfl) (cs := (dgQ y.re.val y.im.val)) (fun _ hs => hs.at 2 rfl) Tryd.underlying39 rfl (by kernel_rfl) ?_
    refine k_call (by kernel_rfl) (d := (some 46)) (by kernel_rfl) (f := 37) (args := #[.agg (fps [a0, b0, c0, d0])]) (v := .bool true) (fun _ => by kernel_rfl) (implOnB1 (hm.nb K82.nb) (Nat.le_trans hg K82.nb.size) (hd.nb K82.nb) HXX HYY hl hon) (fun w83 hb83 => ⟨K82.go hb83, ?_⟩)
    have K83 := K82.go hb83
    have L83 := hb83.size
    refine k_call (by kernel_rfl) (d := (some 49)) (by kernel_rfl) (f := 38) (args := #[.agg (dgQ x.re.val x.im.val), .agg (dgQ y.re.val y.im.val)]) (v := .bool true) (fun _ => by kernel_rfl) (isPoint_t hon) (fun w84 hb84 => ⟨K83.go hb84, ?_⟩)
    have K84 := K83.go hb84
    have L84 := hb84.size
    refine k_pure (by kernel_rfl) (d := (some 50)) (by kernel_rfl) (v := .bool true) (fun _ => by kernel_rfl) ?_
    refine k_pure (by kernel_rfl) (d := (some 51)) (by kernel_rfl) (v := .bool true) (fun _ => by kernel_rfl) ?_
    refine k_pure (by kernel_rfl) (d := (some 2)) (by kernel_rfl) (v := .bool true) (fun _ => by kernel_rfl) ?_
    have K85 : Kept w [(w.heap.size, (fps [a0, b0, c0, d0])), (p3, (dgQ x.re.val x.im.val)), (p4, (dgQ y.re.val y.im.val)), (W61.heap.size, (fps [a0, b0, c0, d0]))] [] w84 := Kept.zero K84.nb (rowsC (K84.at 0 rfl) (rowsC (K84.at 1 rfl) (rowsC (K84.at 2 rfl) (rowsC (K84.at 3 rfl) rows0))))
    refine k_end ?_
    go_simp
    go_wp2_with fail
    exact bodyPost_ret_by (by kernel_rfl) (by kernel_rfl) ⟨rfl, K85.nb⟩

set_option maxRecDepth 100000 in
set_option maxHeartbeats 1000000 in
theorem base_tf {w : World} {a0 b0 c0 d0 da db : Nat} {x y gx gy D : Zq} (hm : ModW w) (hg : 5 ≤ w.heap.size) (hd : AtZ w 0 0 dd) (hx : AtZ w 2 0 gx) (hy : AtZ w 3 0 gy) (ho : ∃ T, w.heap[1]? = some (.cells #[.int .u64 3436901888089820391, .int .u64 16122042576031152537, .int .u64 17317351579400803557, .int .u64 11764505149049458] T (0, 0))) (hv : ∃ T, w.heap[0]? = some (.cells (fps [da, db]) T (0, 0))) (hda : LowB da) (hdb : LowB db) (hza : zp da = D.re) (hzb : zp db = D.im) (hgx : gxx = gx) (hgy : gyy = gy) (hdd : dd = D) (hon : ¬ OnC x y) (ha0 : a0 < 256 ^ 16) (hb0 : b0 < 256 ^ 16) (hc0 : c0 < 256 ^ 16) (hd0 : d0 < 256 ^ 16) (hl : lowAll [a0, b0, c0, d0] = true) (hxx : x = ⟨zp a0, zp b0⟩) (hyy : y = ⟨zp c0, zp d0⟩) :
    Calls Tryd.prog 7 #[.agg (fps [a0, b0, c0, d0])] w fun e w' => e = .returned (.bool true) ∧ Below w.heap.size w w' := by
  have HXX := Lib.hid hxx; have HYY := Lib.hid hyy
  clear hxx hyy
  have HX := Lib.hid hgx; have HY := Lib.hid hgy; have HD := Lib.hid hdd
  clear hgx hgy hdd
  go_enter Tryd.func7, Tryd.ntmps7
  go_upto_region 1 with (fail)
  refine wp_gen (fun WW => Kept w [(w.heap.size, (fps [a0, b0, c0, d0]))] [] WW) (Kept.zero (nb_alloc (Below.refl _ _) _) (rowsC (row_as (hp1_0 (w := w) _) (by kernel_rfl)) rows0)) ?_
  intro W0 K0
  have K1 : Kept w [(w.heap.size, (fps [a0, b0, c0, d0]))] [] W0 := Kept.mks K0.nb (rowsC (K0.at 0 rfl) rows0) rooms0
  have RK1_0 : w.heap.size < W0.heap.size := (by obtain ⟨T, h⟩ := K0.at 0 rfl; exact lt_of_heap h)
  refine wp_meet (fun a' w' => ∃ p3 p4 : Nat, a' = { tmps := #[.agg (fps [a0, b0, c0, d0]), .pointer (some ⟨w.heap.size, 0, none⟩), .bool false, .pointer (some ⟨p3, 0, none⟩), .pointer (some ⟨p4, 0, none⟩), .pointer (some ⟨w.heap.size, 0, none⟩), .agg (fps [a0, b0]), .agg (dgQ x.re.val x.im.val), .pointer (some ⟨w.heap.size, 32, none⟩), .agg (fps [c0, d0]), .agg (dgQ y.re.val y.im.val), undef, undef, undef, undef, undef, undef, undef, undef, undef, undef, undef, undef, undef, undef, undef, undef, undef, undef, undef, undef, undef, undef, undef, undef, undef, undef, undef, undef, undef, undef, undef, undef, undef, undef, undef, undef, undef, undef, undef, undef, undef], defers := [] } ∧ Kept w [(w.heap.size, (fps [a0, b0, c0, d0])), (p3, (dgQ x.re.val x.im.val)), (p4, (dgQ y.re.val y.im.val))] [] w' ∧ W0.heap.size ≤ p3 ∧ W0.heap.size ≤ p4 ∧ p3 ≠ p4) ?_ ?_
  · refine wp_tree_at (opsAt Tryd.f7 1) (.take 0 (.take 1 (.take 3 (.take 4 (.fork 2 (.fork 5 (.fork 6 (.fork 7 (.fork 8 (.fork 9 .done .nil) .nil) .nil) (.fork 7 (.fork 6 (.fork 8 (.fork 9 .done .nil) .nil) .nil) .nil)) (.fork 6 (.fork 5 (.fork 7 (.fork 8 (.fork 9 .done .nil) .nil) .nil) (.fork 7 (.fork 5 (.fork 8 (.fork 9 .done .nil) .nil) .nil) .nil)) (.fork 7 (.fork 5 (.fork 6 (.fork 8 (.fork 9 .done .nil) .nil) .nil) (.fork 6 (.fork 5 (.fork 8 (.fork 9 .done .nil) .nil) .nil) .nil)) .nil))) (.fork 6 (.fork 2 (.fork 5 (.fork 7 (.fork 8 (.fork 9 .done .nil) .nil) .nil) (.fork 7 (.fork 5 (.fork 8 (.fork 9 .done .nil) .nil) .nil) .nil)) (.fork 7 (.fork 2 (.fork 5 (.fork 8 (.fork 9 .done .nil) .nil) .nil) .nil) .nil)) (.fork 7 (.fork 2 (.fork 5 (.fork 6 (.fork 8 (.fork 9 .done .nil) .nil) .nil) (.fork 6 (.fork 5 (.fork 8 (.fork 9 .done .nil) .nil) .nil) .nil)) (.fork 6 (.fork 2 (.fork 5 (.fork 8 (.fork 9 .done .nil) .nil) .nil) .nil) .nil)) .nil))))))) (Kept w [(w.heap.size, (fps [a0, b0, c0, d0]))] []) (by kernel_rfl) rfl (by kernel_rfl) (by intro c a d v w h; exact absurd h.1 (by simp)) (by kernel_rfl) (by kernel_rfl) K1.drew ?_
    have K2 := K1.drew
    have DK2 : W0.heap.size ≤ W0.drew.heap.size := Nat.le_refl _
    refine t_pure (by kernel_rfl) (d := (some 5)) (by kernel_rfl) (v := .pointer (some ⟨w.heap.size, 0, none⟩)) (fun _ => by kernel_rfl) ?_
    refine t_part (by kernel_rfl) (d := (some 6)) (by kernel_rfl) (ty := 33) (x := (.tmp 5)) (by kernel_rfl) (b := w.heap.size) (off := 0) (by kernel_rfl) (all := (fps [a0, b0, c0, d0])) (cs := (fps [a0, b0])) (fun _ hs => hs.at 0 rfl) (fpsub2 (k := 0) rfl rfl) Tryd.underlying33 rfl (by kernel_rfl) ?_
    refine t_pure (by kernel_rfl) (d := (some 8)) (by kernel_rfl) (v := .pointer (some ⟨w.heap.size, 32, none⟩)) (fun _ => by kernel_rfl) ?_
    refine t_part (by kernel_rfl) (d := (some 9)) (by kernel_rfl) (ty := 33) (x := (.tmp 8)) (by kernel_rfl) (b := w.heap.size) (off := 32) (by kernel_rfl) (all := (fps [a0, b0, c0, d0])) (cs := (fps [c0, d0])) (fun _ hs => hs.at 0 rfl) (fpsub2 (k := 2) rfl rfl) Tryd.underlying33 rfl (by kernel_rfl) ?_
    refine t_call (by kernel_rfl) (d := (some 7)) (by kernel_rfl) (f := 19) (args := #[.agg (fps [a0, b0])]) (v := .agg (dgQ x.re.val x.im.val)) (fun _ => by kernel_rfl) (ofQ_b ha0 hb0 HXX.out) (fun w3 hb3 => ⟨K2.go hb3, ?_⟩) ?_
    · have K3 := K2.go hb3
      have L3 := hb3.size
      refine t_call (by kernel_rfl) (d := (some 10)) (by kernel_rfl) (f := 19) (args := #[.agg (fps [c0, d0])]) (v := .agg (dgQ y.re.val y.im.val)) (fun _ => by kernel_rfl) (ofQ_b hc0 hd0 HYY.out) (fun w4 hb4 => ⟨K3.go hb4, ?_⟩) ?_
      · have K4 := K3.go hb4
        have L4 := hb4.size
        refine t_make (by kernel_rfl) (d := (some 3)) (by kernel_rfl) (v := .pointer (some ⟨w4.heap.size, 0, none⟩)) (w' := w4.alloc (.cells (dgQ 0 0) 39)) (by kernel_rfl) (K4.go ((Below.refl _ _).alloc (Nat.le_refl _) _)) ?_ ?_
        · intro w5 hw5 K5
          have G5_n : w5.heap[w4.heap.size]? = some (.cells (dgQ 0 0) 39 (0, 0)) := hw5 ▸ heap_alloc_new _ _
          have S5 : w4.heap.size < w5.heap.size := lt_of_heap G5_n
          have R5_0 : w.heap.size < w4.heap.size := (by obtain ⟨T, h⟩ := K4.at 0 rfl; exact lt_of_heap h)
          have Z5 : w.heap.size ≤ w4.heap.size := K4.nb.size
          clear hw5
          refine t_make (by kernel_rfl) (d := (some 4)) (by kernel_rfl) (v := .pointer (some ⟨w5.heap.size, 0, none⟩)) (w' := w5.alloc (.cells (dgQ 0 0) 39)) (by kernel_rfl) (K5.go ((Below.refl _ _).alloc (Nat.le_refl _) _)) ?_ ?_
          · intro w6 hw6 K6
            have L6_0 := lt_of_heap G5_n
            have G6_0 : w6.heap[w4.heap.size]? = some (.cells (dgQ 0 0) _ (0, 0)) := hw6 ▸ hp_alloc G5_n _
            have G6_n : w6.heap[w5.heap.size]? = some (.cells (dgQ 0 0) 39 (0, 0)) := hw6 ▸ heap_alloc_new _ _
            have S6 : w5.heap.size < w6.heap.size := lt_of_heap G6_n
            have R6_0 : w.heap.size < w5.heap.size := (by obtain ⟨T, h⟩ := K5.at 0 rfl; exact lt_of_heap h)
            have Z6 : w.heap.size ≤ w5.heap.size := K5.nb.size
            clear hw6
            refine t_store (by kernel_rfl) (d := none) (by kernel_rfl) (ty := 39) (x := (.tmp 3)) (y := (.tmp 7)) (by kernel_rfl) (g := w4.heap.size) (cells := (dgQ x.re.val x.im.val)) (by kernel_rfl) (by kernel_rfl) G6_0 (by kernel_rfl) (by kernel_rfl) (all_dgA _) (K6.puti (n := 16) (by kernel_rfl) (by omega) (neC (by omega) ne0) ns0) ?_ ?_
            · intro w7 hw7 K7
              have G7_s : w7.heap[w4.heap.size]? = some (.cells (dgQ x.re.val x.im.val) _ (0, 0)) := hw7 ▸ setRow_heap _ _ _ _ _ _ G6_0
              have G7_1 : w7.heap[w5.heap.size]? = some (.cells (dgQ 0 0) _ (0, 0)) := hw7 ▸ (setRow_other _ _ _ _ (by omega)).trans G6_n
              have L7 : w6.heap.size ≤ w7.heap.size := by rw [hw7]; exact Nat.le_of_eq (size_setRow _ _ _).symm
              clear hw7
              refine t_store (by kernel_rfl) (d := none) (by kernel_rfl) (ty := 39) (x := (.tmp 4)) (y := (.tmp 10)) (by kernel_rfl) (g := w5.heap.size) (cells := (dgQ y.re.val y.im.val)) (by kernel_rfl) (by kernel_rfl) G7_1 (by kernel_rfl) (by kernel_rfl) (all_dgA _) (K7.puti (n := 16) (by kernel_rfl) (by omega) (neC (by omega) ne0) ns0) ?_ ?_
              · intro w8 hw8 K8
                have G8_s : w8.heap[w5.heap.size]? = some (.cells (dgQ y.re.val y.im.val) _ (0, 0)) := hw8 ▸ setRow_heap _ _ _ _ _ _ G7_1
                have G8_0 : w8.heap[w4.heap.size]? = some (.cells (dgQ x.re.val x.im.val) _ (0, 0)) := hw8 ▸ (setRow_other _ _ _ _ (by omega)).trans G7_s
                have L8 : w7.heap.size ≤ w8.heap.size := by rw [hw8]; exact Nat.le_of_eq (size_setRow _ _ _).symm
                clear hw8
                exact t_done ⟨rfl, w4.heap.size, w5.heap.size, by kernel_rfl, Kept.zero K8.nb (rowsC (K8.at 0 rfl) (rowsC ⟨_, G8_0⟩ (rowsC ⟨_, G8_s⟩ rows0))), (by omega), (by omega), (by omega)⟩
              · -- another
                exact t_nil
            · -- another
              exact t_nil
          · -- another
            exact t_nil
        · -- another
          refine t_make (by kernel_rfl) (d := (some 4)) (by kernel_rfl) (v := .pointer (some ⟨w4.heap.size, 0, none⟩)) (w' := w4.alloc (.cells (dgQ 0 0) 39)) (by kernel_rfl) (K4.go ((Below.refl _ _).alloc (Nat.le_refl _) _)) ?_ ?_
          · intro w9 hw9 K9
            have G9_n : w9.heap[w4.heap.size]? = some (.cells (dgQ 0 0) 39 (0, 0)) := hw9 ▸ heap_alloc_new _ _
            have S9 : w4.heap.size < w9.heap.size := lt_of_heap G9_n
            have R9_0 : w.heap.size < w4.heap.size := (by obtain ⟨T, h⟩ := K4.at 0 rfl; exact lt_of_heap h)
            have Z9 : w.heap.size ≤ w4.heap.size := K4.nb.size
            clear hw9
            refine t_make (by kernel_rfl) (d := (some 3)) (by kernel_rfl) (v := .pointer (some ⟨w9.heap.size, 0, none⟩)) (w' := w9.alloc (.cells (dgQ 0 0) 39)) (by kernel_rfl) (K9.go ((Below.refl _ _).alloc (Nat.le_refl _) _)) ?_ ?_
            · intro w10 hw10 K10
              have L10_0 := lt_of_heap G9_n
              have G10_0 : w10.heap[w4.heap.size]? = some (.cells (dgQ 0 0) _ (0, 0)) := hw10 ▸ hp_alloc G9_n _
              have G10_n : w10.heap[w9.heap.size]? = some (.cells (dgQ 0 0) 39 (0, 0)) := hw10 ▸ heap_alloc_new _ _
              have S10 : w9.heap.size < w10.heap.size := lt_of_heap G10_n
              have R10_0 : w.heap.size < w9.heap.size := (by obtain ⟨T, h⟩ := K9.at 0 rfl; exact lt_of_heap h)
              have Z10 : w.heap.size ≤ w9.heap.size := K9.nb.size
              clear hw10
              refine t_store (by kernel_rfl) (d := none) (by kernel_rfl) (ty := 39) (x := (.tmp 3)) (y := (.tmp 7)) (by kernel_rfl) (g := w9.heap.size) (cells := (dgQ x.re.val x.im.val)) (by kernel_rfl) (by kernel_rfl) G10_n (by kernel_rfl) (by kernel_rfl) (all_dgA _) (K10.puti (n := 16) (by kernel_rfl) (by omega) (neC (by omega) ne0) ns0) ?_ ?_
              · intro w11 hw11 K11
                have G11_s : w11.heap[w9.heap.size]? = some (.cells (dgQ x.re.val x.im.val) _ (0, 0)) := hw11 ▸ setRow_heap _ _ _ _ _ _ G10_n
                have G11_0 : w11.heap[w4.heap.size]? = some (.cells (dgQ 0 0) _ (0, 0)) := hw11 ▸ (setRow_other _ _ _ _ (by omega)).trans G10_0
                have L11 : w10.heap.size ≤ w11.heap.size := by rw [hw11]; exact Nat.le_of_eq (size_setRow _ _ _).symm
                clear hw11
                refine t_store (by kernel_rfl) (d := none) (by kernel_rfl) (ty := 39) (x := (.tmp 4)) (y := (.tmp 10)) (by kernel_rfl) (g := w4.heap.size) (cells := (dgQ y.re.val y.im.val)) (by kernel_rfl) (by kernel_rfl) G11_0 (by kernel_rfl) (by kernel_rfl) (all_dgA _) (K11.puti (n := 16) (by kernel_rfl) (by omega) (neC (by omega) ne0) ns0) ?_ ?_
                · intro w12 hw12 K12
                  have G12_s : w12.heap[w4.heap.size]? = some (.cells (dgQ y.re.val y.im.val) _ (0, 0)) := hw12 ▸ setRow_heap _ _ _ _ _ _ G11_0
                  have G12_1 : w12.heap[w9.heap.size]? = some (.cells (dgQ x.re.val x.im.val) _ (0, 0)) := hw12 ▸ (setRow_other _ _ _ _ (by omega)).trans G11_s
                  have L12 : w11.heap.size ≤ w12.heap.size := by rw [hw12]; exact Nat.le_of_eq (size_setRow _ _ _).symm
                  clear hw12
                  exact t_done ⟨rfl, w9.heap.size, w4.heap.size, by kernel_rfl, Kept.zero K12.nb (rowsC (K12.at 0 rfl) (rowsC ⟨_, G12_1⟩ (rowsC ⟨_, G12_s⟩ rows0))), (by omega), (by omega), (by omega)⟩
                · -- another
                  exact t_nil
              · -- another
                exact t_nil
            · -- another
              exact t_nil
          · -- another
            exact t_nil
      · -- another
        refine t_make (by kernel_rfl) (d := (some 3)) (by kernel_rfl) (v := .pointer (some ⟨w3.heap.size, 0, none⟩)) (w' := w3.alloc (.cells (dgQ 0 0) 39)) (by kernel_rfl) (K3.go ((Below.refl _ _).alloc (Nat.le_refl _) _)) ?_ ?_
        · intro w13 hw13 K13
          have G13_n : w13.heap[w3.heap.size]? = some (.cells (dgQ 0 0) 39 (0, 0)) := hw13 ▸ heap_alloc_new _ _
          have S13 : w3.heap.size < w13.heap.size := lt_of_heap G13_n
          have R13_0 : w.heap.size < w3.heap.size := (by obtain ⟨T, h⟩ := K3.at 0 rfl; exact lt_of_heap h)
          have Z13 : w.heap.size ≤ w3.heap.size := K3.nb.size
          clear hw13
          refine t_call (by kernel_rfl) (d := (some 10)) (by kernel_rfl) (f := 19) (args := #[.agg (fps [c0, d0])]) (v := .agg (dgQ y.re.val y.im.val)) (fun _ => by kernel_rfl) (ofQ_b hc0 hd0 HYY.out) (fun w14 hb14 => ⟨K13.go hb14, ?_⟩) ?_
          · have K14 := K13.go hb14
            have G14_10 := nb_heap G13_n _ hb14
            have L14 := hb14.size
            refine t_make (by kernel_rfl) (d := (some 4)) (by kernel_rfl) (v := .pointer (some ⟨w14.heap.size, 0, none⟩)) (w' := w14.alloc (.cells (dgQ 0 0) 39)) (by kernel_rfl) (K14.go ((Below.refl _ _).alloc (Nat.le_refl _) _)) ?_ ?_
            · intro w15 hw15 K15
              have L15_0 := lt_of_heap G14_10
              have G15_0 : w15.heap[w3.heap.size]? = some (.cells (dgQ 0 0) _ (0, 0)) := hw15 ▸ hp_alloc G14_10 _
              have G15_n : w15.heap[w14.heap.size]? = some (.cells (dgQ 0 0) 39 (0, 0)) := hw15 ▸ heap_alloc_new _ _
              have S15 : w14.heap.size < w15.heap.size := lt_of_heap G15_n
              have R15_0 : w.heap.size < w14.heap.size := (by obtain ⟨T, h⟩ := K14.at 0 rfl; exact lt_of_heap h)
              have Z15 : w.heap.size ≤ w14.heap.size := K14.nb.size
              clear hw15
              refine t_store (by kernel_rfl) (d := none) (by kernel_rfl) (ty := 39) (x := (.tmp 3)) (y := (.tmp 7)) (by kernel_rfl) (g := w3.heap.size) (cells := (dgQ x.re.val x.im.val)) (by kernel_rfl) (by kernel_rfl) G15_0 (by kernel_rfl) (by kernel_rfl) (all_dgA _) (K15.puti (n := 16) (by kernel_rfl) (by omega) (neC (by omega) ne0) ns0) ?_ ?_
              · intro w16 hw16 K16
                have G16_s : w16.heap[w3.heap.size]? = some (.cells (dgQ x.re.val x.im.val) _ (0, 0)) := hw16 ▸ setRow_heap _ _ _ _ _ _ G15_0
                have G16_1 : w16.heap[w14.heap.size]? = some (.cells (dgQ 0 0) _ (0, 0)) := hw16 ▸ (setRow_other _ _ _ _ (by omega)).trans G15_n
                have L16 : w15.heap.size ≤ w16.heap.size := by rw [hw16]; exact Nat.le_of_eq (size_setRow _ _ _).symm
                clear hw16
                refine t_store (by kernel_rfl) (d := none) (by kernel_rfl) (ty := 39) (x := (.tmp 4)) (y := (.tmp 10)) (by kernel_rfl) (g := w14.heap.size) (cells := (dgQ y.re.val y.im.val)) (by kernel_rfl) (by kernel_rfl) G16_1 (by kernel_rfl) (by kernel_rfl) (all_dgA _) (K16.puti (n := 16) (by kernel_rfl) (by omega) (neC (by omega) ne0) ns0) ?_ ?_
                · intro w17 hw17 K17
                  have G17_s : w17.heap[w14.heap.size]? = some (.cells (dgQ y.re.val y.im.val) _ (0, 0)) := hw17 ▸ setRow_heap _ _ _ _ _ _ G16_1
                  have G17_0 : w17.heap[w3.heap.size]? = some (.cells (dgQ x.re.val x.im.val) _ (0, 0)) := hw17 ▸ (setRow_other _ _ _ _ (by omega)).trans G16_s
                  have L17 : w16.heap.size ≤ w17.heap.size := by rw [hw17]; exact Nat.le_of_eq (size_setRow _ _ _).symm
                  clear hw17
                  exact t_done ⟨rfl, w3.heap.size, w14.heap.size, by kernel_rfl, Kept.zero K17.nb (rowsC (K17.at 0 rfl) (rowsC ⟨_, G17_0⟩ (rowsC ⟨_, G17_s⟩ rows0))), (by omega), (by omega), (by omega)⟩
                · -- another
                  exact t_nil
              · -- another
                exact t_nil
            · -- another
              exact t_nil
          · -- another
            refine t_make (by kernel_rfl) (d := (some 4)) (by kernel_rfl) (v := .pointer (some ⟨w13.heap.size, 0, none⟩)) (w' := w13.alloc (.cells (dgQ 0 0) 39)) (by kernel_rfl) (K13.go ((Below.refl _ _).alloc (Nat.le_refl _) _)) ?_ ?_
            · intro w18 hw18 K18
              have L18_0 := lt_of_heap G13_n
              have G18_0 : w18.heap[w3.heap.size]? = some (.cells (dgQ 0 0) _ (0, 0)) := hw18 ▸ hp_alloc G13_n _
              have G18_n : w18.heap[w13.heap.size]? = some (.cells (dgQ 0 0) 39 (0, 0)) := hw18 ▸ heap_alloc_new _ _
              have S18 : w13.heap.size < w18.heap.size := lt_of_heap G18_n
              have R18_0 : w.heap.size < w13.heap.size := (by obtain ⟨T, h⟩ := K13.at 0 rfl; exact lt_of_heap h)
              have Z18 : w.heap.size ≤ w13.heap.size := K13.nb.size
              clear hw18
              refine t_call (by kernel_rfl) (d := (some 10)) (by kernel_rfl) (f := 19) (args := #[.agg (fps [c0, d0])]) (v := .agg (dgQ y.re.val y.im.val)) (fun _ => by kernel_rfl) (ofQ_b hc0 hd0 HYY.out) (fun w19 hb19 => ⟨K18.go hb19, ?_⟩) ?_
              · have K19 := K18.go hb19
                have G19_20 := nb_heap G18_0 _ hb19
                have G19_21 := nb_heap G18_n _ hb19
                have L19 := hb19.size
                refine t_store (by kernel_rfl) (d := none) (by kernel_rfl) (ty := 39) (x := (.tmp 3)) (y := (.tmp 7)) (by kernel_rfl) (g := w3.heap.size) (cells := (dgQ x.re.val x.im.val)) (by kernel_rfl) (by kernel_rfl) G19_20 (by kernel_rfl) (by kernel_rfl) (all_dgA _) (K19.puti (n := 16) (by kernel_rfl) (by omega) (neC (by omega) ne0) ns0) ?_ ?_
                · intro w20 hw20 K20
                  have G20_s : w20.heap[w3.heap.size]? = some (.cells (dgQ x.re.val x.im.val) _ (0, 0)) := hw20 ▸ setRow_heap _ _ _ _ _ _ G19_20
                  have G20_1 : w20.heap[w13.heap.size]? = some (.cells (dgQ 0 0) _ (0, 0)) := hw20 ▸ (setRow_other _ _ _ _ (by omega)).trans G19_21
                  have L20 : w19.heap.size ≤ w20.heap.size := by rw [hw20]; exact Nat.le_of_eq (size_setRow _ _ _).symm
                  clear hw20
                  refine t_store (by kernel_rfl) (d := none) (by kernel_rfl) (ty := 39) (x := (.tmp 4)) (y := (.tmp 10)) (by kernel_rfl) (g := w13.heap.size) (cells := (dgQ y.re.val y.im.val)) (by kernel_rfl) (by kernel_rfl) G20_1 (by kernel_rfl) (by kernel_rfl) (all_dgA _) (K20.puti (n := 16) (by kernel_rfl) (by omega) (neC (by omega) ne0) ns0) ?_ ?_
                  · intro w21 hw21 K21
                    have G21_s : w21.heap[w13.heap.size]? = some (.cells (dgQ y.re.val y.im.val) _ (0, 0)) := hw21 ▸ setRow_heap _ _ _ _ _ _ G20_1
                    have G21_0 : w21.heap[w3.heap.size]? = some (.cells (dgQ x.re.val x.im.val) _ (0, 0)) := hw21 ▸ (setRow_other _ _ _ _ (by omega)).trans G20_s
                    have L21 : w20.heap.size ≤ w21.heap.size := by rw [hw21]; exact Nat.le_of_eq (size_setRow _ _ _).symm
                    clear hw21
                    exact t_done ⟨rfl, w3.heap.size, w13.heap.size, by kernel_rfl, Kept.zero K21.nb (rowsC (K21.at 0 rfl) (rowsC ⟨_, G21_0⟩ (rowsC ⟨_, G21_s⟩ rows0))), (by omega), (by omega), (by omega)⟩
                  · -- another
                    exact t_nil
                · -- another
                  exact t_nil
              · -- another
                exact t_nil
            · -- another
              exact t_nil
        · -- another
          refine t_make (by kernel_rfl) (d := (some 4)) (by kernel_rfl) (v := .pointer (some ⟨w3.heap.size, 0, none⟩)) (w' := w3.alloc (.cells (dgQ 0 0) 39)) (by kernel_rfl) (K3.go ((Below.refl _ _).alloc (Nat.le_refl _) _)) ?_ ?_
          · intro w22 hw22 K22
            have G22_n : w22.heap[w3.heap.size]? = some (.cells (dgQ 0 0) 39 (0, 0)) := hw22 ▸ heap_alloc_new _ _
            have S22 : w3.heap.size < w22.heap.size := lt_of_heap G22_n
            have R22_0 : w.heap.size < w3.heap.size := (by obtain ⟨T, h⟩ := K3.at 0 rfl; exact lt_of_heap h)
            have Z22 : w.heap.size ≤ w3.heap.size := K3.nb.size
            clear hw22
            refine t_call (by kernel_rfl) (d := (some 10)) (by kernel_rfl) (f := 19) (args := #[.agg (fps [c0, d0])]) (v := .agg (dgQ y.re.val y.im.val)) (fun _ => by kernel_rfl) (ofQ_b hc0 hd0 HYY.out) (fun w23 hb23 => ⟨K22.go hb23, ?_⟩) ?_
            · have K23 := K22.go hb23
              have G23_10 := nb_heap G22_n _ hb23
              have L23 := hb23.size
              refine t_make (by kernel_rfl) (d := (some 3)) (by kernel_rfl) (v := .pointer (some ⟨w23.heap.size, 0, none⟩)) (w' := w23.alloc (.cells (dgQ 0 0) 39)) (by kernel_rfl) (K23.go ((Below.refl _ _).alloc (Nat.le_refl _) _)) ?_ ?_
              · intro w24 hw24 K24
                have L24_0 := lt_of_heap G23_10
                have G24_0 : w24.heap[w3.heap.size]? = some (.cells (dgQ 0 0) _ (0, 0)) := hw24 ▸ hp_alloc G23_10 _
                have G24_n : w24.heap[w23.heap.size]? = some (.cells (dgQ 0 0) 39 (0, 0)) := hw24 ▸ heap_alloc_new _ _
                have S24 : w23.heap.size < w24.heap.size := lt_of_heap G24_n
                have R24_0 : w.heap.size < w23.heap.size := (by obtain ⟨T, h⟩ := K23.at 0 rfl; exact lt_of_heap h)
                have Z24 : w.heap.size ≤ w23.heap.size := K23.nb.size
                clear hw24
                refine t_store (by kernel_rfl) (d := none) (by kernel_rfl) (ty := 39) (x := (.tmp 3)) (y := (.tmp 7)) (by kernel_rfl) (g := w23.heap.size) (cells := (dgQ x.re.val x.im.val)) (by kernel_rfl) (by kernel_rfl) G24_n (by kernel_rfl) (by kernel_rfl) (all_dgA _) (K24.puti (n := 16) (by kernel_rfl) (by omega) (neC (by omega) ne0) ns0) ?_ ?_
                · intro w25 hw25 K25
                  have G25_s : w25.heap[w23.heap.size]? = some (.cells (dgQ x.re.val x.im.val) _ (0, 0)) := hw25 ▸ setRow_heap _ _ _ _ _ _ G24_n
                  have G25_0 : w25.heap[w3.heap.size]? = some (.cells (dgQ 0 0) _ (0, 0)) := hw25 ▸ (setRow_other _ _ _ _ (by omega)).trans G24_0
                  have L25 : w24.heap.size ≤ w25.heap.size := by rw [hw25]; exact Nat.le_of_eq (size_setRow _ _ _).symm
                  clear hw25
                  refine t_store (by kernel_rfl) (d := none) (by kernel_rfl) (ty := 39) (x := (.tmp 4)) (y := (.tmp 10)) (by kernel_rfl) (g := w3.heap.size) (cells := (dgQ y.re.val y.im.val)) (by kernel_rfl) (by kernel_rfl) G25_0 (by kernel_rfl) (by kernel_rfl) (all_dgA _) (K25.puti (n := 16) (by kernel_rfl) (by omega) (neC (by omega) ne0) ns0) ?_ ?_
                  · intro w26 hw26 K26
                    have G26_s : w26.heap[w3.heap.size]? = some (.cells (dgQ y.re.val y.im.val) _ (0, 0)) := hw26 ▸ setRow_heap _ _ _ _ _ _ G25_0
                    have G26_1 : w26.heap[w23.heap.size]? = some (.cells (dgQ x.re.val x.im.val) _ (0, 0)) := hw26 ▸ (setRow_other _ _ _ _ (by omega)).trans G25_s
                    have L26 : w25.heap.size ≤ w26.heap.size := by rw [hw26]; exact Nat.le_of_eq (size_setRow _ _ _).symm
                    clear hw26
                    exact t_done ⟨rfl, w23.heap.size, w3.heap.size, by kernel_rfl, Kept.zero K26.nb (rowsC (K26.at 0 rfl) (rowsC ⟨_, G26_1⟩ (rowsC ⟨_, G26_s⟩ rows0))), (by omega), (by omega), (by omega)⟩
                  · -- another
                    exact t_nil
                · -- another
                  exact t_nil
              · -- another
                exact t_nil
            · -- another
              refine t_make (by kernel_rfl) (d := (some 3)) (by kernel_rfl) (v := .pointer (some ⟨w22.heap.size, 0, none⟩)) (w' := w22.alloc (.cells (dgQ 0 0) 39)) (by kernel_rfl) (K22.go ((Below.refl _ _).alloc (Nat.le_refl _) _)) ?_ ?_
              · intro w27 hw27 K27
                have L27_0 := lt_of_heap G22_n
                have G27_0 : w27.heap[w3.heap.size]? = some (.cells (dgQ 0 0) _ (0, 0)) := hw27 ▸ hp_alloc G22_n _
                have G27_n : w27.heap[w22.heap.size]? = some (.cells (dgQ 0 0) 39 (0, 0)) := hw27 ▸ heap_alloc_new _ _
                have S27 : w22.heap.size < w27.heap.size := lt_of_heap G27_n
                have R27_0 : w.heap.size < w22.heap.size := (by obtain ⟨T, h⟩ := K22.at 0 rfl; exact lt_of_heap h)
                have Z27 : w.heap.size ≤ w22.heap.size := K22.nb.size
                clear hw27
                refine t_call (by kernel_rfl) (d := (some 10)) (by kernel_rfl) (f := 19) (args := #[.agg (fps [c0, d0])]) (v := .agg (dgQ y.re.val y.im.val)) (fun _ => by kernel_rfl) (ofQ_b hc0 hd0 HYY.out) (fun w28 hb28 => ⟨K27.go hb28, ?_⟩) ?_
                · have K28 := K27.go hb28
                  have G28_20 := nb_heap G27_0 _ hb28
                  have G28_21 := nb_heap G27_n _ hb28
                  have L28 := hb28.size
                  refine t_store (by kernel_rfl) (d := none) (by kernel_rfl) (ty := 39) (x := (.tmp 3)) (y := (.tmp 7)) (by kernel_rfl) (g := w22.heap.size) (cells := (dgQ x.re.val x.im.val)) (by kernel_rfl) (by kernel_rfl) G28_21 (by kernel_rfl) (by kernel_rfl) (all_dgA _) (K28.puti (n := 16) (by kernel_rfl) (by omega) (neC (by omega) ne0) ns0) ?_ ?_
                  · intro w29 hw29 K29
                    have G29_s : w29.heap[w22.heap.size]? = some (.cells (dgQ x.re.val x.im.val) _ (0, 0)) := hw29 ▸ setRow_heap _ _ _ _ _ _ G28_21
                    have G29_0 : w29.heap[w3.heap.size]? = some (.cells (dgQ 0 0) _ (0, 0)) := hw29 ▸ (setRow_other _ _ _ _ (by omega)).trans G28_20
                    have L29 : w28.heap.size ≤ w29.heap.size := by rw [hw29]; exact Nat.le_of_eq (size_setRow _ _ _).symm
                    clear hw29
                    refine t_store (by kernel_rfl) (d := none) (by kernel_rfl) (ty := 39) (x := (.tmp 4)) (y := (.tmp 10)) (by kernel_rfl) (g := w3.heap.size) (cells := (dgQ y.re.val y.im.val)) (by kernel_rfl) (by kernel_rfl) G29_0 (by kernel_rfl) (by kernel_rfl) (all_dgA _) (K29.puti (n := 16) (by kernel_rfl) (by omega) (neC (by omega) ne0) ns0) ?_ ?_
                    · intro w30 hw30 K30
                      have G30_s : w30.heap[w3.heap.size]? = some (.cells (dgQ y.re.val y.im.val) _ (0, 0)) := hw30 ▸ setRow_heap _ _ _ _ _ _ G29_0
                      have G30_1 : w30.heap[w22.heap.size]? = some (.cells (dgQ x.re.val x.im.val) _ (0, 0)) := hw30 ▸ (setRow_other _ _ _ _ (by omega)).trans G29_s
                      have L30 : w29.heap.size ≤ w30.heap.size := by rw [hw30]; exact Nat.le_of_eq (size_setRow _ _ _).symm
                      clear hw30
                      exact t_done ⟨rfl, w22.heap.size, w3.heap.size, by kernel_rfl, Kept.zero K30.nb (rowsC (K30.at 0 rfl) (rowsC ⟨_, G30_1⟩ (rowsC ⟨_, G30_s⟩ rows0))), (by omega), (by omega), (by omega)⟩
                    · -- another
                      exact t_nil
                  · -- another
                    exact t_nil
                · -- another
                  exact t_nil
              · -- another
                exact t_nil
          · -- another
            exact t_nil
    · -- another
      refine t_make (by kernel_rfl) (d := (some 3)) (by kernel_rfl) (v := .pointer (some ⟨W0.drew.heap.size, 0, none⟩)) (w' := W0.drew.alloc (.cells (dgQ 0 0) 39)) (by kernel_rfl) (K2.go ((Below.refl _ _).alloc (Nat.le_refl _) _)) ?_ ?_
      · intro w31 hw31 K31
        have G31_n : w31.heap[W0.drew.heap.size]? = some (.cells (dgQ 0 0) 39 (0, 0)) := hw31 ▸ heap_alloc_new _ _
        have S31 : W0.drew.heap.size < w31.heap.size := lt_of_heap G31_n
        have R31_0 : w.heap.size < W0.drew.heap.size := (by obtain ⟨T, h⟩ := K2.at 0 rfl; exact lt_of_heap h)
        have Z31 : w.heap.size ≤ W0.drew.heap.size := K2.nb.size
        clear hw31
        refine t_call (by kernel_rfl) (d := (some 7)) (by kernel_rfl) (f := 19) (args := #[.agg (fps [a0, b0])]) (v := .agg (dgQ x.re.val x.im.val)) (fun _ => by kernel_rfl) (ofQ_b ha0 hb0 HXX.out) (fun w32 hb32 => ⟨K31.go hb32, ?_⟩) ?_
        · have K32 := K31.go hb32
          have G32_10 := nb_heap G31_n _ hb32
          have L32 := hb32.size
          refine t_call (by kernel_rfl) (d := (some 10)) (by kernel_rfl) (f := 19) (args := #[.agg (fps [c0, d0])]) (v := .agg (dgQ y.re.val y.im.val)) (fun _ => by kernel_rfl) (ofQ_b hc0 hd0 HYY.out) (fun w33 hb33 => ⟨K32.go hb33, ?_⟩) ?_
          · have K33 := K32.go hb33
            have G33_10 := nb_heap G32_10 _ hb33
            have L33 := hb33.size
            refine t_make (by kernel_rfl) (d := (some 4)) (by kernel_rfl) (v := .pointer (some ⟨w33.heap.size, 0, none⟩)) (w' := w33.alloc (.cells (dgQ 0 0) 39)) (by kernel_rfl) (K33.go ((Below.refl _ _).alloc (Nat.le_refl _) _)) ?_ ?_
            · intro w34 hw34 K34
              have L34_0 := lt_of_heap G33_10
              have G34_0 : w34.heap[W0.drew.heap.size]? = some (.cells (dgQ 0 0) _ (0, 0)) := hw34 ▸ hp_alloc G33_10 _
              have G34_n : w34.heap[w33.heap.size]? = some (.cells (dgQ 0 0) 39 (0, 0)) := hw34 ▸ heap_alloc_new _ _
              have S34 : w33.heap.size < w34.heap.size := lt_of_heap G34_n
              have R34_0 : w.heap.size < w33.heap.size := (by obtain ⟨T, h⟩ := K33.at 0 rfl; exact lt_of_heap h)
              have Z34 : w.heap.size ≤ w33.heap.size := K33.nb.size
              clear hw34
              refine t_store (by kernel_rfl) (d := none) (by kernel_rfl) (ty := 39) (x := (.tmp 3)) (y := (.tmp 7)) (by kernel_rfl) (g := W0.drew.heap.size) (cells := (dgQ x.re.val x.im.val)) (by kernel_rfl) (by kernel_rfl) G34_0 (by kernel_rfl) (by kernel_rfl) (all_dgA _) (K34.puti (n := 16) (by kernel_rfl) (by omega) (neC (by omega) ne0) ns0) ?_ ?_
              · intro w35 hw35 K35
                have G35_s : w35.heap[W0.drew.heap.size]? = some (.cells (dgQ x.re.val x.im.val) _ (0, 0)) := hw35 ▸ setRow_heap _ _ _ _ _ _ G34_0
                have G35_1 : w35.heap[w33.heap.size]? = some (.cells (dgQ 0 0) _ (0, 0)) := hw35 ▸ (setRow_other _ _ _ _ (by omega)).trans G34_n
                have L35 : w34.heap.size ≤ w35.heap.size := by rw [hw35]; exact Nat.le_of_eq (size_setRow _ _ _).symm
                clear hw35
                refine t_store (by kernel_rfl) (d := none) (by kernel_rfl) (ty := 39) (x := (.tmp 4)) (y := (.tmp 10)) (by kernel_rfl) (g := w33.heap.size) (cells := (dgQ y.re.val y.im.val)) (by kernel_rfl) (by kernel_rfl) G35_1 (by kernel_rfl) (by kernel_rfl) (all_dgA _) (K35.puti (n := 16) (by kernel_rfl) (by omega) (neC (by omega) ne0) ns0) ?_ ?_
                · intro w36 hw36 K36
                  have G36_s : w36.heap[w33.heap.size]? = some (.cells (dgQ y.re.val y.im.val) _ (0, 0)) := hw36 ▸ setRow_heap _ _ _ _ _ _ G35_1
                  have G36_0 : w36.heap[W0.drew.heap.size]? = some (.cells (dgQ x.re.val x.im.val) _ (0, 0)) := hw36 ▸ (setRow_other _ _ _ _ (by omega)).trans G35_s
                  have L36 : w35.heap.size ≤ w36.heap.size := by rw [hw36]; exact Nat.le_of_eq (size_setRow _ _ _).symm
                  clear hw36
                  exact t_done ⟨rfl, W0.drew.heap.size, w33.heap.size, by kernel_rfl, Kept.zero K36.nb (rowsC (K36.at 0 rfl) (rowsC ⟨_, G36_0⟩ (rowsC ⟨_, G36_s⟩ rows0))), (by omega), (by omega), (by omega)⟩
                · -- another
                  exact t_nil
              · -- another
                exact t_nil
            · -- another
              exact t_nil
          · -- another
            refine t_make (by kernel_rfl) (d := (some 4)) (by kernel_rfl) (v := .pointer (some ⟨w32.heap.size, 0, none⟩)) (w' := w32.alloc (.cells (dgQ 0 0) 39)) (by kernel_rfl) (K32.go ((Below.refl _ _).alloc (Nat.le_refl _) _)) ?_ ?_
            · intro w37 hw37 K37
              have L37_0 := lt_of_heap G32_10
              have G37_0 : w37.heap[W0.drew.heap.size]? = some (.cells (dgQ 0 0) _ (0, 0)) := hw37 ▸ hp_alloc G32_10 _
              have G37_n : w37.heap[w32.heap.size]? = some (.cells (dgQ 0 0) 39 (0, 0)) := hw37 ▸ heap_alloc_new _ _
              have S37 : w32.heap.size < w37.heap.size := lt_of_heap G37_n
              have R37_0 : w.heap.size < w32.heap.size := (by obtain ⟨T, h⟩ := K32.at 0 rfl; exact lt_of_heap h)
              have Z37 : w.heap.size ≤ w32.heap.size := K32.nb.size
              clear hw37
              refine t_call (by kernel_rfl) (d := (some 10)) (by kernel_rfl) (f := 19) (args := #[.agg (fps [c0, d0])]) (v := .agg (dgQ y.re.val y.im.val)) (fun _ => by kernel_rfl) (ofQ_b hc0 hd0 HYY.out) (fun w38 hb38 => ⟨K37.go hb38, ?_⟩) ?_
              · have K38 := K37.go hb38
                have G38_20 := nb_heap G37_0 _ hb38
                have G38_21 := nb_heap G37_n _ hb38
                have L38 := hb38.size
                refine t_store (by kernel_rfl) (d := none) (by kernel_rfl) (ty := 39) (x := (.tmp 3)) (y := (.tmp 7)) (by kernel_rfl) (g := W0.drew.heap.size) (cells := (dgQ x.re.val x.im.val)) (by kernel_rfl) (by kernel_rfl) G38_20 (by kernel_rfl) (by kernel_rfl) (all_dgA _) (K38.puti (n := 16) (by kernel_rfl) (by omega) (neC (by omega) ne0) ns0) ?_ ?_
                · intro w39 hw39 K39
                  have G39_s : w39.heap[W0.drew.heap.size]? = some (.cells (dgQ x.re.val x.im.val) _ (0, 0)) := hw39 ▸ setRow_heap _ _ _ _ _ _ G38_20
                  have G39_1 : w39.heap[w32.heap.size]? = some (.cells (dgQ 0 0) _ (0, 0)) := hw39 ▸ (setRow_other _ _ _ _ (by omega)).trans G38_21
                  have L39 : w38.heap.size ≤ w39.heap.size := by rw [hw39]; exact Nat.le_of_eq (size_setRow _ _ _).symm
                  clear hw39
                  refine t_store (by kernel_rfl) (d := none) (by kernel_rfl) (ty := 39) (x := (.tmp 4)) (y := (.tmp 10)) (by kernel_rfl) (g := w32.heap.size) (cells := (dgQ y.re.val y.im.val)) (by kernel_rfl) (by kernel_rfl) G39_1 (by kernel_rfl) (by kernel_rfl) (all_dgA _) (K39.puti (n := 16) (by kernel_rfl) (by omega) (neC (by omega) ne0) ns0) ?_ ?_
                  · intro w40 hw40 K40
                    have G40_s : w40.heap[w32.heap.size]? = some (.cells (dgQ y.re.val y.im.val) _ (0, 0)) := hw40 ▸ setRow_heap _ _ _ _ _ _ G39_1
                    have G40_0 : w40.heap[W0.drew.heap.size]? = some (.cells (dgQ x.re.val x.im.val) _ (0, 0)) := hw40 ▸ (setRow_other _ _ _ _ (by omega)).trans G39_s
                    have L40 : w39.heap.size ≤ w40.heap.size := by rw [hw40]; exact Nat.le_of_eq (size_setRow _ _ _).symm
                    clear hw40
                    exact t_done ⟨rfl, W0.drew.heap.size, w32.heap.size, by kernel_rfl, Kept.zero K40.nb (rowsC (K40.at 0 rfl) (rowsC ⟨_, G40_0⟩ (rowsC ⟨_, G40_s⟩ rows0))), (by omega), (by omega), (by omega)⟩
                  · -- another
                    exact t_nil
                · -- another
                  exact t_nil
              · -- another
                exact t_nil
            · -- another
              exact t_nil
        · -- another
          refine t_make (by kernel_rfl) (d := (some 4)) (by kernel_rfl) (v := .pointer (some ⟨w31.heap.size, 0, none⟩)) (w' := w31.alloc (.cells (dgQ 0 0) 39)) (by kernel_rfl) (K31.go ((Below.refl _ _).alloc (Nat.le_refl _) _)) ?_ ?_
          · intro w41 hw41 K41
            have L41_0 := lt_of_heap G31_n
            have G41_0 : w41.heap[W0.drew.heap.size]? = some (.cells (dgQ 0 0) _ (0, 0)) := hw41 ▸ hp_alloc G31_n _
            have G41_n : w41.heap[w31.heap.size]? = some (.cells (dgQ 0 0) 39 (0, 0)) := hw41 ▸ heap_alloc_new _ _
            have S41 : w31.heap.size < w41.heap.size := lt_of_heap G41_n
            have R41_0 : w.heap.size < w31.heap.size := (by obtain ⟨T, h⟩ := K31.at 0 rfl; exact lt_of_heap h)
            have Z41 : w.heap.size ≤ w31.heap.size := K31.nb.size
            clear hw41
            refine t_call (by kernel_rfl) (d := (some 7)) (by kernel_rfl) (f := 19) (args := #[.agg (fps [a0, b0])]) (v := .agg (dgQ x.re.val x.im.val)) (fun _ => by kernel_rfl) (ofQ_b ha0 hb0 HXX.out) (fun w42 hb42 => ⟨K41.go hb42, ?_⟩) ?_
            · have K42 := K41.go hb42
              have G42_20 := nb_heap G41_0 _ hb42
              have G42_21 := nb_heap G41_n _ hb42
              have L42 := hb42.size
              refine t_call (by kernel_rfl) (d := (some 10)) (by kernel_rfl) (f := 19) (args := #[.agg (fps [c0, d0])]) (v := .agg (dgQ y.re.val y.im.val)) (fun _ => by kernel_rfl) (ofQ_b hc0 hd0 HYY.out) (fun w43 hb43 => ⟨K42.go hb43, ?_⟩) ?_
              · have K43 := K42.go hb43
                have G43_20 := nb_heap G42_20 _ hb43
                have G43_21 := nb_heap G42_21 _ hb43
                have L43 := hb43.size
                refine t_store (by kernel_rfl) (d := none) (by kernel_rfl) (ty := 39) (x := (.tmp 3)) (y := (.tmp 7)) (by kernel_rfl) (g := W0.drew.heap.size) (cells := (dgQ x.re.val x.im.val)) (by kernel_rfl) (by kernel_rfl) G43_20 (by kernel_rfl) (by kernel_rfl) (all_dgA _) (K43.puti (n := 16) (by kernel_rfl) (by omega) (neC (by omega) ne0) ns0) ?_ ?_
                · intro w44 hw44 K44
                  have G44_s : w44.heap[W0.drew.heap.size]? = some (.cells (dgQ x.re.val x.im.val) _ (0, 0)) := hw44 ▸ setRow_heap _ _ _ _ _ _ G43_20
                  have G44_1 : w44.heap[w31.heap.size]? = some (.cells (dgQ 0 0) _ (0, 0)) := hw44 ▸ (setRow_other _ _ _ _ (by omega)).trans G43_21
                  have L44 : w43.heap.size ≤ w44.heap.size := by rw [hw44]; exact Nat.le_of_eq (size_setRow _ _ _).symm
                  clear hw44
                  refine t_store (by kernel_rfl) (d := none) (by kernel_rfl) (ty := 39) (x := (.tmp 4)) (y := (.tmp 10)) (by kernel_rfl) (g := w31.heap.size) (cells := (dgQ y.re.val y.im.val)) (by kernel_rfl) (by kernel_rfl) G44_1 (by kernel_rfl) (by kernel_rfl) (all_dgA _) (K44.puti (n := 16) (by kernel_rfl) (by omega) (neC (by omega) ne0) ns0) ?_ ?_
                  · intro w45 hw45 K45
                    have G45_s : w45.heap[w31.heap.size]? = some (.cells (dgQ y.re.val y.im.val) _ (0, 0)) := hw45 ▸ setRow_heap _ _ _ _ _ _ G44_1
                    have G45_0 : w45.heap[W0.drew.heap.size]? = some (.cells (dgQ x.re.val x.im.val) _ (0, 0)) := hw45 ▸ (setRow_other _ _ _ _ (by omega)).trans G44_s
                    have L45 : w44.heap.size ≤ w45.heap.size := by rw [hw45]; exact Nat.le_of_eq (size_setRow _ _ _).symm
                    clear hw45
                    exact t_done ⟨rfl, W0.drew.heap.size, w31.heap.size, by kernel_rfl, Kept.zero K45.nb (rowsC (K45.at 0 rfl) (rowsC ⟨_, G45_0⟩ (rowsC ⟨_, G45_s⟩ rows0))), (by omega), (by omega), (by omega)⟩
                  · -- another
                    exact t_nil
                · -- another
                  exact t_nil
              · -- another
                exact t_nil
            · -- another
              exact t_nil
          · -- another
            exact t_nil
      · -- another
        refine t_make (by kernel_rfl) (d := (some 4)) (by kernel_rfl) (v := .pointer (some ⟨W0.drew.heap.size, 0, none⟩)) (w' := W0.drew.alloc (.cells (dgQ 0 0) 39)) (by kernel_rfl) (K2.go ((Below.refl _ _).alloc (Nat.le_refl _) _)) ?_ ?_
        · intro w46 hw46 K46
          have G46_n : w46.heap[W0.drew.heap.size]? = some (.cells (dgQ 0 0) 39 (0, 0)) := hw46 ▸ heap_alloc_new _ _
          have S46 : W0.drew.heap.size < w46.heap.size := lt_of_heap G46_n
          have R46_0 : w.heap.size < W0.drew.heap.size := (by obtain ⟨T, h⟩ := K2.at 0 rfl; exact lt_of_heap h)
          have Z46 : w.heap.size ≤ W0.drew.heap.size := K2.nb.size
          clear hw46
          refine t_call (by kernel_rfl) (d := (some 7)) (by kernel_rfl) (f := 19) (args := #[.agg (fps [a0, b0])]) (v := .agg (dgQ x.re.val x.im.val)) (fun _ => by kernel_rfl) (ofQ_b ha0 hb0 HXX.out) (fun w47 hb47 => ⟨K46.go hb47, ?_⟩) ?_
          · have K47 := K46.go hb47
            have G47_10 := nb_heap G46_n _ hb47
            have L47 := hb47.size
            refine t_call (by kernel_rfl) (d := (some 10)) (by kernel_rfl) (f := 19) (args := #[.agg (fps [c0, d0])]) (v := .agg (dgQ y.re.val y.im.val)) (fun _ => by kernel_rfl) (ofQ_b hc0 hd0 HYY.out) (fun w48 hb48 => ⟨K47.go hb48, ?_⟩) ?_
            · have K48 := K47.go hb48
              have G48_10 := nb_heap G47_10 _ hb48
              have L48 := hb48.size
              refine t_make (by kernel_rfl) (d := (some 3)) (by kernel_rfl) (v := .pointer (some ⟨w48.heap.size, 0, none⟩)) (w' := w48.alloc (.cells (dgQ 0 0) 39)) (by kernel_rfl) (K48.go ((Below.refl _ _).alloc (Nat.le_refl _) _)) ?_ ?_
              · intro w49 hw49 K49
                have L49_0 := lt_of_heap G48_10
                have G49_0 : w49.heap[W0.drew.heap.size]? = some (.cells (dgQ 0 0) _ (0, 0)) := hw49 ▸ hp_alloc G48_10 _
                have G49_n : w49.heap[w48.heap.size]? = some (.cells (dgQ 0 0) 39 (0, 0)) := hw49 ▸ heap_alloc_new _ _
                have S49 : w48.heap.size < w49.heap.size := lt_of_heap G49_n
                have R49_0 : w.heap.size < w48.heap.size := (by obtain ⟨T, h⟩ := K48.at 0 rfl; exact lt_of_heap h)
                have Z49 : w.heap.size ≤ w48.heap.size := K48.nb.size
                clear hw49
                refine t_store (by kernel_rfl) (d := none) (by kernel_rfl) (ty := 39) (x := (.tmp 3)) (y := (.tmp 7)) (by kernel_rfl) (g := w48.heap.size) (cells := (dgQ x.re.val x.im.val)) (by kernel_rfl) (by kernel_rfl) G49_n (by kernel_rfl) (by kernel_rfl) (all_dgA _) (K49.puti (n := 16) (by kernel_rfl) (by omega) (neC (by omega) ne0) ns0) ?_ ?_
                · intro w50 hw50 K50
                  have G50_s : w50.heap[w48.heap.size]? = some (.cells (dgQ x.re.val x.im.val) _ (0, 0)) := hw50 ▸ setRow_heap _ _ _ _ _ _ G49_n
                  have G50_0 : w50.heap[W0.drew.heap.size]? = some (.cells (dgQ 0 0) _ (0, 0)) := hw50 ▸ (setRow_other _ _ _ _ (by omega)).trans G49_0
                  have L50 : w49.heap.size ≤ w50.heap.size := by rw [hw50]; exact Nat.le_of_eq (size_setRow _ _ _).symm
                  clear hw50
                  refine t_store (by kernel_rfl) (d := none) (by kernel_rfl) (ty := 39) (x := (.tmp 4)) (y := (.tmp 10)) (by kernel_rfl) (g := W0.drew.heap.size) (cells := (dgQ y.re.val y.im.val)) (by kernel_rfl) (by kernel_rfl) G50_0 (by kernel_rfl) (by kernel_rfl) (all_dgA _) (K50.puti (n := 16) (by kernel_rfl) (by omega) (neC (by omega) ne0) ns0) ?_ ?_
                  · intro w51 hw51 K51
                    have G51_s : w51.heap[W0.drew.heap.size]? = some (.cells (dgQ y.re.val y.im.val) _ (0, 0)) := hw51 ▸ setRow_heap _ _ _ _ _ _ G50_0
                    have G51_1 : w51.heap[w48.heap.size]? = some (.cells (dgQ x.re.val x.im.val) _ (0, 0)) := hw51 ▸ (setRow_other _ _ _ _ (by omega)).trans G50_s
                    have L51 : w50.heap.size ≤ w51.heap.size := by rw [hw51]; exact Nat.le_of_eq (size_setRow _ _ _).symm
                    clear hw51
                    exact t_done ⟨rfl, w48.heap.size, W0.drew.heap.size, by kernel_rfl, Kept.zero K51.nb (rowsC (K51.at 0 rfl) (rowsC ⟨_, G51_1⟩ (rowsC ⟨_, G51_s⟩ rows0))), (by omega), (by omega), (by omega)⟩
                  · -- another
                    exact t_nil
                · -- another
                  exact t_nil
              · -- another
                exact t_nil
            · -- another
              refine t_make (by kernel_rfl) (d := (some 3)) (by kernel_rfl) (v := .pointer (some ⟨w47.heap.size, 0, none⟩)) (w' := w47.alloc (.cells (dgQ 0 0) 39)) (by kernel_rfl) (K47.go ((Below.refl _ _).alloc (Nat.le_refl _) _)) ?_ ?_
              · intro w52 hw52 K52
                have L52_0 := lt_of_heap G47_10
                have G52_0 : w52.heap[W0.drew.heap.size]? = some (.cells (dgQ 0 0) _ (0, 0)) := hw52 ▸ hp_alloc G47_10 _
                have G52_n : w52.heap[w47.heap.size]? = some (.cells (dgQ 0 0) 39 (0, 0)) := hw52 ▸ heap_alloc_new _ _
                have S52 : w47.heap.size < w52.heap.size := lt_of_heap G52_n
                have R52_0 : w.heap.size < w47.heap.size := (by obtain ⟨T, h⟩ := K47.at 0 rfl; exact lt_of_heap h)
                have Z52 : w.heap.size ≤ w47.heap.size := K47.nb.size
                clear hw52
                refine t_call (by kernel_rfl) (d := (some 10)) (by kernel_rfl) (f := 19) (args := #[.agg (fps [c0, d0])]) (v := .agg (dgQ y.re.val y.im.val)) (fun _ => by kernel_rfl) (ofQ_b hc0 hd0 HYY.out) (fun w53 hb53 => ⟨K52.go hb53, ?_⟩) ?_
                · have K53 := K52.go hb53
                  have G53_20 := nb_heap G52_0 _ hb53
                  have G53_21 := nb_heap G52_n _ hb53
                  have L53 := hb53.size
                  refine t_store (by kernel_rfl) (d := none) (by kernel_rfl) (ty := 39) (x := (.tmp 3)) (y := (.tmp 7)) (by kernel_rfl) (g := w47.heap.size) (cells := (dgQ x.re.val x.im.val)) (by kernel_rfl) (by kernel_rfl) G53_21 (by kernel_rfl) (by kernel_rfl) (all_dgA _) (K53.puti (n := 16) (by kernel_rfl) (by omega) (neC (by omega) ne0) ns0) ?_ ?_
                  · intro w54 hw54 K54
                    have G54_s : w54.heap[w47.heap.size]? = some (.cells (dgQ x.re.val x.im.val) _ (0, 0)) := hw54 ▸ setRow_heap _ _ _ _ _ _ G53_21
                    have G54_0 : w54.heap[W0.drew.heap.size]? = some (.cells (dgQ 0 0) _ (0, 0)) := hw54 ▸ (setRow_other _ _ _ _ (by omega)).trans G53_20
                    have L54 : w53.heap.size ≤ w54.heap.size := by rw [hw54]; exact Nat.le_of_eq (size_setRow _ _ _).symm
                    clear hw54
                    refine t_store (by kernel_rfl) (d := none) (by kernel_rfl) (ty := 39) (x := (.tmp 4)) (y := (.tmp 10)) (by kernel_rfl) (g := W0.drew.heap.size) (cells := (dgQ y.re.val y.im.val)) (by kernel_rfl) (by kernel_rfl) G54_0 (by kernel_rfl) (by kernel_rfl) (all_dgA _) (K54.puti (n := 16) (by kernel_rfl) (by omega) (neC (by omega) ne0) ns0) ?_ ?_
                    · intro w55 hw55 K55
                      have G55_s : w55.heap[W0.drew.heap.size]? = some (.cells (dgQ y.re.val y.im.val) _ (0, 0)) := hw55 ▸ setRow_heap _ _ _ _ _ _ G54_0
                      have G55_1 : w55.heap[w47.heap.size]? = some (.cells (dgQ x.re.val x.im.val) _ (0, 0)) := hw55 ▸ (setRow_other _ _ _ _ (by omega)).trans G54_s
                      have L55 : w54.heap.size ≤ w55.heap.size := by rw [hw55]; exact Nat.le_of_eq (size_setRow _ _ _).symm
                      clear hw55
                      exact t_done ⟨rfl, w47.heap.size, W0.drew.heap.size, by kernel_rfl, Kept.zero K55.nb (rowsC (K55.at 0 rfl) (rowsC ⟨_, G55_1⟩ (rowsC ⟨_, G55_s⟩ rows0))), (by omega), (by omega), (by omega)⟩
                    · -- another
                      exact t_nil
                  · -- another
                    exact t_nil
                · -- another
                  exact t_nil
              · -- another
                exact t_nil
          · -- another
            refine t_make (by kernel_rfl) (d := (some 3)) (by kernel_rfl) (v := .pointer (some ⟨w46.heap.size, 0, none⟩)) (w' := w46.alloc (.cells (dgQ 0 0) 39)) (by kernel_rfl) (K46.go ((Below.refl _ _).alloc (Nat.le_refl _) _)) ?_ ?_
            · intro w56 hw56 K56
              have L56_0 := lt_of_heap G46_n
              have G56_0 : w56.heap[W0.drew.heap.size]? = some (.cells (dgQ 0 0) _ (0, 0)) := hw56 ▸ hp_alloc G46_n _
              have G56_n : w56.heap[w46.heap.size]? = some (.cells (dgQ 0 0) 39 (0, 0)) := hw56 ▸ heap_alloc_new _ _
              have S56 : w46.heap.size < w56.heap.size := lt_of_heap G56_n
              have R56_0 : w.heap.size < w46.heap.size := (by obtain ⟨T, h⟩ := K46.at 0 rfl; exact lt_of_heap h)
              have Z56 : w.heap.size ≤ w46.heap.size := K46.nb.size
              clear hw56
              refine t_call (by kernel_rfl) (d := (some 7)) (by kernel_rfl) (f := 19) (args := #[.agg (fps [a0, b0])]) (v := .agg (dgQ x.re.val x.im.val)) (fun _ => by kernel_rfl) (ofQ_b ha0 hb0 HXX.out) (fun w57 hb57 => ⟨K56.go hb57, ?_⟩) ?_
              · have K57 := K56.go hb57
                have G57_20 := nb_heap G56_0 _ hb57
                have G57_21 := nb_heap G56_n _ hb57
                have L57 := hb57.size
                refine t_call (by kernel_rfl) (d := (some 10)) (by kernel_rfl) (f := 19) (args := #[.agg (fps [c0, d0])]) (v := .agg (dgQ y.re.val y.im.val)) (fun _ => by kernel_rfl) (ofQ_b hc0 hd0 HYY.out) (fun w58 hb58 => ⟨K57.go hb58, ?_⟩) ?_
                · have K58 := K57.go hb58
                  have G58_20 := nb_heap G57_20 _ hb58
                  have G58_21 := nb_heap G57_21 _ hb58
                  have L58 := hb58.size
                  refine t_store (by kernel_rfl) (d := none) (by kernel_rfl) (ty := 39) (x := (.tmp 3)) (y := (.tmp 7)) (by kernel_rfl) (g := w46.heap.size) (cells := (dgQ x.re.val x.im.val)) (by kernel_rfl) (by kernel_rfl) G58_21 (by kernel_rfl) (by kernel_rfl) (all_dgA _) (K58.puti (n := 16) (by kernel_rfl) (by omega) (neC (by omega) ne0) ns0) ?_ ?_
                  · intro w59 hw59 K59
                    have G59_s : w59.heap[w46.heap.size]? = some (.cells (dgQ x.re.val x.im.val) _ (0, 0)) := hw59 ▸ setRow_heap _ _ _ _ _ _ G58_21
                    have G59_0 : w59.heap[W0.drew.heap.size]? = some (.cells (dgQ 0 0) _ (0, 0)) := hw59 ▸ (setRow_other _ _ _ _ (by omega)).trans G58_20
                    have L59 : w58.heap.size ≤ w59.heap.size := by rw [hw59]; exact Nat.le_of_eq (size_setRow _ _ _).symm
                    clear hw59
                    refine t_store (by kernel_rfl) (d := none) (by kernel_rfl) (ty := 39) (x := (.tmp 4)) (y := (.tmp 10)) (by kernel_rfl) (g := W0.drew.heap.size) (cells := (dgQ y.re.val y.im.val)) (by kernel_rfl) (by kernel_rfl) G59_0 (by kernel_rfl) (by kernel_rfl) (all_dgA _) (K59.puti (n := 16) (by kernel_rfl) (by omega) (neC (by omega) ne0) ns0) ?_ ?_
                    · intro w60 hw60 K60
                      have G60_s : w60.heap[W0.drew.heap.size]? = some (.cells (dgQ y.re.val y.im.val) _ (0, 0)) := hw60 ▸ setRow_heap _ _ _ _ _ _ G59_0
                      have G60_1 : w60.heap[w46.heap.size]? = some (.cells (dgQ x.re.val x.im.val) _ (0, 0)) := hw60 ▸ (setRow_other _ _ _ _ (by omega)).trans G59_s
                      have L60 : w59.heap.size ≤ w60.heap.size := by rw [hw60]; exact Nat.le_of_eq (size_setRow _ _ _).symm
                      clear hw60
                      exact t_done ⟨rfl, w46.heap.size, W0.drew.heap.size, by kernel_rfl, Kept.zero K60.nb (rowsC (K60.at 0 rfl) (rowsC ⟨_, G60_1⟩ (rowsC ⟨_, G60_s⟩ rows0))), (by omega), (by omega), (by omega)⟩
                    · -- another
                      exact t_nil
                  · -- another
                    exact t_nil
                · -- another
                  exact t_nil
              · -- another
                exact t_nil
            · -- another
              exact t_nil
        · -- another
          exact t_nil
  · rintro _ W61 ⟨p3, p4, rfl, K62, l63, l64, n65⟩
    go_upto_region 2 with (fail)
    have K66 : Kept w [(w.heap.size, (fps [a0, b0, c0, d0])), (p3, (dgQ x.re.val x.im.val)), (p4, (dgQ y.re.val y.im.val))] [] W61 := Kept.mks K62.nb (rowsC (K62.at 0 rfl) (rowsC (K62.at 1 rfl) (rowsC (K62.at 2 rfl) rows0))) rooms0
    refine wp_seq_atS (opsAt Tryd.f7 2) ((true, 0) :: (true, 1) :: (true, 2) :: (true, 3) :: (true, 4) :: (true, 5) :: (true, 6) :: (true, 7) :: (true, 8) :: (true, 9) :: (true, 10) :: (true, 11) :: (false, 12) :: (false, 13) :: (true, 14) :: []) (Kept w [(w.heap.size, (fps [a0, b0, c0, d0])), (p3, (dgQ x.re.val x.im.val)), (p4, (dgQ y.re.val y.im.val))] []) (by kernel_rfl) (by kernel_rfl) K66 ?_
    refine k_pure (by kernel_rfl) (d := (some 11)) (by kernel_rfl) (v := .pointer (some ⟨w.heap.size, 0, none⟩)) (fun _ => by kernel_rfl) ?_
    refine k_pure (by kernel_rfl) (d := (some 12)) (by kernel_rfl) (v := .pointer (some ⟨w.heap.size, 0, none⟩)) (fun _ => by kernel_rfl) ?_
    refine k_part (by kernel_rfl) (d := (some 13)) (by kernel_rfl) (ty := 22) (x := (.tmp 12)) (by kernel_rfl) (b := w.heap.size) (off := 0) (by kernel_rfl) (all := (fps [a0, b0, c0, d0])) (cs := (fpC a0)) (fun _ hs => hs.at 0 rfl) (fpsub1 (k := 0) rfl) Tryd.underlying22 rfl (by kernel_rfl) ?_
    refine k_pure (by kernel_rfl) (d := (some 14)) (by kernel_rfl) (v := .pointer (some ⟨w.heap.size, 0, none⟩)) (fun _ => by kernel_rfl) ?_
    refine k_pure (by kernel_rfl) (d := (some 15)) (by kernel_rfl) (v := .pointer (some ⟨w.heap.size, 16, none⟩)) (fun _ => by kernel_rfl) ?_
    refine k_part (by kernel_rfl) (d := (some 16)) (by kernel_rfl) (ty := 22) (x := (.tmp 15)) (by kernel_rfl) (b := w.heap.size) (off := 16) (by kernel_rfl) (all := (fps [a0, b0, c0, d0])) (cs := (fpC b0)) (fun _ hs => hs.at 0 rfl) (fpsub1 (k := 1) rfl) Tryd.underlying22 rfl (by kernel_rfl) ?_
    refine k_pure (by kernel_rfl) (d := (some 17)) (by kernel_rfl) (v := .pointer (some ⟨w.heap.size, 32, none⟩)) (fun _ => by kernel_rfl) ?_
    refine k_pure (by kernel_rfl) (d := (some 18)) (by kernel_rfl) (v := .pointer (some ⟨w.heap.size, 32, none⟩)) (fun _ => by kernel_rfl) ?_
    refine k_part (by kernel_rfl) (d := (some 19)) (by kernel_rfl) (ty := 22) (x := (.tmp 18)) (by kernel_rfl) (b := w.heap.size) (off := 32) (by kernel_rfl) (all := (fps [a0, b0, c0, d0])) (cs := (fpC c0)) (fun _ hs => hs.at 0 rfl) (fpsub1 (k := 2) rfl) Tryd.underlying22 rfl (by kernel_rfl) ?_
    refine k_pure (by kernel_rfl) (d := (some 20)) (by kernel_rfl) (v := .pointer (some ⟨w.heap.size, 32, none⟩)) (fun _ => by kernel_rfl) ?_
    refine k_pure (by kernel_rfl) (d := (some 21)) (by kernel_rfl) (v := .pointer (some ⟨w.heap.size, 48, none⟩)) (fun _ => by kernel_rfl) ?_
    refine k_part (by kernel_rfl) (d := (some 22)) (by kernel_rfl) (ty := 22) (x := (.tmp 21)) (by kernel_rfl) (b := w.heap.size) (off := 48) (by kernel_rfl) (all := (fps [a0, b0, c0, d0])) (cs := (fpC d0)) (fun _ hs => hs.at 0 rfl) (fpsub1 (k := 3) rfl) Tryd.underlying22 rfl (by kernel_rfl) ?_
    refine k_make (by kernel_rfl) (d := (some 23)) (by kernel_rfl) (v := .slice (some ⟨W61.heap.size, 0, none⟩) 4 4) (w' := W61.alloc (.cells (fps [a0, b0, c0, d0]) 22)) (by kernel_rfl) (K66.go ((Below.refl _ _).alloc (Nat.le_refl _) _)) ?_
    intro w67 hw67 K67
    have G67_n : w67.heap[W61.heap.size]? = some (.cells (fps [a0, b0, c0, d0]) 22 (0, 0)) := hw67 ▸ heap_alloc_new _ _
    have S67 : W61.heap.size < w67.heap.size := lt_of_heap G67_n
    have R67_0 : w.heap.size < W61.heap.size := (by obtain ⟨T, h⟩ := K66.at 0 rfl; exact lt_of_heap h)
    have R67_1 : p3 < W61.heap.size := (by obtain ⟨T, h⟩ := K66.at 1 rfl; exact lt_of_heap h)
    have R67_2 : p4 < W61.heap.size := (by obtain ⟨T, h⟩ := K66.at 2 rfl; exact lt_of_heap h)
    have Z67 : w.heap.size ≤ W61.heap.size := K66.nb.size
    clear hw67
    refine k_call (by kernel_rfl) (d := (some 24)) (by kernel_rfl) (f := 29) (args := #[.slice (some ⟨W61.heap.size, 0, none⟩) 4 4]) (v := .bool true) (fun _ => by kernel_rfl) (low_r (l := [a0, b0, c0, d0]) hl ⟨_, G67_n⟩ (all4 ha0 hb0 hc0 hd0) (Nat.le_of_ble_eq_true rfl)) (fun w68 hb68 => ⟨K67.go hb68, ?_⟩)
    have K68 := K67.go hb68
    have G68_10 := nb_heap G67_n _ hb68
    have L68 := hb68.size
    refine k_pure (by kernel_rfl) (d := (some 25)) (by kernel_rfl) (v := .bool false) (fun _ => by kernel_rfl) ?_
    have K69 : Kept w [(w.heap.size, (fps [a0, b0, c0, d0])), (p3, (dgQ x.re.val x.im.val)), (p4, (dgQ y.re.val y.im.val)), (W61.heap.size, (fps [a0, b0, c0, d0]))] [] w68 := Kept.zero K68.nb (rowsC (K68.at 0 rfl) (rowsC (K68.at 1 rfl) (rowsC (K68.at 2 rfl) (rowsC ⟨_, G68_10⟩ rows0))))
    clear G68_10 G67_n
    refine k_end ?_
    go_simp
    go_upto_region 4 with (fail)
    have K70 : Kept w [(w.heap.size, (fps [a0, b0, c0, d0])), (p3, (dgQ x.re.val x.im.val)), (p4, (dgQ y.re.val y.im.val)), (W61.heap.size, (fps [a0, b0, c0, d0]))] [] w68 := Kept.mks K69.nb (rowsC (K69.at 0 rfl) (rowsC (K69.at 1 rfl) (rowsC (K69.at 2 rfl) (rowsC (K69.at 3 rfl) rows0)))) rooms0
    refine wp_region_atS (opsAt Tryd.f7 4) ((false, 0) :: (false, 1) :: (false, 2) :: (true, 3) :: (false, 4) :: (false, 5) :: (true, 6) :: (true, 7) :: (true, 8) :: (false, 9) :: (false, 10) :: (false, 11) :: (true, 12) :: (true, 13) :: (false, 14) :: (false, 15) :: (false, 16) :: (true, 17) :: (true, 18) :: (true, 19) :: (true, 21) :: (true, 22) :: (false, 20) :: (false, 23) :: (true, 24) :: (true, 25) :: (true, 26) :: []) (Kept w [(w.heap.size, (fps [a0, b0, c0, d0])), (p3, (dgQ x.re.val x.im.val)), (p4, (dgQ y.re.val y.im.val)), (W61.heap.size, (fps [a0, b0, c0, d0]))] []) (by kernel_rfl) rfl (by kernel_rfl) (fun _ _ d _ _ h => by cases d <;> exact h) (by kernel_rfl) (by kernel_rfl) K70.drew ?_
    have K71 := K70.drew
    have DK71 : w68.heap.size ≤ w68.drew.heap.size := Nat.le_refl _
    refine k_call (by kernel_rfl) (d := (some 26)) (by kernel_rfl) (f := 31) (args := #[]) (v := .agg (fps [D.re.val, D.im.val])) (fun _ => by kernel_rfl) (implD (hm.nb K71.nb) (by obtain ⟨T, h⟩ := hv; exact ⟨T, nb_heap h _ K71.nb⟩) hda hdb hza hzb) (fun w72 hb72 => ⟨K71.go hb72, ?_⟩)
    have K72 := K71.go hb72
    have L72 := hb72.size
    refine k_call (by kernel_rfl) (d := (some 27)) (by kernel_rfl) (f := 32) (args := #[]) (v := .agg (dgQ D.re.val D.im.val)) (fun _ => by kernel_rfl) (dD_g HD.out) (fun w73 hb73 => ⟨K72.go hb73, ?_⟩)
    have K73 := K72.go hb73
    have L73 := hb73.size
    refine k_call (by kernel_rfl) (d := (some 28)) (by kernel_rfl) (f := 30) (args := #[.agg (fps [D.re.val, D.im.val]), .agg (dgQ D.re.val D.im.val)]) (v := .bool true) (fun _ => by kernel_rfl) (isQ_true rfl rfl) (fun w74 hb74 => ⟨K73.go hb74, ?_⟩)
    have K74 := K73.go hb74
    have L74 := hb74.size
    refine k_pure (by kernel_rfl) (d := (some 29)) (by kernel_rfl) (v := .bool true) (fun _ => by kernel_rfl) ?_
    refine k_call (by kernel_rfl) (d := (some 30)) (by kernel_rfl) (f := 33) (args := #[]) (v := .agg #[.int .u64 3436901888089820391, .int .u64 16122042576031152537, .int .u64 17317351579400803557, .int .u64 11764505149049458]) (fun _ => by kernel_rfl) (implOrder (by obtain ⟨T, h⟩ := ho; exact ⟨T, nb_heap h _ K74.nb⟩)) (fun w75 hb75 => ⟨K74.go hb75, ?_⟩)
    have K75 := K74.go hb75
    have L75 := hb75.size
    refine k_call (by kernel_rfl) (d := (some 31)) (by kernel_rfl) (f := 34) (args := #[]) (v := .agg #[.int .u64 3436901888089820391, .int .u64 16122042576031152537, .int .u64 17317351579400803557, .int .u64 11764505149049458]) (fun _ => by kernel_rfl) (specOrder) (fun w76 hb76 => ⟨K75.go hb76, ?_⟩)
    have K76 := K75.go hb76
    have L76 := hb76.size
    refine k_eql (by kernel_rfl) (d := (some 32)) (by kernel_rfl) (ty := 60) (ty' := 60) (x := (.tmp 30)) (y := (.tmp 31)) (by kernel_rfl) (xs := #[.int .u64 3436901888089820391, .int .u64 16122042576031152537, .int .u64 17317351579400803557, .int .u64 11764505149049458]) (ys := #[.int .u64 3436901888089820391, .int .u64 16122042576031152537, .int .u64 17317351579400803557, .int .u64 11764505149049458]) (b := true) (by kernel_rfl) (by kernel_rfl) (by kernel_rfl) eqOrd ?_
    refine k_pure (by kernel_rfl) (d := (some 33)) (by kernel_rfl) (v := .bool true) (fun _ => by kernel_rfl) ?_
    refine k_pure (by kernel_rfl) (d := (some 34)) (by kernel_rfl) (v := .bool true) (fun _ => by kernel_rfl) ?_
    refine k_call (by kernel_rfl) (d := (some 35)) (by kernel_rfl) (f := 35) (args := #[]) (v := .agg (fps [gx.re.val, gx.im.val, gy.re.val, gy.im.val])) (fun _ => by kernel_rfl) (implGenerator (hm.nb K76.nb) (Nat.le_trans hg K76.nb.size) (hx.nb K76.nb) (hy.nb K76.nb)) (fun w77 hb77 => ⟨K76.go hb77, ?_⟩)
    have K77 := K76.go hb77
    have L77 := hb77.size
    refine k_call (by kernel_rfl) (d := (some 36)) (by kernel_rfl) (f := 36) (args := #[]) (v := .agg (dgL [gx.re.val, gx.im.val, gy.re.val, gy.im.val, ((1 : Zq)).re.val, ((1 : Zq)).im.val])) (fun _ => by kernel_rfl) (baseP_g HX.out HY.out) (fun w78 hb78 => ⟨K77.go hb78, ?_⟩)
    have K78 := K77.go hb78
    have L78 := hb78.size
    refine k_call (by kernel_rfl) (d := (some 37)) (by kernel_rfl) (f := 21) (args := #[.agg (fps [gx.re.val, gx.im.val, gy.re.val, gy.im.val]), .agg (dgL [gx.re.val, gx.im.val, gy.re.val, gy.im.val, ((1 : Zq)).re.val, ((1 : Zq)).im.val])]) (v := .bool true) (fun _ => by kernel_rfl) (told_t (qmul_one _) (qmul_one _)) (fun w79 hb79 => ⟨K78.go hb79, ?_⟩)
    have K79 := K78.go hb79
    have L79 := hb79.size
    refine k_pure (by kernel_rfl) (d := (some 38)) (by kernel_rfl) (v := .bool true) (fun _ => by kernel_rfl) ?_
    refine k_pure (by kernel_rfl) (d := (some 39)) (by kernel_rfl) (v := .bool true) (fun _ => by kernel_rfl) ?_
    refine k_call (by kernel_rfl) (d := (some 40)) (by kernel_rfl) (f := 20) (args := #[]) (v := .agg (fps [((0 : Zq)).re.val, ((0 : Zq)).im.val, ((1 : Zq)).re.val, ((1 : Zq)).im.val])) (fun _ => by kernel_rfl) (implIdentity (X := 0) (Y := 1) rfl rfl (hm.nb K79.nb) (Nat.le_trans hg K79.nb.size)) (fun w80 hb80 => ⟨K79.go hb80, ?_⟩)
    have K80 := K79.go hb80
    have L80 := hb80.size
    refine k_call (by kernel_rfl) (d := (some 41)) (by kernel_rfl) (f := 17) (args := #[]) (v := .agg (dgL [((0 : Zq)).re.val, ((0 : Zq)).im.val, ((1 : Zq)).re.val, ((1 : Zq)).im.val, ((1 : Zq)).re.val, ((1 : Zq)).im.val])) (fun _ => by kernel_rfl) (zeroP_c) (fun w81 hb81 => ⟨K80.go hb81, ?_⟩)
    have K81 := K80.go hb81
    have L81 := hb81.size
    refine k_call (by kernel_rfl) (d := (some 42)) (by kernel_rfl) (f := 21) (args := #[.agg (fps [((0 : Zq)).re.val, ((0 : Zq)).im.val, ((1 : Zq)).re.val, ((1 : Zq)).im.val]), .agg (dgL [((0 : Zq)).re.val, ((0 : Zq)).im.val, ((1 : Zq)).re.val, ((1 : Zq)).im.val, ((1 : Zq)).re.val, ((1 : Zq)).im.val])]) (v := .bool true) (fun _ => by kernel_rfl) (told_t (qmul_one _) (qmul_one _)) (fun w82 hb82 => ⟨K81.go hb82, ?_⟩)
    have K82 := K81.go hb82
    have L82 := hb82.size
    refine k_pure (by kernel_rfl) (d := (some 43)) (by kernel_rfl) (v := .bool true) (fun _ => by kernel_rfl) ?_
    refine k_pure (by kernel_rfl) (d := (some 44)) (by kernel_rfl) (v := .bool true) (fun _ => by kernel_rfl) ?_
    refine k_row (by kernel_rfl) (d := (some 45)) (by kernel_rfl) (ty := 35) (x := (.tmp 1)) (by kernel_rfl) (b := w.heap.size) (by kernel_rfl) (cs := (fps [a0, b0, c0, d0])) (fun _ hs => hs.at 0 rfl) Tryd.underlying35 rfl (by kernel_rfl) ?_
    refine k_row (by kernel_rfl) (d := (some 47)) (by kernel_rfl) (ty := 39) (x := (.tmp 3)) (by kernel_rfl) (b := p3) (by kernel_rfl) (cs := (dgQ x.re.val x.im.val)) (fun _ hs => hs.at 1 rfl) Tryd.underlying39 rfl (by kernel_rfl) ?_
    refine k_row (by kernel_rfl) (d := (some 48)) (by kernel_rfl) (ty := 39) (x := (.tmp 4)) (by kernel_rfl) (b := p4) (by kernel_rfl) (cs := (dgQ y.re.val y.im.val)) (fun _ hs => hs.at 2 rfl) Tryd.underlying39 rfl (by kernel_rfl) ?_
    refine k_call (by kernel_rfl) (d := (some 46)) (by kernel_rfl) (f := 37) (args := #[.agg (fps [a0, b0, c0, d0])]) (v := .bool false) (fun _ => by kernel_rfl) (implOnB0 (hm.nb K82.nb) (Nat.le_trans hg K82.nb.size) (hd.nb K82.nb) HXX HYY hl hon) (fun w83 hb83 => ⟨K82.go hb83, ?_⟩)
    have K83 := K82.go hb83
    have L83 := hb83.size
    refine k_call (by kernel_rfl) (d := (some 49)) (by kernel_rfl) (f := 38) (args := #[.agg (dgQ x.re.val x.im.val), .agg (dgQ y.re.val y.im.val)]) (v := .bool false) (fun _ => by kernel_rfl) (isPoint_f hon) (fun w84 hb84 => ⟨K83.go hb84, ?_⟩)
    have K84 := K83.go hb84
    have L84 := hb84.size
    refine k_pure (by kernel_rfl) (d := (some 50)) (by kernel_rfl) (v := .bool true) (fun _ => by kernel_rfl) ?_
    refine k_pure (by kernel_rfl) (d := (some 51)) (by kernel_rfl) (v := .bool true) (fun _ => by kernel_rfl) ?_
    refine k_pure (by kernel_rfl) (d := (some 2)) (by kernel_rfl) (v := .bool true) (fun _ => by kernel_rfl) ?_
    have K85 : Kept w [(w.heap.size, (fps [a0, b0, c0, d0])), (p3, (dgQ x.re.val x.im.val)), (p4, (dgQ y.re.val y.im.val)), (W61.heap.size, (fps [a0, b0, c0, d0]))] [] w84 := Kept.zero K84.nb (rowsC (K84.at 0 rfl) (rowsC (K84.at 1 rfl) (rowsC (K84.at 2 rfl) (rowsC (K84.at 3 rfl) rows0))))
    refine k_end ?_
    go_simp
    go_wp2_with fail
    exact bodyPost_ret_by (by kernel_rfl) (by kernel_rfl) ⟨rfl, K85.nb⟩

theorem fnBase_c {w : World} {a0 b0 c0 d0 da db : Nat} (hm : ModW w) (hg : 5 ≤ w.heap.size) (hd : AtZ w 0 0 dd) (hx : AtZ w 2 0 gxx) (hy : AtZ w 3 0 gyy) (ho : ∃ T, w.heap[1]? = some (.cells #[.int .u64 3436901888089820391, .int .u64 16122042576031152537, .int .u64 17317351579400803557, .int .u64 11764505149049458] T (0, 0))) (hv : ∃ T, w.heap[0]? = some (.cells (fps [da, db]) T (0, 0))) (hda : LowB da) (hdb : LowB db) (hza : zp da = dd.re) (hzb : zp db = dd.im) (ha0 : a0 < 256 ^ 16) (hb0 : b0 < 256 ^ 16) (hc0 : c0 < 256 ^ 16) (hd0 : d0 < 256 ^ 16) :
    Calls Tryd.prog 7 #[.agg (fps [a0, b0, c0, d0])] w fun e w' => e = .returned (.bool true) ∧ Below w.heap.size w w' := by
  cases h0 : lowAll [a0, b0, c0, d0] with
  | false => exact base_f ha0 hb0 hc0 hd0 rfl rfl h0
  | true =>
    by_cases hon : OnC ⟨zp a0, zp b0⟩ ⟨zp c0, zp d0⟩
    · exact base_tt hm hg hd hx hy ho hv hda hdb hza hzb rfl rfl rfl hon ha0 hb0 hc0 hd0 h0 rfl rfl
    · exact base_tf hm hg hd hx hy ho hv hda hdb hza hzb rfl rfl rfl hon ha0 hb0 hc0 hd0 h0 rfl rfl
end Go.Proofs.YtfkfljohhabldaaDoor
