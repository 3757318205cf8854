/- FnEncode: whatever coordinates: true. The package's variables lie below block 5: modulusP holds the prime, paramD the curve's constant. -/
import Derived.Test.YtfkfljohhabldaaDoorE5
namespace Go.FourQ
open Go.RowKit
theorem xor_ne : ∀ n : Nat, n < 128 → bits .xor .u8 ((n + 128 * 0 : Nat) : Int) ((n + 128 * 1 : Nat) : Int) = 128 ∧ bits .xor .u8 ((n + 128 * 1 : Nat) : Int) ((n + 128 * 0 : Nat) : Int) = 128 := by decide +kernel
theorem xor_eq : ∀ n : Nat, n < 256 → bits .xor .u8 (n : Int) (n : Int) = 0 := by decide +kernel
theorem xor7 {P : Program} {w : World} {t : TypeId} {n a b : Nat} (hn : n < 128) (h : a + b = 1) : (binOp .xor t (.int .u8 ((n + 128 * a : Nat) : Int)) (.int .u8 ((n + 128 * b : Nat) : Int))).run P w = .ok (.int .u8 128) w := by
  rw [binOp_xor, intBits_xor]
  rcases (by omega : (a = 0 ∧ b = 1) ∨ (a = 1 ∧ b = 0)) with ⟨rfl, rfl⟩ | ⟨rfl, rfl⟩
  · rw [(xor_ne n hn).1]; rfl
  · rw [(xor_ne n hn).2]; rfl
theorem xor7z {P : Program} {w : World} {t : TypeId} {n a b : Nat} (hn : n < 128) (h : a = b) (ha : a = 0 ∨ a = 1) : (binOp .xor t (.int .u8 ((n + 128 * a : Nat) : Int)) (.int .u8 ((n + 128 * b : Nat) : Int))).run P w = .ok (.int .u8 0) w := by
  subst h
  rw [binOp_xor, intBits_xor, xor_eq _ (by omega)]; rfl
theorem run_copy16L {P : Program} (w : World) {dT ty e : TypeId} {b2 o2 dc sc dl : Nat} {a : Addr} {k2 x : Nat} {l2 : List Nat} (hu : P.underlying dT = some (.slice e)) (hs : (P.info? e).map (·.size) = some 1) (hd : 16 ≤ dl)
    (h2 : Fps w b2 l2) (e2 : o2 = 16 * k2) (i2 : k2 < l2.length) (hsrc : ∀ j v, (fpC x).toList[j]? = some v → w.cell? (a.add j) = some v) :
    ∃ w', (Builtin.copy_ #[dT, dT] ty #[.slice (some ⟨b2, o2, none⟩) dl dc, .slice (some a) 16 sc]).run P w = .ok (goInt 16) w' ∧ Upd w w' b2 (l2.set k2 x) := by
  refine ⟨w.setCells b2 o2 (fpC x).toList, ?_, ?_⟩
  · have := run_copy_cells w dT dT ty e b2 o2 dl dc a 16 sc (fpC x).toList hu hs (by rw [show (fpC x).toList.length = 16 from rfl]; exact (Nat.min_eq_left hd).symm) hsrc (fun j hj => by
      have hj : j < 16 := hj
      rw [h2.cell_any i2 e2 j hj]; rfl) (fun j _ => h2.free _) (fpC_all1 x)
    exact this
  · exact upd_setCells h2 (s := 0) (z := x) _ i2 (by omega) (Nat.le_refl 16) (fun i _ hi => by
      have hi : i < 16 := by rw [Nat.zero_add] at hi; exact hi
      rw [Nat.sub_zero, Array.getElem?_toList, fpC_get _ _ hi]) (fun i hi h => absurd ⟨Nat.zero_le _, by rw [Nat.zero_add]; exact hi⟩ h)
/-- One of the rows is written. -/
theorem Kept.set {w0 w1 w2 : World} {bs : List (Nat × Array Value)} (h : Kept w0 bs [] w1) {i b : Nat} {l : List Nat} {old : Array Value} (u : Upd w1 w2 b l) (hg : w0.heap.size ≤ b) (hi : bs[i]? = some (b, old)) (hd : ∀ p ∈ bs.eraseIdx i, p.1 ≠ b) : Kept w0 (bs.set i (b, fps l)) [] w2 where
  nb := h.nb.trans ⟨u.os, u.tape, u.output, u.size, fun k hk => u.other k (Nat.lt_of_lt_of_le hk h.nb.size) (by omega)⟩
  row := fun p hp => by
    obtain ⟨j, hj⟩ := List.mem_iff_getElem?.1 hp
    by_cases hji : j = i
    · subst hji
      rw [List.getElem?_set_self (List.getElem?_eq_some_iff.1 hi).1] at hj
      obtain rfl := Option.some.inj hj
      exact u.blk
    · rw [List.getElem?_set_ne (Ne.symm hji)] at hj
      obtain ⟨T, hT⟩ := h.row p (List.mem_of_getElem? hj)
      have hm : p ∈ bs.eraseIdx i := List.mem_eraseIdx_iff_getElem?.2 ⟨j, hji, hj⟩
      exact ⟨T, (u.other _ (lt_of_heap hT) (hd p hm)).trans hT⟩
  room := fun p hp => by simp at hp
end Go.FourQ
namespace Go.Proofs.YtfkfljohhabldaaDoor
open Go.RowKit Go.FourQ

theorem neqQ (x y : Zq) (w : World) : (binOp .neq 39 (.agg (dgQ x.re.val x.im.val)) (.agg (dgQ y.re.val y.im.val))).run Tryd.prog w = .ok (.bool (!decide (x = y))) w := by
  have h := run_neq_agg w 39 (dgQ x.re.val x.im.val) (dgQ y.re.val y.im.val) _ (run_eq_pair (P := Tryd.prog) (s := 8) 9999 (x0 := dgA (digs 8 x.re.val)) (x1 := dgA (digs 8 x.im.val)) (y0 := dgA (digs 8 y.re.val)) (y1 := dgA (digs 8 y.im.val)) Tryd.underlying39 (by kernel_rfl) Tryd.underlying26 rfl (by kernel_rfl) (by kernel_rfl) (by kernel_rfl) (by kernel_rfl) w (run_eqIn_digs Tryd.underlying26 (by kernel_rfl) Tryd.underlying24 (val8 _) (val8 _) 9997 w) (run_eqIn_digs Tryd.underlying26 (by kernel_rfl) Tryd.underlying24 (val8 _) (val8 _) 9997 w))
  have e : (decide (x.re.val = y.re.val) && decide (x.im.val = y.im.val)) = decide (x = y) := by
    rw [Bool.eq_iff_iff, Bool.and_eq_true, decide_eq_true_eq, decide_eq_true_eq, decide_eq_true_eq]
    exact ⟨fun h => Zq.ext (Zp.ext h.1) (Zp.ext h.2), fun h => by rw [h]; exact ⟨rfl, rfl⟩⟩
  rw [e] at h
  exact h
theorem neqQ_t {x : Zq} (h : x ≠ 0) (w : World) : (binOp .neq 39 (.agg (dgQ x.re.val x.im.val)) (.agg (dgQ 0 0))).run Tryd.prog w = .ok (.bool true) w := by
  have := neqQ x 0 w
  rwa [decide_eq_false h] at this
theorem neqQ_f {x : Zq} (h : x = 0) (w : World) : (binOp .neq 39 (.agg (dgQ x.re.val x.im.val)) (.agg (dgQ 0 0))).run Tryd.prog w = .ok (.bool false) w := by
  have := neqQ x 0 w
  rwa [decide_eq_true h] at this
theorem eq32 (a b : Nat) (w : World) : (binOp .eql 63 (.agg (fps [a, b])) (.agg (fps [a, b]))).run Tryd.prog w = .ok (.bool true) w := by
  have hg : ∀ i, i < 32 → (fps [a, b])[i]? = some (.int .u8 (if i < 16 then ((a / 256 ^ i % 256 : Nat) : Int) else ((b / 256 ^ (i - 16) % 256 : Nat) : Int))) := fun i hi => by
    by_cases h : i < 16
    · have := fps_get [a, b] 0 a i rfl h
      rw [Nat.mul_zero, Nat.zero_add] at this
      rw [this, if_pos h]; rfl
    · have := fps_get [a, b] 1 b (i - 16) rfl (by omega)
      rw [show 16 * 1 + (i - 16) = i by omega] at this
      rw [this, if_neg h]; rfl
  have := run_eql_agg w _ _ _ _ (run_eq_ints (P := Tryd.prog) 9998 Tryd.underlying63 (by kernel_rfl) Tryd.underlying5 _ _ hg hg w)
  rw [this]
  simp

set_option maxRecDepth 100000 in
set_option maxHeartbeats 1000000 in
theorem enc_f {w : World} {a0 b0 c0 d0 : Nat} (ha0 : a0 < 256 ^ 16) (hb0 : b0 < 256 ^ 16) (hc0 : c0 < 256 ^ 16) (hd0 : d0 < 256 ^ 16) (hon : onAll [(a0, b0, c0, d0)] = false) :
    Calls Tryd.prog 9 #[.agg (fps [a0, b0, c0, d0])] w fun e w' => e = .returned (.bool true) ∧ Below w.heap.size w w' := by
  go_enter Tryd.func9, Tryd.ntmps9
  go_upto_region 1 with (fail)
  refine wp_gen (fun WW => Kept w [(w.heap.size, (fps [a0, b0, c0, d0]))] [] WW) (Kept.zero (nb_alloc (Below.refl _ _) _) (rowsC (row_as (hp1_0 (w := w) _) (by kernel_rfl)) rows0)) ?_
  intro W0 K0
  have K1 : Kept w [(w.heap.size, (fps [a0, b0, c0, d0]))] [] W0 := Kept.mks K0.nb (rowsC (K0.at 0 rfl) rows0) rooms0
  refine wp_seq_atS (opsAt Tryd.f9 1) ((true, 0) :: (false, 1) :: (false, 2) :: (true, 3) :: []) (Kept w [(w.heap.size, (fps [a0, b0, c0, d0]))] []) (by kernel_rfl) (by kernel_rfl) K1 ?_
  refine k_row (by kernel_rfl) (d := (some 9)) (by kernel_rfl) (ty := 35) (x := (.tmp 1)) (by kernel_rfl) (b := w.heap.size) (by kernel_rfl) (cs := (fps [a0, b0, c0, d0])) (fun _ hs => hs.at 0 rfl) Tryd.underlying35 rfl (by kernel_rfl) ?_
  refine k_make (by kernel_rfl) (d := (some 10)) (by kernel_rfl) (v := .slice (some ⟨W0.heap.size, 0, none⟩) 1 1) (w' := W0.alloc (.cells (fps [a0, b0, c0, d0]) 35)) (by kernel_rfl) (K1.go ((Below.refl _ _).alloc (Nat.le_refl _) _)) ?_
  intro w2 hw2 K2
  have G2_n : w2.heap[W0.heap.size]? = some (.cells (fps [a0, b0, c0, d0]) 35 (0, 0)) := hw2 ▸ heap_alloc_new _ _
  have S2 : W0.heap.size < w2.heap.size := lt_of_heap G2_n
  have R2_0 : w.heap.size < W0.heap.size := (by obtain ⟨T, h⟩ := K1.at 0 rfl; exact lt_of_heap h)
  have Z2 : w.heap.size ≤ W0.heap.size := K1.nb.size
  clear hw2
  refine k_call (by kernel_rfl) (d := (some 11)) (by kernel_rfl) (f := 15) (args := #[.slice (some ⟨W0.heap.size, 0, none⟩) 1 1]) (v := .bool false) (fun _ => by kernel_rfl) (on_r (l := [(a0, b0, c0, d0)]) hon ⟨_, G2_n⟩ (ltsC (lt4 ha0 hb0 hc0 hd0) lts0) (Nat.le_of_ble_eq_true rfl)) (fun w3 hb3 => ⟨K2.go hb3, ?_⟩)
  have K3 := K2.go hb3
  have G3_10 := nb_heap G2_n _ hb3
  have L3 := hb3.size
  refine k_pure (by kernel_rfl) (d := (some 12)) (by kernel_rfl) (v := .bool true) (fun _ => by kernel_rfl) ?_
  have K4 : Kept w [(w.heap.size, (fps [a0, b0, c0, d0])), (W0.heap.size, (fps [a0, b0, c0, d0]))] [] w3 := Kept.zero K3.nb (rowsC (K3.at 0 rfl) (rowsC ⟨_, G3_10⟩ rows0))
  clear G3_10 G2_n
  refine k_end ?_
  go_simp
  go_wp2_with fail
  exact bodyPost_ret_by (by kernel_rfl) (by kernel_rfl) ⟨rfl, K4.nb⟩

set_option maxRecDepth 100000 in
set_option maxHeartbeats 1000000 in
theorem enc_n {w : World} {p : Pt} {eb em : Nat} (hm : ModW w) (hg : 5 ≤ w.heap.size) (hd : AtZ w 0 0 dd) (hx : p.x ≠ 0) (hs : eb + em = 1) (he : ebit p.x = eb) (hem : ebit (-p.x) = em) (he1 : eb = 0 ∨ eb = 1) (hm1 : em = 0 ∨ em = 1) (hon : onAll [(p.x.re.val, p.x.im.val, p.y.re.val, p.y.im.val)] = true) :
    Calls Tryd.prog 9 #[.agg (fps [(p.x).re.val, (p.x).im.val, (p.y).re.val, (p.y).im.val])] w fun e w' => e = .returned (.bool true) ∧ Below w.heap.size w w' := by
  have HE := Lib.hid he; have HEM := Lib.hid hem; have E01 := Lib.hid he1; have M01 := Lib.hid hm1; have HX := Lib.hid hx; have HS := Lib.hid hs
  clear he hem he1 hm1 hx hs
  go_enter Tryd.func9, Tryd.ntmps9
  go_upto_region 1 with (fail)
  refine wp_gen (fun WW => Kept w [(w.heap.size, (fps [(p.x).re.val, (p.x).im.val, (p.y).re.val, (p.y).im.val]))] [] WW) (Kept.zero (nb_alloc (Below.refl _ _) _) (rowsC (row_as (hp1_0 (w := w) _) (by kernel_rfl)) rows0)) ?_
  intro W0 K0
  have K1 : Kept w [(w.heap.size, (fps [(p.x).re.val, (p.x).im.val, (p.y).re.val, (p.y).im.val]))] [] W0 := Kept.mks K0.nb (rowsC (K0.at 0 rfl) rows0) rooms0
  refine wp_seq_atS (opsAt Tryd.f9 1) ((true, 0) :: (false, 1) :: (false, 2) :: (true, 3) :: []) (Kept w [(w.heap.size, (fps [(p.x).re.val, (p.x).im.val, (p.y).re.val, (p.y).im.val]))] []) (by kernel_rfl) (by kernel_rfl) K1 ?_
  refine k_row (by kernel_rfl) (d := (some 9)) (by kernel_rfl) (ty := 35) (x := (.tmp 1)) (by kernel_rfl) (b := w.heap.size) (by kernel_rfl) (cs := (fps [(p.x).re.val, (p.x).im.val, (p.y).re.val, (p.y).im.val])) (fun _ hs => hs.at 0 rfl) Tryd.underlying35 rfl (by kernel_rfl) ?_
  refine k_make (by kernel_rfl) (d := (some 10)) (by kernel_rfl) (v := .slice (some ⟨W0.heap.size, 0, none⟩) 1 1) (w' := W0.alloc (.cells (fps [(p.x).re.val, (p.x).im.val, (p.y).re.val, (p.y).im.val]) 35)) (by kernel_rfl) (K1.go ((Below.refl _ _).alloc (Nat.le_refl _) _)) ?_
  intro w2 hw2 K2
  have G2_n : w2.heap[W0.heap.size]? = some (.cells (fps [(p.x).re.val, (p.x).im.val, (p.y).re.val, (p.y).im.val]) 35 (0, 0)) := hw2 ▸ heap_alloc_new _ _
  have S2 : W0.heap.size < w2.heap.size := lt_of_heap G2_n
  have R2_0 : w.heap.size < W0.heap.size := (by obtain ⟨T, h⟩ := K1.at 0 rfl; exact lt_of_heap h)
  have Z2 : w.heap.size ≤ W0.heap.size := K1.nb.size
  clear hw2
  refine k_call (by kernel_rfl) (d := (some 11)) (by kernel_rfl) (f := 15) (args := #[.slice (some ⟨W0.heap.size, 0, none⟩) 1 1]) (v := .bool true) (fun _ => by kernel_rfl) (on_r (l := [(p.x.re.val, p.x.im.val, p.y.re.val, p.y.im.val)]) hon ⟨_, G2_n⟩ (ltsC (ltPt p) lts0) (Nat.le_of_ble_eq_true rfl)) (fun w3 hb3 => ⟨K2.go hb3, ?_⟩)
  have K3 := K2.go hb3
  have G3_10 := nb_heap G2_n _ hb3
  have L3 := hb3.size
  refine k_pure (by kernel_rfl) (d := (some 12)) (by kernel_rfl) (v := .bool false) (fun _ => by kernel_rfl) ?_
  have K4 : Kept w [(w.heap.size, (fps [(p.x).re.val, (p.x).im.val, (p.y).re.val, (p.y).im.val])), (W0.heap.size, (fps [(p.x).re.val, (p.x).im.val, (p.y).re.val, (p.y).im.val]))] [] w3 := Kept.zero K3.nb (rowsC (K3.at 0 rfl) (rowsC ⟨_, G3_10⟩ rows0))
  clear G3_10 G2_n
  refine k_end ?_
  go_simp
  go_upto_region 3 with (fail)
  have K5 : Kept w [(w.heap.size, (fps [(p.x).re.val, (p.x).im.val, (p.y).re.val, (p.y).im.val])), (W0.heap.size, (fps [(p.x).re.val, (p.x).im.val, (p.y).re.val, (p.y).im.val]))] [] w3 := Kept.mks K4.nb (rowsC (K4.at 0 rfl) (rowsC (K4.at 1 rfl) rows0)) rooms0
  refine wp_seq_atS (opsAt Tryd.f9 3) ((true, 0) :: (false, 1) :: (false, 2) :: (false, 3) :: []) (Kept w [(w.heap.size, (fps [(p.x).re.val, (p.x).im.val, (p.y).re.val, (p.y).im.val])), (W0.heap.size, (fps [(p.x).re.val, (p.x).im.val, (p.y).re.val, (p.y).im.val]))] []) (by kernel_rfl) (by kernel_rfl) K5 ?_
  refine k_row (by kernel_rfl) (d := (some 13)) (by kernel_rfl) (ty := 35) (x := (.tmp 1)) (by kernel_rfl) (b := w.heap.size) (by kernel_rfl) (cs := (fps [(p.x).re.val, (p.x).im.val, (p.y).re.val, (p.y).im.val])) (fun _ hs => hs.at 0 rfl) Tryd.underlying35 rfl (by kernel_rfl) ?_
  refine k_call (by kernel_rfl) (d := (some 14)) (by kernel_rfl) (f := 39) (args := #[.agg (fps [(p.x).re.val, (p.x).im.val, (p.y).re.val, (p.y).im.val])]) (v := .agg (fps [p.y.re.val, top eb p.y.im.val])) (fun _ => by kernel_rfl) (implEncode HE.out (hm.nb K5.nb) (Nat.le_trans hg K5.nb.size)) (fun w6 hb6 => ⟨K5.go hb6, ?_⟩)
  have K6 := K5.go hb6
  have L6 := hb6.size
  refine k_make (by kernel_rfl) (d := (some 3)) (by kernel_rfl) (v := .pointer (some ⟨w6.heap.size, 0, none⟩)) (w' := w6.alloc (.cells (fps [0, 0]) 63)) (by kernel_rfl) (K6.go ((Below.refl _ _).alloc (Nat.le_refl _) _)) ?_
  intro w7 hw7 K7
  have G7_n : w7.heap[w6.heap.size]? = some (.cells (fps [0, 0]) 63 (0, 0)) := hw7 ▸ heap_alloc_new _ _
  have S7 : w6.heap.size < w7.heap.size := lt_of_heap G7_n
  have R7_0 : w.heap.size < w6.heap.size := (by obtain ⟨T, h⟩ := K6.at 0 rfl; exact lt_of_heap h)
  have R7_1 : W0.heap.size < w6.heap.size := (by obtain ⟨T, h⟩ := K6.at 1 rfl; exact lt_of_heap h)
  have Z7 : w.heap.size ≤ w6.heap.size := K6.nb.size
  clear hw7
  refine k_put (by kernel_rfl) (d := none) (by kernel_rfl) (ty := 63) (x := (.tmp 3)) (y := (.tmp 14)) (by kernel_rfl) (g := w6.heap.size) (cells := (fps [p.y.re.val, top eb p.y.im.val])) (by kernel_rfl) (by kernel_rfl) G7_n (by kernel_rfl) (by kernel_rfl) (all_fps _) (K7.puti (n := 32) (by kernel_rfl) (by omega) (neC (by omega) (neC (by omega) ne0)) ns0) ?_
  intro w8 hw8 K8
  have G8_s : w8.heap[w6.heap.size]? = some (.cells (fps [p.y.re.val, top eb p.y.im.val]) _ (0, 0)) := hw8 ▸ setRow_heap _ _ _ _ _ _ G7_n
  have L8 : w7.heap.size ≤ w8.heap.size := by rw [hw8]; exact Nat.le_of_eq (size_setRow _ _ _).symm
  clear hw8
  have K9 : Kept w [(w.heap.size, (fps [(p.x).re.val, (p.x).im.val, (p.y).re.val, (p.y).im.val])), (W0.heap.size, (fps [(p.x).re.val, (p.x).im.val, (p.y).re.val, (p.y).im.val])), (w6.heap.size, (fps [p.y.re.val, top eb p.y.im.val]))] [] w8 := Kept.zero K8.nb (rowsC (K8.at 0 rfl) (rowsC (K8.at 1 rfl) (rowsC ⟨_, G8_s⟩ rows0)))
  clear G8_s G7_n
  refine k_end ?_
  go_simp
  go_upto_region 4 with (fail)
  have K10 : Kept w [(w.heap.size, (fps [(p.x).re.val, (p.x).im.val, (p.y).re.val, (p.y).im.val])), (W0.heap.size, (fps [(p.x).re.val, (p.x).im.val, (p.y).re.val, (p.y).im.val])), (w6.heap.size, (fps [p.y.re.val, top eb p.y.im.val]))] [] w8 := Kept.mks K9.nb (rowsC (K9.at 0 rfl) (rowsC (K9.at 1 rfl) (rowsC (K9.at 2 rfl) rows0))) rooms0
  refine wp_seq_atS (opsAt Tryd.f9 4) ((true, 0) :: (false, 1) :: (true, 2) :: (true, 3) :: (true, 4) :: (false, 5) :: (false, 6) :: (true, 7) :: []) (Kept w [(w.heap.size, (fps [(p.x).re.val, (p.x).im.val, (p.y).re.val, (p.y).im.val])), (W0.heap.size, (fps [(p.x).re.val, (p.x).im.val, (p.y).re.val, (p.y).im.val])), (w6.heap.size, (fps [p.y.re.val, top eb p.y.im.val]))] []) (by kernel_rfl) (by kernel_rfl) K10 ?_
  refine k_row (by kernel_rfl) (d := (some 16)) (by kernel_rfl) (ty := 63) (x := (.tmp 3)) (by kernel_rfl) (b := w6.heap.size) (by kernel_rfl) (cs := (fps [p.y.re.val, top eb p.y.im.val])) (fun _ hs => hs.at 2 rfl) Tryd.underlying63 rfl (by kernel_rfl) ?_
  refine k_call (by kernel_rfl) (d := (some 17)) (by kernel_rfl) (f := 40) (args := #[.agg (fps [p.y.re.val, top eb p.y.im.val])]) (v := .tuple #[.agg (fps [(p.x).re.val, (p.x).im.val, (p.y).re.val, (p.y).im.val]), .bool true]) (fun _ => by kernel_rfl) (implDecode (p := p) rfl rfl HE.out (hm.nb K10.nb) (Nat.le_trans hg K10.nb.size) (hd.nb K10.nb)) (fun w11 hb11 => ⟨K10.go hb11, ?_⟩)
  have K11 := K10.go hb11
  have L11 := hb11.size
  refine k_pure (by kernel_rfl) (d := (some 15)) (by kernel_rfl) (v := .tuple #[.agg (fps [(p.x).re.val, (p.x).im.val, (p.y).re.val, (p.y).im.val]), .bool true]) (fun _ => by kernel_rfl) ?_
  refine k_pure (by kernel_rfl) (d := (some 18)) (by kernel_rfl) (v := .agg (fps [(p.x).re.val, (p.x).im.val, (p.y).re.val, (p.y).im.val])) (fun _ => by kernel_rfl) ?_
  refine k_pure (by kernel_rfl) (d := (some 19)) (by kernel_rfl) (v := .bool true) (fun _ => by kernel_rfl) ?_
  refine k_make (by kernel_rfl) (d := (some 4)) (by kernel_rfl) (v := .pointer (some ⟨w11.heap.size, 0, none⟩)) (w' := w11.alloc (.cells (fps [0, 0, 0, 0]) 35)) (by kernel_rfl) (K11.go ((Below.refl _ _).alloc (Nat.le_refl _) _)) ?_
  intro w12 hw12 K12
  have G12_n : w12.heap[w11.heap.size]? = some (.cells (fps [0, 0, 0, 0]) 35 (0, 0)) := hw12 ▸ heap_alloc_new _ _
  have S12 : w11.heap.size < w12.heap.size := lt_of_heap G12_n
  have R12_0 : w.heap.size < w11.heap.size := (by obtain ⟨T, h⟩ := K11.at 0 rfl; exact lt_of_heap h)
  have R12_1 : W0.heap.size < w11.heap.size := (by obtain ⟨T, h⟩ := K11.at 1 rfl; exact lt_of_heap h)
  have R12_2 : w6.heap.size < w11.heap.size := (by obtain ⟨T, h⟩ := K11.at 2 rfl; exact lt_of_heap h)
  have Z12 : w.heap.size ≤ w11.heap.size := K11.nb.size
  clear hw12
  refine k_put (by kernel_rfl) (d := none) (by kernel_rfl) (ty := 35) (x := (.tmp 4)) (y := (.tmp 18)) (by kernel_rfl) (g := w11.heap.size) (cells := (fps [(p.x).re.val, (p.x).im.val, (p.y).re.val, (p.y).im.val])) (by kernel_rfl) (by kernel_rfl) G12_n (by kernel_rfl) (by kernel_rfl) (all_fps _) (K12.puti (n := 64) (by kernel_rfl) (by omega) (neC (by omega) (neC (by omega) (neC (by omega) ne0))) ns0) ?_
  intro w13 hw13 K13
  have G13_s : w13.heap[w11.heap.size]? = some (.cells (fps [(p.x).re.val, (p.x).im.val, (p.y).re.val, (p.y).im.val]) _ (0, 0)) := hw13 ▸ setRow_heap _ _ _ _ _ _ G12_n
  have L13 : w12.heap.size ≤ w13.heap.size := by rw [hw13]; exact Nat.le_of_eq (size_setRow _ _ _).symm
  clear hw13
  refine k_pure (by kernel_rfl) (d := (some 5)) (by kernel_rfl) (v := .bool true) (fun _ => by kernel_rfl) ?_
  have K14 : Kept w [(w.heap.size, (fps [(p.x).re.val, (p.x).im.val, (p.y).re.val, (p.y).im.val])), (W0.heap.size, (fps [(p.x).re.val, (p.x).im.val, (p.y).re.val, (p.y).im.val])), (w6.heap.size, (fps [p.y.re.val, top eb p.y.im.val])), (w11.heap.size, (fps [(p.x).re.val, (p.x).im.val, (p.y).re.val, (p.y).im.val]))] [] w13 := Kept.zero K13.nb (rowsC (K13.at 0 rfl) (rowsC (K13.at 1 rfl) (rowsC (K13.at 2 rfl) (rowsC ⟨_, G13_s⟩ rows0))))
  clear G13_s G12_n
  refine k_end ?_
  go_simp
  go_upto_region 5 with (fail)
  have K15 : Kept w [(w.heap.size, (fps [(p.x).re.val, (p.x).im.val, (p.y).re.val, (p.y).im.val])), (W0.heap.size, (fps [(p.x).re.val, (p.x).im.val, (p.y).re.val, (p.y).im.val])), (w6.heap.size, (fps [p.y.re.val, top eb p.y.im.val])), (w11.heap.size, (fps [(p.x).re.val, (p.x).im.val, (p.y).re.val, (p.y).im.val]))] [] w13 := Kept.mks K14.nb (rowsC (K14.at 0 rfl) (rowsC (K14.at 1 rfl) (rowsC (K14.at 2 rfl) (rowsC (K14.at 3 rfl) rows0)))) rooms0
  have RK15_0 : w.heap.size < w13.heap.size := (by obtain ⟨T, h⟩ := K14.at 0 rfl; exact lt_of_heap h)
  have RK15_1 : W0.heap.size < w13.heap.size := (by obtain ⟨T, h⟩ := K14.at 1 rfl; exact lt_of_heap h)
  have RK15_2 : w6.heap.size < w13.heap.size := (by obtain ⟨T, h⟩ := K14.at 2 rfl; exact lt_of_heap h)
  have RK15_3 : w11.heap.size < w13.heap.size := (by obtain ⟨T, h⟩ := K14.at 3 rfl; exact lt_of_heap h)
  refine wp_meet (fun a' w' => ∃ p6 : Nat, a' = { tmps := #[.agg (fps [(p.x).re.val, (p.x).im.val, (p.y).re.val, (p.y).im.val]), .pointer (some ⟨w.heap.size, 0, none⟩), .bool false, .pointer (some ⟨w6.heap.size, 0, none⟩), .pointer (some ⟨w11.heap.size, 0, none⟩), .bool true, .pointer (some ⟨p6, 0, none⟩), undef, undef, .agg (fps [(p.x).re.val, (p.x).im.val, (p.y).re.val, (p.y).im.val]), .slice (some ⟨W0.heap.size, 0, none⟩) 1 1, .bool true, .bool false, .agg (fps [(p.x).re.val, (p.x).im.val, (p.y).re.val, (p.y).im.val]), .agg (fps [p.y.re.val, top eb p.y.im.val]), .tuple #[.agg (fps [(p.x).re.val, (p.x).im.val, (p.y).re.val, (p.y).im.val]), .bool true], .agg (fps [p.y.re.val, top eb p.y.im.val]), .tuple #[.agg (fps [(p.x).re.val, (p.x).im.val, (p.y).re.val, (p.y).im.val]), .bool true], .agg (fps [(p.x).re.val, (p.x).im.val, (p.y).re.val, (p.y).im.val]), .bool true, .pointer (some ⟨w.heap.size, 0, none⟩), .agg (fps [(p.x).re.val, (p.x).im.val]), .agg (dgQ ((p.x).re.val) ((p.x).im.val)), .agg (dgQ ((-p.x).re.val) ((-p.x).im.val)), .agg (fps [(-p.x).re.val, (-p.x).im.val]), .pointer (some ⟨w.heap.size, 32, none⟩), .agg (fps [(p.y).re.val, (p.y).im.val]), .agg (fps [(-p.x).re.val, (-p.x).im.val, (p.y).re.val, (p.y).im.val]), .agg (fps [p.y.re.val, top em p.y.im.val]), undef, undef, undef, undef, undef, undef, undef, undef, undef, undef, undef, undef, undef, undef, undef, undef, undef, undef, undef, undef, undef, undef, undef, undef, undef, undef, undef, undef, undef, undef, undef, undef, undef, undef, undef, undef, undef, undef, undef, undef], defers := [] } ∧ Kept w [(w.heap.size, (fps [(p.x).re.val, (p.x).im.val, (p.y).re.val, (p.y).im.val])), (W0.heap.size, (fps [(p.x).re.val, (p.x).im.val, (p.y).re.val, (p.y).im.val])), (w6.heap.size, (fps [p.y.re.val, top eb p.y.im.val])), (w11.heap.size, (fps [(p.x).re.val, (p.x).im.val, (p.y).re.val, (p.y).im.val])), (p6, (fps [p.y.re.val, top em p.y.im.val]))] [] w' ∧ w13.heap.size ≤ p6) ?_ ?_
  · refine wp_tree_at (opsAt Tryd.f9 5) (.take 0 (.take 1 (.take 5 (.take 6 (.fork 2 (.fork 3 (.fork 4 (.take 7 (.fork 8 (.fork 9 (.fork 10 .done .nil) .nil) (.fork 9 (.fork 8 (.fork 10 .done .nil) .nil) .nil))) (.fork 9 (.fork 4 (.take 7 (.fork 8 (.fork 10 .done .nil) .nil)) .nil) .nil)) (.fork 9 (.fork 3 (.fork 4 (.take 7 (.fork 8 (.fork 10 .done .nil) .nil)) .nil) .nil) .nil)) (.fork 9 (.fork 2 (.fork 3 (.fork 4 (.take 7 (.fork 8 (.fork 10 .done .nil) .nil)) .nil) .nil) .nil) .nil)))))) (Kept w [(w.heap.size, (fps [(p.x).re.val, (p.x).im.val, (p.y).re.val, (p.y).im.val])), (W0.heap.size, (fps [(p.x).re.val, (p.x).im.val, (p.y).re.val, (p.y).im.val])), (w6.heap.size, (fps [p.y.re.val, top eb p.y.im.val])), (w11.heap.size, (fps [(p.x).re.val, (p.x).im.val, (p.y).re.val, (p.y).im.val]))] []) (by kernel_rfl) rfl (by kernel_rfl) (by intro c a d v w h; exact absurd h.1 (by simp)) (by kernel_rfl) (by kernel_rfl) K15.drew ?_
    have K16 := K15.drew
    have DK16 : w13.heap.size ≤ w13.drew.heap.size := Nat.le_refl _
    refine t_pure (by kernel_rfl) (d := (some 20)) (by kernel_rfl) (v := .pointer (some ⟨w.heap.size, 0, none⟩)) (fun _ => by kernel_rfl) ?_
    refine t_part (by kernel_rfl) (d := (some 21)) (by kernel_rfl) (ty := 33) (x := (.tmp 20)) (by kernel_rfl) (b := w.heap.size) (off := 0) (by kernel_rfl) (all := (fps [(p.x).re.val, (p.x).im.val, (p.y).re.val, (p.y).im.val])) (cs := (fps [(p.x).re.val, (p.x).im.val])) (fun _ hs => hs.at 0 rfl) (fpsub2 (k := 0) rfl rfl) Tryd.underlying33 rfl (by kernel_rfl) ?_
    refine t_pure (by kernel_rfl) (d := (some 25)) (by kernel_rfl) (v := .pointer (some ⟨w.heap.size, 32, none⟩)) (fun _ => by kernel_rfl) ?_
    refine t_part (by kernel_rfl) (d := (some 26)) (by kernel_rfl) (ty := 33) (x := (.tmp 25)) (by kernel_rfl) (b := w.heap.size) (off := 32) (by kernel_rfl) (all := (fps [(p.x).re.val, (p.x).im.val, (p.y).re.val, (p.y).im.val])) (cs := (fps [(p.y).re.val, (p.y).im.val])) (fun _ hs => hs.at 0 rfl) (fpsub2 (k := 2) rfl rfl) Tryd.underlying33 rfl (by kernel_rfl) ?_
    refine t_call (by kernel_rfl) (d := (some 22)) (by kernel_rfl) (f := 19) (args := #[.agg (fps [(p.x).re.val, (p.x).im.val])]) (v := .agg (dgQ ((p.x).re.val) ((p.x).im.val))) (fun _ => by kernel_rfl) (ofQ_q) (fun w17 hb17 => ⟨K16.go hb17, ?_⟩) ?_
    · have K17 := K16.go hb17
      have L17 := hb17.size
      refine t_call (by kernel_rfl) (d := (some 23)) (by kernel_rfl) (f := 41) (args := #[.agg (dgQ ((p.x).re.val) ((p.x).im.val))]) (v := .agg (dgQ ((-p.x).re.val) ((-p.x).im.val))) (fun _ => by kernel_rfl) (negQ_q) (fun w18 hb18 => ⟨K17.go hb18, ?_⟩) ?_
      · have K18 := K17.go hb18
        have L18 := hb18.size
        refine t_call (by kernel_rfl) (d := (some 24)) (by kernel_rfl) (f := 27) (args := #[.agg (dgQ ((-p.x).re.val) ((-p.x).im.val))]) (v := .agg (fps [(-p.x).re.val, (-p.x).im.val])) (fun _ => by kernel_rfl) (bytesQ_q) (fun w19 hb19 => ⟨K18.go hb19, ?_⟩) ?_
        · have K19 := K18.go hb19
          have L19 := hb19.size
          refine t_pure (by kernel_rfl) (d := (some 27)) (by kernel_rfl) (v := .agg (fps [(-p.x).re.val, (-p.x).im.val, (p.y).re.val, (p.y).im.val])) (fun _ => by kernel_rfl) ?_
          refine t_call (by kernel_rfl) (d := (some 28)) (by kernel_rfl) (f := 39) (args := #[.agg (fps [(-p.x).re.val, (-p.x).im.val, (p.y).re.val, (p.y).im.val])]) (v := .agg (fps [p.y.re.val, top em p.y.im.val])) (fun _ => by kernel_rfl) (implEncode (x := -p.x) (y := p.y) HEM.out (hm.nb K19.nb) (Nat.le_trans hg K19.nb.size)) (fun w20 hb20 => ⟨K19.go hb20, ?_⟩) ?_
          · have K20 := K19.go hb20
            have L20 := hb20.size
            refine t_make (by kernel_rfl) (d := (some 6)) (by kernel_rfl) (v := .pointer (some ⟨w20.heap.size, 0, none⟩)) (w' := w20.alloc (.cells (fps [0, 0]) 63)) (by kernel_rfl) (K20.go ((Below.refl _ _).alloc (Nat.le_refl _) _)) ?_ ?_
            · intro w21 hw21 K21
              have G21_n : w21.heap[w20.heap.size]? = some (.cells (fps [0, 0]) 63 (0, 0)) := hw21 ▸ heap_alloc_new _ _
              have S21 : w20.heap.size < w21.heap.size := lt_of_heap G21_n
              have R21_0 : w.heap.size < w20.heap.size := (by obtain ⟨T, h⟩ := K20.at 0 rfl; exact lt_of_heap h)
              have R21_1 : W0.heap.size < w20.heap.size := (by obtain ⟨T, h⟩ := K20.at 1 rfl; exact lt_of_heap h)
              have R21_2 : w6.heap.size < w20.heap.size := (by obtain ⟨T, h⟩ := K20.at 2 rfl; exact lt_of_heap h)
              have R21_3 : w11.heap.size < w20.heap.size := (by obtain ⟨T, h⟩ := K20.at 3 rfl; exact lt_of_heap h)
              have Z21 : w.heap.size ≤ w20.heap.size := K20.nb.size
              clear hw21
              refine t_store (by kernel_rfl) (d := none) (by kernel_rfl) (ty := 63) (x := (.tmp 6)) (y := (.tmp 28)) (by kernel_rfl) (g := w20.heap.size) (cells := (fps [p.y.re.val, top em p.y.im.val])) (by kernel_rfl) (by kernel_rfl) G21_n (by kernel_rfl) (by kernel_rfl) (all_fps _) (K21.puti (n := 32) (by kernel_rfl) (by omega) (neC (by omega) (neC (by omega) (neC (by omega) (neC (by omega) ne0)))) ns0) ?_ ?_
              · intro w22 hw22 K22
                have G22_s : w22.heap[w20.heap.size]? = some (.cells (fps [p.y.re.val, top em p.y.im.val]) _ (0, 0)) := hw22 ▸ setRow_heap _ _ _ _ _ _ G21_n
                have L22 : w21.heap.size ≤ w22.heap.size := by rw [hw22]; exact Nat.le_of_eq (size_setRow _ _ _).symm
                clear hw22
                exact t_done ⟨rfl, w20.heap.size, by kernel_rfl, Kept.zero K22.nb (rowsC (K22.at 0 rfl) (rowsC (K22.at 1 rfl) (rowsC (K22.at 2 rfl) (rowsC (K22.at 3 rfl) (rowsC ⟨_, G22_s⟩ rows0))))), (by omega)⟩
              · -- another
                exact t_nil
            · -- another
              exact t_nil
          · -- another
            refine t_make (by kernel_rfl) (d := (some 6)) (by kernel_rfl) (v := .pointer (some ⟨w19.heap.size, 0, none⟩)) (w' := w19.alloc (.cells (fps [0, 0]) 63)) (by kernel_rfl) (K19.go ((Below.refl _ _).alloc (Nat.le_refl _) _)) ?_ ?_
            · intro w23 hw23 K23
              have G23_n : w23.heap[w19.heap.size]? = some (.cells (fps [0, 0]) 63 (0, 0)) := hw23 ▸ heap_alloc_new _ _
              have S23 : w19.heap.size < w23.heap.size := lt_of_heap G23_n
              have R23_0 : w.heap.size < w19.heap.size := (by obtain ⟨T, h⟩ := K19.at 0 rfl; exact lt_of_heap h)
              have R23_1 : W0.heap.size < w19.heap.size := (by obtain ⟨T, h⟩ := K19.at 1 rfl; exact lt_of_heap h)
              have R23_2 : w6.heap.size < w19.heap.size := (by obtain ⟨T, h⟩ := K19.at 2 rfl; exact lt_of_heap h)
              have R23_3 : w11.heap.size < w19.heap.size := (by obtain ⟨T, h⟩ := K19.at 3 rfl; exact lt_of_heap h)
              have Z23 : w.heap.size ≤ w19.heap.size := K19.nb.size
              clear hw23
              refine t_call (by kernel_rfl) (d := (some 28)) (by kernel_rfl) (f := 39) (args := #[.agg (fps [(-p.x).re.val, (-p.x).im.val, (p.y).re.val, (p.y).im.val])]) (v := .agg (fps [p.y.re.val, top em p.y.im.val])) (fun _ => by kernel_rfl) (implEncode (x := -p.x) (y := p.y) HEM.out (hm.nb K23.nb) (Nat.le_trans hg K23.nb.size)) (fun w24 hb24 => ⟨K23.go hb24, ?_⟩) ?_
              · have K24 := K23.go hb24
                have G24_10 := nb_heap G23_n _ hb24
                have L24 := hb24.size
                refine t_store (by kernel_rfl) (d := none) (by kernel_rfl) (ty := 63) (x := (.tmp 6)) (y := (.tmp 28)) (by kernel_rfl) (g := w19.heap.size) (cells := (fps [p.y.re.val, top em p.y.im.val])) (by kernel_rfl) (by kernel_rfl) G24_10 (by kernel_rfl) (by kernel_rfl) (all_fps _) (K24.puti (n := 32) (by kernel_rfl) (by omega) (neC (by omega) (neC (by omega) (neC (by omega) (neC (by omega) ne0)))) ns0) ?_ ?_
                · intro w25 hw25 K25
                  have G25_s : w25.heap[w19.heap.size]? = some (.cells (fps [p.y.re.val, top em p.y.im.val]) _ (0, 0)) := hw25 ▸ setRow_heap _ _ _ _ _ _ G24_10
                  have L25 : w24.heap.size ≤ w25.heap.size := by rw [hw25]; exact Nat.le_of_eq (size_setRow _ _ _).symm
                  clear hw25
                  exact t_done ⟨rfl, w19.heap.size, by kernel_rfl, Kept.zero K25.nb (rowsC (K25.at 0 rfl) (rowsC (K25.at 1 rfl) (rowsC (K25.at 2 rfl) (rowsC (K25.at 3 rfl) (rowsC ⟨_, G25_s⟩ rows0))))), (by omega)⟩
                · -- another
                  exact t_nil
              · -- another
                exact t_nil
            · -- another
              exact t_nil
        · -- another
          refine t_make (by kernel_rfl) (d := (some 6)) (by kernel_rfl) (v := .pointer (some ⟨w18.heap.size, 0, none⟩)) (w' := w18.alloc (.cells (fps [0, 0]) 63)) (by kernel_rfl) (K18.go ((Below.refl _ _).alloc (Nat.le_refl _) _)) ?_ ?_
          · intro w26 hw26 K26
            have G26_n : w26.heap[w18.heap.size]? = some (.cells (fps [0, 0]) 63 (0, 0)) := hw26 ▸ heap_alloc_new _ _
            have S26 : w18.heap.size < w26.heap.size := lt_of_heap G26_n
            have R26_0 : w.heap.size < w18.heap.size := (by obtain ⟨T, h⟩ := K18.at 0 rfl; exact lt_of_heap h)
            have R26_1 : W0.heap.size < w18.heap.size := (by obtain ⟨T, h⟩ := K18.at 1 rfl; exact lt_of_heap h)
            have R26_2 : w6.heap.size < w18.heap.size := (by obtain ⟨T, h⟩ := K18.at 2 rfl; exact lt_of_heap h)
            have R26_3 : w11.heap.size < w18.heap.size := (by obtain ⟨T, h⟩ := K18.at 3 rfl; exact lt_of_heap h)
            have Z26 : w.heap.size ≤ w18.heap.size := K18.nb.size
            clear hw26
            refine t_call (by kernel_rfl) (d := (some 24)) (by kernel_rfl) (f := 27) (args := #[.agg (dgQ ((-p.x).re.val) ((-p.x).im.val))]) (v := .agg (fps [(-p.x).re.val, (-p.x).im.val])) (fun _ => by kernel_rfl) (bytesQ_q) (fun w27 hb27 => ⟨K26.go hb27, ?_⟩) ?_
            · have K27 := K26.go hb27
              have G27_10 := nb_heap G26_n _ hb27
              have L27 := hb27.size
              refine t_pure (by kernel_rfl) (d := (some 27)) (by kernel_rfl) (v := .agg (fps [(-p.x).re.val, (-p.x).im.val, (p.y).re.val, (p.y).im.val])) (fun _ => by kernel_rfl) ?_
              refine t_call (by kernel_rfl) (d := (some 28)) (by kernel_rfl) (f := 39) (args := #[.agg (fps [(-p.x).re.val, (-p.x).im.val, (p.y).re.val, (p.y).im.val])]) (v := .agg (fps [p.y.re.val, top em p.y.im.val])) (fun _ => by kernel_rfl) (implEncode (x := -p.x) (y := p.y) HEM.out (hm.nb K27.nb) (Nat.le_trans hg K27.nb.size)) (fun w28 hb28 => ⟨K27.go hb28, ?_⟩) ?_
              · have K28 := K27.go hb28
                have G28_10 := nb_heap G27_10 _ hb28
                have L28 := hb28.size
                refine t_store (by kernel_rfl) (d := none) (by kernel_rfl) (ty := 63) (x := (.tmp 6)) (y := (.tmp 28)) (by kernel_rfl) (g := w18.heap.size) (cells := (fps [p.y.re.val, top em p.y.im.val])) (by kernel_rfl) (by kernel_rfl) G28_10 (by kernel_rfl) (by kernel_rfl) (all_fps _) (K28.puti (n := 32) (by kernel_rfl) (by omega) (neC (by omega) (neC (by omega) (neC (by omega) (neC (by omega) ne0)))) ns0) ?_ ?_
                · intro w29 hw29 K29
                  have G29_s : w29.heap[w18.heap.size]? = some (.cells (fps [p.y.re.val, top em p.y.im.val]) _ (0, 0)) := hw29 ▸ setRow_heap _ _ _ _ _ _ G28_10
                  have L29 : w28.heap.size ≤ w29.heap.size := by rw [hw29]; exact Nat.le_of_eq (size_setRow _ _ _).symm
                  clear hw29
                  exact t_done ⟨rfl, w18.heap.size, by kernel_rfl, Kept.zero K29.nb (rowsC (K29.at 0 rfl) (rowsC (K29.at 1 rfl) (rowsC (K29.at 2 rfl) (rowsC (K29.at 3 rfl) (rowsC ⟨_, G29_s⟩ rows0))))), (by omega)⟩
                · -- another
                  exact t_nil
              · -- another
                exact t_nil
            · -- another
              exact t_nil
          · -- another
            exact t_nil
      · -- another
        refine t_make (by kernel_rfl) (d := (some 6)) (by kernel_rfl) (v := .pointer (some ⟨w17.heap.size, 0, none⟩)) (w' := w17.alloc (.cells (fps [0, 0]) 63)) (by kernel_rfl) (K17.go ((Below.refl _ _).alloc (Nat.le_refl _) _)) ?_ ?_
        · intro w30 hw30 K30
          have G30_n : w30.heap[w17.heap.size]? = some (.cells (fps [0, 0]) 63 (0, 0)) := hw30 ▸ heap_alloc_new _ _
          have S30 : w17.heap.size < w30.heap.size := lt_of_heap G30_n
          have R30_0 : w.heap.size < w17.heap.size := (by obtain ⟨T, h⟩ := K17.at 0 rfl; exact lt_of_heap h)
          have R30_1 : W0.heap.size < w17.heap.size := (by obtain ⟨T, h⟩ := K17.at 1 rfl; exact lt_of_heap h)
          have R30_2 : w6.heap.size < w17.heap.size := (by obtain ⟨T, h⟩ := K17.at 2 rfl; exact lt_of_heap h)
          have R30_3 : w11.heap.size < w17.heap.size := (by obtain ⟨T, h⟩ := K17.at 3 rfl; exact lt_of_heap h)
          have Z30 : w.heap.size ≤ w17.heap.size := K17.nb.size
          clear hw30
          refine t_call (by kernel_rfl) (d := (some 23)) (by kernel_rfl) (f := 41) (args := #[.agg (dgQ ((p.x).re.val) ((p.x).im.val))]) (v := .agg (dgQ ((-p.x).re.val) ((-p.x).im.val))) (fun _ => by kernel_rfl) (negQ_q) (fun w31 hb31 => ⟨K30.go hb31, ?_⟩) ?_
          · have K31 := K30.go hb31
            have G31_10 := nb_heap G30_n _ hb31
            have L31 := hb31.size
            refine t_call (by kernel_rfl) (d := (some 24)) (by kernel_rfl) (f := 27) (args := #[.agg (dgQ ((-p.x).re.val) ((-p.x).im.val))]) (v := .agg (fps [(-p.x).re.val, (-p.x).im.val])) (fun _ => by kernel_rfl) (bytesQ_q) (fun w32 hb32 => ⟨K31.go hb32, ?_⟩) ?_
            · have K32 := K31.go hb32
              have G32_10 := nb_heap G31_10 _ hb32
              have L32 := hb32.size
              refine t_pure (by kernel_rfl) (d := (some 27)) (by kernel_rfl) (v := .agg (fps [(-p.x).re.val, (-p.x).im.val, (p.y).re.val, (p.y).im.val])) (fun _ => by kernel_rfl) ?_
              refine t_call (by kernel_rfl) (d := (some 28)) (by kernel_rfl) (f := 39) (args := #[.agg (fps [(-p.x).re.val, (-p.x).im.val, (p.y).re.val, (p.y).im.val])]) (v := .agg (fps [p.y.re.val, top em p.y.im.val])) (fun _ => by kernel_rfl) (implEncode (x := -p.x) (y := p.y) HEM.out (hm.nb K32.nb) (Nat.le_trans hg K32.nb.size)) (fun w33 hb33 => ⟨K32.go hb33, ?_⟩) ?_
              · have K33 := K32.go hb33
                have G33_10 := nb_heap G32_10 _ hb33
                have L33 := hb33.size
                refine t_store (by kernel_rfl) (d := none) (by kernel_rfl) (ty := 63) (x := (.tmp 6)) (y := (.tmp 28)) (by kernel_rfl) (g := w17.heap.size) (cells := (fps [p.y.re.val, top em p.y.im.val])) (by kernel_rfl) (by kernel_rfl) G33_10 (by kernel_rfl) (by kernel_rfl) (all_fps _) (K33.puti (n := 32) (by kernel_rfl) (by omega) (neC (by omega) (neC (by omega) (neC (by omega) (neC (by omega) ne0)))) ns0) ?_ ?_
                · intro w34 hw34 K34
                  have G34_s : w34.heap[w17.heap.size]? = some (.cells (fps [p.y.re.val, top em p.y.im.val]) _ (0, 0)) := hw34 ▸ setRow_heap _ _ _ _ _ _ G33_10
                  have L34 : w33.heap.size ≤ w34.heap.size := by rw [hw34]; exact Nat.le_of_eq (size_setRow _ _ _).symm
                  clear hw34
                  exact t_done ⟨rfl, w17.heap.size, by kernel_rfl, Kept.zero K34.nb (rowsC (K34.at 0 rfl) (rowsC (K34.at 1 rfl) (rowsC (K34.at 2 rfl) (rowsC (K34.at 3 rfl) (rowsC ⟨_, G34_s⟩ rows0))))), (by omega)⟩
                · -- another
                  exact t_nil
              · -- another
                exact t_nil
            · -- another
              exact t_nil
          · -- another
            exact t_nil
        · -- another
          exact t_nil
    · -- another
      refine t_make (by kernel_rfl) (d := (some 6)) (by kernel_rfl) (v := .pointer (some ⟨w13.drew.heap.size, 0, none⟩)) (w' := w13.drew.alloc (.cells (fps [0, 0]) 63)) (by kernel_rfl) (K16.go ((Below.refl _ _).alloc (Nat.le_refl _) _)) ?_ ?_
      · intro w35 hw35 K35
        have G35_n : w35.heap[w13.drew.heap.size]? = some (.cells (fps [0, 0]) 63 (0, 0)) := hw35 ▸ heap_alloc_new _ _
        have S35 : w13.drew.heap.size < w35.heap.size := lt_of_heap G35_n
        have R35_0 : w.heap.size < w13.drew.heap.size := (by obtain ⟨T, h⟩ := K16.at 0 rfl; exact lt_of_heap h)
        have R35_1 : W0.heap.size < w13.drew.heap.size := (by obtain ⟨T, h⟩ := K16.at 1 rfl; exact lt_of_heap h)
        have R35_2 : w6.heap.size < w13.drew.heap.size := (by obtain ⟨T, h⟩ := K16.at 2 rfl; exact lt_of_heap h)
        have R35_3 : w11.heap.size < w13.drew.heap.size := (by obtain ⟨T, h⟩ := K16.at 3 rfl; exact lt_of_heap h)
        have Z35 : w.heap.size ≤ w13.drew.heap.size := K16.nb.size
        clear hw35
        refine t_call (by kernel_rfl) (d := (some 22)) (by kernel_rfl) (f := 19) (args := #[.agg (fps [(p.x).re.val, (p.x).im.val])]) (v := .agg (dgQ ((p.x).re.val) ((p.x).im.val))) (fun _ => by kernel_rfl) (ofQ_q) (fun w36 hb36 => ⟨K35.go hb36, ?_⟩) ?_
        · have K36 := K35.go hb36
          have G36_10 := nb_heap G35_n _ hb36
          have L36 := hb36.size
          refine t_call (by kernel_rfl) (d := (some 23)) (by kernel_rfl) (f := 41) (args := #[.agg (dgQ ((p.x).re.val) ((p.x).im.val))]) (v := .agg (dgQ ((-p.x).re.val) ((-p.x).im.val))) (fun _ => by kernel_rfl) (negQ_q) (fun w37 hb37 => ⟨K36.go hb37, ?_⟩) ?_
          · have K37 := K36.go hb37
            have G37_10 := nb_heap G36_10 _ hb37
            have L37 := hb37.size
            refine t_call (by kernel_rfl) (d := (some 24)) (by kernel_rfl) (f := 27) (args := #[.agg (dgQ ((-p.x).re.val) ((-p.x).im.val))]) (v := .agg (fps [(-p.x).re.val, (-p.x).im.val])) (fun _ => by kernel_rfl) (bytesQ_q) (fun w38 hb38 => ⟨K37.go hb38, ?_⟩) ?_
            · have K38 := K37.go hb38
              have G38_10 := nb_heap G37_10 _ hb38
              have L38 := hb38.size
              refine t_pure (by kernel_rfl) (d := (some 27)) (by kernel_rfl) (v := .agg (fps [(-p.x).re.val, (-p.x).im.val, (p.y).re.val, (p.y).im.val])) (fun _ => by kernel_rfl) ?_
              refine t_call (by kernel_rfl) (d := (some 28)) (by kernel_rfl) (f := 39) (args := #[.agg (fps [(-p.x).re.val, (-p.x).im.val, (p.y).re.val, (p.y).im.val])]) (v := .agg (fps [p.y.re.val, top em p.y.im.val])) (fun _ => by kernel_rfl) (implEncode (x := -p.x) (y := p.y) HEM.out (hm.nb K38.nb) (Nat.le_trans hg K38.nb.size)) (fun w39 hb39 => ⟨K38.go hb39, ?_⟩) ?_
              · have K39 := K38.go hb39
                have G39_10 := nb_heap G38_10 _ hb39
                have L39 := hb39.size
                refine t_store (by kernel_rfl) (d := none) (by kernel_rfl) (ty := 63) (x := (.tmp 6)) (y := (.tmp 28)) (by kernel_rfl) (g := w13.drew.heap.size) (cells := (fps [p.y.re.val, top em p.y.im.val])) (by kernel_rfl) (by kernel_rfl) G39_10 (by kernel_rfl) (by kernel_rfl) (all_fps _) (K39.puti (n := 32) (by kernel_rfl) (by omega) (neC (by omega) (neC (by omega) (neC (by omega) (neC (by omega) ne0)))) ns0) ?_ ?_
                · intro w40 hw40 K40
                  have G40_s : w40.heap[w13.drew.heap.size]? = some (.cells (fps [p.y.re.val, top em p.y.im.val]) _ (0, 0)) := hw40 ▸ setRow_heap _ _ _ _ _ _ G39_10
                  have L40 : w39.heap.size ≤ w40.heap.size := by rw [hw40]; exact Nat.le_of_eq (size_setRow _ _ _).symm
                  clear hw40
                  exact t_done ⟨rfl, w13.drew.heap.size, by kernel_rfl, Kept.zero K40.nb (rowsC (K40.at 0 rfl) (rowsC (K40.at 1 rfl) (rowsC (K40.at 2 rfl) (rowsC (K40.at 3 rfl) (rowsC ⟨_, G40_s⟩ rows0))))), (by omega)⟩
                · -- another
                  exact t_nil
              · -- another
                exact t_nil
            · -- another
              exact t_nil
          · -- another
            exact t_nil
        · -- another
          exact t_nil
      · -- another
        exact t_nil
  · rintro _ W41 ⟨p6, rfl, K42, l43⟩
    go_upto_region 6 with (fail)
    obtain ⟨n, hn, hb⟩ := top_15 (low_valZ p.y.im)
    have r3 : Fps W41 (w6.heap.size) [p.y.re.val, top eb p.y.im.val] := K42.at 2 rfl
    have r6 : Fps W41 (p6) [p.y.re.val, top em p.y.im.val] := K42.at 4 rfl
    have hc3 := r3.cell (k := 1) rfl (o := 16) rfl 15 (by decide)
    rw [hb eb E01.out] at hc3
    have hc6 := r6.cell (k := 1) rfl (o := 16) rfl 15 (by decide)
    rw [hb em M01.out] at hc6
    refine wp_seq_atS (opsAt Tryd.f9 6) ((true, 0) :: (false, 1) :: (true, 2) :: (false, 3) :: (true, 4) :: (true, 5) :: []) (fun _ => True) (by kernel_rfl) (by kernel_rfl) trivial ?_
    refine k_pure (by kernel_rfl) (d := (some 29)) (by kernel_rfl) (v := .pointer (some ⟨w6.heap.size, 31, none⟩)) (fun _ => by kernel_rfl) ?_
    refine k_make (by kernel_rfl) (d := (some 30)) (by kernel_rfl) (v := .int .u8 ((n + 128 * eb : Nat) : Int)) (run_loadB (ty := 5) (x := (.tmp 29)) (b := w6.heap.size) (off := 31) (by kernel_rfl) (by kernel_rfl) Tryd.underlying5 (hc3)) trivial ?_
    intro w201 hw201 _
    subst hw201
    refine k_pure (by kernel_rfl) (d := (some 31)) (by kernel_rfl) (v := .pointer (some ⟨p6, 31, none⟩)) (fun _ => by kernel_rfl) ?_
    refine k_make (by kernel_rfl) (d := (some 32)) (by kernel_rfl) (v := .int .u8 ((n + 128 * em : Nat) : Int)) (run_loadB (ty := 5) (x := (.tmp 31)) (b := p6) (off := 31) (by kernel_rfl) (by kernel_rfl) Tryd.underlying5 (hc6)) trivial ?_
    intro w202 hw202 _
    subst hw202
    refine k_pure (by kernel_rfl) (d := (some 33)) (by kernel_rfl) (v := .int .u8 128) (fun _ => run_binOpV (op := .xor) (x := .tmp 30) (y := .tmp 32) (t := 5) (t' := 5) (by kernel_rfl) (by kernel_rfl) (by kernel_rfl) rfl (xor7 hn HS.out)) ?_
    refine k_pure (by kernel_rfl) (d := (some 7)) (by kernel_rfl) (v := .int .u8 128) (fun _ => by kernel_rfl) ?_
    refine k_end ?_
    go_simp
    go_upto_region 7 with (fail)
    refine wp_seq_atS (opsAt Tryd.f9 7) ((true, 0) :: (false, 1) :: (true, 2) :: (true, 3) :: (false, 4) :: []) (fun _ => True) (by kernel_rfl) (by kernel_rfl) trivial ?_
    refine k_pure (by kernel_rfl) (d := (some 34)) (by kernel_rfl) (v := .pointer (some ⟨w6.heap.size, 31, none⟩)) (fun _ => by kernel_rfl) ?_
    refine k_make (by kernel_rfl) (d := (some 35)) (by kernel_rfl) (v := .int .u8 ((n + 128 * eb : Nat) : Int)) (run_loadB (ty := 5) (x := (.tmp 34)) (b := w6.heap.size) (off := 31) (by kernel_rfl) (by kernel_rfl) Tryd.underlying5 (hc3)) trivial ?_
    intro w203 hw203 _
    subst hw203
    refine k_pure (by kernel_rfl) (d := (some 36)) (by kernel_rfl) (v := .int .u8 ((n + 128 * 0 : Nat) : Int)) (fun _ => run_binOpV (op := .and) (x := .tmp 35) (y := .const (.int .u8 127)) (t := 5) (t' := 5) (by kernel_rfl) (by kernel_rfl) (by kernel_rfl) rfl (and7 hn E01.out)) ?_
    refine k_pure (by kernel_rfl) (d := (some 37)) (by kernel_rfl) (v := .pointer (some ⟨w6.heap.size, 31, none⟩)) (fun _ => by kernel_rfl) ?_
    refine k_skipOp (by kernel_rfl) (d := none) (by kernel_rfl) (run_storeB (ty := 5) (k := .u8) (n := ((n + 128 * 0 : Nat) : Int)) (x := (.tmp 37)) (y := (.tmp 36)) (b := w6.heap.size) (off := 31) (by kernel_rfl) (by kernel_rfl) (by kernel_rfl) (by kernel_rfl) (hc3) (r3.free _)) trivial ?_
    intro w204 hw204 _
    have hu := upd_byte r3 (k := 1) rfl (i := 15) (o := 31) (by decide) rfl (x' := top 0 p.y.im.val) (top_bytes (s := eb)) (v := .int .u8 ((n + 128 * 0 : Nat) : Int)) (hb 0 (.inl rfl)).symm
    rw [← hw204] at hu
    have K900 : Kept w [(w.heap.size, (fps [(p.x).re.val, (p.x).im.val, (p.y).re.val, (p.y).im.val])), (W0.heap.size, (fps [(p.x).re.val, (p.x).im.val, (p.y).re.val, (p.y).im.val])), (w6.heap.size, (fps [p.y.re.val, top 0 p.y.im.val])), (w11.heap.size, (fps [(p.x).re.val, (p.x).im.val, (p.y).re.val, (p.y).im.val])), (p6, (fps [p.y.re.val, top em p.y.im.val]))] [] w204 := Kept.set K42 hu (i := 2) (by omega) rfl (neC (by omega) (neC (by omega) (neC (by omega) (neC (by omega) ne0))))
    clear hu hw204 r3 r6 hc3 hc6 hb hn
    refine k_end ?_
    go_simp
    go_upto_region 8 with (fail)
    have hz900 : w.heap.size ≤ w204.heap.size := K900.nb.size
    have r900_0 : w.heap.size < w204.heap.size := (by obtain ⟨T, h⟩ := K900.at 0 rfl; exact lt_of_heap h)
    have r900_1 : W0.heap.size < w204.heap.size := (by obtain ⟨T, h⟩ := K900.at 1 rfl; exact lt_of_heap h)
    have r900_2 : w6.heap.size < w204.heap.size := (by obtain ⟨T, h⟩ := K900.at 2 rfl; exact lt_of_heap h)
    have r900_3 : w11.heap.size < w204.heap.size := (by obtain ⟨T, h⟩ := K900.at 3 rfl; exact lt_of_heap h)
    have r900_4 : p6 < w204.heap.size := (by obtain ⟨T, h⟩ := K900.at 4 rfl; exact lt_of_heap h)
    have K255 : Kept w [(w.heap.size, (fps [(p.x).re.val, (p.x).im.val, (p.y).re.val, (p.y).im.val])), (W0.heap.size, (fps [(p.x).re.val, (p.x).im.val, (p.y).re.val, (p.y).im.val])), (w6.heap.size, (fps [p.y.re.val, top 0 p.y.im.val])), (w11.heap.size, (fps [(p.x).re.val, (p.x).im.val, (p.y).re.val, (p.y).im.val])), (p6, (fps [p.y.re.val, top em p.y.im.val]))] [] w204 := Kept.mks K900.nb (rowsC (K900.at 0 rfl) (rowsC (K900.at 1 rfl) (rowsC (K900.at 2 rfl) (rowsC (K900.at 3 rfl) (rowsC (K900.at 4 rfl) rows0))))) rooms0
    refine wp_seq_atS (opsAt Tryd.f9 8) ((false, 0) :: []) (Kept w [(w.heap.size, (fps [(p.x).re.val, (p.x).im.val, (p.y).re.val, (p.y).im.val])), (W0.heap.size, (fps [(p.x).re.val, (p.x).im.val, (p.y).re.val, (p.y).im.val])), (w6.heap.size, (fps [p.y.re.val, top 0 p.y.im.val])), (w11.heap.size, (fps [(p.x).re.val, (p.x).im.val, (p.y).re.val, (p.y).im.val])), (p6, (fps [p.y.re.val, top em p.y.im.val]))] []) (by kernel_rfl) (by kernel_rfl) K255 ?_
    refine k_make (by kernel_rfl) (d := (some 8)) (by kernel_rfl) (v := .pointer (some ⟨w204.heap.size, 0, none⟩)) (w' := w204.alloc (.cells (fps [0, 0]) 63)) (by kernel_rfl) (K255.go ((Below.refl _ _).alloc (Nat.le_refl _) _)) ?_
    intro w256 hw256 K256
    have G256_n : w256.heap[w204.heap.size]? = some (.cells (fps [0, 0]) 63 (0, 0)) := hw256 ▸ heap_alloc_new _ _
    have S256 : w204.heap.size < w256.heap.size := lt_of_heap G256_n
    have R256_0 : w.heap.size < w204.heap.size := (by obtain ⟨T, h⟩ := K255.at 0 rfl; exact lt_of_heap h)
    have R256_1 : W0.heap.size < w204.heap.size := (by obtain ⟨T, h⟩ := K255.at 1 rfl; exact lt_of_heap h)
    have R256_2 : w6.heap.size < w204.heap.size := (by obtain ⟨T, h⟩ := K255.at 2 rfl; exact lt_of_heap h)
    have R256_3 : w11.heap.size < w204.heap.size := (by obtain ⟨T, h⟩ := K255.at 3 rfl; exact lt_of_heap h)
    have R256_4 : p6 < w204.heap.size := (by obtain ⟨T, h⟩ := K255.at 4 rfl; exact lt_of_heap h)
    have Z256 : w.heap.size ≤ w204.heap.size := K255.nb.size
    clear hw256
    have K257 : Kept w [(w.heap.size, (fps [(p.x).re.val, (p.x).im.val, (p.y).re.val, (p.y).im.val])), (W0.heap.size, (fps [(p.x).re.val, (p.x).im.val, (p.y).re.val, (p.y).im.val])), (w6.heap.size, (fps [p.y.re.val, top 0 p.y.im.val])), (w11.heap.size, (fps [(p.x).re.val, (p.x).im.val, (p.y).re.val, (p.y).im.val])), (p6, (fps [p.y.re.val, top em p.y.im.val])), (w204.heap.size, (fps [0, 0]))] [] w256 := Kept.zero K256.nb (rowsC (K256.at 0 rfl) (rowsC (K256.at 1 rfl) (rowsC (K256.at 2 rfl) (rowsC (K256.at 3 rfl) (rowsC (K256.at 4 rfl) (rowsC ⟨_, G256_n⟩ rows0))))))
    clear G256_n
    refine k_end ?_
    go_simp
    go_upto_region 9 with (fail)
    refine wp_region_atS (opsAt Tryd.f9 9) ((true, 0) :: (true, 1) :: (true, 2) :: (true, 3) :: (false, 4) :: []) (fun _ => True) (by kernel_rfl) rfl (by kernel_rfl) (fun _ _ d _ _ h => by cases d <;> exact h) (by kernel_rfl) (by kernel_rfl) trivial ?_
    refine k_pure (by kernel_rfl) (d := (some 38)) (by kernel_rfl) (v := .slice (some ⟨w204.heap.size, 0, none⟩) 32 32) (fun _ => by kernel_rfl) ?_
    refine k_pure (by kernel_rfl) (d := (some 39)) (by kernel_rfl) (v := .pointer (some ⟨w.heap.size, 32, none⟩)) (fun _ => by kernel_rfl) ?_
    refine k_pure (by kernel_rfl) (d := (some 40)) (by kernel_rfl) (v := .pointer (some ⟨w.heap.size, 32, none⟩)) (fun _ => by kernel_rfl) ?_
    refine k_pure (by kernel_rfl) (d := (some 41)) (by kernel_rfl) (v := .slice (some ⟨w.heap.size, 32, none⟩) 16 16) (fun _ => by kernel_rfl) ?_
    have r8 : Fps w256 (w204.heap.size) [0, 0] := K257.at 5 rfl
    have r1 : Fps w256 (w.heap.size) [p.x.re.val, p.x.im.val, p.y.re.val, p.y.im.val] := K257.at 0 rfl
    obtain ⟨wz9, hr, hu⟩ := run_copy16L (dl := 32) (P := Tryd.prog) w256.drew (b2 := w204.heap.size) (o2 := 0) (dc := 32) (sc := 16) (ty := 3) (k2 := 0) (x := p.y.re.val) Tryd.underlying28 (by kernel_rfl) (by decide) r8.drew rfl (Nat.zero_lt_two) ((r1.drew).c16 (k := 2) (o := 32) rfl rfl).src
    refine k_make (by kernel_rfl) (d := (some 42)) (by kernel_rfl) (v := goInt 16) (run_copyOp (x := .tmp 38) (y := .tmp 41) (by kernel_rfl) (by kernel_rfl) (by kernel_rfl) hr) trivial ?_
    intro w458 hw458 _
    subst hw458
    have K990 : Kept w [(w.heap.size, (fps [(p.x).re.val, (p.x).im.val, (p.y).re.val, (p.y).im.val])), (W0.heap.size, (fps [(p.x).re.val, (p.x).im.val, (p.y).re.val, (p.y).im.val])), (w6.heap.size, (fps [p.y.re.val, top 0 p.y.im.val])), (w11.heap.size, (fps [(p.x).re.val, (p.x).im.val, (p.y).re.val, (p.y).im.val])), (p6, (fps [p.y.re.val, top em p.y.im.val])), (w204.heap.size, (fps [p.y.re.val, 0]))] [] w458 := Kept.set K257 hu.ofDrew (i := 5) (by omega) rfl (neC (by omega) (neC (by omega) (neC (by omega) (neC (by omega) (neC (by omega) ne0)))))
    clear hu hr r8 r1
    refine k_end ?_
    go_simp
    go_upto_region 10 with (fail)
    refine wp_region_atS (opsAt Tryd.f9 10) ((true, 0) :: (true, 1) :: (true, 2) :: (true, 3) :: (false, 4) :: []) (fun _ => True) (by kernel_rfl) rfl (by kernel_rfl) (fun _ _ d _ _ h => by cases d <;> exact h) (by kernel_rfl) (by kernel_rfl) trivial ?_
    refine k_pure (by kernel_rfl) (d := (some 43)) (by kernel_rfl) (v := .slice (some ⟨w204.heap.size, 16, none⟩) 16 16) (fun _ => by kernel_rfl) ?_
    refine k_pure (by kernel_rfl) (d := (some 44)) (by kernel_rfl) (v := .pointer (some ⟨w.heap.size, 32, none⟩)) (fun _ => by kernel_rfl) ?_
    refine k_pure (by kernel_rfl) (d := (some 45)) (by kernel_rfl) (v := .pointer (some ⟨w.heap.size, 48, none⟩)) (fun _ => by kernel_rfl) ?_
    refine k_pure (by kernel_rfl) (d := (some 46)) (by kernel_rfl) (v := .slice (some ⟨w.heap.size, 48, none⟩) 16 16) (fun _ => by kernel_rfl) ?_
    have r8 : Fps w458 (w204.heap.size) [p.y.re.val, 0] := K990.at 5 rfl
    have r1 : Fps w458 (w.heap.size) [p.x.re.val, p.x.im.val, p.y.re.val, p.y.im.val] := K990.at 0 rfl
    obtain ⟨wz10, hr, hu⟩ := run_copy16L (dl := 16) (P := Tryd.prog) w458.drew (b2 := w204.heap.size) (o2 := 16) (dc := 16) (sc := 16) (ty := 3) (k2 := 1) (x := p.y.im.val) Tryd.underlying28 (by kernel_rfl) (by decide) r8.drew rfl (Nat.one_lt_two) ((r1.drew).c16 (k := 3) (o := 48) rfl rfl).src
    refine k_make (by kernel_rfl) (d := (some 47)) (by kernel_rfl) (v := goInt 16) (run_copyOp (x := .tmp 43) (y := .tmp 46) (by kernel_rfl) (by kernel_rfl) (by kernel_rfl) hr) trivial ?_
    intro w709 hw709 _
    subst hw709
    have K9100 : Kept w [(w.heap.size, (fps [(p.x).re.val, (p.x).im.val, (p.y).re.val, (p.y).im.val])), (W0.heap.size, (fps [(p.x).re.val, (p.x).im.val, (p.y).re.val, (p.y).im.val])), (w6.heap.size, (fps [p.y.re.val, top 0 p.y.im.val])), (w11.heap.size, (fps [(p.x).re.val, (p.x).im.val, (p.y).re.val, (p.y).im.val])), (p6, (fps [p.y.re.val, top em p.y.im.val])), (w204.heap.size, (fps [p.y.re.val, p.y.im.val]))] [] w709 := Kept.set K990 hu.ofDrew (i := 5) (by omega) rfl (neC (by omega) (neC (by omega) (neC (by omega) (neC (by omega) (neC (by omega) ne0)))))
    clear hu hr r8 r1
    refine k_end ?_
    go_simp
    go_upto_region 11 with (fail)
    have K760 : Kept w [(w.heap.size, (fps [(p.x).re.val, (p.x).im.val, (p.y).re.val, (p.y).im.val])), (W0.heap.size, (fps [(p.x).re.val, (p.x).im.val, (p.y).re.val, (p.y).im.val])), (w6.heap.size, (fps [p.y.re.val, top 0 p.y.im.val])), (w11.heap.size, (fps [(p.x).re.val, (p.x).im.val, (p.y).re.val, (p.y).im.val])), (p6, (fps [p.y.re.val, top em p.y.im.val])), (w204.heap.size, (fps [p.y.re.val, p.y.im.val]))] [] w709 := Kept.mks K9100.nb (rowsC (K9100.at 0 rfl) (rowsC (K9100.at 1 rfl) (rowsC (K9100.at 2 rfl) (rowsC (K9100.at 3 rfl) (rowsC (K9100.at 4 rfl) (rowsC (K9100.at 5 rfl) rows0)))))) rooms0
    refine wp_seq_atS (opsAt Tryd.f9 11) ((true, 0) :: (true, 1) :: (true, 2) :: (true, 3) :: (true, 4) :: (true, 5) :: (true, 6) :: (true, 7) :: (true, 8) :: (true, 9) :: (true, 10) :: (true, 11) :: (true, 12) :: (true, 13) :: (true, 14) :: (true, 15) :: (false, 16) :: (true, 17) :: (true, 18) :: (true, 19) :: (true, 20) :: (true, 21) :: []) (Kept w [(w.heap.size, (fps [(p.x).re.val, (p.x).im.val, (p.y).re.val, (p.y).im.val])), (W0.heap.size, (fps [(p.x).re.val, (p.x).im.val, (p.y).re.val, (p.y).im.val])), (w6.heap.size, (fps [p.y.re.val, top 0 p.y.im.val])), (w11.heap.size, (fps [(p.x).re.val, (p.x).im.val, (p.y).re.val, (p.y).im.val])), (p6, (fps [p.y.re.val, top em p.y.im.val])), (w204.heap.size, (fps [p.y.re.val, p.y.im.val]))] []) (by kernel_rfl) (by kernel_rfl) K760 ?_
    refine k_pure (by kernel_rfl) (d := (some 48)) (by kernel_rfl) (v := .bool true) (fun _ => by kernel_rfl) ?_
    refine k_pure (by kernel_rfl) (d := (some 49)) (by kernel_rfl) (v := .bool true) (fun _ => by kernel_rfl) ?_
    refine k_row (by kernel_rfl) (d := (some 50)) (by kernel_rfl) (ty := 35) (x := (.tmp 4)) (by kernel_rfl) (b := w11.heap.size) (by kernel_rfl) (cs := (fps [(p.x).re.val, (p.x).im.val, (p.y).re.val, (p.y).im.val])) (fun _ hs => hs.at 3 rfl) Tryd.underlying35 rfl (by kernel_rfl) ?_
    refine k_row (by kernel_rfl) (d := (some 51)) (by kernel_rfl) (ty := 35) (x := (.tmp 1)) (by kernel_rfl) (b := w.heap.size) (by kernel_rfl) (cs := (fps [(p.x).re.val, (p.x).im.val, (p.y).re.val, (p.y).im.val])) (fun _ hs => hs.at 0 rfl) Tryd.underlying35 rfl (by kernel_rfl) ?_
    refine k_eql (by kernel_rfl) (d := (some 52)) (by kernel_rfl) (ty := 35) (ty' := 35) (x := (.tmp 50)) (y := (.tmp 51)) (by kernel_rfl) (xs := (fps [(p.x).re.val, (p.x).im.val, (p.y).re.val, (p.y).im.val])) (ys := (fps [(p.x).re.val, (p.x).im.val, (p.y).re.val, (p.y).im.val])) (b := true) (by kernel_rfl) (by kernel_rfl) (by kernel_rfl) eqPt_t ?_
    refine k_pure (by kernel_rfl) (d := (some 53)) (by kernel_rfl) (v := .bool true) (fun _ => by kernel_rfl) ?_
    refine k_pure (by kernel_rfl) (d := (some 54)) (by kernel_rfl) (v := .bool true) (fun _ => by kernel_rfl) ?_
    refine k_row (by kernel_rfl) (d := (some 55)) (by kernel_rfl) (ty := 63) (x := (.tmp 3)) (by kernel_rfl) (b := w6.heap.size) (by kernel_rfl) (cs := (fps [p.y.re.val, top 0 p.y.im.val])) (fun _ hs => hs.at 2 rfl) Tryd.underlying63 rfl (by kernel_rfl) ?_
    refine k_row (by kernel_rfl) (d := (some 56)) (by kernel_rfl) (ty := 63) (x := (.tmp 8)) (by kernel_rfl) (b := w204.heap.size) (by kernel_rfl) (cs := (fps [p.y.re.val, p.y.im.val])) (fun _ hs => hs.at 5 rfl) Tryd.underlying63 rfl (by kernel_rfl) ?_
    refine k_eql (by kernel_rfl) (d := (some 57)) (by kernel_rfl) (ty := 63) (ty' := 63) (x := (.tmp 55)) (y := (.tmp 56)) (by kernel_rfl) (xs := (fps [p.y.re.val, top 0 p.y.im.val])) (ys := (fps [p.y.re.val, p.y.im.val])) (b := true) (by kernel_rfl) (by kernel_rfl) (by kernel_rfl) (fun w' => eq32 _ _ w') ?_
    refine k_pure (by kernel_rfl) (d := (some 58)) (by kernel_rfl) (v := .bool true) (fun _ => by kernel_rfl) ?_
    refine k_pure (by kernel_rfl) (d := (some 59)) (by kernel_rfl) (v := .bool true) (fun _ => by kernel_rfl) ?_
    refine k_pure (by kernel_rfl) (d := (some 60)) (by kernel_rfl) (v := .int .u8 128) (fun _ => by kernel_rfl) ?_
    refine k_pure (by kernel_rfl) (d := (some 61)) (by kernel_rfl) (v := .bool true) (fun _ => by kernel_rfl) ?_
    refine k_pure (by kernel_rfl) (d := (some 62)) (by kernel_rfl) (v := .pointer (some ⟨w.heap.size, 0, none⟩)) (fun _ => by kernel_rfl) ?_
    refine k_part (by kernel_rfl) (d := (some 63)) (by kernel_rfl) (ty := 33) (x := (.tmp 62)) (by kernel_rfl) (b := w.heap.size) (off := 0) (by kernel_rfl) (all := (fps [(p.x).re.val, (p.x).im.val, (p.y).re.val, (p.y).im.val])) (cs := (fps [(p.x).re.val, (p.x).im.val])) (fun _ hs => hs.at 0 rfl) (fpsub2 (k := 0) rfl rfl) Tryd.underlying33 rfl (by kernel_rfl) ?_
    refine k_call (by kernel_rfl) (d := (some 64)) (by kernel_rfl) (f := 19) (args := #[.agg (fps [(p.x).re.val, (p.x).im.val])]) (v := .agg (dgQ ((p.x).re.val) ((p.x).im.val))) (fun _ => by kernel_rfl) (ofQ_q) (fun w761 hb761 => ⟨K760.go hb761, ?_⟩)
    have K761 := K760.go hb761
    have L761 := hb761.size
    refine k_pure (by kernel_rfl) (d := (some 65)) (by kernel_rfl) (v := .agg (dgQ 0 0)) (fun _ => by kernel_rfl) ?_
    refine k_neq (by kernel_rfl) (d := (some 66)) (by kernel_rfl) (ty := 39) (ty' := 39) (x := (.tmp 64)) (y := (.tmp 65)) (by kernel_rfl) (xs := (dgQ ((p.x).re.val) ((p.x).im.val))) (ys := (dgQ 0 0)) (b := true) (by kernel_rfl) (by kernel_rfl) (by kernel_rfl) (fun w' => neqQ_t HX.out w') ?_
    refine k_pure (by kernel_rfl) (d := (some 67)) (by kernel_rfl) (v := .bool true) (fun _ => by kernel_rfl) ?_
    refine k_pure (by kernel_rfl) (d := (some 68)) (by kernel_rfl) (v := .bool true) (fun _ => by kernel_rfl) ?_
    refine k_pure (by kernel_rfl) (d := (some 2)) (by kernel_rfl) (v := .bool true) (fun _ => by kernel_rfl) ?_
    have K762 : Kept w [(w.heap.size, (fps [(p.x).re.val, (p.x).im.val, (p.y).re.val, (p.y).im.val])), (W0.heap.size, (fps [(p.x).re.val, (p.x).im.val, (p.y).re.val, (p.y).im.val])), (w6.heap.size, (fps [p.y.re.val, top 0 p.y.im.val])), (w11.heap.size, (fps [(p.x).re.val, (p.x).im.val, (p.y).re.val, (p.y).im.val])), (p6, (fps [p.y.re.val, top em p.y.im.val])), (w204.heap.size, (fps [p.y.re.val, p.y.im.val]))] [] w761 := Kept.zero K761.nb (rowsC (K761.at 0 rfl) (rowsC (K761.at 1 rfl) (rowsC (K761.at 2 rfl) (rowsC (K761.at 3 rfl) (rowsC (K761.at 4 rfl) (rowsC (K761.at 5 rfl) rows0))))))
    refine k_end ?_
    go_simp
    go_wp2_with fail
    exact bodyPost_ret_by (by kernel_rfl) (by kernel_rfl) ⟨rfl, K762.nb⟩

set_option maxRecDepth 100000 in
set_option maxHeartbeats 1000000 in
theorem enc_z {w : World} {p : Pt} {eb em : Nat} (hm : ModW w) (hg : 5 ≤ w.heap.size) (hd : AtZ w 0 0 dd) (hx : p.x = 0) (hs : eb = em) (he : ebit p.x = eb) (hem : ebit (-p.x) = em) (he1 : eb = 0 ∨ eb = 1) (hm1 : em = 0 ∨ em = 1) (hon : onAll [(p.x.re.val, p.x.im.val, p.y.re.val, p.y.im.val)] = true) :
    Calls Tryd.prog 9 #[.agg (fps [(p.x).re.val, (p.x).im.val, (p.y).re.val, (p.y).im.val])] w fun e w' => e = .returned (.bool true) ∧ Below w.heap.size w w' := by
  have HE := Lib.hid he; have HEM := Lib.hid hem; have E01 := Lib.hid he1; have M01 := Lib.hid hm1; have HX := Lib.hid hx; have HS := Lib.hid hs
  clear he hem he1 hm1 hx hs
  go_enter Tryd.func9, Tryd.ntmps9
  go_upto_region 1 with (fail)
  refine wp_gen (fun WW => Kept w [(w.heap.size, (fps [(p.x).re.val, (p.x).im.val, (p.y).re.val, (p.y).im.val]))] [] WW) (Kept.zero (nb_alloc (Below.refl _ _) _) (rowsC (row_as (hp1_0 (w := w) _) (by kernel_rfl)) rows0)) ?_
  intro W0 K0
  have K1 : Kept w [(w.heap.size, (fps [(p.x).re.val, (p.x).im.val, (p.y).re.val, (p.y).im.val]))] [] W0 := Kept.mks K0.nb (rowsC (K0.at 0 rfl) rows0) rooms0
  refine wp_seq_atS (opsAt Tryd.f9 1) ((true, 0) :: (false, 1) :: (false, 2) :: (true, 3) :: []) (Kept w [(w.heap.size, (fps [(p.x).re.val, (p.x).im.val, (p.y).re.val, (p.y).im.val]))] []) (by kernel_rfl) (by kernel_rfl) K1 ?_
  refine k_row (by kernel_rfl) (d := (some 9)) (by kernel_rfl) (ty := 35) (x := (.tmp 1)) (by kernel_rfl) (b := w.heap.size) (by kernel_rfl) (cs := (fps [(p.x).re.val, (p.x).im.val, (p.y).re.val, (p.y).im.val])) (fun _ hs => hs.at 0 rfl) Tryd.underlying35 rfl (by kernel_rfl) ?_
  refine k_make (by kernel_rfl) (d := (some 10)) (by kernel_rfl) (v := .slice (some ⟨W0.heap.size, 0, none⟩) 1 1) (w' := W0.alloc (.cells (fps [(p.x).re.val, (p.x).im.val, (p.y).re.val, (p.y).im.val]) 35)) (by kernel_rfl) (K1.go ((Below.refl _ _).alloc (Nat.le_refl _) _)) ?_
  intro w2 hw2 K2
  have G2_n : w2.heap[W0.heap.size]? = some (.cells (fps [(p.x).re.val, (p.x).im.val, (p.y).re.val, (p.y).im.val]) 35 (0, 0)) := hw2 ▸ heap_alloc_new _ _
  have S2 : W0.heap.size < w2.heap.size := lt_of_heap G2_n
  have R2_0 : w.heap.size < W0.heap.size := (by obtain ⟨T, h⟩ := K1.at 0 rfl; exact lt_of_heap h)
  have Z2 : w.heap.size ≤ W0.heap.size := K1.nb.size
  clear hw2
  refine k_call (by kernel_rfl) (d := (some 11)) (by kernel_rfl) (f := 15) (args := #[.slice (some ⟨W0.heap.size, 0, none⟩) 1 1]) (v := .bool true) (fun _ => by kernel_rfl) (on_r (l := [(p.x.re.val, p.x.im.val, p.y.re.val, p.y.im.val)]) hon ⟨_, G2_n⟩ (ltsC (ltPt p) lts0) (Nat.le_of_ble_eq_true rfl)) (fun w3 hb3 => ⟨K2.go hb3, ?_⟩)
  have K3 := K2.go hb3
  have G3_10 := nb_heap G2_n _ hb3
  have L3 := hb3.size
  refine k_pure (by kernel_rfl) (d := (some 12)) (by kernel_rfl) (v := .bool false) (fun _ => by kernel_rfl) ?_
  have K4 : Kept w [(w.heap.size, (fps [(p.x).re.val, (p.x).im.val, (p.y).re.val, (p.y).im.val])), (W0.heap.size, (fps [(p.x).re.val, (p.x).im.val, (p.y).re.val, (p.y).im.val]))] [] w3 := Kept.zero K3.nb (rowsC (K3.at 0 rfl) (rowsC ⟨_, G3_10⟩ rows0))
  clear G3_10 G2_n
  refine k_end ?_
  go_simp
  go_upto_region 3 with (fail)
  have K5 : Kept w [(w.heap.size, (fps [(p.x).re.val, (p.x).im.val, (p.y).re.val, (p.y).im.val])), (W0.heap.size, (fps [(p.x).re.val, (p.x).im.val, (p.y).re.val, (p.y).im.val]))] [] w3 := Kept.mks K4.nb (rowsC (K4.at 0 rfl) (rowsC (K4.at 1 rfl) rows0)) rooms0
  refine wp_seq_atS (opsAt Tryd.f9 3) ((true, 0) :: (false, 1) :: (false, 2) :: (false, 3) :: []) (Kept w [(w.heap.size, (fps [(p.x).re.val, (p.x).im.val, (p.y).re.val, (p.y).im.val])), (W0.heap.size, (fps [(p.x).re.val, (p.x).im.val, (p.y).re.val, (p.y).im.val]))] []) (by kernel_rfl) (by kernel_rfl) K5 ?_
  refine k_row (by kernel_rfl) (d := (some 13)) (by kernel_rfl) (ty := 35) (x := (.tmp 1)) (by kernel_rfl) (b := w.heap.size) (by kernel_rfl) (cs := (fps [(p.x).re.val, (p.x).im.val, (p.y).re.val, (p.y).im.val])) (fun _ hs => hs.at 0 rfl) Tryd.underlying35 rfl (by kernel_rfl) ?_
  refine k_call (by kernel_rfl) (d := (some 14)) (by kernel_rfl) (f := 39) (args := #[.agg (fps [(p.x).re.val, (p.x).im.val, (p.y).re.val, (p.y).im.val])]) (v := .agg (fps [p.y.re.val, top eb p.y.im.val])) (fun _ => by kernel_rfl) (implEncode HE.out (hm.nb K5.nb) (Nat.le_trans hg K5.nb.size)) (fun w6 hb6 => ⟨K5.go hb6, ?_⟩)
  have K6 := K5.go hb6
  have L6 := hb6.size
  refine k_make (by kernel_rfl) (d := (some 3)) (by kernel_rfl) (v := .pointer (some ⟨w6.heap.size, 0, none⟩)) (w' := w6.alloc (.cells (fps [0, 0]) 63)) (by kernel_rfl) (K6.go ((Below.refl _ _).alloc (Nat.le_refl _) _)) ?_
  intro w7 hw7 K7
  have G7_n : w7.heap[w6.heap.size]? = some (.cells (fps [0, 0]) 63 (0, 0)) := hw7 ▸ heap_alloc_new _ _
  have S7 : w6.heap.size < w7.heap.size := lt_of_heap G7_n
  have R7_0 : w.heap.size < w6.heap.size := (by obtain ⟨T, h⟩ := K6.at 0 rfl; exact lt_of_heap h)
  have R7_1 : W0.heap.size < w6.heap.size := (by obtain ⟨T, h⟩ := K6.at 1 rfl; exact lt_of_heap h)
  have Z7 : w.heap.size ≤ w6.heap.size := K6.nb.size
  clear hw7
  refine k_put (by kernel_rfl) (d := none) (by kernel_rfl) (ty := 63) (x := (.tmp 3)) (y := (.tmp 14)) (by kernel_rfl) (g := w6.heap.size) (cells := (fps [p.y.re.val, top eb p.y.im.val])) (by kernel_rfl) (by kernel_rfl) G7_n (by kernel_rfl) (by kernel_rfl) (all_fps _) (K7.puti (n := 32) (by kernel_rfl) (by omega) (neC (by omega) (neC (by omega) ne0)) ns0) ?_
  intro w8 hw8 K8
  have G8_s : w8.heap[w6.heap.size]? = some (.cells (fps [p.y.re.val, top eb p.y.im.val]) _ (0, 0)) := hw8 ▸ setRow_heap _ _ _ _ _ _ G7_n
  have L8 : w7.heap.size ≤ w8.heap.size := by rw [hw8]; exact Nat.le_of_eq (size_setRow _ _ _).symm
  clear hw8
  have K9 : Kept w [(w.heap.size, (fps [(p.x).re.val, (p.x).im.val, (p.y).re.val, (p.y).im.val])), (W0.heap.size, (fps [(p.x).re.val, (p.x).im.val, (p.y).re.val, (p.y).im.val])), (w6.heap.size, (fps [p.y.re.val, top eb p.y.im.val]))] [] w8 := Kept.zero K8.nb (rowsC (K8.at 0 rfl) (rowsC (K8.at 1 rfl) (rowsC ⟨_, G8_s⟩ rows0)))
  clear G8_s G7_n
  refine k_end ?_
  go_simp
  go_upto_region 4 with (fail)
  have K10 : Kept w [(w.heap.size, (fps [(p.x).re.val, (p.x).im.val, (p.y).re.val, (p.y).im.val])), (W0.heap.size, (fps [(p.x).re.val, (p.x).im.val, (p.y).re.val, (p.y).im.val])), (w6.heap.size, (fps [p.y.re.val, top eb p.y.im.val]))] [] w8 := Kept.mks K9.nb (rowsC (K9.at 0 rfl) (rowsC (K9.at 1 rfl) (rowsC (K9.at 2 rfl) rows0))) rooms0
  refine wp_seq_atS (opsAt Tryd.f9 4) ((true, 0) :: (false, 1) :: (true, 2) :: (true, 3) :: (true, 4) :: (false, 5) :: (false, 6) :: (true, 7) :: []) (Kept w [(w.heap.size, (fps [(p.x).re.val, (p.x).im.val, (p.y).re.val, (p.y).im.val])), (W0.heap.size, (fps [(p.x).re.val, (p.x).im.val, (p.y).re.val, (p.y).im.val])), (w6.heap.size, (fps [p.y.re.val, top eb p.y.im.val]))] []) (by kernel_rfl) (by kernel_rfl) K10 ?_
  refine k_row (by kernel_rfl) (d := (some 16)) (by kernel_rfl) (ty := 63) (x := (.tmp 3)) (by kernel_rfl) (b := w6.heap.size) (by kernel_rfl) (cs := (fps [p.y.re.val, top eb p.y.im.val])) (fun _ hs => hs.at 2 rfl) Tryd.underlying63 rfl (by kernel_rfl) ?_
  refine k_call (by kernel_rfl) (d := (some 17)) (by kernel_rfl) (f := 40) (args := #[.agg (fps [p.y.re.val, top eb p.y.im.val])]) (v := .tuple #[.agg (fps [(p.x).re.val, (p.x).im.val, (p.y).re.val, (p.y).im.val]), .bool true]) (fun _ => by kernel_rfl) (implDecode (p := p) rfl rfl HE.out (hm.nb K10.nb) (Nat.le_trans hg K10.nb.size) (hd.nb K10.nb)) (fun w11 hb11 => ⟨K10.go hb11, ?_⟩)
  have K11 := K10.go hb11
  have L11 := hb11.size
  refine k_pure (by kernel_rfl) (d := (some 15)) (by kernel_rfl) (v := .tuple #[.agg (fps [(p.x).re.val, (p.x).im.val, (p.y).re.val, (p.y).im.val]), .bool true]) (fun _ => by kernel_rfl) ?_
  refine k_pure (by kernel_rfl) (d := (some 18)) (by kernel_rfl) (v := .agg (fps [(p.x).re.val, (p.x).im.val, (p.y).re.val, (p.y).im.val])) (fun _ => by kernel_rfl) ?_
  refine k_pure (by kernel_rfl) (d := (some 19)) (by kernel_rfl) (v := .bool true) (fun _ => by kernel_rfl) ?_
  refine k_make (by kernel_rfl) (d := (some 4)) (by kernel_rfl) (v := .pointer (some ⟨w11.heap.size, 0, none⟩)) (w' := w11.alloc (.cells (fps [0, 0, 0, 0]) 35)) (by kernel_rfl) (K11.go ((Below.refl _ _).alloc (Nat.le_refl _) _)) ?_
  intro w12 hw12 K12
  have G12_n : w12.heap[w11.heap.size]? = some (.cells (fps [0, 0, 0, 0]) 35 (0, 0)) := hw12 ▸ heap_alloc_new _ _
  have S12 : w11.heap.size < w12.heap.size := lt_of_heap G12_n
  have R12_0 : w.heap.size < w11.heap.size := (by obtain ⟨T, h⟩ := K11.at 0 rfl; exact lt_of_heap h)
  have R12_1 : W0.heap.size < w11.heap.size := (by obtain ⟨T, h⟩ := K11.at 1 rfl; exact lt_of_heap h)
  have R12_2 : w6.heap.size < w11.heap.size := (by obtain ⟨T, h⟩ := K11.at 2 rfl; exact lt_of_heap h)
  have Z12 : w.heap.size ≤ w11.heap.size := K11.nb.size
  clear hw12
  refine k_put (by kernel_rfl) (d := none) (by kernel_rfl) (ty := 35) (x := (.tmp 4)) (y := (.tmp 18)) (by kernel_rfl) (g := w11.heap.size) (cells := (fps [(p.x).re.val, (p.x).im.val, (p.y).re.val, (p.y).im.val])) (by kernel_rfl) (by kernel_rfl) G12_n (by kernel_rfl) (by kernel_rfl) (all_fps _) (K12.puti (n := 64) (by kernel_rfl) (by omega) (neC (by omega) (neC (by omega) (neC (by omega) ne0))) ns0) ?_
  intro w13 hw13 K13
  have G13_s : w13.heap[w11.heap.size]? = some (.cells (fps [(p.x).re.val, (p.x).im.val, (p.y).re.val, (p.y).im.val]) _ (0, 0)) := hw13 ▸ setRow_heap _ _ _ _ _ _ G12_n
  have L13 : w12.heap.size ≤ w13.heap.size := by rw [hw13]; exact Nat.le_of_eq (size_setRow _ _ _).symm
  clear hw13
  refine k_pure (by kernel_rfl) (d := (some 5)) (by kernel_rfl) (v := .bool true) (fun _ => by kernel_rfl) ?_
  have K14 : Kept w [(w.heap.size, (fps [(p.x).re.val, (p.x).im.val, (p.y).re.val, (p.y).im.val])), (W0.heap.size, (fps [(p.x).re.val, (p.x).im.val, (p.y).re.val, (p.y).im.val])), (w6.heap.size, (fps [p.y.re.val, top eb p.y.im.val])), (w11.heap.size, (fps [(p.x).re.val, (p.x).im.val, (p.y).re.val, (p.y).im.val]))] [] w13 := Kept.zero K13.nb (rowsC (K13.at 0 rfl) (rowsC (K13.at 1 rfl) (rowsC (K13.at 2 rfl) (rowsC ⟨_, G13_s⟩ rows0))))
  clear G13_s G12_n
  refine k_end ?_
  go_simp
  go_upto_region 5 with (fail)
  have K15 : Kept w [(w.heap.size, (fps [(p.x).re.val, (p.x).im.val, (p.y).re.val, (p.y).im.val])), (W0.heap.size, (fps [(p.x).re.val, (p.x).im.val, (p.y).re.val, (p.y).im.val])), (w6.heap.size, (fps [p.y.re.val, top eb p.y.im.val])), (w11.heap.size, (fps [(p.x).re.val, (p.x).im.val, (p.y).re.val, (p.y).im.val]))] [] w13 := Kept.mks K14.nb (rowsC (K14.at 0 rfl) (rowsC (K14.at 1 rfl) (rowsC (K14.at 2 rfl) (rowsC (K14.at 3 rfl) rows0)))) rooms0
  have RK15_0 : w.heap.size < w13.heap.size := (by obtain ⟨T, h⟩ := K14.at 0 rfl; exact lt_of_heap h)
  have RK15_1 : W0.heap.size < w13.heap.size := (by obtain ⟨T, h⟩ := K14.at 1 rfl; exact lt_of_heap h)
  have RK15_2 : w6.heap.size < w13.heap.size := (by obtain ⟨T, h⟩ := K14.at 2 rfl; exact lt_of_heap h)
  have RK15_3 : w11.heap.size < w13.heap.size := (by obtain ⟨T, h⟩ := K14.at 3 rfl; exact lt_of_heap h)
  refine wp_meet (fun a' w' => ∃ p6 : Nat, a' = { tmps := #[.agg (fps [(p.x).re.val, (p.x).im.val, (p.y).re.val, (p.y).im.val]), .pointer (some ⟨w.heap.size, 0, none⟩), .bool false, .pointer (some ⟨w6.heap.size, 0, none⟩), .pointer (some ⟨w11.heap.size, 0, none⟩), .bool true, .pointer (some ⟨p6, 0, none⟩), undef, undef, .agg (fps [(p.x).re.val, (p.x).im.val, (p.y).re.val, (p.y).im.val]), .slice (some ⟨W0.heap.size, 0, none⟩) 1 1, .bool true, .bool false, .agg (fps [(p.x).re.val, (p.x).im.val, (p.y).re.val, (p.y).im.val]), .agg (fps [p.y.re.val, top eb p.y.im.val]), .tuple #[.agg (fps [(p.x).re.val, (p.x).im.val, (p.y).re.val, (p.y).im.val]), .bool true], .agg (fps [p.y.re.val, top eb p.y.im.val]), .tuple #[.agg (fps [(p.x).re.val, (p.x).im.val, (p.y).re.val, (p.y).im.val]), .bool true], .agg (fps [(p.x).re.val, (p.x).im.val, (p.y).re.val, (p.y).im.val]), .bool true, .pointer (some ⟨w.heap.size, 0, none⟩), .agg (fps [(p.x).re.val, (p.x).im.val]), .agg (dgQ ((p.x).re.val) ((p.x).im.val)), .agg (dgQ ((-p.x).re.val) ((-p.x).im.val)), .agg (fps [(-p.x).re.val, (-p.x).im.val]), .pointer (some ⟨w.heap.size, 32, none⟩), .agg (fps [(p.y).re.val, (p.y).im.val]), .agg (fps [(-p.x).re.val, (-p.x).im.val, (p.y).re.val, (p.y).im.val]), .agg (fps [p.y.re.val, top em p.y.im.val]), undef, undef, undef, undef, undef, undef, undef, undef, undef, undef, undef, undef, undef, undef, undef, undef, undef, undef, undef, undef, undef, undef, undef, undef, undef, undef, undef, undef, undef, undef, undef, undef, undef, undef, undef, undef, undef, undef, undef, undef], defers := [] } ∧ Kept w [(w.heap.size, (fps [(p.x).re.val, (p.x).im.val, (p.y).re.val, (p.y).im.val])), (W0.heap.size, (fps [(p.x).re.val, (p.x).im.val, (p.y).re.val, (p.y).im.val])), (w6.heap.size, (fps [p.y.re.val, top eb p.y.im.val])), (w11.heap.size, (fps [(p.x).re.val, (p.x).im.val, (p.y).re.val, (p.y).im.val])), (p6, (fps [p.y.re.val, top em p.y.im.val]))] [] w' ∧ w13.heap.size ≤ p6) ?_ ?_
  · refine wp_tree_at (opsAt Tryd.f9 5) (.take 0 (.take 1 (.take 5 (.take 6 (.fork 2 (.fork 3 (.fork 4 (.take 7 (.fork 8 (.fork 9 (.fork 10 .done .nil) .nil) (.fork 9 (.fork 8 (.fork 10 .done .nil) .nil) .nil))) (.fork 9 (.fork 4 (.take 7 (.fork 8 (.fork 10 .done .nil) .nil)) .nil) .nil)) (.fork 9 (.fork 3 (.fork 4 (.take 7 (.fork 8 (.fork 10 .done .nil) .nil)) .nil) .nil) .nil)) (.fork 9 (.fork 2 (.fork 3 (.fork 4 (.take 7 (.fork 8 (.fork 10 .done .nil) .nil)) .nil) .nil) .nil) .nil)))))) (Kept w [(w.heap.size, (fps [(p.x).re.val, (p.x).im.val, (p.y).re.val, (p.y).im.val])), (W0.heap.size, (fps [(p.x).re.val, (p.x).im.val, (p.y).re.val, (p.y).im.val])), (w6.heap.size, (fps [p.y.re.val, top eb p.y.im.val])), (w11.heap.size, (fps [(p.x).re.val, (p.x).im.val, (p.y).re.val, (p.y).im.val]))] []) (by kernel_rfl) rfl (by kernel_rfl) (by intro c a d v w h; exact absurd h.1 (by simp)) (by kernel_rfl) (by kernel_rfl) K15.drew ?_
    have K16 := K15.drew
    have DK16 : w13.heap.size ≤ w13.drew.heap.size := Nat.le_refl _
    refine t_pure (by kernel_rfl) (d := (some 20)) (by kernel_rfl) (v := .pointer (some ⟨w.heap.size, 0, none⟩)) (fun _ => by kernel_rfl) ?_
    refine t_part (by kernel_rfl) (d := (some 21)) (by kernel_rfl) (ty := 33) (x := (.tmp 20)) (by kernel_rfl) (b := w.heap.size) (off := 0) (by kernel_rfl) (all := (fps [(p.x).re.val, (p.x).im.val, (p.y).re.val, (p.y).im.val])) (cs := (fps [(p.x).re.val, (p.x).im.val])) (fun _ hs => hs.at 0 rfl) (fpsub2 (k := 0) rfl rfl) Tryd.underlying33 rfl (by kernel_rfl) ?_
    refine t_pure (by kernel_rfl) (d := (some 25)) (by kernel_rfl) (v := .pointer (some ⟨w.heap.size, 32, none⟩)) (fun _ => by kernel_rfl) ?_
    refine t_part (by kernel_rfl) (d := (some 26)) (by kernel_rfl) (ty := 33) (x := (.tmp 25)) (by kernel_rfl) (b := w.heap.size) (off := 32) (by kernel_rfl) (all := (fps [(p.x).re.val, (p.x).im.val, (p.y).re.val, (p.y).im.val])) (cs := (fps [(p.y).re.val, (p.y).im.val])) (fun _ hs => hs.at 0 rfl) (fpsub2 (k := 2) rfl rfl) Tryd.underlying33 rfl (by kernel_rfl) ?_
    refine t_call (by kernel_rfl) (d := (some 22)) (by kernel_rfl) (f := 19) (args := #[.agg (fps [(p.x).re.val, (p.x).im.val])]) (v := .agg (dgQ ((p.x).re.val) ((p.x).im.val))) (fun _ => by kernel_rfl) (ofQ_q) (fun w17 hb17 => ⟨K16.go hb17, ?_⟩) ?_
    · have K17 := K16.go hb17
      have L17 := hb17.size
      refine t_call (by kernel_rfl) (d := (some 23)) (by kernel_rfl) (f := 41) (args := #[.agg (dgQ ((p.x).re.val) ((p.x).im.val))]) (v := .agg (dgQ ((-p.x).re.val) ((-p.x).im.val))) (fun _ => by kernel_rfl) (negQ_q) (fun w18 hb18 => ⟨K17.go hb18, ?_⟩) ?_
      · have K18 := K17.go hb18
        have L18 := hb18.size
        refine t_call (by kernel_rfl) (d := (some 24)) (by kernel_rfl) (f := 27) (args := #[.agg (dgQ ((-p.x).re.val) ((-p.x).im.val))]) (v := .agg (fps [(-p.x).re.val, (-p.x).im.val])) (fun _ => by kernel_rfl) (bytesQ_q) (fun w19 hb19 => ⟨K18.go hb19, ?_⟩) ?_
        · have K19 := K18.go hb19
          have L19 := hb19.size
          refine t_pure (by kernel_rfl) (d := (some 27)) (by kernel_rfl) (v := .agg (fps [(-p.x).re.val, (-p.x).im.val, (p.y).re.val, (p.y).im.val])) (fun _ => by kernel_rfl) ?_
          refine t_call (by kernel_rfl) (d := (some 28)) (by kernel_rfl) (f := 39) (args := #[.agg (fps [(-p.x).re.val, (-p.x).im.val, (p.y).re.val, (p.y).im.val])]) (v := .agg (fps [p.y.re.val, top em p.y.im.val])) (fun _ => by kernel_rfl) (implEncode (x := -p.x) (y := p.y) HEM.out (hm.nb K19.nb) (Nat.le_trans hg K19.nb.size)) (fun w20 hb20 => ⟨K19.go hb20, ?_⟩) ?_
          · have K20 := K19.go hb20
            have L20 := hb20.size
            refine t_make (by kernel_rfl) (d := (some 6)) (by kernel_rfl) (v := .pointer (some ⟨w20.heap.size, 0, none⟩)) (w' := w20.alloc (.cells (fps [0, 0]) 63)) (by kernel_rfl) (K20.go ((Below.refl _ _).alloc (Nat.le_refl _) _)) ?_ ?_
            · intro w21 hw21 K21
              have G21_n : w21.heap[w20.heap.size]? = some (.cells (fps [0, 0]) 63 (0, 0)) := hw21 ▸ heap_alloc_new _ _
              have S21 : w20.heap.size < w21.heap.size := lt_of_heap G21_n
              have R21_0 : w.heap.size < w20.heap.size := (by obtain ⟨T, h⟩ := K20.at 0 rfl; exact lt_of_heap h)
              have R21_1 : W0.heap.size < w20.heap.size := (by obtain ⟨T, h⟩ := K20.at 1 rfl; exact lt_of_heap h)
              have R21_2 : w6.heap.size < w20.heap.size := (by obtain ⟨T, h⟩ := K20.at 2 rfl; exact lt_of_heap h)
              have R21_3 : w11.heap.size < w20.heap.size := (by obtain ⟨T, h⟩ := K20.at 3 rfl; exact lt_of_heap h)
              have Z21 : w.heap.size ≤ w20.heap.size := K20.nb.size
              clear hw21
              refine t_store (by kernel_rfl) (d := none) (by kernel_rfl) (ty := 63) (x := (.tmp 6)) (y := (.tmp 28)) (by kernel_rfl) (g := w20.heap.size) (cells := (fps [p.y.re.val, top em p.y.im.val])) (by kernel_rfl) (by kernel_rfl) G21_n (by kernel_rfl) (by kernel_rfl) (all_fps _) (K21.puti (n := 32) (by kernel_rfl) (by omega) (neC (by omega) (neC (by omega) (neC (by omega) (neC (by omega) ne0)))) ns0) ?_ ?_
              · intro w22 hw22 K22
                have G22_s : w22.heap[w20.heap.size]? = some (.cells (fps [p.y.re.val, top em p.y.im.val]) _ (0, 0)) := hw22 ▸ setRow_heap _ _ _ _ _ _ G21_n
                have L22 : w21.heap.size ≤ w22.heap.size := by rw [hw22]; exact Nat.le_of_eq (size_setRow _ _ _).symm
                clear hw22
                exact t_done ⟨rfl, w20.heap.size, by kernel_rfl, Kept.zero K22.nb (rowsC (K22.at 0 rfl) (rowsC (K22.at 1 rfl) (rowsC (K22.at 2 rfl) (rowsC (K22.at 3 rfl) (rowsC ⟨_, G22_s⟩ rows0))))), (by omega)⟩
              · -- another
                exact t_nil
            · -- another
              exact t_nil
          · -- another
            refine t_make (by kernel_rfl) (d := (some 6)) (by kernel_rfl) (v := .pointer (some ⟨w19.heap.size, 0, none⟩)) (w' := w19.alloc (.cells (fps [0, 0]) 63)) (by kernel_rfl) (K19.go ((Below.refl _ _).alloc (Nat.le_refl _) _)) ?_ ?_
            · intro w23 hw23 K23
              have G23_n : w23.heap[w19.heap.size]? = some (.cells (fps [0, 0]) 63 (0, 0)) := hw23 ▸ heap_alloc_new _ _
              have S23 : w19.heap.size < w23.heap.size := lt_of_heap G23_n
              have R23_0 : w.heap.size < w19.heap.size := (by obtain ⟨T, h⟩ := K19.at 0 rfl; exact lt_of_heap h)
              have R23_1 : W0.heap.size < w19.heap.size := (by obtain ⟨T, h⟩ := K19.at 1 rfl; exact lt_of_heap h)
              have R23_2 : w6.heap.size < w19.heap.size := (by obtain ⟨T, h⟩ := K19.at 2 rfl; exact lt_of_heap h)
              have R23_3 : w11.heap.size < w19.heap.size := (by obtain ⟨T, h⟩ := K19.at 3 rfl; exact lt_of_heap h)
              have Z23 : w.heap.size ≤ w19.heap.size := K19.nb.size
              clear hw23
              refine t_call (by kernel_rfl) (d := (some 28)) (by kernel_rfl) (f := 39) (args := #[.agg (fps [(-p.x).re.val, (-p.x).im.val, (p.y).re.val, (p.y).im.val])]) (v := .agg (fps [p.y.re.val, top em p.y.im.val])) (fun _ => by kernel_rfl) (implEncode (x := -p.x) (y := p.y) HEM.out (hm.nb K23.nb) (Nat.le_trans hg K23.nb.size)) (fun w24 hb24 => ⟨K23.go hb24, ?_⟩) ?_
              · have K24 := K23.go hb24
                have G24_10 := nb_heap G23_n _ hb24
                have L24 := hb24.size
                refine t_store (by kernel_rfl) (d := none) (by kernel_rfl) (ty := 63) (x := (.tmp 6)) (y := (.tmp 28)) (by kernel_rfl) (g := w19.heap.size) (cells := (fps [p.y.re.val, top em p.y.im.val])) (by kernel_rfl) (by kernel_rfl) G24_10 (by kernel_rfl) (by kernel_rfl) (all_fps _) (K24.puti (n := 32) (by kernel_rfl) (by omega) (neC (by omega) (neC (by omega) (neC (by omega) (neC (by omega) ne0)))) ns0) ?_ ?_
                · intro w25 hw25 K25
                  have G25_s : w25.heap[w19.heap.size]? = some (.cells (fps [p.y.re.val, top em p.y.im.val]) _ (0, 0)) := hw25 ▸ setRow_heap _ _ _ _ _ _ G24_10
                  have L25 : w24.heap.size ≤ w25.heap.size := by rw [hw25]; exact Nat.le_of_eq (size_setRow _ _ _).symm
                  clear hw25
                  exact t_done ⟨rfl, w19.heap.size, by kernel_rfl, Kept.zero K25.nb (rowsC (K25.at 0 rfl) (rowsC (K25.at 1 rfl) (rowsC (K25.at 2 rfl) (rowsC (K25.at 3 rfl) (rowsC ⟨_, G25_s⟩ rows0))))), (by omega)⟩
                · -- another
                  exact t_nil
              · -- another
                exact t_nil
            · -- another
              exact t_nil
        · -- another
          refine t_make (by kernel_rfl) (d := (some 6)) (by kernel_rfl) (v := .pointer (some ⟨w18.heap.size, 0, none⟩)) (w' := w18.alloc (.cells (fps [0, 0]) 63)) (by kernel_rfl) (K18.go ((Below.refl _ _).alloc (Nat.le_refl _) _)) ?_ ?_
          · intro w26 hw26 K26
            have G26_n : w26.heap[w18.heap.size]? = some (.cells (fps [0, 0]) 63 (0, 0)) := hw26 ▸ heap_alloc_new _ _
            have S26 : w18.heap.size < w26.heap.size := lt_of_heap G26_n
            have R26_0 : w.heap.size < w18.heap.size := (by obtain ⟨T, h⟩ := K18.at 0 rfl; exact lt_of_heap h)
            have R26_1 : W0.heap.size < w18.heap.size := (by obtain ⟨T, h⟩ := K18.at 1 rfl; exact lt_of_heap h)
            have R26_2 : w6.heap.size < w18.heap.size := (by obtain ⟨T, h⟩ := K18.at 2 rfl; exact lt_of_heap h)
            have R26_3 : w11.heap.size < w18.heap.size := (by obtain ⟨T, h⟩ := K18.at 3 rfl; exact lt_of_heap h)
            have Z26 : w.heap.size ≤ w18.heap.size := K18.nb.size
            clear hw26
            refine t_call (by kernel_rfl) (d := (some 24)) (by kernel_rfl) (f := 27) (args := #[.agg (dgQ ((-p.x).re.val) ((-p.x).im.val))]) (v := .agg (fps [(-p.x).re.val, (-p.x).im.val])) (fun _ => by kernel_rfl) (bytesQ_q) (fun w27 hb27 => ⟨K26.go hb27, ?_⟩) ?_
            · have K27 := K26.go hb27
              have G27_10 := nb_heap G26_n _ hb27
              have L27 := hb27.size
              refine t_pure (by kernel_rfl) (d := (some 27)) (by kernel_rfl) (v := .agg (fps [(-p.x).re.val, (-p.x).im.val, (p.y).re.val, (p.y).im.val])) (fun _ => by kernel_rfl) ?_
              refine t_call (by kernel_rfl) (d := (some 28)) (by kernel_rfl) (f := 39) (args := #[.agg (fps [(-p.x).re.val, (-p.x).im.val, (p.y).re.val, (p.y).im.val])]) (v := .agg (fps [p.y.re.val, top em p.y.im.val])) (fun _ => by kernel_rfl) (implEncode (x := -p.x) (y := p.y) HEM.out (hm.nb K27.nb) (Nat.le_trans hg K27.nb.size)) (fun w28 hb28 => ⟨K27.go hb28, ?_⟩) ?_
              · have K28 := K27.go hb28
                have G28_10 := nb_heap G27_10 _ hb28
                have L28 := hb28.size
                refine t_store (by kernel_rfl) (d := none) (by kernel_rfl) (ty := 63) (x := (.tmp 6)) (y := (.tmp 28)) (by kernel_rfl) (g := w18.heap.size) (cells := (fps [p.y.re.val, top em p.y.im.val])) (by kernel_rfl) (by kernel_rfl) G28_10 (by kernel_rfl) (by kernel_rfl) (all_fps _) (K28.puti (n := 32) (by kernel_rfl) (by omega) (neC (by omega) (neC (by omega) (neC (by omega) (neC (by omega) ne0)))) ns0) ?_ ?_
                · intro w29 hw29 K29
                  have G29_s : w29.heap[w18.heap.size]? = some (.cells (fps [p.y.re.val, top em p.y.im.val]) _ (0, 0)) := hw29 ▸ setRow_heap _ _ _ _ _ _ G28_10
                  have L29 : w28.heap.size ≤ w29.heap.size := by rw [hw29]; exact Nat.le_of_eq (size_setRow _ _ _).symm
                  clear hw29
                  exact t_done ⟨rfl, w18.heap.size, by kernel_rfl, Kept.zero K29.nb (rowsC (K29.at 0 rfl) (rowsC (K29.at 1 rfl) (rowsC (K29.at 2 rfl) (rowsC (K29.at 3 rfl) (rowsC ⟨_, G29_s⟩ rows0))))), (by omega)⟩
                · -- another
                  exact t_nil
              · -- another
                exact t_nil
            · -- another
              exact t_nil
          · -- another
            exact t_nil
      · -- another
        refine t_make (by kernel_rfl) (d := (some 6)) (by kernel_rfl) (v := .pointer (some ⟨w17.heap.size, 0, none⟩)) (w' := w17.alloc (.cells (fps [0, 0]) 63)) (by kernel_rfl) (K17.go ((Below.refl _ _).alloc (Nat.le_refl _) _)) ?_ ?_
        · intro w30 hw30 K30
          have G30_n : w30.heap[w17.heap.size]? = some (.cells (fps [0, 0]) 63 (0, 0)) := hw30 ▸ heap_alloc_new _ _
          have S30 : w17.heap.size < w30.heap.size := lt_of_heap G30_n
          have R30_0 : w.heap.size < w17.heap.size := (by obtain ⟨T, h⟩ := K17.at 0 rfl; exact lt_of_heap h)
          have R30_1 : W0.heap.size < w17.heap.size := (by obtain ⟨T, h⟩ := K17.at 1 rfl; exact lt_of_heap h)
          have R30_2 : w6.heap.size < w17.heap.size := (by obtain ⟨T, h⟩ := K17.at 2 rfl; exact lt_of_heap h)
          have R30_3 : w11.heap.size < w17.heap.size := (by obtain ⟨T, h⟩ := K17.at 3 rfl; exact lt_of_heap h)
          have Z30 : w.heap.size ≤ w17.heap.size := K17.nb.size
          clear hw30
          refine t_call (by kernel_rfl) (d := (some 23)) (by kernel_rfl) (f := 41) (args := #[.agg (dgQ ((p.x).re.val) ((p.x).im.val))]) (v := .agg (dgQ ((-p.x).re.val) ((-p.x).im.val))) (fun _ => by kernel_rfl) (negQ_q) (fun w31 hb31 => ⟨K30.go hb31, ?_⟩) ?_
          · have K31 := K30.go hb31
            have G31_10 := nb_heap G30_n _ hb31
            have L31 := hb31.size
            refine t_call (by kernel_rfl) (d := (some 24)) (by kernel_rfl) (f := 27) (args := #[.agg (dgQ ((-p.x).re.val) ((-p.x).im.val))]) (v := .agg (fps [(-p.x).re.val, (-p.x).im.val])) (fun _ => by kernel_rfl) (bytesQ_q) (fun w32 hb32 => ⟨K31.go hb32, ?_⟩) ?_
            · have K32 := K31.go hb32
              have G32_10 := nb_heap G31_10 _ hb32
              have L32 := hb32.size
              refine t_pure (by kernel_rfl) (d := (some 27)) (by kernel_rfl) (v := .agg (fps [(-p.x).re.val, (-p.x).im.val, (p.y).re.val, (p.y).im.val])) (fun _ => by kernel_rfl) ?_
              refine t_call (by kernel_rfl) (d := (some 28)) (by kernel_rfl) (f := 39) (args := #[.agg (fps [(-p.x).re.val, (-p.x).im.val, (p.y).re.val, (p.y).im.val])]) (v := .agg (fps [p.y.re.val, top em p.y.im.val])) (fun _ => by kernel_rfl) (implEncode (x := -p.x) (y := p.y) HEM.out (hm.nb K32.nb) (Nat.le_trans hg K32.nb.size)) (fun w33 hb33 => ⟨K32.go hb33, ?_⟩) ?_
              · have K33 := K32.go hb33
                have G33_10 := nb_heap G32_10 _ hb33
                have L33 := hb33.size
                refine t_store (by kernel_rfl) (d := none) (by kernel_rfl) (ty := 63) (x := (.tmp 6)) (y := (.tmp 28)) (by kernel_rfl) (g := w17.heap.size) (cells := (fps [p.y.re.val, top em p.y.im.val])) (by kernel_rfl) (by kernel_rfl) G33_10 (by kernel_rfl) (by kernel_rfl) (all_fps _) (K33.puti (n := 32) (by kernel_rfl) (by omega) (neC (by omega) (neC (by omega) (neC (by omega) (neC (by omega) ne0)))) ns0) ?_ ?_
                · intro w34 hw34 K34
                  have G34_s : w34.heap[w17.heap.size]? = some (.cells (fps [p.y.re.val, top em p.y.im.val]) _ (0, 0)) := hw34 ▸ setRow_heap _ _ _ _ _ _ G33_10
                  have L34 : w33.heap.size ≤ w34.heap.size := by rw [hw34]; exact Nat.le_of_eq (size_setRow _ _ _).symm
                  clear hw34
                  exact t_done ⟨rfl, w17.heap.size, by kernel_rfl, Kept.zero K34.nb (rowsC (K34.at 0 rfl) (rowsC (K34.at 1 rfl) (rowsC (K34.at 2 rfl) (rowsC (K34.at 3 rfl) (rowsC ⟨_, G34_s⟩ rows0))))), (by omega)⟩
                · -- another
                  exact t_nil
              · -- another
                exact t_nil
            · -- another
              exact t_nil
          · -- another
            exact t_nil
        · -- another
          exact t_nil
    · -- another
      refine t_make (by kernel_rfl) (d := (some 6)) (by kernel_rfl) (v := .pointer (some ⟨w13.drew.heap.size, 0, none⟩)) (w' := w13.drew.alloc (.cells (fps [0, 0]) 63)) (by kernel_rfl) (K16.go ((Below.refl _ _).alloc (Nat.le_refl _) _)) ?_ ?_
      · intro w35 hw35 K35
        have G35_n : w35.heap[w13.drew.heap.size]? = some (.cells (fps [0, 0]) 63 (0, 0)) := hw35 ▸ heap_alloc_new _ _
        have S35 : w13.drew.heap.size < w35.heap.size := lt_of_heap G35_n
        have R35_0 : w.heap.size < w13.drew.heap.size := (by obtain ⟨T, h⟩ := K16.at 0 rfl; exact lt_of_heap h)
        have R35_1 : W0.heap.size < w13.drew.heap.size := (by obtain ⟨T, h⟩ := K16.at 1 rfl; exact lt_of_heap h)
        have R35_2 : w6.heap.size < w13.drew.heap.size := (by obtain ⟨T, h⟩ := K16.at 2 rfl; exact lt_of_heap h)
        have R35_3 : w11.heap.size < w13.drew.heap.size := (by obtain ⟨T, h⟩ := K16.at 3 rfl; exact lt_of_heap h)
        have Z35 : w.heap.size ≤ w13.drew.heap.size := K16.nb.size
        clear hw35
        refine t_call (by kernel_rfl) (d := (some 22)) (by kernel_rfl) (f := 19) (args := #[.agg (fps [(p.x).re.val, (p.x).im.val])]) (v := .agg (dgQ ((p.x).re.val) ((p.x).im.val))) (fun _ => by kernel_rfl) (ofQ_q) (fun w36 hb36 => ⟨K35.go hb36, ?_⟩) ?_
        · have K36 := K35.go hb36
          have G36_10 := nb_heap G35_n _ hb36
          have L36 := hb36.size
          refine t_call (by kernel_rfl) (d := (some 23)) (by kernel_rfl) (f := 41) (args := #[.agg (dgQ ((p.x).re.val) ((p.x).im.val))]) (v := .agg (dgQ ((-p.x).re.val) ((-p.x).im.val))) (fun _ => by kernel_rfl) (negQ_q) (fun w37 hb37 => ⟨K36.go hb37, ?_⟩) ?_
          · have K37 := K36.go hb37
            have G37_10 := nb_heap G36_10 _ hb37
            have L37 := hb37.size
            refine t_call (by kernel_rfl) (d := (some 24)) (by kernel_rfl) (f := 27) (args := #[.agg (dgQ ((-p.x).re.val) ((-p.x).im.val))]) (v := .agg (fps [(-p.x).re.val, (-p.x).im.val])) (fun _ => by kernel_rfl) (bytesQ_q) (fun w38 hb38 => ⟨K37.go hb38, ?_⟩) ?_
            · have K38 := K37.go hb38
              have G38_10 := nb_heap G37_10 _ hb38
              have L38 := hb38.size
              refine t_pure (by kernel_rfl) (d := (some 27)) (by kernel_rfl) (v := .agg (fps [(-p.x).re.val, (-p.x).im.val, (p.y).re.val, (p.y).im.val])) (fun _ => by kernel_rfl) ?_
              refine t_call (by kernel_rfl) (d := (some 28)) (by kernel_rfl) (f := 39) (args := #[.agg (fps [(-p.x).re.val, (-p.x).im.val, (p.y).re.val, (p.y).im.val])]) (v := .agg (fps [p.y.re.val, top em p.y.im.val])) (fun _ => by kernel_rfl) (implEncode (x := -p.x) (y := p.y) HEM.out (hm.nb K38.nb) (Nat.le_trans hg K38.nb.size)) (fun w39 hb39 => ⟨K38.go hb39, ?_⟩) ?_
              · have K39 := K38.go hb39
                have G39_10 := nb_heap G38_10 _ hb39
                have L39 := hb39.size
                refine t_store (by kernel_rfl) (d := none) (by kernel_rfl) (ty := 63) (x := (.tmp 6)) (y := (.tmp 28)) (by kernel_rfl) (g := w13.drew.heap.size) (cells := (fps [p.y.re.val, top em p.y.im.val])) (by kernel_rfl) (by kernel_rfl) G39_10 (by kernel_rfl) (by kernel_rfl) (all_fps _) (K39.puti (n := 32) (by kernel_rfl) (by omega) (neC (by omega) (neC (by omega) (neC (by omega) (neC (by omega) ne0)))) ns0) ?_ ?_
                · intro w40 hw40 K40
                  have G40_s : w40.heap[w13.drew.heap.size]? = some (.cells (fps [p.y.re.val, top em p.y.im.val]) _ (0, 0)) := hw40 ▸ setRow_heap _ _ _ _ _ _ G39_10
                  have L40 : w39.heap.size ≤ w40.heap.size := by rw [hw40]; exact Nat.le_of_eq (size_setRow _ _ _).symm
                  clear hw40
                  exact t_done ⟨rfl, w13.drew.heap.size, by kernel_rfl, Kept.zero K40.nb (rowsC (K40.at 0 rfl) (rowsC (K40.at 1 rfl) (rowsC (K40.at 2 rfl) (rowsC (K40.at 3 rfl) (rowsC ⟨_, G40_s⟩ rows0))))), (by omega)⟩
                · -- another
                  exact t_nil
              · -- another
                exact t_nil
            · -- another
              exact t_nil
          · -- another
            exact t_nil
        · -- another
          exact t_nil
      · -- another
        exact t_nil
  · rintro _ W41 ⟨p6, rfl, K42, l43⟩
    go_upto_region 6 with (fail)
    obtain ⟨n, hn, hb⟩ := top_15 (low_valZ p.y.im)
    have r3 : Fps W41 (w6.heap.size) [p.y.re.val, top eb p.y.im.val] := K42.at 2 rfl
    have r6 : Fps W41 (p6) [p.y.re.val, top em p.y.im.val] := K42.at 4 rfl
    have hc3 := r3.cell (k := 1) rfl (o := 16) rfl 15 (by decide)
    rw [hb eb E01.out] at hc3
    have hc6 := r6.cell (k := 1) rfl (o := 16) rfl 15 (by decide)
    rw [hb em M01.out] at hc6
    refine wp_seq_atS (opsAt Tryd.f9 6) ((true, 0) :: (false, 1) :: (true, 2) :: (false, 3) :: (true, 4) :: (true, 5) :: []) (fun _ => True) (by kernel_rfl) (by kernel_rfl) trivial ?_
    refine k_pure (by kernel_rfl) (d := (some 29)) (by kernel_rfl) (v := .pointer (some ⟨w6.heap.size, 31, none⟩)) (fun _ => by kernel_rfl) ?_
    refine k_make (by kernel_rfl) (d := (some 30)) (by kernel_rfl) (v := .int .u8 ((n + 128 * eb : Nat) : Int)) (run_loadB (ty := 5) (x := (.tmp 29)) (b := w6.heap.size) (off := 31) (by kernel_rfl) (by kernel_rfl) Tryd.underlying5 (hc3)) trivial ?_
    intro w201 hw201 _
    subst hw201
    refine k_pure (by kernel_rfl) (d := (some 31)) (by kernel_rfl) (v := .pointer (some ⟨p6, 31, none⟩)) (fun _ => by kernel_rfl) ?_
    refine k_make (by kernel_rfl) (d := (some 32)) (by kernel_rfl) (v := .int .u8 ((n + 128 * em : Nat) : Int)) (run_loadB (ty := 5) (x := (.tmp 31)) (b := p6) (off := 31) (by kernel_rfl) (by kernel_rfl) Tryd.underlying5 (hc6)) trivial ?_
    intro w202 hw202 _
    subst hw202
    refine k_pure (by kernel_rfl) (d := (some 33)) (by kernel_rfl) (v := .int .u8 0) (fun _ => run_binOpV (op := .xor) (x := .tmp 30) (y := .tmp 32) (t := 5) (t' := 5) (by kernel_rfl) (by kernel_rfl) (by kernel_rfl) rfl (xor7z hn HS.out E01.out)) ?_
    refine k_pure (by kernel_rfl) (d := (some 7)) (by kernel_rfl) (v := .int .u8 0) (fun _ => by kernel_rfl) ?_
    refine k_end ?_
    go_simp
    go_upto_region 7 with (fail)
    refine wp_seq_atS (opsAt Tryd.f9 7) ((true, 0) :: (false, 1) :: (true, 2) :: (true, 3) :: (false, 4) :: []) (fun _ => True) (by kernel_rfl) (by kernel_rfl) trivial ?_
    refine k_pure (by kernel_rfl) (d := (some 34)) (by kernel_rfl) (v := .pointer (some ⟨w6.heap.size, 31, none⟩)) (fun _ => by kernel_rfl) ?_
    refine k_make (by kernel_rfl) (d := (some 35)) (by kernel_rfl) (v := .int .u8 ((n + 128 * eb : Nat) : Int)) (run_loadB (ty := 5) (x := (.tmp 34)) (b := w6.heap.size) (off := 31) (by kernel_rfl) (by kernel_rfl) Tryd.underlying5 (hc3)) trivial ?_
    intro w203 hw203 _
    subst hw203
    refine k_pure (by kernel_rfl) (d := (some 36)) (by kernel_rfl) (v := .int .u8 ((n + 128 * 0 : Nat) : Int)) (fun _ => run_binOpV (op := .and) (x := .tmp 35) (y := .const (.int .u8 127)) (t := 5) (t' := 5) (by kernel_rfl) (by kernel_rfl) (by kernel_rfl) rfl (and7 hn E01.out)) ?_
    refine k_pure (by kernel_rfl) (d := (some 37)) (by kernel_rfl) (v := .pointer (some ⟨w6.heap.size, 31, none⟩)) (fun _ => by kernel_rfl) ?_
    refine k_skipOp (by kernel_rfl) (d := none) (by kernel_rfl) (run_storeB (ty := 5) (k := .u8) (n := ((n + 128 * 0 : Nat) : Int)) (x := (.tmp 37)) (y := (.tmp 36)) (b := w6.heap.size) (off := 31) (by kernel_rfl) (by kernel_rfl) (by kernel_rfl) (by kernel_rfl) (hc3) (r3.free _)) trivial ?_
    intro w204 hw204 _
    have hu := upd_byte r3 (k := 1) rfl (i := 15) (o := 31) (by decide) rfl (x' := top 0 p.y.im.val) (top_bytes (s := eb)) (v := .int .u8 ((n + 128 * 0 : Nat) : Int)) (hb 0 (.inl rfl)).symm
    rw [← hw204] at hu
    have K900 : Kept w [(w.heap.size, (fps [(p.x).re.val, (p.x).im.val, (p.y).re.val, (p.y).im.val])), (W0.heap.size, (fps [(p.x).re.val, (p.x).im.val, (p.y).re.val, (p.y).im.val])), (w6.heap.size, (fps [p.y.re.val, top 0 p.y.im.val])), (w11.heap.size, (fps [(p.x).re.val, (p.x).im.val, (p.y).re.val, (p.y).im.val])), (p6, (fps [p.y.re.val, top em p.y.im.val]))] [] w204 := Kept.set K42 hu (i := 2) (by omega) rfl (neC (by omega) (neC (by omega) (neC (by omega) (neC (by omega) ne0))))
    clear hu hw204 r3 r6 hc3 hc6 hb hn
    refine k_end ?_
    go_simp
    go_upto_region 8 with (fail)
    have hz900 : w.heap.size ≤ w204.heap.size := K900.nb.size
    have r900_0 : w.heap.size < w204.heap.size := (by obtain ⟨T, h⟩ := K900.at 0 rfl; exact lt_of_heap h)
    have r900_1 : W0.heap.size < w204.heap.size := (by obtain ⟨T, h⟩ := K900.at 1 rfl; exact lt_of_heap h)
    have r900_2 : w6.heap.size < w204.heap.size := (by obtain ⟨T, h⟩ := K900.at 2 rfl; exact lt_of_heap h)
    have r900_3 : w11.heap.size < w204.heap.size := (by obtain ⟨T, h⟩ := K900.at 3 rfl; exact lt_of_heap h)
    have r900_4 : p6 < w204.heap.size := (by obtain ⟨T, h⟩ := K900.at 4 rfl; exact lt_of_heap h)
    have K255 : Kept w [(w.heap.size, (fps [(p.x).re.val, (p.x).im.val, (p.y).re.val, (p.y).im.val])), (W0.heap.size, (fps [(p.x).re.val, (p.x).im.val, (p.y).re.val, (p.y).im.val])), (w6.heap.size, (fps [p.y.re.val, top 0 p.y.im.val])), (w11.heap.size, (fps [(p.x).re.val, (p.x).im.val, (p.y).re.val, (p.y).im.val])), (p6, (fps [p.y.re.val, top em p.y.im.val]))] [] w204 := Kept.mks K900.nb (rowsC (K900.at 0 rfl) (rowsC (K900.at 1 rfl) (rowsC (K900.at 2 rfl) (rowsC (K900.at 3 rfl) (rowsC (K900.at 4 rfl) rows0))))) rooms0
    refine wp_seq_atS (opsAt Tryd.f9 8) ((false, 0) :: []) (Kept w [(w.heap.size, (fps [(p.x).re.val, (p.x).im.val, (p.y).re.val, (p.y).im.val])), (W0.heap.size, (fps [(p.x).re.val, (p.x).im.val, (p.y).re.val, (p.y).im.val])), (w6.heap.size, (fps [p.y.re.val, top 0 p.y.im.val])), (w11.heap.size, (fps [(p.x).re.val, (p.x).im.val, (p.y).re.val, (p.y).im.val])), (p6, (fps [p.y.re.val, top em p.y.im.val]))] []) (by kernel_rfl) (by kernel_rfl) K255 ?_
    refine k_make (by kernel_rfl) (d := (some 8)) (by kernel_rfl) (v := .pointer (some ⟨w204.heap.size, 0, none⟩)) (w' := w204.alloc (.cells (fps [0, 0]) 63)) (by kernel_rfl) (K255.go ((Below.refl _ _).alloc (Nat.le_refl _) _)) ?_
    intro w256 hw256 K256
    have G256_n : w256.heap[w204.heap.size]? = some (.cells (fps [0, 0]) 63 (0, 0)) := hw256 ▸ heap_alloc_new _ _
    have S256 : w204.heap.size < w256.heap.size := lt_of_heap G256_n
    have R256_0 : w.heap.size < w204.heap.size := (by obtain ⟨T, h⟩ := K255.at 0 rfl; exact lt_of_heap h)
    have R256_1 : W0.heap.size < w204.heap.size := (by obtain ⟨T, h⟩ := K255.at 1 rfl; exact lt_of_heap h)
    have R256_2 : w6.heap.size < w204.heap.size := (by obtain ⟨T, h⟩ := K255.at 2 rfl; exact lt_of_heap h)
    have R256_3 : w11.heap.size < w204.heap.size := (by obtain ⟨T, h⟩ := K255.at 3 rfl; exact lt_of_heap h)
    have R256_4 : p6 < w204.heap.size := (by obtain ⟨T, h⟩ := K255.at 4 rfl; exact lt_of_heap h)
    have Z256 : w.heap.size ≤ w204.heap.size := K255.nb.size
    clear hw256
    have K257 : Kept w [(w.heap.size, (fps [(p.x).re.val, (p.x).im.val, (p.y).re.val, (p.y).im.val])), (W0.heap.size, (fps [(p.x).re.val, (p.x).im.val, (p.y).re.val, (p.y).im.val])), (w6.heap.size, (fps [p.y.re.val, top 0 p.y.im.val])), (w11.heap.size, (fps [(p.x).re.val, (p.x).im.val, (p.y).re.val, (p.y).im.val])), (p6, (fps [p.y.re.val, top em p.y.im.val])), (w204.heap.size, (fps [0, 0]))] [] w256 := Kept.zero K256.nb (rowsC (K256.at 0 rfl) (rowsC (K256.at 1 rfl) (rowsC (K256.at 2 rfl) (rowsC (K256.at 3 rfl) (rowsC (K256.at 4 rfl) (rowsC ⟨_, G256_n⟩ rows0))))))
    clear G256_n
    refine k_end ?_
    go_simp
    go_upto_region 9 with (fail)
    refine wp_region_atS (opsAt Tryd.f9 9) ((true, 0) :: (true, 1) :: (true, 2) :: (true, 3) :: (false, 4) :: []) (fun _ => True) (by kernel_rfl) rfl (by kernel_rfl) (fun _ _ d _ _ h => by cases d <;> exact h) (by kernel_rfl) (by kernel_rfl) trivial ?_
    refine k_pure (by kernel_rfl) (d := (some 38)) (by kernel_rfl) (v := .slice (some ⟨w204.heap.size, 0, none⟩) 32 32) (fun _ => by kernel_rfl) ?_
    refine k_pure (by kernel_rfl) (d := (some 39)) (by kernel_rfl) (v := .pointer (some ⟨w.heap.size, 32, none⟩)) (fun _ => by kernel_rfl) ?_
    refine k_pure (by kernel_rfl) (d := (some 40)) (by kernel_rfl) (v := .pointer (some ⟨w.heap.size, 32, none⟩)) (fun _ => by kernel_rfl) ?_
    refine k_pure (by kernel_rfl) (d := (some 41)) (by kernel_rfl) (v := .slice (some ⟨w.heap.size, 32, none⟩) 16 16) (fun _ => by kernel_rfl) ?_
    have r8 : Fps w256 (w204.heap.size) [0, 0] := K257.at 5 rfl
    have r1 : Fps w256 (w.heap.size) [p.x.re.val, p.x.im.val, p.y.re.val, p.y.im.val] := K257.at 0 rfl
    obtain ⟨wz9, hr, hu⟩ := run_copy16L (dl := 32) (P := Tryd.prog) w256.drew (b2 := w204.heap.size) (o2 := 0) (dc := 32) (sc := 16) (ty := 3) (k2 := 0) (x := p.y.re.val) Tryd.underlying28 (by kernel_rfl) (by decide) r8.drew rfl (Nat.zero_lt_two) ((r1.drew).c16 (k := 2) (o := 32) rfl rfl).src
    refine k_make (by kernel_rfl) (d := (some 42)) (by kernel_rfl) (v := goInt 16) (run_copyOp (x := .tmp 38) (y := .tmp 41) (by kernel_rfl) (by kernel_rfl) (by kernel_rfl) hr) trivial ?_
    intro w458 hw458 _
    subst hw458
    have K990 : Kept w [(w.heap.size, (fps [(p.x).re.val, (p.x).im.val, (p.y).re.val, (p.y).im.val])), (W0.heap.size, (fps [(p.x).re.val, (p.x).im.val, (p.y).re.val, (p.y).im.val])), (w6.heap.size, (fps [p.y.re.val, top 0 p.y.im.val])), (w11.heap.size, (fps [(p.x).re.val, (p.x).im.val, (p.y).re.val, (p.y).im.val])), (p6, (fps [p.y.re.val, top em p.y.im.val])), (w204.heap.size, (fps [p.y.re.val, 0]))] [] w458 := Kept.set K257 hu.ofDrew (i := 5) (by omega) rfl (neC (by omega) (neC (by omega) (neC (by omega) (neC (by omega) (neC (by omega) ne0)))))
    clear hu hr r8 r1
    refine k_end ?_
    go_simp
    go_upto_region 10 with (fail)
    refine wp_region_atS (opsAt Tryd.f9 10) ((true, 0) :: (true, 1) :: (true, 2) :: (true, 3) :: (false, 4) :: []) (fun _ => True) (by kernel_rfl) rfl (by kernel_rfl) (fun _ _ d _ _ h => by cases d <;> exact h) (by kernel_rfl) (by kernel_rfl) trivial ?_
    refine k_pure (by kernel_rfl) (d := (some 43)) (by kernel_rfl) (v := .slice (some ⟨w204.heap.size, 16, none⟩) 16 16) (fun _ => by kernel_rfl) ?_
    refine k_pure (by kernel_rfl) (d := (some 44)) (by kernel_rfl) (v := .pointer (some ⟨w.heap.size, 32, none⟩)) (fun _ => by kernel_rfl) ?_
    refine k_pure (by kernel_rfl) (d := (some 45)) (by kernel_rfl) (v := .pointer (some ⟨w.heap.size, 48, none⟩)) (fun _ => by kernel_rfl) ?_
    refine k_pure (by kernel_rfl) (d := (some 46)) (by kernel_rfl) (v := .slice (some ⟨w.heap.size, 48, none⟩) 16 16) (fun _ => by kernel_rfl) ?_
    have r8 : Fps w458 (w204.heap.size) [p.y.re.val, 0] := K990.at 5 rfl
    have r1 : Fps w458 (w.heap.size) [p.x.re.val, p.x.im.val, p.y.re.val, p.y.im.val] := K990.at 0 rfl
    obtain ⟨wz10, hr, hu⟩ := run_copy16L (dl := 16) (P := Tryd.prog) w458.drew (b2 := w204.heap.size) (o2 := 16) (dc := 16) (sc := 16) (ty := 3) (k2 := 1) (x := p.y.im.val) Tryd.underlying28 (by kernel_rfl) (by decide) r8.drew rfl (Nat.one_lt_two) ((r1.drew).c16 (k := 3) (o := 48) rfl rfl).src
    refine k_make (by kernel_rfl) (d := (some 47)) (by kernel_rfl) (v := goInt 16) (run_copyOp (x := .tmp 43) (y := .tmp 46) (by kernel_rfl) (by kernel_rfl) (by kernel_rfl) hr) trivial ?_
    intro w709 hw709 _
    subst hw709
    have K9100 : Kept w [(w.heap.size, (fps [(p.x).re.val, (p.x).im.val, (p.y).re.val, (p.y).im.val])), (W0.heap.size, (fps [(p.x).re.val, (p.x).im.val, (p.y).re.val, (p.y).im.val])), (w6.heap.size, (fps [p.y.re.val, top 0 p.y.im.val])), (w11.heap.size, (fps [(p.x).re.val, (p.x).im.val, (p.y).re.val, (p.y).im.val])), (p6, (fps [p.y.re.val, top em p.y.im.val])), (w204.heap.size, (fps [p.y.re.val, p.y.im.val]))] [] w709 := Kept.set K990 hu.ofDrew (i := 5) (by omega) rfl (neC (by omega) (neC (by omega) (neC (by omega) (neC (by omega) (neC (by omega) ne0)))))
    clear hu hr r8 r1
    refine k_end ?_
    go_simp
    go_upto_region 11 with (fail)
    have K760 : Kept w [(w.heap.size, (fps [(p.x).re.val, (p.x).im.val, (p.y).re.val, (p.y).im.val])), (W0.heap.size, (fps [(p.x).re.val, (p.x).im.val, (p.y).re.val, (p.y).im.val])), (w6.heap.size, (fps [p.y.re.val, top 0 p.y.im.val])), (w11.heap.size, (fps [(p.x).re.val, (p.x).im.val, (p.y).re.val, (p.y).im.val])), (p6, (fps [p.y.re.val, top em p.y.im.val])), (w204.heap.size, (fps [p.y.re.val, p.y.im.val]))] [] w709 := Kept.mks K9100.nb (rowsC (K9100.at 0 rfl) (rowsC (K9100.at 1 rfl) (rowsC (K9100.at 2 rfl) (rowsC (K9100.at 3 rfl) (rowsC (K9100.at 4 rfl) (rowsC (K9100.at 5 rfl) rows0)))))) rooms0
    refine wp_seq_atS (opsAt Tryd.f9 11) ((true, 0) :: (true, 1) :: (true, 2) :: (true, 3) :: (true, 4) :: (true, 5) :: (true, 6) :: (true, 7) :: (true, 8) :: (true, 9) :: (true, 10) :: (true, 11) :: (true, 12) :: (true, 13) :: (true, 14) :: (true, 15) :: (false, 16) :: (true, 17) :: (true, 18) :: (true, 19) :: (true, 20) :: (true, 21) :: []) (Kept w [(w.heap.size, (fps [(p.x).re.val, (p.x).im.val, (p.y).re.val, (p.y).im.val])), (W0.heap.size, (fps [(p.x).re.val, (p.x).im.val, (p.y).re.val, (p.y).im.val])), (w6.heap.size, (fps [p.y.re.val, top 0 p.y.im.val])), (w11.heap.size, (fps [(p.x).re.val, (p.x).im.val, (p.y).re.val, (p.y).im.val])), (p6, (fps [p.y.re.val, top em p.y.im.val])), (w204.heap.size, (fps [p.y.re.val, p.y.im.val]))] []) (by kernel_rfl) (by kernel_rfl) K760 ?_
    refine k_pure (by kernel_rfl) (d := (some 48)) (by kernel_rfl) (v := .bool true) (fun _ => by kernel_rfl) ?_
    refine k_pure (by kernel_rfl) (d := (some 49)) (by kernel_rfl) (v := .bool true) (fun _ => by kernel_rfl) ?_
    refine k_row (by kernel_rfl) (d := (some 50)) (by kernel_rfl) (ty := 35) (x := (.tmp 4)) (by kernel_rfl) (b := w11.heap.size) (by kernel_rfl) (cs := (fps [(p.x).re.val, (p.x).im.val, (p.y).re.val, (p.y).im.val])) (fun _ hs => hs.at 3 rfl) Tryd.underlying35 rfl (by kernel_rfl) ?_
    refine k_row (by kernel_rfl) (d := (some 51)) (by kernel_rfl) (ty := 35) (x := (.tmp 1)) (by kernel_rfl) (b := w.heap.size) (by kernel_rfl) (cs := (fps [(p.x).re.val, (p.x).im.val, (p.y).re.val, (p.y).im.val])) (fun _ hs => hs.at 0 rfl) Tryd.underlying35 rfl (by kernel_rfl) ?_
    refine k_eql (by kernel_rfl) (d := (some 52)) (by kernel_rfl) (ty := 35) (ty' := 35) (x := (.tmp 50)) (y := (.tmp 51)) (by kernel_rfl) (xs := (fps [(p.x).re.val, (p.x).im.val, (p.y).re.val, (p.y).im.val])) (ys := (fps [(p.x).re.val, (p.x).im.val, (p.y).re.val, (p.y).im.val])) (b := true) (by kernel_rfl) (by kernel_rfl) (by kernel_rfl) eqPt_t ?_
    refine k_pure (by kernel_rfl) (d := (some 53)) (by kernel_rfl) (v := .bool true) (fun _ => by kernel_rfl) ?_
    refine k_pure (by kernel_rfl) (d := (some 54)) (by kernel_rfl) (v := .bool true) (fun _ => by kernel_rfl) ?_
    refine k_row (by kernel_rfl) (d := (some 55)) (by kernel_rfl) (ty := 63) (x := (.tmp 3)) (by kernel_rfl) (b := w6.heap.size) (by kernel_rfl) (cs := (fps [p.y.re.val, top 0 p.y.im.val])) (fun _ hs => hs.at 2 rfl) Tryd.underlying63 rfl (by kernel_rfl) ?_
    refine k_row (by kernel_rfl) (d := (some 56)) (by kernel_rfl) (ty := 63) (x := (.tmp 8)) (by kernel_rfl) (b := w204.heap.size) (by kernel_rfl) (cs := (fps [p.y.re.val, p.y.im.val])) (fun _ hs => hs.at 5 rfl) Tryd.underlying63 rfl (by kernel_rfl) ?_
    refine k_eql (by kernel_rfl) (d := (some 57)) (by kernel_rfl) (ty := 63) (ty' := 63) (x := (.tmp 55)) (y := (.tmp 56)) (by kernel_rfl) (xs := (fps [p.y.re.val, top 0 p.y.im.val])) (ys := (fps [p.y.re.val, p.y.im.val])) (b := true) (by kernel_rfl) (by kernel_rfl) (by kernel_rfl) (fun w' => eq32 _ _ w') ?_
    refine k_pure (by kernel_rfl) (d := (some 58)) (by kernel_rfl) (v := .bool true) (fun _ => by kernel_rfl) ?_
    refine k_pure (by kernel_rfl) (d := (some 59)) (by kernel_rfl) (v := .bool true) (fun _ => by kernel_rfl) ?_
    refine k_pure (by kernel_rfl) (d := (some 60)) (by kernel_rfl) (v := .int .u8 0) (fun _ => by kernel_rfl) ?_
    refine k_pure (by kernel_rfl) (d := (some 61)) (by kernel_rfl) (v := .bool false) (fun _ => by kernel_rfl) ?_
    refine k_pure (by kernel_rfl) (d := (some 62)) (by kernel_rfl) (v := .pointer (some ⟨w.heap.size, 0, none⟩)) (fun _ => by kernel_rfl) ?_
    refine k_part (by kernel_rfl) (d := (some 63)) (by kernel_rfl) (ty := 33) (x := (.tmp 62)) (by kernel_rfl) (b := w.heap.size) (off := 0) (by kernel_rfl) (all := (fps [(p.x).re.val, (p.x).im.val, (p.y).re.val, (p.y).im.val])) (cs := (fps [(p.x).re.val, (p.x).im.val])) (fun _ hs => hs.at 0 rfl) (fpsub2 (k := 0) rfl rfl) Tryd.underlying33 rfl (by kernel_rfl) ?_
    refine k_call (by kernel_rfl) (d := (some 64)) (by kernel_rfl) (f := 19) (args := #[.agg (fps [(p.x).re.val, (p.x).im.val])]) (v := .agg (dgQ ((p.x).re.val) ((p.x).im.val))) (fun _ => by kernel_rfl) (ofQ_q) (fun w761 hb761 => ⟨K760.go hb761, ?_⟩)
    have K761 := K760.go hb761
    have L761 := hb761.size
    refine k_pure (by kernel_rfl) (d := (some 65)) (by kernel_rfl) (v := .agg (dgQ 0 0)) (fun _ => by kernel_rfl) ?_
    refine k_neq (by kernel_rfl) (d := (some 66)) (by kernel_rfl) (ty := 39) (ty' := 39) (x := (.tmp 64)) (y := (.tmp 65)) (by kernel_rfl) (xs := (dgQ ((p.x).re.val) ((p.x).im.val))) (ys := (dgQ 0 0)) (b := false) (by kernel_rfl) (by kernel_rfl) (by kernel_rfl) (fun w' => neqQ_f HX.out w') ?_
    refine k_pure (by kernel_rfl) (d := (some 67)) (by kernel_rfl) (v := .bool true) (fun _ => by kernel_rfl) ?_
    refine k_pure (by kernel_rfl) (d := (some 68)) (by kernel_rfl) (v := .bool true) (fun _ => by kernel_rfl) ?_
    refine k_pure (by kernel_rfl) (d := (some 2)) (by kernel_rfl) (v := .bool true) (fun _ => by kernel_rfl) ?_
    have K762 : Kept w [(w.heap.size, (fps [(p.x).re.val, (p.x).im.val, (p.y).re.val, (p.y).im.val])), (W0.heap.size, (fps [(p.x).re.val, (p.x).im.val, (p.y).re.val, (p.y).im.val])), (w6.heap.size, (fps [p.y.re.val, top 0 p.y.im.val])), (w11.heap.size, (fps [(p.x).re.val, (p.x).im.val, (p.y).re.val, (p.y).im.val])), (p6, (fps [p.y.re.val, top em p.y.im.val])), (w204.heap.size, (fps [p.y.re.val, p.y.im.val]))] [] w761 := Kept.zero K761.nb (rowsC (K761.at 0 rfl) (rowsC (K761.at 1 rfl) (rowsC (K761.at 2 rfl) (rowsC (K761.at 3 rfl) (rowsC (K761.at 4 rfl) (rowsC (K761.at 5 rfl) rows0))))))
    refine k_end ?_
    go_simp
    go_wp2_with fail
    exact bodyPost_ret_by (by kernel_rfl) (by kernel_rfl) ⟨rfl, K762.nb⟩

theorem fnEncode_c {w : World} {a0 b0 c0 d0 : Nat} (hm : ModW w) (hg : 5 ≤ w.heap.size) (hd : AtZ w 0 0 dd) (ha0 : a0 < 256 ^ 16) (hb0 : b0 < 256 ^ 16) (hc0 : c0 < 256 ^ 16) (hd0 : d0 < 256 ^ 16) :
    Calls Tryd.prog 9 #[.agg (fps [a0, b0, c0, d0])] w fun e w' => e = .returned (.bool true) ∧ Below w.heap.size w w' := by
  cases h0 : onB (a0, b0, c0, d0) with
  | false => exact enc_f ha0 hb0 hc0 hd0 (by simp only [onAll, List.all, h0, Bool.false_and])
  | true =>
    obtain ⟨p, rfl, rfl, rfl, rfl⟩ := of_onB h0
    have hon : onAll [(p.x.re.val, p.x.im.val, p.y.re.val, p.y.im.val)] = true := by simp only [onAll, List.all, onB_pt, Bool.and_true]
    by_cases hx : p.x = 0
    · refine enc_z hm hg hd hx ?_ rfl rfl (ebit01 _) (ebit01 _) hon
      rw [hx, qneg_zero]
    · exact enc_n hm hg hd hx (by have := ebit_neg hx; omega) rfl rfl (ebit01 _) (ebit01 _) hon
end Go.Proofs.YtfkfljohhabldaaDoor
