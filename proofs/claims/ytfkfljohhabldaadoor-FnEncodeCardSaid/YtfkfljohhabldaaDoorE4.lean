/- Part 4 of what the laws lean on: arithmetic, walks through the functions, the curve. -/
import Derived.Test.YtfkfljohhabldaaDoorE3
import Derived.Laws.Append
import Derived.Laws.IdiomCopy
import Derived.Laws.MakeOwn
import Derived.Lib.SliceRun
namespace Go.FourQ
open Go.RowKit
/-- Elements by some bytes of them. -/
theorem four_list {l : List Nat} {x y : Zq} (h : l.map zp = flat [x, y]) : ∃ a b c d, l = [a, b, c, d] ∧ zp a = x.re ∧ zp b = x.im ∧ zp c = y.re ∧ zp d = y.im := by
  have hl : l.length = 4 := by have := congrArg List.length h; rwa [List.length_map, flat_length] at this
  match l, hl, h with
  | [a, b, c, d], _, h =>
    simp only [List.map, flat, List.cons.injEq, and_true] at h
    exact ⟨a, b, c, d, rfl, h.1, h.2.1, h.2.2.1, h.2.2.2⟩
theorem UpdZ.four {w w' : World} {b : Nat} {x y : Zq} (u : UpdZ w w' b (flat [x, y])) : ∃ p q r s, (LowB p ∧ LowB q ∧ LowB r ∧ LowB s) ∧ (zp p = x.re ∧ zp q = x.im ∧ zp r = y.re ∧ zp s = y.im) ∧ Upd w w' b [p, q, r, s] := by
  obtain ⟨l, hl, hm, hlow⟩ := u.blk
  obtain ⟨p, q, r, s, rfl, h1, h2, h3, h4⟩ := four_list hm
  exact ⟨p, q, r, s, ⟨hlow p (by simp), hlow q (by simp), hlow r (by simp), hlow s (by simp)⟩, ⟨h1, h2, h3, h4⟩, ⟨u.os, u.tape, u.output, u.size, hl, u.other⟩⟩
theorem low4 (x y : Zq) : ∀ v ∈ [x.re.val, x.im.val, y.re.val, y.im.val], LowB v := fun v hv => by
  simp only [List.mem_cons, List.not_mem_nil, or_false] at hv
  have lv : ∀ t : Zp, LowB t.val := fun t => Nat.lt_trans t.lt (by decide +kernel)
  rcases hv with rfl | rfl | rfl | rfl <;> exact lv _
/-- A row of canonical bytes. -/
theorem row_fps {w : World} {b : Nat} {x y : Zq} {T : TypeId} (h : w.heap[b]? = some (.cells (fps [x.re.val, x.im.val, y.re.val, y.im.val]) T (0, 0))) : FpsZ w b (flat [x, y]) := by
  have := FpsZ.ofFps ⟨T, h⟩ (low4 x y)
  rwa [show [x.re.val, x.im.val, y.re.val, y.im.val].map zp = flat [x, y] by simp only [List.map, flat, zp_val]] at this
theorem row_zero {w : World} {b : Nat} {T : TypeId} (h : w.heap[b]? = some (.cells (fps [0, 0, 0, 0]) T (0, 0))) : FpsZ w b (flat [0, 0]) :=
  FpsZ.ofFps (l := [0, 0, 0, 0]) ⟨T, h⟩ (fun v hv => by rw [show v = 0 by simpa using hv]; exact low_zero)
end Go.FourQ
namespace Go.Proofs.YtfkfljohhabldaaDoor
open Go.RowKit Go.FourQ
set_option maxRecDepth 100000 in
set_option maxHeartbeats 1000000 in
theorem made_c {w : World} {a b c d : Nat} : Calls Tryd.prog 50 #[.agg (fps [a, b, c, d])] w fun e w' => ∃ n, e = .returned (.pointer (some ⟨n, 0, none⟩)) ∧ w.heap.size ≤ n ∧ (∃ T, w'.heap[n]? = some (.cells (fps [a, b, c, d]) T (0, 0))) ∧ Below w.heap.size w w' := by
  go_enter Tryd.func50, Tryd.ntmps50
  go_upto_region 1 with (fail)
  refine wp_gen (fun WW => Kept w [(w.heap.size, (fps [a, b, c, d]))] [] WW) (Kept.zero (nb_alloc (Below.refl _ _) _) (rowsC (row_as (hp1_0 (w := w) _) (by kernel_rfl)) rows0)) ?_
  intro W0 K0
  have K1 : Kept w [(w.heap.size, (fps [a, b, c, d]))] [] W0 := Kept.mks K0.nb (rowsC (K0.at 0 rfl) rows0) rooms0
  refine wp_region_atS (opsAt Tryd.f50 1) ((true, 0) :: (true, 1) :: (true, 3) :: (true, 4) :: (false, 2) :: (false, 5) :: (true, 6) :: (false, 7) :: (true, 8) :: []) (Kept w [(w.heap.size, (fps [a, b, c, d]))] []) (by kernel_rfl) rfl (by kernel_rfl) (fun _ _ d _ _ h => by cases d <;> exact h) (by kernel_rfl) (by kernel_rfl) K1.drew ?_
  have K2 := K1.drew
  have DK2 : W0.heap.size ≤ W0.drew.heap.size := Nat.le_refl _
  refine k_pure (by kernel_rfl) (d := (some 3)) (by kernel_rfl) (v := .pointer (some ⟨w.heap.size, 0, none⟩)) (fun _ => by kernel_rfl) ?_
  refine k_part (by kernel_rfl) (d := (some 4)) (by kernel_rfl) (ty := 33) (x := (.tmp 3)) (by kernel_rfl) (b := w.heap.size) (off := 0) (by kernel_rfl) (all := (fps [a, b, c, d])) (cs := (fps [a, b])) (fun _ hs => hs.at 0 rfl) (fpsub2 (k := 0) rfl rfl) Tryd.underlying33 rfl (by kernel_rfl) ?_
  refine k_pure (by kernel_rfl) (d := (some 6)) (by kernel_rfl) (v := .pointer (some ⟨w.heap.size, 32, none⟩)) (fun _ => by kernel_rfl) ?_
  refine k_part (by kernel_rfl) (d := (some 7)) (by kernel_rfl) (ty := 33) (x := (.tmp 6)) (by kernel_rfl) (b := w.heap.size) (off := 32) (by kernel_rfl) (all := (fps [a, b, c, d])) (cs := (fps [c, d])) (fun _ hs => hs.at 0 rfl) (fpsub2 (k := 2) rfl rfl) Tryd.underlying33 rfl (by kernel_rfl) ?_
  refine k_call (by kernel_rfl) (d := (some 5)) (by kernel_rfl) (f := 64) (args := #[.agg (fps [a, b])]) (v := .agg (fps [a, b])) (fun _ => by kernel_rfl) (both_c) (fun w3 hb3 => ⟨K2.go hb3, ?_⟩)
  have K3 := K2.go hb3
  have L3 := hb3.size
  refine k_call (by kernel_rfl) (d := (some 8)) (by kernel_rfl) (f := 64) (args := #[.agg (fps [c, d])]) (v := .agg (fps [c, d])) (fun _ => by kernel_rfl) (both_c) (fun w4 hb4 => ⟨K3.go hb4, ?_⟩)
  have K4 := K3.go hb4
  have L4 := hb4.size
  refine k_pure (by kernel_rfl) (d := (some 9)) (by kernel_rfl) (v := .agg (fps [a, b, c, d])) (fun _ => by kernel_rfl) ?_
  refine k_make (by kernel_rfl) (d := (some 10)) (by kernel_rfl) (v := .pointer (some ⟨w4.heap.size, 0, none⟩)) (w' := w4.alloc (.cells (fps [a, b, c, d]) 85)) (by kernel_rfl) (K4.go ((Below.refl _ _).alloc (Nat.le_refl _) _)) ?_
  intro w5 hw5 K5
  have G5_n : w5.heap[w4.heap.size]? = some (.cells (fps [a, b, c, d]) 85 (0, 0)) := hw5 ▸ heap_alloc_new _ _
  have S5 : w4.heap.size < w5.heap.size := lt_of_heap G5_n
  have R5_0 : w.heap.size < w4.heap.size := (by obtain ⟨T, h⟩ := K4.at 0 rfl; exact lt_of_heap h)
  have Z5 : w.heap.size ≤ w4.heap.size := K4.nb.size
  clear hw5
  refine k_pure (by kernel_rfl) (d := (some 2)) (by kernel_rfl) (v := .pointer (some ⟨w4.heap.size, 0, none⟩)) (fun _ => by kernel_rfl) ?_
  have K6 : Kept w [(w.heap.size, (fps [a, b, c, d])), (w4.heap.size, (fps [a, b, c, d]))] [] w5 := Kept.zero K5.nb (rowsC (K5.at 0 rfl) (rowsC ⟨_, G5_n⟩ rows0))
  clear G5_n
  refine k_end ?_
  go_simp
  go_wp2_with fail
  exact bodyPost_ret_by (by kernel_rfl) (by kernel_rfl) ⟨_, rfl, (by omega), K6.at 1 rfl, K6.nb⟩
set_option maxRecDepth 100000 in
set_option maxHeartbeats 1000000 in
theorem plain_c {w : World} {a b c d b2 : Nat} {x y : Zq} (hm : ModW w) (hB : ∃ T, w.heap[b2]? = some (.cells (fps [a, b, c, d]) T (0, 0))) (hl : LowB a ∧ LowB b ∧ LowB c ∧ LowB d) (hz : zp a = x.re ∧ zp b = x.im ∧ zp c = y.re ∧ zp d = y.im) :
    Calls Tryd.prog 55 #[.pointer (some ⟨b2, 0, none⟩)] w fun e w' => e = .returned (.agg (fps [x.re.val, x.im.val, y.re.val, y.im.val])) ∧ Below w.heap.size w w' := by
  have HB2 : b2 < w.heap.size := by obtain ⟨T, h⟩ := hB; exact lt_of_heap h
  go_enter Tryd.func55, Tryd.ntmps55
  go_upto_region 1 with (fail)
  refine wp_gen (fun WW => Kept w [(b2, (fps [a, b, c, d])), (w.heap.size, (fps [0, 0, 0, 0]))] [] WW) (Kept.zero (nb_alloc (Below.refl _ _) _) (rowsC (by obtain ⟨T, h⟩ := hB; exact ⟨T, (hp_alloc h _)⟩) (rowsC (row_as (hp1_0 (w := w) _) (by kernel_rfl)) rows0))) ?_
  intro W0 K0
  have O1K1 := K0.at 1 rfl
  obtain ⟨T1K1, O1K1⟩ := O1K1
  have K1 : Kept w [(b2, (fps [a, b, c, d]))] [(w.heap.size, 64)] W0 := Kept.mks K0.nb (rowsC (K0.at 0 rfl) rows0) (roomsC (by kernel_rfl) O1K1 rooms0)
  refine wp_region_atS (opsAt Tryd.f55 1) ((true, 0) :: (true, 1) :: (true, 2) :: (true, 3) :: (true, 5) :: (true, 6) :: (true, 7) :: (true, 8) :: (false, 4) :: (false, 9) :: (true, 10) :: (false, 11) :: []) (Kept w [(b2, (fps [a, b, c, d]))] [(w.heap.size, 64)]) (by kernel_rfl) rfl (by kernel_rfl) (fun _ _ d _ _ h => by cases d <;> exact h) (by kernel_rfl) (by kernel_rfl) K1.drew ?_
  have K2 := K1.drew
  have DK2 : W0.heap.size ≤ W0.drew.heap.size := Nat.le_refl _
  have GO1K1 : W0.drew.heap[w.heap.size]? = some (.cells (fps [0, 0, 0, 0]) _ (0, 0)) := O1K1
  refine k_pure (by kernel_rfl) (d := (some 3)) (by kernel_rfl) (v := .pointer (some ⟨b2, 0, none⟩)) (fun _ => by kernel_rfl) ?_
  refine k_pure (by kernel_rfl) (d := (some 4)) (by kernel_rfl) (v := .pointer (some ⟨b2, 0, none⟩)) (fun _ => by kernel_rfl) ?_
  refine k_pure (by kernel_rfl) (d := (some 5)) (by kernel_rfl) (v := .pointer (some ⟨b2, 0, none⟩)) (fun _ => by kernel_rfl) ?_
  refine k_part (by kernel_rfl) (d := (some 6)) (by kernel_rfl) (ty := 83) (x := (.tmp 5)) (by kernel_rfl) (b := b2) (off := 0) (by kernel_rfl) (all := (fps [a, b, c, d])) (cs := (fps [a, b])) (fun _ hs => hs.at 0 rfl) (fpsub2 (k := 0) rfl rfl) Tryd.underlying83 rfl (by kernel_rfl) ?_
  refine k_pure (by kernel_rfl) (d := (some 8)) (by kernel_rfl) (v := .pointer (some ⟨b2, 0, none⟩)) (fun _ => by kernel_rfl) ?_
  refine k_pure (by kernel_rfl) (d := (some 9)) (by kernel_rfl) (v := .pointer (some ⟨b2, 0, none⟩)) (fun _ => by kernel_rfl) ?_
  refine k_pure (by kernel_rfl) (d := (some 10)) (by kernel_rfl) (v := .pointer (some ⟨b2, 32, none⟩)) (fun _ => by kernel_rfl) ?_
  refine k_part (by kernel_rfl) (d := (some 11)) (by kernel_rfl) (ty := 83) (x := (.tmp 10)) (by kernel_rfl) (b := b2) (off := 32) (by kernel_rfl) (all := (fps [a, b, c, d])) (cs := (fps [c, d])) (fun _ hs => hs.at 0 rfl) (fpsub2 (k := 2) rfl rfl) Tryd.underlying83 rfl (by kernel_rfl) ?_
  refine k_call (by kernel_rfl) (d := (some 7)) (by kernel_rfl) (f := 62) (args := #[.agg (fps [a, b])]) (v := .agg (fps [x.re.val, x.im.val])) (fun _ => by kernel_rfl) (lowsZ_c (hm.nb K2.nb) hl.1 hl.2.1 hz.1 hz.2.1) (fun w3 hb3 => ⟨K2.go hb3, ?_⟩)
  have K3 := K2.go hb3
  have G3_10 := nb_heap GO1K1 _ hb3
  have L3 := hb3.size
  refine k_call (by kernel_rfl) (d := (some 12)) (by kernel_rfl) (f := 62) (args := #[.agg (fps [c, d])]) (v := .agg (fps [y.re.val, y.im.val])) (fun _ => by kernel_rfl) (lowsZ_c (hm.nb K3.nb) hl.2.2.1 hl.2.2.2 hz.2.2.1 hz.2.2.2) (fun w4 hb4 => ⟨K3.go hb4, ?_⟩)
  have K4 := K3.go hb4
  have G4_10 := nb_heap G3_10 _ hb4
  have L4 := hb4.size
  refine k_pure (by kernel_rfl) (d := (some 13)) (by kernel_rfl) (v := .agg (fps [x.re.val, x.im.val, y.re.val, y.im.val])) (fun _ => by kernel_rfl) ?_
  refine k_put (by kernel_rfl) (d := none) (by kernel_rfl) (ty := 35) (x := (.tmp 2)) (y := (.tmp 13)) (by kernel_rfl) (g := w.heap.size) (cells := (fps [x.re.val, x.im.val, y.re.val, y.im.val])) (by kernel_rfl) (by kernel_rfl) G4_10 (by kernel_rfl) (by kernel_rfl) (all_fps _) (K4.puti (n := 64) (by kernel_rfl) (by omega) (neC (by omega) ne0) (nsE ns0)) ?_
  intro w5 hw5 K5
  have G5_s : w5.heap[w.heap.size]? = some (.cells (fps [x.re.val, x.im.val, y.re.val, y.im.val]) _ (0, 0)) := hw5 ▸ setRow_heap _ _ _ _ _ _ G4_10
  have L5 : w4.heap.size ≤ w5.heap.size := by rw [hw5]; exact Nat.le_of_eq (size_setRow _ _ _).symm
  clear hw5
  have K6 : Kept w [(b2, (fps [a, b, c, d])), (w.heap.size, (fps [x.re.val, x.im.val, y.re.val, y.im.val]))] [] w5 := Kept.zero K5.nb (rowsC (K5.at 0 rfl) (rowsC ⟨_, G5_s⟩ rows0))
  clear O1K1 G5_s G4_10 G3_10 GO1K1
  refine k_end ?_
  go_simp
  go_wp2_with fail
  obtain ⟨TR, hR⟩ := K6.at 1 rfl
  exact bodyPost_ret_by (results_cell_row rfl _ _ (w.heap.size) _ (fps [x.re.val, x.im.val, y.re.val, y.im.val]) _ _ rfl hR Tryd.underlying35 rfl (by kernel_rfl)) rfl ⟨rfl, K6.nb⟩
end Go.Proofs.YtfkfljohhabldaaDoor
namespace Go.FourQ
open Go.RowKit
instance (x y : Zq) : Decidable (OnC x y) := inferInstanceAs (Decidable (_ = _))
abbrev P4 := Nat × Nat × Nat × Nat
def P4.l (p : P4) : List Nat := [p.1, p.2.1, p.2.2.1, p.2.2.2]
def fl : List P4 → List Nat
  | [] => []
  | p :: l => p.1 :: p.2.1 :: p.2.2.1 :: p.2.2.2 :: fl l
theorem fl_get : ∀ {l : List P4} {k : Nat} {p : P4}, l[k]? = some p → ∀ i x, p.l[i]? = some x → (fl l)[4 * k + i]? = some x
  | [], k, p, h => by simp at h
  | q :: l, 0, p, h => fun i x hx => by
    obtain rfl : q = p := by simpa using h
    rw [Nat.mul_zero, Nat.zero_add]
    rcases i with _ | _ | _ | _ | i
    · exact hx
    · exact hx
    · exact hx
    · exact hx
    · simp [P4.l] at hx
  | q :: l, k + 1, p, h => fun i x hx => by
    have := fl_get (l := l) (k := k) (p := p) (by simpa using h) i x hx
    rw [show 4 * (k + 1) + i = 4 * k + i + 1 + 1 + 1 + 1 by omega]
    exact this
/-- Canonical coordinates of a point. -/
def onB (p : P4) : Bool := decide ((p.1 = (zp p.1).val ∧ p.2.1 = (zp p.2.1).val) ∧ (p.2.2.1 = (zp p.2.2.1).val ∧ p.2.2.2 = (zp p.2.2.2).val) ∧ OnC ⟨zp p.1, zp p.2.1⟩ ⟨zp p.2.2.1, zp p.2.2.2⟩)
def onAll (l : List P4) : Bool := l.all onB
theorem onAll_drop {l : List P4} {k : Nat} {p : P4} (h : l[k]? = some p) : onAll (l.drop k) = (onB p && onAll (l.drop (k + 1))) := by
  have hk := (List.getElem?_eq_some_iff.1 h).1
  rw [List.drop_eq_getElem_cons hk]
  have e : l[k] = p := by rw [List.getElem?_eq_getElem hk] at h; exact Option.some.inj h
  rw [e]; rfl
end Go.FourQ
namespace Go.Proofs.YtfkfljohhabldaaDoor
open Go.RowKit Go.FourQ
theorem isQ_f {w : World} {a b : Nat} {x : Zq} (ha : a < 256 ^ 16) (hb : b < 256 ^ 16) (h : ¬ (a = x.re.val ∧ b = x.im.val)) :
    Calls Tryd.prog 30 #[.agg (fps [a, b]), .agg (dgQ x.re.val x.im.val)] w fun e w' => e = .returned (.bool false) ∧ Below w.heap.size w w' := by
  have := isQ_c (w := w) (x0 := x.re) (x1 := x.im) ha hb
  have e : (decide (a = x.re.val) && decide (b = x.im.val)) = false := by
    rw [← Bool.not_eq_true, Bool.and_eq_true, decide_eq_true_eq, decide_eq_true_eq]; exact h
  rwa [e] at this
set_option maxRecDepth 100000 in
set_option maxHeartbeats 4000000 in
theorem on_c {w : World} {b0 : Nat} {l : List P4} (h : Fps w b0 (fl l)) (hl : ∀ p ∈ l, p.1 < 256 ^ 16 ∧ p.2.1 < 256 ^ 16 ∧ p.2.2.1 < 256 ^ 16 ∧ p.2.2.2 < 256 ^ 16) (hlen : l.length < 1000) :
    Calls Tryd.prog 15 #[.slice (some ⟨b0, 0, none⟩) l.length l.length] w fun e w' => e = .returned (.bool (onAll l)) ∧ Below w.heap.size w w' := by
  have HL := Lib.hid hl
  obtain ⟨r, hr⟩ : ∃ r, onAll l = r := ⟨_, rfl⟩
  rw [hr]
  have HR := Lib.hid hr
  clear hr hl
  go_enter Tryd.func15, Tryd.ntmps15
  go_wp2_with fail
  go_loopw [7] (fun i wr => ∃ k : Nat, k ≤ l.length ∧ i = .int .i64 k ∧ Below w.heap.size w wr ∧ Hid (onAll (l.drop k) = r)) (fun i _ => l.length - (intOf i).toNat)
  case atStart => exact ⟨0, Nat.zero_le _, rfl, Below.refl _ _, HR.out⟩
  case round =>
    obtain ⟨k, hk, rfl, hbel, hr⟩ := hrel
    by_cases hlt : k < l.length
    · obtain ⟨⟨a, b, c, d⟩, hx⟩ : ∃ x, l[k]? = some x := ⟨_, List.getElem?_eq_getElem hlt⟩
      obtain ⟨ha, hb, hc, hd⟩ := HL.out _ (List.mem_of_getElem? hx)
      have hdr := onAll_drop hx
      rw [hr.out] at hdr
      have hf : Fps wr b0 (fl l) := h.of_heap (hbel.block b0 h.lt)
      have hcell : ∀ j v, (fps [a, b, c, d])[j]? = some v → wr.cell? ⟨b0, k * 64 + j, none⟩ = some v := hf.cells (k := 4 * k) (by omega) (fun i x hi => fl_get hx i x hi)
      have HC := Lib.hid hcell
      have HRT := Lib.hid hr.out
      clear hcell hf hx hr
      obtain ⟨X, eX⟩ : ∃ X : Zq, X = ⟨zp a, zp b⟩ := ⟨_, rfl⟩
      obtain ⟨Y, eY⟩ : ∃ Y : Zq, Y = ⟨zp c, zp d⟩ := ⟨_, rfl⟩
      have OX := fun {w : World} => ofQ_b (w := w) ha hb eX
      have OY := fun {w : World} => ofQ_b (w := w) hc hd eY
      have eB : onB (a, b, c, d) = decide ((a = X.re.val ∧ b = X.im.val) ∧ (c = Y.re.val ∧ d = Y.im.val) ∧ OnC X Y) := by subst eX eY; rfl
      have HB := Lib.hid eB; have HDR := Lib.hid hdr
      clear eX eY eB hdr
      by_cases hX : a = X.re.val ∧ b = X.im.val
      · by_cases hY : c = Y.re.val ∧ d = Y.im.val
        · by_cases hP : OnC X Y
          · have HDL : Hid (onAll (l.drop (k + 1)) = r) := Lib.hid (by rw [HDR.out, HB.out, decide_eq_true ⟨hX, hY, hP⟩, Bool.true_and])
            have HX := Lib.hid hX; have HY := Lib.hid hY
            clear hX hY
            go_upto_region 4 with (first | (refine wpList_load_at rfl 35 _ rfl b0 (k * 64) rfl (fps [a, b, c, d]) _ HC.out Tryd.underlying35 rfl (by kernel_rfl) ?_) | (refine wpList_store_row rfl 35 _ _ rfl _ (fps [a, b, c, d]) rfl rfl _ _ (heap_alloc_new _ _) (by kernel_rfl) (by kernel_rfl) (all_fps _) ?_; rw [setRow_alloc_new]))
            obtain ⟨WB, hWB⟩ : ∃ WB : World, WB = wr := ⟨_, rfl⟩
            have HWB := Lib.hid hWB
            clear hWB
            refine wp_gen (fun W => Kept WB [(wr.heap.size, (fps [a, b, c, d]))] [] W) (HWB.out ▸ Kept.zero (nb_alloc (Below.refl _ _) _) (rowsC ⟨_, heap_alloc_new _ _⟩ rows0)) ?_
            intro W0 K0
            have K11 : Kept WB [(wr.heap.size, (fps [a, b, c, d]))] [] W0 := Kept.mks K0.nb (rowsC (K0.at 0 rfl) rows0) rooms0
            refine wp_region_atS (opsAt Tryd.f15 4) ((true, 0) :: (true, 1) :: (true, 2) :: (true, 3) :: (false, 4) :: (false, 5) :: (true, 6) :: (true, 7) :: (true, 8) :: (true, 9) :: (true, 10) :: (true, 11) :: (false, 12) :: (false, 13) :: (true, 14) :: (true, 15) :: (true, 16) :: (true, 17) :: (true, 18) :: (true, 20) :: (true, 21) :: (false, 19) :: (false, 22) :: (false, 23) :: (true, 24) :: (true, 25) :: []) (Kept WB [(wr.heap.size, (fps [a, b, c, d]))] []) (by kernel_rfl) rfl (by kernel_rfl) (fun _ _ d _ _ h => by cases d <;> exact h) (by kernel_rfl) (by kernel_rfl) K11.drew ?_
            have K12 := K11.drew
            have DK12 : W0.heap.size ≤ W0.drew.heap.size := Nat.le_refl _
            refine k_pure (by kernel_rfl) (d := (some 11)) (by kernel_rfl) (v := .pointer (some ⟨wr.heap.size, 0, none⟩)) (fun _ => by kernel_rfl) ?_
            refine k_part (by kernel_rfl) (d := (some 12)) (by kernel_rfl) (ty := 33) (x := (.tmp 11)) (by kernel_rfl) (b := wr.heap.size) (off := 0) (by kernel_rfl) (all := (fps [a, b, c, d])) (cs := (fps [a, b])) (fun _ hs => hs.at 0 rfl) (fpsub2 (k := 0) rfl rfl) Tryd.underlying33 rfl (by kernel_rfl) ?_
            refine k_pure (by kernel_rfl) (d := (some 13)) (by kernel_rfl) (v := .pointer (some ⟨wr.heap.size, 0, none⟩)) (fun _ => by kernel_rfl) ?_
            refine k_part (by kernel_rfl) (d := (some 14)) (by kernel_rfl) (ty := 33) (x := (.tmp 13)) (by kernel_rfl) (b := wr.heap.size) (off := 0) (by kernel_rfl) (all := (fps [a, b, c, d])) (cs := (fps [a, b])) (fun _ hs => hs.at 0 rfl) (fpsub2 (k := 0) rfl rfl) Tryd.underlying33 rfl (by kernel_rfl) ?_
            refine k_call (by kernel_rfl) (d := (some 15)) (by kernel_rfl) (f := 19) (args := #[.agg (fps [a, b])]) (v := .agg (dgQ X.re.val X.im.val)) (fun _ => by kernel_rfl) (OX) (fun w13 hb13 => ⟨K12.go hb13, ?_⟩)
            have K13 := K12.go hb13
            have L13 := hb13.size
            refine k_call (by kernel_rfl) (d := (some 16)) (by kernel_rfl) (f := 30) (args := #[.agg (fps [a, b]), .agg (dgQ X.re.val X.im.val)]) (v := .bool true) (fun _ => by kernel_rfl) (isQ_true HX.out.1 HX.out.2) (fun w14 hb14 => ⟨K13.go hb14, ?_⟩)
            have K14 := K13.go hb14
            have L14 := hb14.size
            refine k_pure (by kernel_rfl) (d := (some 17)) (by kernel_rfl) (v := .bool false) (fun _ => by kernel_rfl) ?_
            refine k_pure (by kernel_rfl) (d := (some 18)) (by kernel_rfl) (v := .bool false) (fun _ => by kernel_rfl) ?_
            refine k_pure (by kernel_rfl) (d := (some 19)) (by kernel_rfl) (v := .pointer (some ⟨wr.heap.size, 32, none⟩)) (fun _ => by kernel_rfl) ?_
            refine k_part (by kernel_rfl) (d := (some 20)) (by kernel_rfl) (ty := 33) (x := (.tmp 19)) (by kernel_rfl) (b := wr.heap.size) (off := 32) (by kernel_rfl) (all := (fps [a, b, c, d])) (cs := (fps [c, d])) (fun _ hs => hs.at 0 rfl) (fpsub2 (k := 2) rfl rfl) Tryd.underlying33 rfl (by kernel_rfl) ?_
            refine k_pure (by kernel_rfl) (d := (some 21)) (by kernel_rfl) (v := .pointer (some ⟨wr.heap.size, 32, none⟩)) (fun _ => by kernel_rfl) ?_
            refine k_part (by kernel_rfl) (d := (some 22)) (by kernel_rfl) (ty := 33) (x := (.tmp 21)) (by kernel_rfl) (b := wr.heap.size) (off := 32) (by kernel_rfl) (all := (fps [a, b, c, d])) (cs := (fps [c, d])) (fun _ hs => hs.at 0 rfl) (fpsub2 (k := 2) rfl rfl) Tryd.underlying33 rfl (by kernel_rfl) ?_
            refine k_call (by kernel_rfl) (d := (some 23)) (by kernel_rfl) (f := 19) (args := #[.agg (fps [c, d])]) (v := .agg (dgQ Y.re.val Y.im.val)) (fun _ => by kernel_rfl) (OY) (fun w15 hb15 => ⟨K14.go hb15, ?_⟩)
            have K15 := K14.go hb15
            have L15 := hb15.size
            refine k_call (by kernel_rfl) (d := (some 24)) (by kernel_rfl) (f := 30) (args := #[.agg (fps [c, d]), .agg (dgQ Y.re.val Y.im.val)]) (v := .bool true) (fun _ => by kernel_rfl) (isQ_true HY.out.1 HY.out.2) (fun w16 hb16 => ⟨K15.go hb16, ?_⟩)
            have K16 := K15.go hb16
            have L16 := hb16.size
            refine k_pure (by kernel_rfl) (d := (some 25)) (by kernel_rfl) (v := .bool false) (fun _ => by kernel_rfl) ?_
            refine k_pure (by kernel_rfl) (d := (some 26)) (by kernel_rfl) (v := .bool false) (fun _ => by kernel_rfl) ?_
            refine k_pure (by kernel_rfl) (d := (some 27)) (by kernel_rfl) (v := .bool false) (fun _ => by kernel_rfl) ?_
            refine k_pure (by kernel_rfl) (d := (some 28)) (by kernel_rfl) (v := .pointer (some ⟨wr.heap.size, 0, none⟩)) (fun _ => by kernel_rfl) ?_
            refine k_part (by kernel_rfl) (d := (some 29)) (by kernel_rfl) (ty := 33) (x := (.tmp 28)) (by kernel_rfl) (b := wr.heap.size) (off := 0) (by kernel_rfl) (all := (fps [a, b, c, d])) (cs := (fps [a, b])) (fun _ hs => hs.at 0 rfl) (fpsub2 (k := 0) rfl rfl) Tryd.underlying33 rfl (by kernel_rfl) ?_
            refine k_pure (by kernel_rfl) (d := (some 31)) (by kernel_rfl) (v := .pointer (some ⟨wr.heap.size, 32, none⟩)) (fun _ => by kernel_rfl) ?_
            refine k_part (by kernel_rfl) (d := (some 32)) (by kernel_rfl) (ty := 33) (x := (.tmp 31)) (by kernel_rfl) (b := wr.heap.size) (off := 32) (by kernel_rfl) (all := (fps [a, b, c, d])) (cs := (fps [c, d])) (fun _ hs => hs.at 0 rfl) (fpsub2 (k := 2) rfl rfl) Tryd.underlying33 rfl (by kernel_rfl) ?_
            refine k_call (by kernel_rfl) (d := (some 30)) (by kernel_rfl) (f := 19) (args := #[.agg (fps [a, b])]) (v := .agg (dgQ X.re.val X.im.val)) (fun _ => by kernel_rfl) (OX) (fun w17 hb17 => ⟨K16.go hb17, ?_⟩)
            have K17 := K16.go hb17
            have L17 := hb17.size
            refine k_call (by kernel_rfl) (d := (some 33)) (by kernel_rfl) (f := 19) (args := #[.agg (fps [c, d])]) (v := .agg (dgQ Y.re.val Y.im.val)) (fun _ => by kernel_rfl) (OY) (fun w18 hb18 => ⟨K17.go hb18, ?_⟩)
            have K18 := K17.go hb18
            have L18 := hb18.size
            refine k_call (by kernel_rfl) (d := (some 34)) (by kernel_rfl) (f := 38) (args := #[.agg (dgQ X.re.val X.im.val), .agg (dgQ Y.re.val Y.im.val)]) (v := .bool true) (fun _ => by kernel_rfl) (isPoint_t hP) (fun w19 hb19 => ⟨K18.go hb19, ?_⟩)
            have K19 := K18.go hb19
            have L19 := hb19.size
            refine k_pure (by kernel_rfl) (d := (some 35)) (by kernel_rfl) (v := .bool false) (fun _ => by kernel_rfl) ?_
            refine k_pure (by kernel_rfl) (d := (some 36)) (by kernel_rfl) (v := .bool false) (fun _ => by kernel_rfl) ?_
            have K20 : Kept WB [(wr.heap.size, (fps [a, b, c, d]))] [] w19 := Kept.zero K19.nb (rowsC (K19.at 0 rfl) rows0)
            refine k_end ?_
            go_simp
            go_wp2_with fail
            exact ⟨⟨k + 1, by omega, by go_num, hbel.trans ((HWB.out ▸ K20.nb).mono hbel.size), HDL.out⟩, by simp [intOf]; omega⟩
          · have hrf : r = false := by rw [HDR.out, HB.out, decide_eq_false (fun h => hP h.2.2), Bool.false_and]
            subst hrf
            have HX := Lib.hid hX; have HY := Lib.hid hY
            clear hX hY
            go_upto_region 4 with (first | (refine wpList_load_at rfl 35 _ rfl b0 (k * 64) rfl (fps [a, b, c, d]) _ HC.out Tryd.underlying35 rfl (by kernel_rfl) ?_) | (refine wpList_store_row rfl 35 _ _ rfl _ (fps [a, b, c, d]) rfl rfl _ _ (heap_alloc_new _ _) (by kernel_rfl) (by kernel_rfl) (all_fps _) ?_; rw [setRow_alloc_new]))
            obtain ⟨WB, hWB⟩ : ∃ WB : World, WB = wr := ⟨_, rfl⟩
            have HWB := Lib.hid hWB
            clear hWB
            refine wp_gen (fun W => Kept WB [(wr.heap.size, (fps [a, b, c, d]))] [] W) (HWB.out ▸ Kept.zero (nb_alloc (Below.refl _ _) _) (rowsC ⟨_, heap_alloc_new _ _⟩ rows0)) ?_
            intro W0 K0
            have K11 : Kept WB [(wr.heap.size, (fps [a, b, c, d]))] [] W0 := Kept.mks K0.nb (rowsC (K0.at 0 rfl) rows0) rooms0
            refine wp_region_atS (opsAt Tryd.f15 4) ((true, 0) :: (true, 1) :: (true, 2) :: (true, 3) :: (false, 4) :: (false, 5) :: (true, 6) :: (true, 7) :: (true, 8) :: (true, 9) :: (true, 10) :: (true, 11) :: (false, 12) :: (false, 13) :: (true, 14) :: (true, 15) :: (true, 16) :: (true, 17) :: (true, 18) :: (true, 20) :: (true, 21) :: (false, 19) :: (false, 22) :: (false, 23) :: (true, 24) :: (true, 25) :: []) (Kept WB [(wr.heap.size, (fps [a, b, c, d]))] []) (by kernel_rfl) rfl (by kernel_rfl) (fun _ _ d _ _ h => by cases d <;> exact h) (by kernel_rfl) (by kernel_rfl) K11.drew ?_
            have K12 := K11.drew
            have DK12 : W0.heap.size ≤ W0.drew.heap.size := Nat.le_refl _
            refine k_pure (by kernel_rfl) (d := (some 11)) (by kernel_rfl) (v := .pointer (some ⟨wr.heap.size, 0, none⟩)) (fun _ => by kernel_rfl) ?_
            refine k_part (by kernel_rfl) (d := (some 12)) (by kernel_rfl) (ty := 33) (x := (.tmp 11)) (by kernel_rfl) (b := wr.heap.size) (off := 0) (by kernel_rfl) (all := (fps [a, b, c, d])) (cs := (fps [a, b])) (fun _ hs => hs.at 0 rfl) (fpsub2 (k := 0) rfl rfl) Tryd.underlying33 rfl (by kernel_rfl) ?_
            refine k_pure (by kernel_rfl) (d := (some 13)) (by kernel_rfl) (v := .pointer (some ⟨wr.heap.size, 0, none⟩)) (fun _ => by kernel_rfl) ?_
            refine k_part (by kernel_rfl) (d := (some 14)) (by kernel_rfl) (ty := 33) (x := (.tmp 13)) (by kernel_rfl) (b := wr.heap.size) (off := 0) (by kernel_rfl) (all := (fps [a, b, c, d])) (cs := (fps [a, b])) (fun _ hs => hs.at 0 rfl) (fpsub2 (k := 0) rfl rfl) Tryd.underlying33 rfl (by kernel_rfl) ?_
            refine k_call (by kernel_rfl) (d := (some 15)) (by kernel_rfl) (f := 19) (args := #[.agg (fps [a, b])]) (v := .agg (dgQ X.re.val X.im.val)) (fun _ => by kernel_rfl) (OX) (fun w13 hb13 => ⟨K12.go hb13, ?_⟩)
            have K13 := K12.go hb13
            have L13 := hb13.size
            refine k_call (by kernel_rfl) (d := (some 16)) (by kernel_rfl) (f := 30) (args := #[.agg (fps [a, b]), .agg (dgQ X.re.val X.im.val)]) (v := .bool true) (fun _ => by kernel_rfl) (isQ_true HX.out.1 HX.out.2) (fun w14 hb14 => ⟨K13.go hb14, ?_⟩)
            have K14 := K13.go hb14
            have L14 := hb14.size
            refine k_pure (by kernel_rfl) (d := (some 17)) (by kernel_rfl) (v := .bool false) (fun _ => by kernel_rfl) ?_
            refine k_pure (by kernel_rfl) (d := (some 18)) (by kernel_rfl) (v := .bool false) (fun _ => by kernel_rfl) ?_
            refine k_pure (by kernel_rfl) (d := (some 19)) (by kernel_rfl) (v := .pointer (some ⟨wr.heap.size, 32, none⟩)) (fun _ => by kernel_rfl) ?_
            refine k_part (by kernel_rfl) (d := (some 20)) (by kernel_rfl) (ty := 33) (x := (.tmp 19)) (by kernel_rfl) (b := wr.heap.size) (off := 32) (by kernel_rfl) (all := (fps [a, b, c, d])) (cs := (fps [c, d])) (fun _ hs => hs.at 0 rfl) (fpsub2 (k := 2) rfl rfl) Tryd.underlying33 rfl (by kernel_rfl) ?_
            refine k_pure (by kernel_rfl) (d := (some 21)) (by kernel_rfl) (v := .pointer (some ⟨wr.heap.size, 32, none⟩)) (fun _ => by kernel_rfl) ?_
            refine k_part (by kernel_rfl) (d := (some 22)) (by kernel_rfl) (ty := 33) (x := (.tmp 21)) (by kernel_rfl) (b := wr.heap.size) (off := 32) (by kernel_rfl) (all := (fps [a, b, c, d])) (cs := (fps [c, d])) (fun _ hs => hs.at 0 rfl) (fpsub2 (k := 2) rfl rfl) Tryd.underlying33 rfl (by kernel_rfl) ?_
            refine k_call (by kernel_rfl) (d := (some 23)) (by kernel_rfl) (f := 19) (args := #[.agg (fps [c, d])]) (v := .agg (dgQ Y.re.val Y.im.val)) (fun _ => by kernel_rfl) (OY) (fun w15 hb15 => ⟨K14.go hb15, ?_⟩)
            have K15 := K14.go hb15
            have L15 := hb15.size
            refine k_call (by kernel_rfl) (d := (some 24)) (by kernel_rfl) (f := 30) (args := #[.agg (fps [c, d]), .agg (dgQ Y.re.val Y.im.val)]) (v := .bool true) (fun _ => by kernel_rfl) (isQ_true HY.out.1 HY.out.2) (fun w16 hb16 => ⟨K15.go hb16, ?_⟩)
            have K16 := K15.go hb16
            have L16 := hb16.size
            refine k_pure (by kernel_rfl) (d := (some 25)) (by kernel_rfl) (v := .bool false) (fun _ => by kernel_rfl) ?_
            refine k_pure (by kernel_rfl) (d := (some 26)) (by kernel_rfl) (v := .bool false) (fun _ => by kernel_rfl) ?_
            refine k_pure (by kernel_rfl) (d := (some 27)) (by kernel_rfl) (v := .bool false) (fun _ => by kernel_rfl) ?_
            refine k_pure (by kernel_rfl) (d := (some 28)) (by kernel_rfl) (v := .pointer (some ⟨wr.heap.size, 0, none⟩)) (fun _ => by kernel_rfl) ?_
            refine k_part (by kernel_rfl) (d := (some 29)) (by kernel_rfl) (ty := 33) (x := (.tmp 28)) (by kernel_rfl) (b := wr.heap.size) (off := 0) (by kernel_rfl) (all := (fps [a, b, c, d])) (cs := (fps [a, b])) (fun _ hs => hs.at 0 rfl) (fpsub2 (k := 0) rfl rfl) Tryd.underlying33 rfl (by kernel_rfl) ?_
            refine k_pure (by kernel_rfl) (d := (some 31)) (by kernel_rfl) (v := .pointer (some ⟨wr.heap.size, 32, none⟩)) (fun _ => by kernel_rfl) ?_
            refine k_part (by kernel_rfl) (d := (some 32)) (by kernel_rfl) (ty := 33) (x := (.tmp 31)) (by kernel_rfl) (b := wr.heap.size) (off := 32) (by kernel_rfl) (all := (fps [a, b, c, d])) (cs := (fps [c, d])) (fun _ hs => hs.at 0 rfl) (fpsub2 (k := 2) rfl rfl) Tryd.underlying33 rfl (by kernel_rfl) ?_
            refine k_call (by kernel_rfl) (d := (some 30)) (by kernel_rfl) (f := 19) (args := #[.agg (fps [a, b])]) (v := .agg (dgQ X.re.val X.im.val)) (fun _ => by kernel_rfl) (OX) (fun w17 hb17 => ⟨K16.go hb17, ?_⟩)
            have K17 := K16.go hb17
            have L17 := hb17.size
            refine k_call (by kernel_rfl) (d := (some 33)) (by kernel_rfl) (f := 19) (args := #[.agg (fps [c, d])]) (v := .agg (dgQ Y.re.val Y.im.val)) (fun _ => by kernel_rfl) (OY) (fun w18 hb18 => ⟨K17.go hb18, ?_⟩)
            have K18 := K17.go hb18
            have L18 := hb18.size
            refine k_call (by kernel_rfl) (d := (some 34)) (by kernel_rfl) (f := 38) (args := #[.agg (dgQ X.re.val X.im.val), .agg (dgQ Y.re.val Y.im.val)]) (v := .bool false) (fun _ => by kernel_rfl) (isPoint_f hP) (fun w19 hb19 => ⟨K18.go hb19, ?_⟩)
            have K19 := K18.go hb19
            have L19 := hb19.size
            refine k_pure (by kernel_rfl) (d := (some 35)) (by kernel_rfl) (v := .bool true) (fun _ => by kernel_rfl) ?_
            refine k_pure (by kernel_rfl) (d := (some 36)) (by kernel_rfl) (v := .bool true) (fun _ => by kernel_rfl) ?_
            have K20 : Kept WB [(wr.heap.size, (fps [a, b, c, d]))] [] w19 := Kept.zero K19.nb (rowsC (K19.at 0 rfl) rows0)
            refine k_end ?_
            go_simp
            go_wp2_with fail
            go_ret
            exact ⟨rfl, hbel.trans ((HWB.out ▸ K20.nb).mono hbel.size)⟩
        · have hrf : r = false := by rw [HDR.out, HB.out, decide_eq_false (fun h => hY h.2.1), Bool.false_and]
          subst hrf
          have HX := Lib.hid hX
          clear hX
          go_upto_region 4 with (first | (refine wpList_load_at rfl 35 _ rfl b0 (k * 64) rfl (fps [a, b, c, d]) _ HC.out Tryd.underlying35 rfl (by kernel_rfl) ?_) | (refine wpList_store_row rfl 35 _ _ rfl _ (fps [a, b, c, d]) rfl rfl _ _ (heap_alloc_new _ _) (by kernel_rfl) (by kernel_rfl) (all_fps _) ?_; rw [setRow_alloc_new]))
          obtain ⟨WB, hWB⟩ : ∃ WB : World, WB = wr := ⟨_, rfl⟩
          have HWB := Lib.hid hWB
          clear hWB
          refine wp_gen (fun W => Kept WB [(wr.heap.size, (fps [a, b, c, d]))] [] W) (HWB.out ▸ Kept.zero (nb_alloc (Below.refl _ _) _) (rowsC ⟨_, heap_alloc_new _ _⟩ rows0)) ?_
          intro W0 K0
          have K11 : Kept WB [(wr.heap.size, (fps [a, b, c, d]))] [] W0 := Kept.mks K0.nb (rowsC (K0.at 0 rfl) rows0) rooms0
          refine wp_region_atS (opsAt Tryd.f15 4) ((true, 0) :: (true, 1) :: (true, 2) :: (true, 3) :: (false, 4) :: (false, 5) :: (true, 6) :: (true, 7) :: (true, 8) :: (true, 9) :: (true, 10) :: (true, 11) :: (false, 12) :: (false, 13) :: (true, 14) :: (true, 15) :: (true, 16) :: (true, 17) :: (true, 18) :: (true, 20) :: (true, 21) :: (false, 19) :: (false, 22) :: (false, 23) :: (true, 24) :: (true, 25) :: []) (Kept WB [(wr.heap.size, (fps [a, b, c, d]))] []) (by kernel_rfl) rfl (by kernel_rfl) (fun _ _ d _ _ h => by cases d <;> exact h) (by kernel_rfl) (by kernel_rfl) K11.drew ?_
          have K12 := K11.drew
          have DK12 : W0.heap.size ≤ W0.drew.heap.size := Nat.le_refl _
          refine k_pure (by kernel_rfl) (d := (some 11)) (by kernel_rfl) (v := .pointer (some ⟨wr.heap.size, 0, none⟩)) (fun _ => by kernel_rfl) ?_
          refine k_part (by kernel_rfl) (d := (some 12)) (by kernel_rfl) (ty := 33) (x := (.tmp 11)) (by kernel_rfl) (b := wr.heap.size) (off := 0) (by kernel_rfl) (all := (fps [a, b, c, d])) (cs := (fps [a, b])) (fun _ hs => hs.at 0 rfl) (fpsub2 (k := 0) rfl rfl) Tryd.underlying33 rfl (by kernel_rfl) ?_
          refine k_pure (by kernel_rfl) (d := (some 13)) (by kernel_rfl) (v := .pointer (some ⟨wr.heap.size, 0, none⟩)) (fun _ => by kernel_rfl) ?_
          refine k_part (by kernel_rfl) (d := (some 14)) (by kernel_rfl) (ty := 33) (x := (.tmp 13)) (by kernel_rfl) (b := wr.heap.size) (off := 0) (by kernel_rfl) (all := (fps [a, b, c, d])) (cs := (fps [a, b])) (fun _ hs => hs.at 0 rfl) (fpsub2 (k := 0) rfl rfl) Tryd.underlying33 rfl (by kernel_rfl) ?_
          refine k_call (by kernel_rfl) (d := (some 15)) (by kernel_rfl) (f := 19) (args := #[.agg (fps [a, b])]) (v := .agg (dgQ X.re.val X.im.val)) (fun _ => by kernel_rfl) (OX) (fun w13 hb13 => ⟨K12.go hb13, ?_⟩)
          have K13 := K12.go hb13
          have L13 := hb13.size
          refine k_call (by kernel_rfl) (d := (some 16)) (by kernel_rfl) (f := 30) (args := #[.agg (fps [a, b]), .agg (dgQ X.re.val X.im.val)]) (v := .bool true) (fun _ => by kernel_rfl) (isQ_true HX.out.1 HX.out.2) (fun w14 hb14 => ⟨K13.go hb14, ?_⟩)
          have K14 := K13.go hb14
          have L14 := hb14.size
          refine k_pure (by kernel_rfl) (d := (some 17)) (by kernel_rfl) (v := .bool false) (fun _ => by kernel_rfl) ?_
          refine k_pure (by kernel_rfl) (d := (some 18)) (by kernel_rfl) (v := .bool false) (fun _ => by kernel_rfl) ?_
          refine k_pure (by kernel_rfl) (d := (some 19)) (by kernel_rfl) (v := .pointer (some ⟨wr.heap.size, 32, none⟩)) (fun _ => by kernel_rfl) ?_
          refine k_part (by kernel_rfl) (d := (some 20)) (by kernel_rfl) (ty := 33) (x := (.tmp 19)) (by kernel_rfl) (b := wr.heap.size) (off := 32) (by kernel_rfl) (all := (fps [a, b, c, d])) (cs := (fps [c, d])) (fun _ hs => hs.at 0 rfl) (fpsub2 (k := 2) rfl rfl) Tryd.underlying33 rfl (by kernel_rfl) ?_
          refine k_pure (by kernel_rfl) (d := (some 21)) (by kernel_rfl) (v := .pointer (some ⟨wr.heap.size, 32, none⟩)) (fun _ => by kernel_rfl) ?_
          refine k_part (by kernel_rfl) (d := (some 22)) (by kernel_rfl) (ty := 33) (x := (.tmp 21)) (by kernel_rfl) (b := wr.heap.size) (off := 32) (by kernel_rfl) (all := (fps [a, b, c, d])) (cs := (fps [c, d])) (fun _ hs => hs.at 0 rfl) (fpsub2 (k := 2) rfl rfl) Tryd.underlying33 rfl (by kernel_rfl) ?_
          refine k_call (by kernel_rfl) (d := (some 23)) (by kernel_rfl) (f := 19) (args := #[.agg (fps [c, d])]) (v := .agg (dgQ Y.re.val Y.im.val)) (fun _ => by kernel_rfl) (OY) (fun w15 hb15 => ⟨K14.go hb15, ?_⟩)
          have K15 := K14.go hb15
          have L15 := hb15.size
          refine k_call (by kernel_rfl) (d := (some 24)) (by kernel_rfl) (f := 30) (args := #[.agg (fps [c, d]), .agg (dgQ Y.re.val Y.im.val)]) (v := .bool false) (fun _ => by kernel_rfl) (isQ_f hc hd hY) (fun w16 hb16 => ⟨K15.go hb16, ?_⟩)
          have K16 := K15.go hb16
          have L16 := hb16.size
          refine k_pure (by kernel_rfl) (d := (some 25)) (by kernel_rfl) (v := .bool true) (fun _ => by kernel_rfl) ?_
          refine k_pure (by kernel_rfl) (d := (some 26)) (by kernel_rfl) (v := .bool true) (fun _ => by kernel_rfl) ?_
          refine k_pure (by kernel_rfl) (d := (some 27)) (by kernel_rfl) (v := .bool true) (fun _ => by kernel_rfl) ?_
          refine k_skip (by kernel_rfl) (d := (some 28)) (by kernel_rfl) ?_
          refine k_skip (by kernel_rfl) (d := (some 29)) (by kernel_rfl) ?_
          refine k_skip (by kernel_rfl) (d := (some 31)) (by kernel_rfl) ?_
          refine k_skip (by kernel_rfl) (d := (some 32)) (by kernel_rfl) ?_
          refine k_skip' K16 (by kernel_rfl) (d := (some 30)) (by kernel_rfl) ?_
          refine k_skip' K16 (by kernel_rfl) (d := (some 33)) (by kernel_rfl) ?_
          refine k_skip' K16 (by kernel_rfl) (d := (some 34)) (by kernel_rfl) ?_
          refine k_skip (by kernel_rfl) (d := (some 35)) (by kernel_rfl) ?_
          refine k_pure (by kernel_rfl) (d := (some 36)) (by kernel_rfl) (v := .bool true) (fun _ => by kernel_rfl) ?_
          have K17 : Kept WB [(wr.heap.size, (fps [a, b, c, d]))] [] w16 := Kept.zero K16.nb (rowsC (K16.at 0 rfl) rows0)
          refine k_end ?_
          go_simp
          go_wp2_with fail
          go_ret
          exact ⟨rfl, hbel.trans ((HWB.out ▸ K17.nb).mono hbel.size)⟩
      · have hrf : r = false := by rw [HDR.out, HB.out, decide_eq_false (fun h => hX h.1), Bool.false_and]
        subst hrf
        go_upto_region 4 with (first | (refine wpList_load_at rfl 35 _ rfl b0 (k * 64) rfl (fps [a, b, c, d]) _ HC.out Tryd.underlying35 rfl (by kernel_rfl) ?_) | (refine wpList_store_row rfl 35 _ _ rfl _ (fps [a, b, c, d]) rfl rfl _ _ (heap_alloc_new _ _) (by kernel_rfl) (by kernel_rfl) (all_fps _) ?_; rw [setRow_alloc_new]))
        obtain ⟨WB, hWB⟩ : ∃ WB : World, WB = wr := ⟨_, rfl⟩
        have HWB := Lib.hid hWB
        clear hWB
        refine wp_gen (fun W => Kept WB [(wr.heap.size, (fps [a, b, c, d]))] [] W) (HWB.out ▸ Kept.zero (nb_alloc (Below.refl _ _) _) (rowsC ⟨_, heap_alloc_new _ _⟩ rows0)) ?_
        intro W0 K0
        have K11 : Kept WB [(wr.heap.size, (fps [a, b, c, d]))] [] W0 := Kept.mks K0.nb (rowsC (K0.at 0 rfl) rows0) rooms0
        refine wp_region_atS (opsAt Tryd.f15 4) ((true, 0) :: (true, 1) :: (true, 2) :: (true, 3) :: (false, 4) :: (false, 5) :: (true, 6) :: (true, 7) :: (true, 8) :: (true, 9) :: (true, 10) :: (true, 11) :: (false, 12) :: (false, 13) :: (true, 14) :: (true, 15) :: (true, 16) :: (true, 17) :: (true, 18) :: (true, 20) :: (true, 21) :: (false, 19) :: (false, 22) :: (false, 23) :: (true, 24) :: (true, 25) :: []) (Kept WB [(wr.heap.size, (fps [a, b, c, d]))] []) (by kernel_rfl) rfl (by kernel_rfl) (fun _ _ d _ _ h => by cases d <;> exact h) (by kernel_rfl) (by kernel_rfl) K11.drew ?_
        have K12 := K11.drew
        have DK12 : W0.heap.size ≤ W0.drew.heap.size := Nat.le_refl _
        refine k_pure (by kernel_rfl) (d := (some 11)) (by kernel_rfl) (v := .pointer (some ⟨wr.heap.size, 0, none⟩)) (fun _ => by kernel_rfl) ?_
        refine k_part (by kernel_rfl) (d := (some 12)) (by kernel_rfl) (ty := 33) (x := (.tmp 11)) (by kernel_rfl) (b := wr.heap.size) (off := 0) (by kernel_rfl) (all := (fps [a, b, c, d])) (cs := (fps [a, b])) (fun _ hs => hs.at 0 rfl) (fpsub2 (k := 0) rfl rfl) Tryd.underlying33 rfl (by kernel_rfl) ?_
        refine k_pure (by kernel_rfl) (d := (some 13)) (by kernel_rfl) (v := .pointer (some ⟨wr.heap.size, 0, none⟩)) (fun _ => by kernel_rfl) ?_
        refine k_part (by kernel_rfl) (d := (some 14)) (by kernel_rfl) (ty := 33) (x := (.tmp 13)) (by kernel_rfl) (b := wr.heap.size) (off := 0) (by kernel_rfl) (all := (fps [a, b, c, d])) (cs := (fps [a, b])) (fun _ hs => hs.at 0 rfl) (fpsub2 (k := 0) rfl rfl) Tryd.underlying33 rfl (by kernel_rfl) ?_
        refine k_call (by kernel_rfl) (d := (some 15)) (by kernel_rfl) (f := 19) (args := #[.agg (fps [a, b])]) (v := .agg (dgQ X.re.val X.im.val)) (fun _ => by kernel_rfl) (OX) (fun w13 hb13 => ⟨K12.go hb13, ?_⟩)
        have K13 := K12.go hb13
        have L13 := hb13.size
        refine k_call (by kernel_rfl) (d := (some 16)) (by kernel_rfl) (f := 30) (args := #[.agg (fps [a, b]), .agg (dgQ X.re.val X.im.val)]) (v := .bool false) (fun _ => by kernel_rfl) (isQ_f ha hb hX) (fun w14 hb14 => ⟨K13.go hb14, ?_⟩)
        have K14 := K13.go hb14
        have L14 := hb14.size
        refine k_pure (by kernel_rfl) (d := (some 17)) (by kernel_rfl) (v := .bool true) (fun _ => by kernel_rfl) ?_
        refine k_pure (by kernel_rfl) (d := (some 18)) (by kernel_rfl) (v := .bool true) (fun _ => by kernel_rfl) ?_
        refine k_skip (by kernel_rfl) (d := (some 19)) (by kernel_rfl) ?_
        refine k_skip (by kernel_rfl) (d := (some 20)) (by kernel_rfl) ?_
        refine k_skip (by kernel_rfl) (d := (some 21)) (by kernel_rfl) ?_
        refine k_skip (by kernel_rfl) (d := (some 22)) (by kernel_rfl) ?_
        refine k_skip' K14 (by kernel_rfl) (d := (some 23)) (by kernel_rfl) ?_
        refine k_skip' K14 (by kernel_rfl) (d := (some 24)) (by kernel_rfl) ?_
        refine k_skip (by kernel_rfl) (d := (some 25)) (by kernel_rfl) ?_
        refine k_pure (by kernel_rfl) (d := (some 26)) (by kernel_rfl) (v := .bool true) (fun _ => by kernel_rfl) ?_
        refine k_pure (by kernel_rfl) (d := (some 27)) (by kernel_rfl) (v := .bool true) (fun _ => by kernel_rfl) ?_
        refine k_skip (by kernel_rfl) (d := (some 28)) (by kernel_rfl) ?_
        refine k_skip (by kernel_rfl) (d := (some 29)) (by kernel_rfl) ?_
        refine k_skip (by kernel_rfl) (d := (some 31)) (by kernel_rfl) ?_
        refine k_skip (by kernel_rfl) (d := (some 32)) (by kernel_rfl) ?_
        refine k_skip' K14 (by kernel_rfl) (d := (some 30)) (by kernel_rfl) ?_
        refine k_skip' K14 (by kernel_rfl) (d := (some 33)) (by kernel_rfl) ?_
        refine k_skip' K14 (by kernel_rfl) (d := (some 34)) (by kernel_rfl) ?_
        refine k_skip (by kernel_rfl) (d := (some 35)) (by kernel_rfl) ?_
        refine k_pure (by kernel_rfl) (d := (some 36)) (by kernel_rfl) (v := .bool true) (fun _ => by kernel_rfl) ?_
        have K15 : Kept WB [(wr.heap.size, (fps [a, b, c, d]))] [] w14 := Kept.zero K14.nb (rowsC (K14.at 0 rfl) rows0)
        refine k_end ?_
        go_simp
        go_wp2_with fail
        go_ret
        exact ⟨rfl, hbel.trans ((HWB.out ▸ K15.nb).mono hbel.size)⟩
    · have hkl : k = l.length := by omega
      have hrt : r = true := by rw [← hr.out, hkl, List.drop_length]; rfl
      subst hrt
      clear hr
      subst hkl
      go_wp2_with fail
      go_ret
      exact ⟨rfl, hbel⟩
end Go.Proofs.YtfkfljohhabldaaDoor
namespace Go.Proofs.YtfkfljohhabldaaDoor
open Go.RowKit Go.FourQ
theorem on_r {w : World} {b0 : Nat} {l : List P4} {r : Bool} (hr : onAll l = r) (h : Fps w b0 (fl l)) (hl : ∀ p ∈ l, p.1 < 256 ^ 16 ∧ p.2.1 < 256 ^ 16 ∧ p.2.2.1 < 256 ^ 16 ∧ p.2.2.2 < 256 ^ 16) (hlen : l.length < 1000) :
    Calls Tryd.prog 15 #[.slice (some ⟨b0, 0, none⟩) l.length l.length] w fun e w' => e = .returned (.bool r) ∧ Below w.heap.size w w' := by
  subst hr; exact on_c h hl hlen
theorem lt4 {a b c d : Nat} (ha : a < 256 ^ 16) (hb : b < 256 ^ 16) (hc : c < 256 ^ 16) (hd : d < 256 ^ 16) : (a, b, c, d).1 < 256 ^ 16 ∧ (a, b, c, d).2.1 < 256 ^ 16 ∧ (a, b, c, d).2.2.1 < 256 ^ 16 ∧ (a, b, c, d).2.2.2 < 256 ^ 16 := ⟨ha, hb, hc, hd⟩
theorem lts0 : ∀ p ∈ ([] : List P4), p.1 < 256 ^ 16 ∧ p.2.1 < 256 ^ 16 ∧ p.2.2.1 < 256 ^ 16 ∧ p.2.2.2 < 256 ^ 16 := fun _ h => by simp at h
theorem ltsC {q : P4} {l : List P4} (h : q.1 < 256 ^ 16 ∧ q.2.1 < 256 ^ 16 ∧ q.2.2.1 < 256 ^ 16 ∧ q.2.2.2 < 256 ^ 16) (r : ∀ p ∈ l, p.1 < 256 ^ 16 ∧ p.2.1 < 256 ^ 16 ∧ p.2.2.1 < 256 ^ 16 ∧ p.2.2.2 < 256 ^ 16) : ∀ p ∈ q :: l, p.1 < 256 ^ 16 ∧ p.2.1 < 256 ^ 16 ∧ p.2.2.1 < 256 ^ 16 ∧ p.2.2.2 < 256 ^ 16 := fun p hp => by
  rcases List.mem_cons.1 hp with rfl | hp
  · exact h
  · exact r p hp
theorem ltPt (p : Pt) : p.x.re.val < 256 ^ 16 ∧ p.x.im.val < 256 ^ 16 ∧ p.y.re.val < 256 ^ 16 ∧ p.y.im.val < 256 ^ 16 := ⟨lt16 _, lt16 _, lt16 _, lt16 _⟩
theorem onB_pt (p : Pt) : onB (p.x.re.val, p.x.im.val, p.y.re.val, p.y.im.val) = true := by
  unfold onB
  simp only [zp_val]
  exact decide_eq_true ⟨⟨trivial, trivial⟩, ⟨trivial, trivial⟩, p.on⟩
/-- Whoever passes is a point. -/
theorem of_onB {a b c d : Nat} (h : onB (a, b, c, d) = true) : ∃ p : Pt, a = p.x.re.val ∧ b = p.x.im.val ∧ c = p.y.re.val ∧ d = p.y.im.val := by
  have h := of_decide_eq_true h
  exact ⟨⟨⟨zp a, zp b⟩, ⟨zp c, zp d⟩, h.2.2⟩, h.1.1, h.1.2, h.2.1.1, h.2.1.2⟩
end Go.Proofs.YtfkfljohhabldaaDoor
namespace Go.FourQ
open Go.RowKit
theorem fpC_all1 (x : Nat) : ∀ v ∈ (fpC x).toList, v.oneCell' = true := fun v hv => Array.all_eq_true'.1 (all_fpC x) v (Array.mem_toList_iff.1 hv)
/-- 'copy' of sixteen bytes. -/
theorem run_copy16 {P : Program} (w : World) {dT ty e : TypeId} {b2 o2 dc sc : Nat} {a : Addr} {k2 x : Nat} {l2 : List Nat} (hu : P.underlying dT = some (.slice e)) (hs : (P.info? e).map (·.size) = some 1)
    (h2 : Fps w b2 l2) (e2 : o2 = 16 * k2) (i2 : k2 < l2.length) (hsrc : ∀ j v, (fpC x).toList[j]? = some v → w.cell? (a.add j) = some v) :
    ∃ w', (Builtin.copy_ #[dT, dT] ty #[.slice (some ⟨b2, o2, none⟩) 16 dc, .slice (some a) 16 sc]).run P w = .ok (goInt 16) w' ∧ Upd w w' b2 (l2.set k2 x) := by
  refine ⟨w.setCells b2 o2 (fpC x).toList, ?_, ?_⟩
  · refine (run_copy_cells w dT dT ty e b2 o2 16 dc a 16 sc (fpC x).toList hu hs rfl hsrc (fun j hj => ?_) (fun j _ => h2.free _) (fpC_all1 x))
    rw [h2.cell_any i2 e2 j hj]; rfl
  · exact upd_setCells h2 (s := 0) (z := x) _ i2 (by omega) (Nat.le_refl 16) (fun i _ hi => by
      have hi : i < 16 := by rw [Nat.zero_add] at hi; exact hi
      rw [Nat.sub_zero, Array.getElem?_toList, fpC_get _ _ hi]) (fun i hi h => absurd ⟨Nat.zero_le _, by rw [Nat.zero_add]; exact hi⟩ h)
theorem run_copyOp {P : Program} {ρ : Operand → Value} {o : Oper} {w w' : World} {x y : Operand} {dT sT : TypeId} {u v r : Value} (ho : o.op = .call { callee := .builtin .copy, args := #[x, y], argTypes := #[dT, sT] })
    (hx : ρ x = u) (hy : ρ y = v) (h : (Builtin.copy_ #[dT, sT] o.type #[u, v]).run P w = .ok r w') : (execOp ρ o).run P w = .ok (.value r) w' := by
  unfold execOp
  simp [ho, resolve, invoke, builtin, hx, hy, h, Result.andThen]
end Go.FourQ
namespace Go.FourQ
open Go.RowKit
/-- From this place on there are the sixteen bytes of a number. -/
def C16 (w : World) (b o x : Nat) : Prop := ∀ j, j < 16 → w.cell? ⟨b, o + j, none⟩ = some (byteV x j)
theorem Fps.c16 {w : World} {b o k x : Nat} {l : List Nat} (h : Fps w b l) (ho : o = 16 * k) (hk : l[k]? = some x) : C16 w b o x := fun j hj => h.cell hk ho j hj
theorem C16.src {w : World} {b o x : Nat} (h : C16 w b o x) : ∀ j v, (fpC x).toList[j]? = some v → w.cell? ((⟨b, o, none⟩ : Addr).add j) = some v := fun j v hj => by
  have hl : j < 16 := by
    have := (List.getElem?_eq_some_iff.1 hj).1
    rwa [Array.length_toList, size_fpC] at this
  rw [Array.getElem?_toList, fpC_get _ _ hl] at hj
  rw [Addr.add_lit, h j hl, hj]
theorem C16.of_heap {w w' : World} {b o x : Nat} (h : C16 w b o x) (e : w'.heap[b]? = w.heap[b]?) : C16 w' b o x := fun j hj => by
  rw [← h j hj]; unfold World.cell?; rw [e]
theorem C16.alloc {w : World} {b o x : Nat} (h : C16 w b o x) (ob : Obj) : C16 (w.alloc ob) b o x := fun j hj => Lib.cell?_alloc_some _ (h j hj)
theorem res_cell_tmp {P : Program} {fn : Func} {p q : Tmp} {ty : TypeId} (h : fn.results = #[.cell p ty, .tmp q]) (tmps : Array Value) (w : World) (g : Nat) (t : TypeId) (cs : Array Value) (fr : Nat × Nat) (d : TypeDesc) (v : Value)
    (hp : tmps.getD p undef = .pointer (some ⟨g, 0, none⟩)) (hq : tmps.getD q undef = v) (hg : w.heap[g]? = some (.cells cs t fr))
    (hu : P.underlying ty = some d) (hd : (match d with | .struct _ | .array _ _ => true | _ => false) = true) (hi : (P.info? ty).map (·.size) = some cs.size) :
    (results fn tmps).run P w = .ok (.tuple #[.agg cs, v]) w := by
  have hp' : tmps[p]?.getD undef = .pointer (some ⟨g, 0, none⟩) := by simpa using hp
  have hq' : tmps[q]?.getD undef = v := by simpa using hq
  simp [results, h, hp', hq', asAddr, run_loadVar_row w g t ty cs fr d hg hu hd hi]
end Go.FourQ
namespace Go.Proofs.YtfkfljohhabldaaDoor
open Go.RowKit Go.FourQ
section
variable {w : World} {b1 b2 o1 o2 k1 k2 c2 x : Nat} {L1 : List Zp} {l2 : List Nat} {z : Zp}
theorem zModV (hm : ModW w) (h1 : FpsZ w b1 L1) (e1 : o1 = 16 * k1) (i1 : L1[k1]? = some z) :
    Calls Tryd.prog 96 #[.pointer (some ⟨b1, o1, none⟩)] w fun e w' => e = .returned (.tuple #[]) ∧ UpdZ w w' b1 L1 ∧ C16 w' b1 o1 z.val := by
  obtain ⟨l2, u, f2, m2, n2, g2, q2, r2⟩ := h1.get i1
  subst q2
  exact (fpMod hm f2 e1 g2 r2).mono fun _ _ h => ⟨h.1, UpdZ.ofMod h.2 m2 n2 g2, h.2.blk.c16 e1 (List.getElem?_set_self (List.getElem?_eq_some_iff.1 g2).1)⟩
set_option maxRecDepth 100000 in
set_option maxHeartbeats 1000000 in
theorem fpToBytes (hm : ModW w) (h1 : FpsZ w b1 L1) (e1 : o1 = 16 * k1) (i1 : L1[k1]? = some z) (h2 : Fps w b2 l2) (e2 : o2 = 16 * k2) (i2 : k2 < l2.length) (hne : b1 ≠ b2) :
    Calls Tryd.prog 74 #[.pointer (some ⟨b1, o1, none⟩), .slice (some ⟨b2, o2, none⟩) 16 c2] w fun e w' => e = .returned (.tuple #[]) ∧ ∃ wm, UpdZ w wm b1 L1 ∧ Upd wm w' b2 (l2.set k2 z.val) := by
  have HC := Lib.hid (zModV hm h1 e1 i1)
  have E2 := Lib.hid e2; have I2 := Lib.hid i2; have H2 := Lib.hid h2; have HN := Lib.hid hne
  clear hm h1 e1 i1 h2 e2 i2 hne
  go_enter Tryd.func74, Tryd.ntmps74
  go_wp2_with fail
  refine HC.out.mono ?_
  rintro e w' ⟨rfl, u, hc⟩
  clear HC
  have HU := Lib.hid u; have HCC := Lib.hid hc
  clear u hc
  go_wp2_with fail
  obtain ⟨w2, hr, hu⟩ := run_copy16 (P := Tryd.prog) w' (dc := c2) (sc := 16) (ty := 3) Tryd.underlying28 (by kernel_rfl) (H2.out.of_heap (HU.out.other _ H2.out.lt (Ne.symm HN.out))) E2.out I2.out HCC.out.src
  rw [hr]
  have HU2 := Lib.hid hu
  clear hr hu
  go_wp2_with fail
  go_end0
  exact ⟨rfl, w', HU.out, HU2.out⟩
set_option maxRecDepth 100000 in
set_option maxHeartbeats 1000000 in
theorem fpFromBytes (hm : ModW w) (hg : 5 ≤ b1) (h1 : FpsZ w b1 L1) (e1 : o1 = 16 * k1) (i1 : k1 < L1.length) (hc : C16 w b2 o2 x) (hx : LowB x) :
    Calls Tryd.prog 75 #[.pointer (some ⟨b1, o1, none⟩), .slice (some ⟨b2, o2, none⟩) 16 c2] w fun e w' => e = .returned (.bool true) ∧ UpdZ w w' b1 (L1.set k1 (zp x)) ∧ C16 w' b1 o1 (x % pp) := by
  have hb : ∃ n : Nat, n < 128 ∧ w.cell? ⟨b2, o2 + 15, none⟩ = some (.int .u8 n) := ⟨x / 256 ^ 15 % 256, by
    have : x < 2 ^ 127 := hx
    omega, hc 15 (by decide)⟩
  obtain ⟨n, hn, hcell⟩ := hb
  obtain ⟨l, f1, m1, n1⟩ := h1
  have HM := Lib.hid hm; have HG := Lib.hid hg; have H1 := Lib.hid f1; have E1 := Lib.hid e1; have I1 := Lib.hid (show k1 < l.length by rwa [← m1, List.length_map] at i1); have M1 := Lib.hid m1; have N1 := Lib.hid n1; have HC := Lib.hid hc; have HX := Lib.hid hx
  clear hm hg f1 e1 i1 m1 n1 hc hx
  go_enter Tryd.func75, Tryd.ntmps75
  go_wp2_with fail
  obtain ⟨w2, hr, hu⟩ := run_copy16 (P := Tryd.prog) w (dc := 16) (sc := c2) (ty := 3) Tryd.underlying28 (by kernel_rfl) H1.out E1.out I1.out HC.out.src
  rw [hr]
  have HU := Lib.hid (UpdZ.of hu M1.out N1.out HX.out rfl)
  have CM := Lib.hid (zModV ((HM.out).upd hu HG.out) HU.out.blk E1.out (List.getElem?_set_self (by rw [← M1.out, List.length_map]; exact I1.out)))
  clear hr hu hcell
  go_wp2_with fail
  refine CM.out.mono ?_
  rintro e w3 ⟨rfl, u, hc⟩
  have HV := Lib.hid u; have HCC := Lib.hid hc
  clear u hc CM
  go_wp2_with fail
  go_ret
  exact ⟨rfl, HU.out.trans HV.out, HCC.out⟩
end
end Go.Proofs.YtfkfljohhabldaaDoor
namespace Go.FourQ
open Go.RowKit
theorem run_loadB {P : Program} {ρ : Operand → Value} {o : Oper} {w : World} {ty : TypeId} {x : Operand} {b off : Nat} {v : Value} {k : IntKind} (ho : o.op = .load ty x) (hx : ρ x = .pointer (some ⟨b, off, none⟩)) (hu : P.underlying ty = some (.int k))
    (hc : w.cell? ⟨b, off, none⟩ = some v) : (execOp ρ o).run P w = .ok (.value v) w := by
  unfold execOp
  simp [ho, hx, Instr.loadAt, Instr.sureAddr, loadVar, isAgg, run_underlying hu, hc, Result.andThen]
theorem run_storeB {P : Program} {ρ : Operand → Value} {o : Oper} {w : World} {ty : TypeId} {x y : Operand} {b off : Nat} {n : Int} {old : Value} {k : IntKind} (ho : o.op = .store ty x y) (hx : ρ x = .pointer (some ⟨b, off, none⟩)) (hy : ρ y = .int k n) (hi : (P.info? ty).map (·.size) = some 1)
    (hc : w.cell? ⟨b, off, none⟩ = some old) (hf : w.frozen? ⟨b, off, none⟩ = false) : (execOp ρ o).run P w = .ok .skip (w.setCell ⟨b, off, none⟩ (.int k n)) := by
  obtain ⟨i, hi1, hi2⟩ : ∃ i, P.info? ty = some i ∧ i.size = 1 := by
    cases h : P.info? ty with
    | none => simp [h] at hi
    | some i => exact ⟨i, rfl, by simpa [h] using hi⟩
  have e : ((⟨b, off, none⟩ : Addr).add 0) = ⟨b, off, none⟩ := by rw [Addr.add_lit]; rfl
  have hst : (store (⟨b, off, none⟩ : Addr) (.int k n)).run P w = .ok () (w.setCell ⟨b, off, none⟩ (.int k n)) := by
    rw [run_store P w _ _ _ rfl, hc]
    simp [hf]
  unfold execOp
  simp [ho, hx, hy, Instr.storeAt, Instr.sureAddr, storeVar, sizeOf, typeInfo, hi1, hi2, Value.cells, storeCells, e, Result.andThen, hst]
/-- w' is w, but that these two blocks hold other elements (of the second one the very bytes); there may be new blocks. -/
structure Upd2 (w w' : World) (b1 : Nat) (L : List Zp) (b2 : Nat) (l : List Nat) : Prop where
  os : w'.os = w.os
  tape : w'.tape = w.tape
  output : w'.output = w.output
  size : w.heap.size ≤ w'.heap.size
  blk1 : FpsZ w' b1 L
  blk2 : Fps w' b2 l
  other : ∀ k, k < w.heap.size → k ≠ b1 → k ≠ b2 → w'.heap[k]? = w.heap[k]?
theorem Upd2.drew {w w' : World} {b1 b2 : Nat} {L : List Zp} {l : List Nat} (h : Upd2 w.drew w' b1 L b2 l) : Upd2 w w' b1 L b2 l := ⟨h.os, h.tape, h.output, h.size, h.blk1, h.blk2, h.other⟩
theorem Upd2.of {w wm w' : World} {b1 b2 : Nat} {L : List Zp} {l : List Nat} (u : UpdZ w wm b1 L) (v : Upd wm w' b2 l) (hne : b1 ≠ b2) : Upd2 w w' b1 L b2 l :=
  ⟨v.os.trans u.os, v.tape.trans u.tape, v.output.trans u.output, Nat.le_trans u.size v.size, u.blk.of_heap (v.other _ u.blk.lt hne), v.blk, fun k hk h1 h2 => (v.other k (Nat.lt_of_lt_of_le hk u.size) h2).trans (u.other k hk h1)⟩
theorem Upd2.start {w : World} {b1 b2 : Nat} {L : List Zp} {l : List Nat} (h1 : FpsZ w b1 L) (h2 : Fps w b2 l) : Upd2 w w b1 L b2 l := ⟨rfl, rfl, rfl, Nat.le_refl _, h1, h2, fun _ _ _ _ => rfl⟩
theorem Upd2.trans {w wm w' : World} {b1 b2 : Nat} {L M : List Zp} {l m : List Nat} (u : Upd2 w wm b1 L b2 l) (v : Upd2 wm w' b1 M b2 m) : Upd2 w w' b1 M b2 m :=
  ⟨v.os.trans u.os, v.tape.trans u.tape, v.output.trans u.output, Nat.le_trans u.size v.size, v.blk1, v.blk2, fun k hk h1 h2 => (v.other k (Nat.lt_of_lt_of_le hk u.size) h1 h2).trans (u.other k hk h1 h2)⟩
theorem Upd2.thenZ {w wm w' : World} {b1 b2 : Nat} {L M : List Zp} {l : List Nat} (u : Upd2 w wm b1 L b2 l) (v : UpdZ wm w' b1 M) (hne : b1 ≠ b2) : Upd2 w w' b1 M b2 l :=
  ⟨v.os.trans u.os, v.tape.trans u.tape, v.output.trans u.output, Nat.le_trans u.size v.size, v.blk, u.blk2.of_heap (v.other _ u.blk2.lt (Ne.symm hne)), fun k hk h1 h2 => (v.other k (Nat.lt_of_lt_of_le hk u.size) h1).trans (u.other k hk h1 h2)⟩
theorem Upd2.thenB {w wm w' : World} {b1 b2 : Nat} {L : List Zp} {l m : List Nat} (u : Upd2 w wm b1 L b2 l) (v : Upd wm w' b2 m) (hne : b1 ≠ b2) : Upd2 w w' b1 L b2 m :=
  ⟨v.os.trans u.os, v.tape.trans u.tape, v.output.trans u.output, Nat.le_trans u.size v.size, u.blk1.of_heap (v.other _ u.blk1.lt hne), v.blk, fun k hk h1 h2 => (v.other k (Nat.lt_of_lt_of_le hk u.size) h2).trans (u.other k hk h1 h2)⟩
/-- A byte of a block is written. -/
theorem upd_byte {w : World} {b k i o x x' : Nat} {l : List Nat} (h : Fps w b l) (hk : l[k]? = some x) (hi : i < 16) (ho : o = 16 * k + i) (hx : ∀ j, j < 16 → j ≠ i → byteV x' j = byteV x j) {v : Value} (hv : v = byteV x' i) : Upd w (w.setCell ⟨b, o, none⟩ v) b (l.set k x') := by
  obtain ⟨T, hT⟩ := h
  subst ho hv
  exact ⟨rfl, rfl, rfl, by simp, ⟨T, by rw [heap_setCell_same w b _ _ T _ hT, fps_set_byte hk hi hx]⟩, fun c hc hne => heap_setCell_other w _ c _ hne⟩
/-- A number below 2^127 with the highest bit of 16 bytes set s times (s = 0 or 1). -/
def top (s y : Nat) : Nat := y + 170141183460469231731687303715884105728 * s
theorem top0 (y : Nat) : top 0 y = y := rfl
theorem top_byte {s y j : Nat} (hj : j < 15) : byteV (top s y) j = byteV y j := by
  unfold byteV top
  congr 2
  have e : 170141183460469231731687303715884105728 * s = 256 ^ j * (256 * (2 ^ (119 - 8 * j) * s)) := by
    have : (170141183460469231731687303715884105728 : Nat) = 256 ^ j * (256 * 2 ^ (119 - 8 * j)) := by
      rw [show (256 : Nat) = 2 ^ 8 from rfl, ← Nat.pow_mul, ← Nat.pow_add, ← Nat.pow_add, show 8 * j + (8 + (119 - 8 * j)) = 127 by omega]
    rw [this]; simp only [Nat.mul_assoc]
  rw [e, Nat.add_mul_div_left _ _ (Nat.pow_pos (by decide)), Nat.add_mul_mod_self_left]
theorem top_bytes {s t y : Nat} : ∀ j, j < 16 → j ≠ 15 → byteV (top t y) j = byteV (top s y) j := fun j hj hn => by rw [top_byte (by omega), top_byte (by omega)]
theorem top_15 {y : Nat} (hy : y < 2 ^ 127) : ∃ n : Nat, n < 128 ∧ (∀ t, t = 0 ∨ t = 1 → byteV (top t y) 15 = .int .u8 ((n + 128 * t : Nat) : Int)) := by
  refine ⟨y / 256 ^ 15, by omega, fun t ht => ?_⟩
  unfold byteV top
  congr 2
  rcases ht with rfl | rfl <;> omega
theorem or128 : ∀ n : Nat, n < 128 → bits .or .u8 (n : Int) 128 = ((n + 128 : Nat) : Int) := by decide +kernel
theorem or0 : ∀ n : Nat, n < 128 → bits .or .u8 (n : Int) 0 = (n : Int) := by decide +kernel
theorem and127 : ∀ n : Nat, n < 256 → bits .and .u8 (n : Int) 127 = ((n % 128 : Nat) : Int) := by decide +kernel
end Go.FourQ
namespace Go.Proofs.YtfkfljohhabldaaDoor
open Go.RowKit Go.FourQ
section
variable {w : World} {b1 b2 o1 o2 k1 : Nat} {L1 : List Zp} {z0 z1 : Zp} {u v : Nat}
theorem ModW.upd2 {w w' : World} {b1 b2 : Nat} {L : List Zp} {l : List Nat} (h : ModW w) (u : Upd2 w w' b1 L b2 l) (h1 : 5 ≤ b1) (h2 : 5 ≤ b2) : ModW w' := h.of_heap (u.other _ h.lt (Nat.ne_of_lt (Nat.lt_of_lt_of_le (by decide) h1)) (Nat.ne_of_lt (Nat.lt_of_lt_of_le (by decide) h2)))
set_option maxRecDepth 100000 in
set_option maxHeartbeats 1000000 in
theorem fqToBytes (hm : ModW w) (hg : 5 ≤ b1 ∧ 5 ≤ b2) (h1 : FpsZ w b1 L1) (e1 : o1 = 16 * k1) (i0 : L1[k1]? = some z0) (i1 : L1[k1 + 1]? = some z1) (h2 : Fps w b2 [u, v]) (hne : b1 ≠ b2) :
    Calls Tryd.prog 85 #[.pointer (some ⟨b1, o1, none⟩), .slice (some ⟨b2, 0, none⟩) 32 32] w fun e w' => e = .returned (.tuple #[]) ∧ Upd2 w w' b1 L1 b2 [z0.val, z1.val] := by
  have HM := Lib.hid hm
  have H1 := Lib.hid h1
  have E1 := Lib.hid e1
  have I0 := Lib.hid i0
  have I1 := Lib.hid i1
  have H2 := Lib.hid h2
  have HNE := Lib.hid hne
  have HG := Lib.hid hg
  clear hm h1 e1 i0 i1 h2 hne hg
  go_enter Tryd.func85, Tryd.ntmps85
  go_upto_region 1 with (fail)
  refine wp_region_atS (opsAt Tryd.f85 1) ((true, 0) :: (true, 1) :: (true, 2) :: (true, 3) :: (true, 4) :: (false, 5) :: []) (fun _ => True) (by kernel_rfl) rfl (by kernel_rfl) (fun _ _ d _ _ h => by cases d <;> exact h) (by kernel_rfl) (by kernel_rfl) trivial ?_
  refine k_pure (by kernel_rfl) (d := (some 7)) (by kernel_rfl) (v := .pointer (some ⟨b1, o1, none⟩)) (fun _ => by kernel_rfl) ?_
  refine k_pure (by kernel_rfl) (d := (some 8)) (by kernel_rfl) (v := .pointer (some ⟨b1, o1, none⟩)) (fun _ => by kernel_rfl) ?_
  refine k_pure (by kernel_rfl) (d := (some 9)) (by kernel_rfl) (v := .pointer (some ⟨b1, o1, none⟩)) (fun _ => by kernel_rfl) ?_
  refine k_pure (by kernel_rfl) (d := (some 10)) (by kernel_rfl) (v := .slice (some ⟨b2, 0, none⟩) 32 32) (fun _ => by kernel_rfl) ?_
  refine k_pure (by kernel_rfl) (d := (some 11)) (by kernel_rfl) (v := .slice (some ⟨b2, 0, none⟩) 16 32) (fun _ => by kernel_rfl) ?_
  refine k_callR (by kernel_rfl) (d := (some 12)) (by kernel_rfl) (f := 74) (args := #[.pointer (some ⟨b1, o1, none⟩), .slice (some ⟨b2, 0, none⟩) 16 32]) (fun _ => by kernel_rfl) (fpToBytes (c2 := 32) HM.out.drew H1.out.drew E1.out I0.out H2.out.drew (k2 := 0) rfl (Nat.zero_lt_two) HNE.out) (fun _ w1 ⟨he1, wm1, u1, v1⟩ => ⟨_, he1, trivial, ?_⟩)
  have x1 := (Upd2.of u1 v1 HNE.out).drew
  clear u1 v1 he1
  refine k_end ?_
  go_simp
  go_upto_region 2 with (fail)
  refine wp_region_atS (opsAt Tryd.f85 2) ((true, 0) :: (true, 1) :: (true, 2) :: (true, 3) :: (true, 4) :: (false, 5) :: []) (fun _ => True) (by kernel_rfl) rfl (by kernel_rfl) (fun _ _ d _ _ h => by cases d <;> exact h) (by kernel_rfl) (by kernel_rfl) trivial ?_
  refine k_pure (by kernel_rfl) (d := (some 13)) (by kernel_rfl) (v := .pointer (some ⟨b1, o1, none⟩)) (fun _ => by kernel_rfl) ?_
  refine k_pure (by kernel_rfl) (d := (some 14)) (by kernel_rfl) (v := .pointer (some ⟨b1, o1, none⟩)) (fun _ => by kernel_rfl) ?_
  refine k_pure (by kernel_rfl) (d := (some 15)) (by kernel_rfl) (v := .pointer (some ⟨b1, o1 + 16, none⟩)) (fun _ => by kernel_rfl) ?_
  refine k_pure (by kernel_rfl) (d := (some 16)) (by kernel_rfl) (v := .slice (some ⟨b2, 0, none⟩) 32 32) (fun _ => by kernel_rfl) ?_
  refine k_pure (by kernel_rfl) (d := (some 17)) (by kernel_rfl) (v := .slice (some ⟨b2, 16, none⟩) 16 16) (fun _ => by kernel_rfl) ?_
  refine k_callR (by kernel_rfl) (d := (some 18)) (by kernel_rfl) (f := 74) (args := #[.pointer (some ⟨b1, o1 + 16, none⟩), .slice (some ⟨b2, 16, none⟩) 16 16]) (fun _ => by kernel_rfl) (fpToBytes (c2 := 16) (HM.out.upd2 x1 HG.out.1 HG.out.2).drew x1.blk1.drew (e16 E1.out) I1.out x1.blk2.drew (k2 := 1) rfl (Nat.one_lt_two) HNE.out) (fun _ w2 ⟨he2, wm2, u2, v2⟩ => ⟨_, he2, trivial, ?_⟩)
  have x2 := x1.trans (Upd2.of u2 v2 HNE.out).drew
  clear u2 v2 he2 x1
  have HX := Lib.hid x2
  clear x2
  refine k_end ?_
  go_simp
  go_wp2_with fail
  go_end0
  exact ⟨rfl, HX.out⟩
set_option maxRecDepth 100000 in
set_option maxHeartbeats 1000000 in
theorem fqFromBytes (hm : ModW w) (hg : 5 ≤ b1) (h1 : FpsZ w b1 L1) (e1 : o1 = 16 * k1) (i1 : k1 + 1 < L1.length) (h2 : Fps w b2 [u, v]) (hne : b1 ≠ b2) (hu : LowB u) (hv : LowB v) :
    Calls Tryd.prog 87 #[.pointer (some ⟨b1, o1, none⟩), .slice (some ⟨b2, 0, none⟩) 32 32] w fun e w' => e = .returned (.bool true) ∧ UpdZ w w' b1 ((L1.set k1 (zp u)).set (k1 + 1) (zp v)) := by
  have HM := Lib.hid hm
  have H1 := Lib.hid h1
  have E1 := Lib.hid e1
  have I1 := Lib.hid i1
  have H2 := Lib.hid h2
  have HNE := Lib.hid hne
  have HG := Lib.hid hg
  have HU := Lib.hid hu
  have HV := Lib.hid hv
  clear hm h1 e1 i1 h2 hne hg hu hv
  go_enter Tryd.func87, Tryd.ntmps87
  go_upto_region 2 with (fail)
  refine wp_region_atS (opsAt Tryd.f87 2) ((true, 0) :: (true, 1) :: (true, 2) :: (true, 3) :: (true, 4) :: (false, 5) :: (true, 6) :: (true, 7) :: (true, 8) :: (true, 9) :: (true, 10) :: (true, 11) :: (false, 12) :: (true, 13) :: (true, 14) :: []) (fun _ => True) (by kernel_rfl) rfl (by kernel_rfl) (fun _ _ d _ _ h => by cases d <;> exact h) (by kernel_rfl) (by kernel_rfl) trivial ?_
  refine k_pure (by kernel_rfl) (d := (some 8)) (by kernel_rfl) (v := .pointer (some ⟨b1, o1, none⟩)) (fun _ => by kernel_rfl) ?_
  refine k_pure (by kernel_rfl) (d := (some 9)) (by kernel_rfl) (v := .pointer (some ⟨b1, o1, none⟩)) (fun _ => by kernel_rfl) ?_
  refine k_pure (by kernel_rfl) (d := (some 10)) (by kernel_rfl) (v := .pointer (some ⟨b1, o1, none⟩)) (fun _ => by kernel_rfl) ?_
  refine k_pure (by kernel_rfl) (d := (some 11)) (by kernel_rfl) (v := .slice (some ⟨b2, 0, none⟩) 32 32) (fun _ => by kernel_rfl) ?_
  refine k_pure (by kernel_rfl) (d := (some 12)) (by kernel_rfl) (v := .slice (some ⟨b2, 0, none⟩) 16 32) (fun _ => by kernel_rfl) ?_
  refine k_callR (by kernel_rfl) (d := (some 13)) (by kernel_rfl) (f := 75) (args := #[.pointer (some ⟨b1, o1, none⟩), .slice (some ⟨b2, 0, none⟩) 16 32]) (fun _ => by kernel_rfl) (fpFromBytes (c2 := 32) HM.out.drew HG.out H1.out.drew E1.out (Nat.lt_of_succ_lt I1.out) (H2.out.c16 (k := 0) rfl rfl) HU.out) (fun _ w1 ⟨he1, u1, _⟩ => ⟨_, he1, trivial, ?_⟩)
  have x1 := u1.ofDrew
  clear u1 he1
  refine k_pure (by kernel_rfl) (d := (some 14)) (by kernel_rfl) (v := .bool true) (fun _ => by kernel_rfl) ?_
  refine k_pure (by kernel_rfl) (d := (some 15)) (by kernel_rfl) (v := .pointer (some ⟨b1, o1, none⟩)) (fun _ => by kernel_rfl) ?_
  refine k_pure (by kernel_rfl) (d := (some 16)) (by kernel_rfl) (v := .pointer (some ⟨b1, o1, none⟩)) (fun _ => by kernel_rfl) ?_
  refine k_pure (by kernel_rfl) (d := (some 17)) (by kernel_rfl) (v := .pointer (some ⟨b1, o1 + 16, none⟩)) (fun _ => by kernel_rfl) ?_
  refine k_pure (by kernel_rfl) (d := (some 18)) (by kernel_rfl) (v := .slice (some ⟨b2, 0, none⟩) 32 32) (fun _ => by kernel_rfl) ?_
  refine k_pure (by kernel_rfl) (d := (some 19)) (by kernel_rfl) (v := .slice (some ⟨b2, 16, none⟩) 16 16) (fun _ => by kernel_rfl) ?_
  refine k_callR (by kernel_rfl) (d := (some 20)) (by kernel_rfl) (f := 75) (args := #[.pointer (some ⟨b1, o1 + 16, none⟩), .slice (some ⟨b2, 16, none⟩) 16 16]) (fun _ => by kernel_rfl) (fpFromBytes (c2 := 16) (HM.out.updZ (Nat.lt_of_lt_of_le (by decide) HG.out) x1) HG.out x1.blk (e16 E1.out) (len_set I1.out) ((H2.out.of_heap (x1.other _ H2.out.lt (Ne.symm HNE.out))).c16 (k := 1) rfl rfl) HV.out) (fun _ w2 ⟨he2, u2, _⟩ => ⟨_, he2, trivial, ?_⟩)
  have HX := Lib.hid (x1.trans u2)
  clear u2 he2 x1
  refine k_pure (by kernel_rfl) (d := (some 21)) (by kernel_rfl) (v := .bool true) (fun _ => by kernel_rfl) ?_
  refine k_pure (by kernel_rfl) (d := (some 4)) (by kernel_rfl) (v := .bool true) (fun _ => by kernel_rfl) ?_
  refine k_end ?_
  go_simp
  go_wp2_with fail
  go_ret
  exact ⟨rfl, HX.out⟩
theorem low_valZ (x : Zp) : x.val < 2 ^ 127 := Nat.lt_trans x.lt (by decide +kernel)
theorem sgnV {s : Int} (hs : sgnQ z0 z1 = s) (hm : ModW w) (hg : 4 < b1) (h1 : FpsZ w b1 L1) (e1 : o1 = 16 * k1) (i0 : L1[k1]? = some z0) (i1 : L1[k1 + 1]? = some z1) :
    Calls Tryd.prog 86 #[.pointer (some ⟨b1, o1, none⟩)] w fun e w' => e = .returned (.int .i64 s) ∧ UpdZ w w' b1 L1 := hs ▸ fqSgn hm hg h1 e1 i0 i1
theorem run_orOp {P : Program} {ρ : Operand → Value} {o : Oper} {w : World} {x y : Operand} {t t' : TypeId} {a b c : Int} (ho : o.op = .binOp .or t x y t') (hx : ρ x = .int .u8 a) (hy : ρ y = .int .u8 b) (h : bits .or .u8 a b = c) : (execOp ρ o).run P w = .ok (.value (.int .u8 c)) w := by
  unfold execOp
  simp [ho, hx, hy, eqGuard, binOp_or, intBits_or, h]
set_option maxRecDepth 100000 in
set_option maxHeartbeats 1000000 in
theorem marshalP {x y : Zq} (hs : sgnQ x.re x.im = 1) (hm : ModW w) (hg : 5 ≤ b1 ∧ 5 ≤ b2) (h1 : FpsZ w b1 (flat [x, y])) (h2 : Fps w b2 [u, v]) (hne : b1 ≠ b2) :
    Calls Tryd.prog 71 #[.pointer (some ⟨b1, 0, none⟩), .pointer (some ⟨b2, 0, none⟩)] w fun e w' => e = .returned (.tuple #[]) ∧ Upd2 w w' b1 (flat [x, y]) b2 [y.re.val, top 0 y.im.val] := by
  have HM := Lib.hid hm
  have H1 := Lib.hid h1
  have H2 := Lib.hid h2
  have HNE := Lib.hid hne
  have HG := Lib.hid hg
  have HS := Lib.hid hs
  clear hm h1 h2 hne hg hs
  go_enter Tryd.func71, Tryd.ntmps71
  go_upto_region 0 with (fail)
  refine wp_region_atS (opsAt Tryd.f71 0) ((true, 0) :: (true, 1) :: (true, 2) :: (true, 3) :: (true, 4) :: (true, 5) :: (false, 6) :: []) (fun _ => True) (by kernel_rfl) rfl (by kernel_rfl) (fun _ _ d _ _ h => by cases d <;> exact h) (by kernel_rfl) (by kernel_rfl) trivial ?_
  refine k_pure (by kernel_rfl) (d := (some 5)) (by kernel_rfl) (v := .pointer (some ⟨b1, 0, none⟩)) (fun _ => by kernel_rfl) ?_
  refine k_pure (by kernel_rfl) (d := (some 6)) (by kernel_rfl) (v := .pointer (some ⟨b1, 0, none⟩)) (fun _ => by kernel_rfl) ?_
  refine k_pure (by kernel_rfl) (d := (some 7)) (by kernel_rfl) (v := .pointer (some ⟨b1, 32, none⟩)) (fun _ => by kernel_rfl) ?_
  refine k_pure (by kernel_rfl) (d := (some 8)) (by kernel_rfl) (v := .pointer (some ⟨b2, 0, none⟩)) (fun _ => by kernel_rfl) ?_
  refine k_pure (by kernel_rfl) (d := (some 9)) (by kernel_rfl) (v := .pointer (some ⟨b2, 0, none⟩)) (fun _ => by kernel_rfl) ?_
  refine k_pure (by kernel_rfl) (d := (some 10)) (by kernel_rfl) (v := .slice (some ⟨b2, 0, none⟩) 32 32) (fun _ => by kernel_rfl) ?_
  refine k_callR (by kernel_rfl) (d := (some 11)) (by kernel_rfl) (f := 85) (args := #[.pointer (some ⟨b1, 32, none⟩), .slice (some ⟨b2, 0, none⟩) 32 32]) (fun _ => by kernel_rfl) (fqToBytes HM.out.drew HG.out H1.out.drew (k1 := 2) rfl rfl rfl H2.out.drew HNE.out) (fun _ w1 ⟨he1, u1⟩ => ⟨_, he1, trivial, ?_⟩)
  have x1 := u1.drew
  clear u1 he1
  refine k_end ?_
  go_simp
  go_upto_region 1 with (fail)
  refine wp_seq_atS (opsAt Tryd.f71 1) ((true, 0) :: (true, 1) :: (true, 2) :: (false, 3) :: (true, 4) :: (true, 5) :: (true, 6) :: []) (fun _ => True) (by kernel_rfl) (by kernel_rfl) trivial ?_
  refine k_pure (by kernel_rfl) (d := (some 12)) (by kernel_rfl) (v := .pointer (some ⟨b1, 0, none⟩)) (fun _ => by kernel_rfl) ?_
  refine k_pure (by kernel_rfl) (d := (some 13)) (by kernel_rfl) (v := .pointer (some ⟨b1, 0, none⟩)) (fun _ => by kernel_rfl) ?_
  refine k_pure (by kernel_rfl) (d := (some 14)) (by kernel_rfl) (v := .pointer (some ⟨b1, 0, none⟩)) (fun _ => by kernel_rfl) ?_
  refine k_callR (by kernel_rfl) (d := (some 15)) (by kernel_rfl) (f := 86) (args := #[.pointer (some ⟨b1, 0, none⟩)]) (fun _ => by kernel_rfl) (sgnV HS.out (HM.out.upd2 x1 HG.out.1 HG.out.2) (Nat.lt_of_lt_of_le (by decide) HG.out.1) x1.blk1 (k1 := 0) rfl rfl rfl) (fun _ w2 ⟨he2, u2⟩ => ⟨_, he2, trivial, ?_⟩)
  have x2 := x1.thenZ u2 HNE.out
  clear u2 he2 x1
  refine k_pure (by kernel_rfl) (d := (some 16)) (by kernel_rfl) (v := .int .i64 0) (fun _ => by kernel_rfl) ?_
  refine k_pure (by kernel_rfl) (d := (some 17)) (by kernel_rfl) (v := .int .i64 0) (fun _ => by kernel_rfl) ?_
  refine k_pure (by kernel_rfl) (d := (some 4)) (by kernel_rfl) (v := .int .i64 0) (fun _ => by kernel_rfl) ?_
  refine k_end ?_
  go_simp
  go_upto_region 2 with (fail)
  obtain ⟨n, hn, hb⟩ := top_15 (low_valZ y.im)
  have hc := x2.blk2.cell (k := 1) rfl (o := 16) rfl 15 (by decide)
  have hc0 : byteV y.im.val 15 = .int .u8 (n : Int) := by have := hb 0 (.inl rfl); rwa [top0, Nat.mul_zero, Nat.add_zero] at this
  rw [hc0] at hc
  refine wp_region_atS (opsAt Tryd.f71 2) ((true, 0) :: (true, 1) :: (true, 2) :: (true, 4) :: (true, 5) :: (true, 6) :: (true, 8) :: (false, 3) :: (true, 7) :: (true, 9) :: (false, 10) :: []) (fun _ => True) (by kernel_rfl) rfl (by kernel_rfl) (fun _ _ d _ _ h => by cases d <;> exact h) (by kernel_rfl) (by kernel_rfl) trivial ?_
  refine k_pure (by kernel_rfl) (d := (some 18)) (by kernel_rfl) (v := .pointer (some ⟨b2, 0, none⟩)) (fun _ => by kernel_rfl) ?_
  refine k_pure (by kernel_rfl) (d := (some 19)) (by kernel_rfl) (v := .pointer (some ⟨b2, 0, none⟩)) (fun _ => by kernel_rfl) ?_
  refine k_pure (by kernel_rfl) (d := (some 20)) (by kernel_rfl) (v := .pointer (some ⟨b2, 31, none⟩)) (fun _ => by kernel_rfl) ?_
  refine k_pure (by kernel_rfl) (d := (some 22)) (by kernel_rfl) (v := .int .i64 0) (fun _ => by kernel_rfl) ?_
  refine k_pure (by kernel_rfl) (d := (some 23)) (by kernel_rfl) (v := .int .u8 0) (fun _ => by kernel_rfl) ?_
  refine k_pure (by kernel_rfl) (d := (some 24)) (by kernel_rfl) (v := .int .u8 0) (fun _ => by kernel_rfl) ?_
  refine k_pure (by kernel_rfl) (d := (some 26)) (by kernel_rfl) (v := .pointer (some ⟨b2, 0, none⟩)) (fun _ => by kernel_rfl) ?_
  refine k_make (by kernel_rfl) (d := (some 21)) (by kernel_rfl) (v := .int .u8 (n : Int)) (run_loadB (ty := 5) (x := (.tmp 20)) (b := b2) (off := 31) (by kernel_rfl) (by kernel_rfl) Tryd.underlying5 (hc)) trivial ?_
  intro w3 hw3 _
  subst hw3
  refine k_pure (by kernel_rfl) (d := (some 25)) (by kernel_rfl) (v := .int .u8 (n : Int)) (fun _ => run_orOp (x := .tmp 21) (y := .tmp 24) (t := 5) (t' := 5) (by kernel_rfl) (by kernel_rfl) (by kernel_rfl) (or0 n hn)) ?_
  refine k_pure (by kernel_rfl) (d := (some 27)) (by kernel_rfl) (v := .pointer (some ⟨b2, 31, none⟩)) (fun _ => by kernel_rfl) ?_
  refine k_skipOp (by kernel_rfl) (d := none) (by kernel_rfl) (run_storeB (ty := 5) (k := .u8) (n := (n : Int)) (x := (.tmp 27)) (y := (.tmp 25)) (b := b2) (off := 31) (by kernel_rfl) (by kernel_rfl) (by kernel_rfl) (by kernel_rfl) (hc) (x2.blk2.free _)) trivial ?_
  intro w4 hw4 _
  have hu := upd_byte x2.blk2.drew (k := 1) rfl (i := 15) (o := 31) (by decide) rfl (x' := top 0 y.im.val) (top_bytes (s := 0)) (v := .int .u8 (n : Int)) (by rw [hb 0 (.inl rfl)]; rfl)
  rw [← hw4] at hu
  have HX := Lib.hid (x2.thenB hu.ofDrew HNE.out)
  clear hu hw4 x2 hc hc0 hb hn
  refine k_end ?_
  go_simp
  go_wp2_with fail
  go_end0
  exact ⟨rfl, HX.out⟩
set_option maxRecDepth 100000 in
set_option maxHeartbeats 1000000 in
theorem marshalZ {x y : Zq} (hs : sgnQ x.re x.im = 0) (hm : ModW w) (hg : 5 ≤ b1 ∧ 5 ≤ b2) (h1 : FpsZ w b1 (flat [x, y])) (h2 : Fps w b2 [u, v]) (hne : b1 ≠ b2) :
    Calls Tryd.prog 71 #[.pointer (some ⟨b1, 0, none⟩), .pointer (some ⟨b2, 0, none⟩)] w fun e w' => e = .returned (.tuple #[]) ∧ Upd2 w w' b1 (flat [x, y]) b2 [y.re.val, top 0 y.im.val] := by
  have HM := Lib.hid hm
  have H1 := Lib.hid h1
  have H2 := Lib.hid h2
  have HNE := Lib.hid hne
  have HG := Lib.hid hg
  have HS := Lib.hid hs
  clear hm h1 h2 hne hg hs
  go_enter Tryd.func71, Tryd.ntmps71
  go_upto_region 0 with (fail)
  refine wp_region_atS (opsAt Tryd.f71 0) ((true, 0) :: (true, 1) :: (true, 2) :: (true, 3) :: (true, 4) :: (true, 5) :: (false, 6) :: []) (fun _ => True) (by kernel_rfl) rfl (by kernel_rfl) (fun _ _ d _ _ h => by cases d <;> exact h) (by kernel_rfl) (by kernel_rfl) trivial ?_
  refine k_pure (by kernel_rfl) (d := (some 5)) (by kernel_rfl) (v := .pointer (some ⟨b1, 0, none⟩)) (fun _ => by kernel_rfl) ?_
  refine k_pure (by kernel_rfl) (d := (some 6)) (by kernel_rfl) (v := .pointer (some ⟨b1, 0, none⟩)) (fun _ => by kernel_rfl) ?_
  refine k_pure (by kernel_rfl) (d := (some 7)) (by kernel_rfl) (v := .pointer (some ⟨b1, 32, none⟩)) (fun _ => by kernel_rfl) ?_
  refine k_pure (by kernel_rfl) (d := (some 8)) (by kernel_rfl) (v := .pointer (some ⟨b2, 0, none⟩)) (fun _ => by kernel_rfl) ?_
  refine k_pure (by kernel_rfl) (d := (some 9)) (by kernel_rfl) (v := .pointer (some ⟨b2, 0, none⟩)) (fun _ => by kernel_rfl) ?_
  refine k_pure (by kernel_rfl) (d := (some 10)) (by kernel_rfl) (v := .slice (some ⟨b2, 0, none⟩) 32 32) (fun _ => by kernel_rfl) ?_
  refine k_callR (by kernel_rfl) (d := (some 11)) (by kernel_rfl) (f := 85) (args := #[.pointer (some ⟨b1, 32, none⟩), .slice (some ⟨b2, 0, none⟩) 32 32]) (fun _ => by kernel_rfl) (fqToBytes HM.out.drew HG.out H1.out.drew (k1 := 2) rfl rfl rfl H2.out.drew HNE.out) (fun _ w1 ⟨he1, u1⟩ => ⟨_, he1, trivial, ?_⟩)
  have x1 := u1.drew
  clear u1 he1
  refine k_end ?_
  go_simp
  go_upto_region 1 with (fail)
  refine wp_seq_atS (opsAt Tryd.f71 1) ((true, 0) :: (true, 1) :: (true, 2) :: (false, 3) :: (true, 4) :: (true, 5) :: (true, 6) :: []) (fun _ => True) (by kernel_rfl) (by kernel_rfl) trivial ?_
  refine k_pure (by kernel_rfl) (d := (some 12)) (by kernel_rfl) (v := .pointer (some ⟨b1, 0, none⟩)) (fun _ => by kernel_rfl) ?_
  refine k_pure (by kernel_rfl) (d := (some 13)) (by kernel_rfl) (v := .pointer (some ⟨b1, 0, none⟩)) (fun _ => by kernel_rfl) ?_
  refine k_pure (by kernel_rfl) (d := (some 14)) (by kernel_rfl) (v := .pointer (some ⟨b1, 0, none⟩)) (fun _ => by kernel_rfl) ?_
  refine k_callR (by kernel_rfl) (d := (some 15)) (by kernel_rfl) (f := 86) (args := #[.pointer (some ⟨b1, 0, none⟩)]) (fun _ => by kernel_rfl) (sgnV HS.out (HM.out.upd2 x1 HG.out.1 HG.out.2) (Nat.lt_of_lt_of_le (by decide) HG.out.1) x1.blk1 (k1 := 0) rfl rfl rfl) (fun _ w2 ⟨he2, u2⟩ => ⟨_, he2, trivial, ?_⟩)
  have x2 := x1.thenZ u2 HNE.out
  clear u2 he2 x1
  refine k_pure (by kernel_rfl) (d := (some 16)) (by kernel_rfl) (v := .int .i64 1) (fun _ => by kernel_rfl) ?_
  refine k_pure (by kernel_rfl) (d := (some 17)) (by kernel_rfl) (v := .int .i64 0) (fun _ => by kernel_rfl) ?_
  refine k_pure (by kernel_rfl) (d := (some 4)) (by kernel_rfl) (v := .int .i64 0) (fun _ => by kernel_rfl) ?_
  refine k_end ?_
  go_simp
  go_upto_region 2 with (fail)
  obtain ⟨n, hn, hb⟩ := top_15 (low_valZ y.im)
  have hc := x2.blk2.cell (k := 1) rfl (o := 16) rfl 15 (by decide)
  have hc0 : byteV y.im.val 15 = .int .u8 (n : Int) := by have := hb 0 (.inl rfl); rwa [top0, Nat.mul_zero, Nat.add_zero] at this
  rw [hc0] at hc
  refine wp_region_atS (opsAt Tryd.f71 2) ((true, 0) :: (true, 1) :: (true, 2) :: (true, 4) :: (true, 5) :: (true, 6) :: (true, 8) :: (false, 3) :: (true, 7) :: (true, 9) :: (false, 10) :: []) (fun _ => True) (by kernel_rfl) rfl (by kernel_rfl) (fun _ _ d _ _ h => by cases d <;> exact h) (by kernel_rfl) (by kernel_rfl) trivial ?_
  refine k_pure (by kernel_rfl) (d := (some 18)) (by kernel_rfl) (v := .pointer (some ⟨b2, 0, none⟩)) (fun _ => by kernel_rfl) ?_
  refine k_pure (by kernel_rfl) (d := (some 19)) (by kernel_rfl) (v := .pointer (some ⟨b2, 0, none⟩)) (fun _ => by kernel_rfl) ?_
  refine k_pure (by kernel_rfl) (d := (some 20)) (by kernel_rfl) (v := .pointer (some ⟨b2, 31, none⟩)) (fun _ => by kernel_rfl) ?_
  refine k_pure (by kernel_rfl) (d := (some 22)) (by kernel_rfl) (v := .int .i64 0) (fun _ => by kernel_rfl) ?_
  refine k_pure (by kernel_rfl) (d := (some 23)) (by kernel_rfl) (v := .int .u8 0) (fun _ => by kernel_rfl) ?_
  refine k_pure (by kernel_rfl) (d := (some 24)) (by kernel_rfl) (v := .int .u8 0) (fun _ => by kernel_rfl) ?_
  refine k_pure (by kernel_rfl) (d := (some 26)) (by kernel_rfl) (v := .pointer (some ⟨b2, 0, none⟩)) (fun _ => by kernel_rfl) ?_
  refine k_make (by kernel_rfl) (d := (some 21)) (by kernel_rfl) (v := .int .u8 (n : Int)) (run_loadB (ty := 5) (x := (.tmp 20)) (b := b2) (off := 31) (by kernel_rfl) (by kernel_rfl) Tryd.underlying5 (hc)) trivial ?_
  intro w3 hw3 _
  subst hw3
  refine k_pure (by kernel_rfl) (d := (some 25)) (by kernel_rfl) (v := .int .u8 (n : Int)) (fun _ => run_orOp (x := .tmp 21) (y := .tmp 24) (t := 5) (t' := 5) (by kernel_rfl) (by kernel_rfl) (by kernel_rfl) (or0 n hn)) ?_
  refine k_pure (by kernel_rfl) (d := (some 27)) (by kernel_rfl) (v := .pointer (some ⟨b2, 31, none⟩)) (fun _ => by kernel_rfl) ?_
  refine k_skipOp (by kernel_rfl) (d := none) (by kernel_rfl) (run_storeB (ty := 5) (k := .u8) (n := (n : Int)) (x := (.tmp 27)) (y := (.tmp 25)) (b := b2) (off := 31) (by kernel_rfl) (by kernel_rfl) (by kernel_rfl) (by kernel_rfl) (hc) (x2.blk2.free _)) trivial ?_
  intro w4 hw4 _
  have hu := upd_byte x2.blk2.drew (k := 1) rfl (i := 15) (o := 31) (by decide) rfl (x' := top 0 y.im.val) (top_bytes (s := 0)) (v := .int .u8 (n : Int)) (by rw [hb 0 (.inl rfl)]; rfl)
  rw [← hw4] at hu
  have HX := Lib.hid (x2.thenB hu.ofDrew HNE.out)
  clear hu hw4 x2 hc hc0 hb hn
  refine k_end ?_
  go_simp
  go_wp2_with fail
  go_end0
  exact ⟨rfl, HX.out⟩
set_option maxRecDepth 100000 in
set_option maxHeartbeats 1000000 in
theorem marshalM {x y : Zq} (hs : sgnQ x.re x.im = (-1)) (hm : ModW w) (hg : 5 ≤ b1 ∧ 5 ≤ b2) (h1 : FpsZ w b1 (flat [x, y])) (h2 : Fps w b2 [u, v]) (hne : b1 ≠ b2) :
    Calls Tryd.prog 71 #[.pointer (some ⟨b1, 0, none⟩), .pointer (some ⟨b2, 0, none⟩)] w fun e w' => e = .returned (.tuple #[]) ∧ Upd2 w w' b1 (flat [x, y]) b2 [y.re.val, top 1 y.im.val] := by
  have HM := Lib.hid hm
  have H1 := Lib.hid h1
  have H2 := Lib.hid h2
  have HNE := Lib.hid hne
  have HG := Lib.hid hg
  have HS := Lib.hid hs
  clear hm h1 h2 hne hg hs
  go_enter Tryd.func71, Tryd.ntmps71
  go_upto_region 0 with (fail)
  refine wp_region_atS (opsAt Tryd.f71 0) ((true, 0) :: (true, 1) :: (true, 2) :: (true, 3) :: (true, 4) :: (true, 5) :: (false, 6) :: []) (fun _ => True) (by kernel_rfl) rfl (by kernel_rfl) (fun _ _ d _ _ h => by cases d <;> exact h) (by kernel_rfl) (by kernel_rfl) trivial ?_
  refine k_pure (by kernel_rfl) (d := (some 5)) (by kernel_rfl) (v := .pointer (some ⟨b1, 0, none⟩)) (fun _ => by kernel_rfl) ?_
  refine k_pure (by kernel_rfl) (d := (some 6)) (by kernel_rfl) (v := .pointer (some ⟨b1, 0, none⟩)) (fun _ => by kernel_rfl) ?_
  refine k_pure (by kernel_rfl) (d := (some 7)) (by kernel_rfl) (v := .pointer (some ⟨b1, 32, none⟩)) (fun _ => by kernel_rfl) ?_
  refine k_pure (by kernel_rfl) (d := (some 8)) (by kernel_rfl) (v := .pointer (some ⟨b2, 0, none⟩)) (fun _ => by kernel_rfl) ?_
  refine k_pure (by kernel_rfl) (d := (some 9)) (by kernel_rfl) (v := .pointer (some ⟨b2, 0, none⟩)) (fun _ => by kernel_rfl) ?_
  refine k_pure (by kernel_rfl) (d := (some 10)) (by kernel_rfl) (v := .slice (some ⟨b2, 0, none⟩) 32 32) (fun _ => by kernel_rfl) ?_
  refine k_callR (by kernel_rfl) (d := (some 11)) (by kernel_rfl) (f := 85) (args := #[.pointer (some ⟨b1, 32, none⟩), .slice (some ⟨b2, 0, none⟩) 32 32]) (fun _ => by kernel_rfl) (fqToBytes HM.out.drew HG.out H1.out.drew (k1 := 2) rfl rfl rfl H2.out.drew HNE.out) (fun _ w1 ⟨he1, u1⟩ => ⟨_, he1, trivial, ?_⟩)
  have x1 := u1.drew
  clear u1 he1
  refine k_end ?_
  go_simp
  go_upto_region 1 with (fail)
  refine wp_seq_atS (opsAt Tryd.f71 1) ((true, 0) :: (true, 1) :: (true, 2) :: (false, 3) :: (true, 4) :: (true, 5) :: (true, 6) :: []) (fun _ => True) (by kernel_rfl) (by kernel_rfl) trivial ?_
  refine k_pure (by kernel_rfl) (d := (some 12)) (by kernel_rfl) (v := .pointer (some ⟨b1, 0, none⟩)) (fun _ => by kernel_rfl) ?_
  refine k_pure (by kernel_rfl) (d := (some 13)) (by kernel_rfl) (v := .pointer (some ⟨b1, 0, none⟩)) (fun _ => by kernel_rfl) ?_
  refine k_pure (by kernel_rfl) (d := (some 14)) (by kernel_rfl) (v := .pointer (some ⟨b1, 0, none⟩)) (fun _ => by kernel_rfl) ?_
  refine k_callR (by kernel_rfl) (d := (some 15)) (by kernel_rfl) (f := 86) (args := #[.pointer (some ⟨b1, 0, none⟩)]) (fun _ => by kernel_rfl) (sgnV HS.out (HM.out.upd2 x1 HG.out.1 HG.out.2) (Nat.lt_of_lt_of_le (by decide) HG.out.1) x1.blk1 (k1 := 0) rfl rfl rfl) (fun _ w2 ⟨he2, u2⟩ => ⟨_, he2, trivial, ?_⟩)
  have x2 := x1.thenZ u2 HNE.out
  clear u2 he2 x1
  refine k_pure (by kernel_rfl) (d := (some 16)) (by kernel_rfl) (v := .int .i64 2) (fun _ => by kernel_rfl) ?_
  refine k_pure (by kernel_rfl) (d := (some 17)) (by kernel_rfl) (v := .int .i64 1) (fun _ => by kernel_rfl) ?_
  refine k_pure (by kernel_rfl) (d := (some 4)) (by kernel_rfl) (v := .int .i64 1) (fun _ => by kernel_rfl) ?_
  refine k_end ?_
  go_simp
  go_upto_region 2 with (fail)
  obtain ⟨n, hn, hb⟩ := top_15 (low_valZ y.im)
  have hc := x2.blk2.cell (k := 1) rfl (o := 16) rfl 15 (by decide)
  have hc0 : byteV y.im.val 15 = .int .u8 (n : Int) := by have := hb 0 (.inl rfl); rwa [top0, Nat.mul_zero, Nat.add_zero] at this
  rw [hc0] at hc
  refine wp_region_atS (opsAt Tryd.f71 2) ((true, 0) :: (true, 1) :: (true, 2) :: (true, 4) :: (true, 5) :: (true, 6) :: (true, 8) :: (false, 3) :: (true, 7) :: (true, 9) :: (false, 10) :: []) (fun _ => True) (by kernel_rfl) rfl (by kernel_rfl) (fun _ _ d _ _ h => by cases d <;> exact h) (by kernel_rfl) (by kernel_rfl) trivial ?_
  refine k_pure (by kernel_rfl) (d := (some 18)) (by kernel_rfl) (v := .pointer (some ⟨b2, 0, none⟩)) (fun _ => by kernel_rfl) ?_
  refine k_pure (by kernel_rfl) (d := (some 19)) (by kernel_rfl) (v := .pointer (some ⟨b2, 0, none⟩)) (fun _ => by kernel_rfl) ?_
  refine k_pure (by kernel_rfl) (d := (some 20)) (by kernel_rfl) (v := .pointer (some ⟨b2, 31, none⟩)) (fun _ => by kernel_rfl) ?_
  refine k_pure (by kernel_rfl) (d := (some 22)) (by kernel_rfl) (v := .int .i64 1) (fun _ => by kernel_rfl) ?_
  refine k_pure (by kernel_rfl) (d := (some 23)) (by kernel_rfl) (v := .int .u8 1) (fun _ => by kernel_rfl) ?_
  refine k_pure (by kernel_rfl) (d := (some 24)) (by kernel_rfl) (v := .int .u8 128) (fun _ => by kernel_rfl) ?_
  refine k_pure (by kernel_rfl) (d := (some 26)) (by kernel_rfl) (v := .pointer (some ⟨b2, 0, none⟩)) (fun _ => by kernel_rfl) ?_
  refine k_make (by kernel_rfl) (d := (some 21)) (by kernel_rfl) (v := .int .u8 (n : Int)) (run_loadB (ty := 5) (x := (.tmp 20)) (b := b2) (off := 31) (by kernel_rfl) (by kernel_rfl) Tryd.underlying5 (hc)) trivial ?_
  intro w3 hw3 _
  subst hw3
  refine k_pure (by kernel_rfl) (d := (some 25)) (by kernel_rfl) (v := .int .u8 ((n + 128 : Nat) : Int)) (fun _ => run_orOp (x := .tmp 21) (y := .tmp 24) (t := 5) (t' := 5) (by kernel_rfl) (by kernel_rfl) (by kernel_rfl) (or128 n hn)) ?_
  refine k_pure (by kernel_rfl) (d := (some 27)) (by kernel_rfl) (v := .pointer (some ⟨b2, 31, none⟩)) (fun _ => by kernel_rfl) ?_
  refine k_skipOp (by kernel_rfl) (d := none) (by kernel_rfl) (run_storeB (ty := 5) (k := .u8) (n := ((n + 128 : Nat) : Int)) (x := (.tmp 27)) (y := (.tmp 25)) (b := b2) (off := 31) (by kernel_rfl) (by kernel_rfl) (by kernel_rfl) (by kernel_rfl) (hc) (x2.blk2.free _)) trivial ?_
  intro w4 hw4 _
  have hu := upd_byte x2.blk2.drew (k := 1) rfl (i := 15) (o := 31) (by decide) rfl (x' := top 1 y.im.val) (top_bytes (s := 0)) (v := .int .u8 ((n + 128 : Nat) : Int)) (by rw [hb 1 (.inr rfl)])
  rw [← hw4] at hu
  have HX := Lib.hid (x2.thenB hu.ofDrew HNE.out)
  clear hu hw4 x2 hc hc0 hb hn
  refine k_end ?_
  go_simp
  go_wp2_with fail
  go_end0
  exact ⟨rfl, HX.out⟩
end
end Go.Proofs.YtfkfljohhabldaaDoor
namespace Go.FourQ
theorem sq_1 (a g s : Zp) : ((((a + s) * (a + s)) - (g * g)) - (a * ((a + s) + (a + s)))) = ((s * s) - ((a * a) + (g * g))) := ring_eq zpR (fun i => [a, g, s].getD i 0) (.sub (.sub (.mul (.add (.v 0) (.v 2)) (.add (.v 0) (.v 2))) (.mul (.v 1) (.v 1))) (.mul (.v 0) (.add (.add (.v 0) (.v 2)) (.add (.v 0) (.v 2))))) (.sub (.mul (.v 2) (.v 2)) (.add (.mul (.v 0) (.v 0)) (.mul (.v 1) (.v 1)))) (by kernel_rfl)
theorem sq_2 (b g m r : Zp) : (b * ((((r * b) * m) * ((r * b) * m)) - (((r * b) * g) * ((r * b) * g)))) = (((r * r) * ((b * b) * b)) * ((m * m) - (g * g))) := ring_eq zpR (fun i => [b, g, m, r].getD i 0) (.mul (.v 0) (.sub (.mul (.mul (.mul (.v 3) (.v 0)) (.v 2)) (.mul (.mul (.v 3) (.v 0)) (.v 2))) (.mul (.mul (.mul (.v 3) (.v 0)) (.v 1)) (.mul (.mul (.v 3) (.v 0)) (.v 1))))) (.mul (.mul (.mul (.v 3) (.v 3)) (.mul (.mul (.v 0) (.v 0)) (.v 0))) (.sub (.mul (.v 2) (.v 2)) (.mul (.v 1) (.v 1)))) (by kernel_rfl)
theorem sq_3 (a b m r : Zp) : (((r * r) * ((b * b) * b)) * (a * (m + m))) = (((r * r) * ((m + m) * ((b * b) * b))) * a) := ring_eq zpR (fun i => [a, b, m, r].getD i 0) (.mul (.mul (.mul (.v 3) (.v 3)) (.mul (.mul (.v 1) (.v 1)) (.v 1))) (.mul (.v 0) (.add (.v 2) (.v 2)))) (.mul (.mul (.mul (.v 3) (.v 3)) (.mul (.add (.v 2) (.v 2)) (.mul (.mul (.v 1) (.v 1)) (.v 1)))) (.v 0)) (by kernel_rfl)
theorem sq_4 (b g m r : Zp) : (b * ((((r * b) * m) * ((r * b) * g)) + (((r * b) * m) * ((r * b) * g)))) = (((r * r) * ((m + m) * ((b * b) * b))) * g) := ring_eq zpR (fun i => [b, g, m, r].getD i 0) (.mul (.v 0) (.add (.mul (.mul (.mul (.v 3) (.v 0)) (.v 2)) (.mul (.mul (.v 3) (.v 0)) (.v 1))) (.mul (.mul (.mul (.v 3) (.v 0)) (.v 2)) (.mul (.mul (.v 3) (.v 0)) (.v 1))))) (.mul (.mul (.mul (.v 3) (.v 3)) (.mul (.add (.v 2) (.v 2)) (.mul (.mul (.v 0) (.v 0)) (.v 0)))) (.v 1)) (by kernel_rfl)
theorem sq_5 (b m r : Zp) : (b * (((r * b) * (m + m)) * ((r * b) * (m + m)))) = (((r * r) * ((m + m) * ((b * b) * b))) * (m + m)) := ring_eq zpR (fun i => [b, m, r].getD i 0) (.mul (.v 0) (.mul (.mul (.mul (.v 2) (.v 0)) (.add (.v 1) (.v 1))) (.mul (.mul (.v 2) (.v 0)) (.add (.v 1) (.v 1))))) (.mul (.mul (.mul (.v 2) (.v 2)) (.mul (.add (.v 1) (.v 1)) (.mul (.mul (.v 0) (.v 0)) (.v 0)))) (.add (.v 1) (.v 1))) (by kernel_rfl)
theorem sq_6 (u0 u1 v0 v1 : Zp) : ((((u0 * v0) + (u1 * v1)) * ((u0 * v0) + (u1 * v1))) + (((u1 * v0) - (u0 * v1)) * ((u1 * v0) - (u0 * v1)))) = (((u0 * u0) + (u1 * u1)) * ((v0 * v0) + (v1 * v1))) := ring_eq zpR (fun i => [u0, u1, v0, v1].getD i 0) (.add (.mul (.add (.mul (.v 0) (.v 2)) (.mul (.v 1) (.v 3))) (.add (.mul (.v 0) (.v 2)) (.mul (.v 1) (.v 3)))) (.mul (.sub (.mul (.v 1) (.v 2)) (.mul (.v 0) (.v 3))) (.sub (.mul (.v 1) (.v 2)) (.mul (.v 0) (.v 3))))) (.mul (.add (.mul (.v 0) (.v 0)) (.mul (.v 1) (.v 1))) (.add (.mul (.v 2) (.v 2)) (.mul (.v 3) (.v 3)))) (by kernel_rfl)
theorem sq_d (y : Zp) : (y - 1) * (y + 1) = y * y - 1 := ring_eq zpR (fun i => [y, 1].getD i 0) (.mul (.sub (.v 0) (.n 1)) (.add (.v 0) (.n 1))) (.sub (.mul (.v 0) (.v 0)) (.n 1)) (by kernel_rfl)
theorem sq_8 (u0 u1 v0 v1 : Zp) : ((((u0 * v0) + (u1 * v1)) * v0) - (((u1 * v0) - (u0 * v1)) * v1)) = (u0 * ((v0 * v0) + (v1 * v1))) := ring_eq zpR (fun i => [u0, u1, v0, v1].getD i 0) (.sub (.mul (.add (.mul (.v 0) (.v 2)) (.mul (.v 1) (.v 3))) (.v 2)) (.mul (.sub (.mul (.v 1) (.v 2)) (.mul (.v 0) (.v 3))) (.v 3))) (.mul (.v 0) (.add (.mul (.v 2) (.v 2)) (.mul (.v 3) (.v 3)))) (by kernel_rfl)
theorem sq_9 (u0 u1 v0 v1 : Zp) : ((((u0 * v0) + (u1 * v1)) * v1) + (((u1 * v0) - (u0 * v1)) * v0)) = (u1 * ((v0 * v0) + (v1 * v1))) := ring_eq zpR (fun i => [u0, u1, v0, v1].getD i 0) (.add (.mul (.add (.mul (.v 0) (.v 2)) (.mul (.v 1) (.v 3))) (.v 3)) (.mul (.sub (.mul (.v 1) (.v 2)) (.mul (.v 0) (.v 3))) (.v 2))) (.mul (.v 1) (.add (.mul (.v 2) (.v 2)) (.mul (.v 3) (.v 3)))) (by kernel_rfl)
/-- What the code reckons, by the sign e of its power. -/
theorem sqrt_core {a b g s r e : Zp} (hs : s * s = a * a + g * g) (hr : r * r * (((a + s) + (a + s)) * (b * b * b)) = e) :
    b * ((r * b * (a + s)) * (r * b * (a + s)) - (r * b * g) * (r * b * g)) = e * a ∧
    b * ((r * b * (a + s)) * (r * b * g) + (r * b * (a + s)) * (r * b * g)) = e * g ∧
    b * ((r * b * ((a + s) + (a + s))) * (r * b * ((a + s) + (a + s)))) = e * ((a + s) + (a + s)) := by
  have h1 : (a + s) * (a + s) - g * g = a * ((a + s) + (a + s)) := by
    refine zeq_of_sub ?_
    have := sq_1 a g s
    rw [hs, zsub_self] at this
    exact this
  refine ⟨?_, ?_, ?_⟩
  · rw [sq_2, h1, sq_3, hr]
  · rw [sq_4, hr]
  · rw [sq_5, hr]
/-- The sign of a power: 1 or -1. -/
theorem sign_pow {x : Zp} (h : x ≠ 0) : x.pow (2 * 42535295865117307932921825928971026431 + 1) = 1 ∨ x.pow (2 * 42535295865117307932921825928971026431 + 1) = -1 := by
  have e : x.pow (2 * 42535295865117307932921825928971026431 + 1) * x.pow (2 * 42535295865117307932921825928971026431 + 1) = 1 := by
    rw [← zpow_add, show 2 * 42535295865117307932921825928971026431 + 1 + (2 * 42535295865117307932921825928971026431 + 1) = pp - 1 by decide +kernel, zfermat h]
  generalize x.pow (2 * 42535295865117307932921825928971026431 + 1) = y at *
  have h2 : (y - 1) * (y + 1) = 0 := by
    have := sq_d y
    rw [e, zsub_self] at this
    exact this
  rcases zmul_eq_zero h2 with h3 | h3
  · exact .inl (zeq_of_sub h3)
  · right
    refine zeq_of_sub ?_
    rw [← h3]
    show y + - -1 = y + 1
    rw [zneg_neg]
theorem zhalf (t : Zp) : (t + t) * half = t := by rw [zmul_comm, zmul_add, zmul_comm half, two_half]
end Go.FourQ
namespace Go.FourQ
theorem zero1 : ∀ v ∈ [0], LowB v := fun v hv => by rw [show v = 0 by simpa using hv]; exact low_zero
theorem keys8 {c b1 n : Nat} (h1 : c ≠ b1) (hn : c < n) {M0 M1 M2 M3 M4 M5 M6 M7 : List Zp} :
    ∀ p ∈ [(b1, M0), (n, M1), (n + 1, M2), (n + 1 + 1, M3), (n + 1 + 1 + 1, M4), (n + 1 + 1 + 1 + 1, M5), (n + 1 + 1 + 1 + 1 + 1, M6), (n + 1 + 1 + 1 + 1 + 1 + 1, M7)], p.1 ≠ c := fun p hp => by
  simp only [List.mem_cons, List.not_mem_nil, or_false] at hp
  rcases hp with rfl | rfl | rfl | rfl | rfl | rfl | rfl | rfl <;> (simp only; omega)
theorem keys9 {c b1 n p8 : Nat} (h1 : c ≠ b1) (hn : c < n) (h8 : n ≤ p8) {M0 M1 M2 M3 M4 M5 M6 M7 M8 : List Zp} :
    ∀ p ∈ [(b1, M0), (n, M1), (n + 1, M2), (n + 1 + 1, M3), (n + 1 + 1 + 1, M4), (n + 1 + 1 + 1 + 1, M5), (n + 1 + 1 + 1 + 1 + 1, M6), (n + 1 + 1 + 1 + 1 + 1 + 1, M7), (p8, M8)], p.1 ≠ c := fun p hp => by
  simp only [List.mem_cons, List.not_mem_nil, or_false] at hp
  rcases hp with rfl | rfl | rfl | rfl | rfl | rfl | rfl | rfl | rfl <;> (simp only; omega)
theorem keys10 {c b1 n p8 p9 : Nat} (h1 : c ≠ b1) (hn : c < n) (h8 : n ≤ p8) (h9 : n ≤ p9) {M0 M1 M2 M3 M4 M5 M6 M7 M8 M9 : List Zp} :
    ∀ p ∈ [(b1, M0), (n, M1), (n + 1, M2), (n + 1 + 1, M3), (n + 1 + 1 + 1, M4), (n + 1 + 1 + 1 + 1, M5), (n + 1 + 1 + 1 + 1 + 1, M6), (n + 1 + 1 + 1 + 1 + 1 + 1, M7), (p8, M8), (p9, M9)], p.1 ≠ c := fun p hp => by
  simp only [List.mem_cons, List.not_mem_nil, or_false] at hp
  rcases hp with rfl | rfl | rfl | rfl | rfl | rfl | rfl | rfl | rfl | rfl <;> (simp only; omega)
theorem keysT {n p8 p9 : Nat} (h8 : n ≤ p8) (h9 : n ≤ p9) {M1 M2 M3 M4 M5 M6 M7 M8 M9 : List Zp} :
    ∀ p ∈ [(n, M1), (n + 1, M2), (n + 1 + 1, M3), (n + 1 + 1 + 1, M4), (n + 1 + 1 + 1 + 1, M5), (n + 1 + 1 + 1 + 1 + 1, M6), (n + 1 + 1 + 1 + 1 + 1 + 1, M7), (p8, M8), (p9, M9)], n ≤ p.1 := fun p hp => by
  simp only [List.mem_cons, List.not_mem_nil, or_false] at hp
  rcases hp with rfl | rfl | rfl | rfl | rfl | rfl | rfl | rfl | rfl <;> (simp only; omega)
end Go.FourQ
namespace Go.Proofs.YtfkfljohhabldaaDoor
open Go.RowKit Go.FourQ
section
variable {w : World} {b1 b2 b3 o1 o2 o3 k1 : Nat} {L1 : List Zp} {u0 u1 v0 v1 a b g X S t T r q c0 c1 K d0 d1 f0 f1 p0 p1 : Zp}
set_option maxRecDepth 100000 in
set_option maxHeartbeats 1000000 in
theorem fqSqrtW {sg : Int} (hm : ModW w) (hg : 4 < b1) (h1 : FpsZ w b1 L1) (hU : AtQ w b2 o2 u0 u1) (hV : AtQ w b3 o3 v0 v1) (e1 : o1 = 16 * k1) (i1 : k1 + 1 < L1.length) (dU : b2 ≠ b1) (dV : b3 ≠ b1) (ha : u0 * v0 + u1 * v1 = a) (hb : v0 * v0 + v1 * v1 = b) (hgg : u1 * v0 - u0 * v1 = g) (hx : a * a + g * g = X) (hS : X.pow (1 * 2 ^ 125) = S) (ht : (if isz (a + S).val = 1 then a - S else a + S) = t) (htt : t + t = T) (hr : (b * b * b * T).pow 42535295865117307932921825928971026431 = r) (hq : r * b = q) (hc0 : q * T * half = c0) (hc1 : q * g = c1) (hk : (c0 + c0) * (c0 + c0) * b - T = K) (hd0 : (if nz K.val = 1 then c1 else c0) = d0) (hd1 : (if nz K.val = 1 then c0 else c1) = d1) (hf0 : (if df (sgnQ d0 d1) sg = 1 then -d0 else d0) = f0) (hf1 : (if df (sgnQ d0 d1) sg = 1 then -d1 else d1) = f1) (hself : cl L1 k1 p0 p1 = L1) :
    Calls Tryd.prog 83 #[.pointer (some ⟨b1, o1, none⟩), .pointer (some ⟨b2, o2, none⟩), .pointer (some ⟨b3, o3, none⟩), .int .i64 sg] w fun e w' => e = .returned (.tuple #[]) ∧ UpdZ w w' b1 (cl L1 k1 f0 f1) := by
  have E1 := Lib.hid e1
  have I1 := Lib.hid i1
  have HA := Lib.hid ha
  have HB := Lib.hid hb
  have HGG := Lib.hid hgg
  have HX := Lib.hid hx
  have HS := Lib.hid hS
  have HT := Lib.hid ht
  have HTT := Lib.hid htt
  have HR := Lib.hid hr
  have HQ := Lib.hid hq
  have HC0 := Lib.hid hc0
  have HC1 := Lib.hid hc1
  have HK := Lib.hid hk
  have HD0 := Lib.hid hd0
  have HD1 := Lib.hid hd1
  have HF0 := Lib.hid hf0
  have HF1 := Lib.hid hf1
  have HSELF := Lib.hid hself
  clear e1 i1 ha hb hgg hx hS ht htt hr hq hc0 hc1 hk hd0 hd1 hf0 hf1 hself
  go_enter Tryd.func83, Tryd.ntmps83
  go_upto_region 2 with (fail)
  have HN2 := hU.fst.lt
  have HN3 := hV.fst.lt
  have HN1 := h1.lt
  have HG := hm.lt
  have H0 : Sto w [(b1, L1), (w.heap.size, [0]), (w.heap.size + 1, [0]), (w.heap.size + 1 + 1, [0]), (w.heap.size + 1 + 1 + 1, [0]), (w.heap.size + 1 + 1 + 1 + 1, [0]), (w.heap.size + 1 + 1 + 1 + 1 + 1, [0]), (w.heap.size + 1 + 1 + 1 + 1 + 1 + 1, [0])] (((((((w.alloc (.cells #[.int .u8 0, .int .u8 0, .int .u8 0, .int .u8 0, .int .u8 0, .int .u8 0, .int .u8 0, .int .u8 0, .int .u8 0, .int .u8 0, .int .u8 0, .int .u8 0, .int .u8 0, .int .u8 0, .int .u8 0, .int .u8 0] 73)).alloc (.cells #[.int .u8 0, .int .u8 0, .int .u8 0, .int .u8 0, .int .u8 0, .int .u8 0, .int .u8 0, .int .u8 0, .int .u8 0, .int .u8 0, .int .u8 0, .int .u8 0, .int .u8 0, .int .u8 0, .int .u8 0, .int .u8 0] 73)).alloc (.cells #[.int .u8 0, .int .u8 0, .int .u8 0, .int .u8 0, .int .u8 0, .int .u8 0, .int .u8 0, .int .u8 0, .int .u8 0, .int .u8 0, .int .u8 0, .int .u8 0, .int .u8 0, .int .u8 0, .int .u8 0, .int .u8 0] 73)).alloc (.cells #[.int .u8 0, .int .u8 0, .int .u8 0, .int .u8 0, .int .u8 0, .int .u8 0, .int .u8 0, .int .u8 0, .int .u8 0, .int .u8 0, .int .u8 0, .int .u8 0, .int .u8 0, .int .u8 0, .int .u8 0, .int .u8 0] 73)).alloc (.cells #[.int .u8 0, .int .u8 0, .int .u8 0, .int .u8 0, .int .u8 0, .int .u8 0, .int .u8 0, .int .u8 0, .int .u8 0, .int .u8 0, .int .u8 0, .int .u8 0, .int .u8 0, .int .u8 0, .int .u8 0, .int .u8 0] 73)).alloc (.cells #[.int .u8 0, .int .u8 0, .int .u8 0, .int .u8 0, .int .u8 0, .int .u8 0, .int .u8 0, .int .u8 0, .int .u8 0, .int .u8 0, .int .u8 0, .int .u8 0, .int .u8 0, .int .u8 0, .int .u8 0, .int .u8 0] 73)).alloc (.cells #[.int .u8 0, .int .u8 0, .int .u8 0, .int .u8 0, .int .u8 0, .int .u8 0, .int .u8 0, .int .u8 0, .int .u8 0, .int .u8 0, .int .u8 0, .int .u8 0, .int .u8 0, .int .u8 0, .int .u8 0, .int .u8 0] 73)) := ((((((((Sto.one h1).new (l := [0]) rfl zero_fps.symm zero1 rfl).new (l := [0]) (by simp) zero_fps.symm zero1 rfl).new (l := [0]) (by simp) zero_fps.symm zero1 rfl).new (l := [0]) (by simp) zero_fps.symm zero1 rfl).new (l := [0]) (by simp) zero_fps.symm zero1 rfl).new (l := [0]) (by simp) zero_fps.symm zero1 rfl).new (l := [0]) (by simp) zero_fps.symm zero1 rfl)
  obtain ⟨W0, hW⟩ : ∃ W0 : World, W0 = (((((((w.alloc (.cells #[.int .u8 0, .int .u8 0, .int .u8 0, .int .u8 0, .int .u8 0, .int .u8 0, .int .u8 0, .int .u8 0, .int .u8 0, .int .u8 0, .int .u8 0, .int .u8 0, .int .u8 0, .int .u8 0, .int .u8 0, .int .u8 0] 73)).alloc (.cells #[.int .u8 0, .int .u8 0, .int .u8 0, .int .u8 0, .int .u8 0, .int .u8 0, .int .u8 0, .int .u8 0, .int .u8 0, .int .u8 0, .int .u8 0, .int .u8 0, .int .u8 0, .int .u8 0, .int .u8 0, .int .u8 0] 73)).alloc (.cells #[.int .u8 0, .int .u8 0, .int .u8 0, .int .u8 0, .int .u8 0, .int .u8 0, .int .u8 0, .int .u8 0, .int .u8 0, .int .u8 0, .int .u8 0, .int .u8 0, .int .u8 0, .int .u8 0, .int .u8 0, .int .u8 0] 73)).alloc (.cells #[.int .u8 0, .int .u8 0, .int .u8 0, .int .u8 0, .int .u8 0, .int .u8 0, .int .u8 0, .int .u8 0, .int .u8 0, .int .u8 0, .int .u8 0, .int .u8 0, .int .u8 0, .int .u8 0, .int .u8 0, .int .u8 0] 73)).alloc (.cells #[.int .u8 0, .int .u8 0, .int .u8 0, .int .u8 0, .int .u8 0, .int .u8 0, .int .u8 0, .int .u8 0, .int .u8 0, .int .u8 0, .int .u8 0, .int .u8 0, .int .u8 0, .int .u8 0, .int .u8 0, .int .u8 0] 73)).alloc (.cells #[.int .u8 0, .int .u8 0, .int .u8 0, .int .u8 0, .int .u8 0, .int .u8 0, .int .u8 0, .int .u8 0, .int .u8 0, .int .u8 0, .int .u8 0, .int .u8 0, .int .u8 0, .int .u8 0, .int .u8 0, .int .u8 0] 73)).alloc (.cells #[.int .u8 0, .int .u8 0, .int .u8 0, .int .u8 0, .int .u8 0, .int .u8 0, .int .u8 0, .int .u8 0, .int .u8 0, .int .u8 0, .int .u8 0, .int .u8 0, .int .u8 0, .int .u8 0, .int .u8 0, .int .u8 0] 73)) := ⟨_, rfl⟩
  rw [← hW] at H0 ⊢
  clear hW
  obtain ⟨n, hn⟩ : ∃ n, w.heap.size = n := ⟨_, rfl⟩
  rw [hn] at H0 HN1 HN2 HN3 HG ⊢
  replace hn := Lib.hid hn
  refine wp_region_atS (opsAt Tryd.f83 2) ((true, 0) :: (true, 1) :: (true, 2) :: (true, 3) :: (true, 4) :: (true, 5) :: (true, 6) :: (false, 7) :: []) (fun _ => True) (by kernel_rfl) rfl (by kernel_rfl) (fun _ _ d _ _ h => by cases d <;> exact h) (by kernel_rfl) (by kernel_rfl) trivial ?_
  refine k_pure (by kernel_rfl) (d := (some 33)) (by kernel_rfl) (v := .pointer (some ⟨n + 1 + 1 + 1 + 1, 0, none⟩)) (fun _ => by kernel_rfl) ?_
  refine k_pure (by kernel_rfl) (d := (some 34)) (by kernel_rfl) (v := .pointer (some ⟨b2, o2, none⟩)) (fun _ => by kernel_rfl) ?_
  refine k_pure (by kernel_rfl) (d := (some 35)) (by kernel_rfl) (v := .pointer (some ⟨b2, o2, none⟩)) (fun _ => by kernel_rfl) ?_
  refine k_pure (by kernel_rfl) (d := (some 36)) (by kernel_rfl) (v := .pointer (some ⟨b2, o2, none⟩)) (fun _ => by kernel_rfl) ?_
  refine k_pure (by kernel_rfl) (d := (some 37)) (by kernel_rfl) (v := .pointer (some ⟨b3, o3, none⟩)) (fun _ => by kernel_rfl) ?_
  refine k_pure (by kernel_rfl) (d := (some 38)) (by kernel_rfl) (v := .pointer (some ⟨b3, o3, none⟩)) (fun _ => by kernel_rfl) ?_
  refine k_pure (by kernel_rfl) (d := (some 39)) (by kernel_rfl) (v := .pointer (some ⟨b3, o3, none⟩)) (fun _ => by kernel_rfl) ?_
  refine k_callR (by kernel_rfl) (d := (some 40)) (by kernel_rfl) (f := 102) (args := #[.pointer (some ⟨n + 1 + 1 + 1 + 1, 0, none⟩), .pointer (some ⟨b2, o2, none⟩), .pointer (some ⟨b3, o3, none⟩)]) (fun _ => by kernel_rfl) (stMul H0.drew (i := 5) rfl (k1 := 0) rfl (by simp) (hU.fst.sto H0 (keys8 dU HN2)).drew (hV.fst.sto H0 (keys8 dV HN3)).drew (z := u0 * v0) rfl) (fun _ w1 q1 => ⟨.tuple #[], q1.1, trivial, ?_⟩)
  have u1 := q1.2
  clear q1
  refine k_end ?_
  go_simp
  go_upto_region 3 with (fail)
  have H1 : Sto w [(b1, L1), (n, [0]), (n + 1, [0]), (n + 1 + 1, [0]), (n + 1 + 1 + 1, [0]), (n + 1 + 1 + 1 + 1, [u0 * v0]), (n + 1 + 1 + 1 + 1 + 1, [0]), (n + 1 + 1 + 1 + 1 + 1 + 1, [0])] w1 := u1
  clear u1 H0
  refine wp_region_atS (opsAt Tryd.f83 3) ((true, 0) :: (true, 1) :: (true, 2) :: (true, 3) :: (true, 4) :: (true, 5) :: (true, 6) :: (false, 7) :: []) (fun _ => True) (by kernel_rfl) rfl (by kernel_rfl) (fun _ _ d _ _ h => by cases d <;> exact h) (by kernel_rfl) (by kernel_rfl) trivial ?_
  refine k_pure (by kernel_rfl) (d := (some 41)) (by kernel_rfl) (v := .pointer (some ⟨n, 0, none⟩)) (fun _ => by kernel_rfl) ?_
  refine k_pure (by kernel_rfl) (d := (some 42)) (by kernel_rfl) (v := .pointer (some ⟨b2, o2, none⟩)) (fun _ => by kernel_rfl) ?_
  refine k_pure (by kernel_rfl) (d := (some 43)) (by kernel_rfl) (v := .pointer (some ⟨b2, o2, none⟩)) (fun _ => by kernel_rfl) ?_
  refine k_pure (by kernel_rfl) (d := (some 44)) (by kernel_rfl) (v := .pointer (some ⟨b2, o2 + 16, none⟩)) (fun _ => by kernel_rfl) ?_
  refine k_pure (by kernel_rfl) (d := (some 45)) (by kernel_rfl) (v := .pointer (some ⟨b3, o3, none⟩)) (fun _ => by kernel_rfl) ?_
  refine k_pure (by kernel_rfl) (d := (some 46)) (by kernel_rfl) (v := .pointer (some ⟨b3, o3, none⟩)) (fun _ => by kernel_rfl) ?_
  refine k_pure (by kernel_rfl) (d := (some 47)) (by kernel_rfl) (v := .pointer (some ⟨b3, o3 + 16, none⟩)) (fun _ => by kernel_rfl) ?_
  refine k_callR (by kernel_rfl) (d := (some 48)) (by kernel_rfl) (f := 102) (args := #[.pointer (some ⟨n, 0, none⟩), .pointer (some ⟨b2, o2 + 16, none⟩), .pointer (some ⟨b3, o3 + 16, none⟩)]) (fun _ => by kernel_rfl) (stMul H1.drew (i := 1) rfl (k1 := 0) rfl (by simp) (hU.snd.sto H1 (keys8 dU HN2)).drew (hV.snd.sto H1 (keys8 dV HN3)).drew (z := u1 * v1) rfl) (fun _ w2 q2 => ⟨.tuple #[], q2.1, trivial, ?_⟩)
  have u2 := q2.2
  clear q2
  refine k_end ?_
  go_simp
  go_upto_region 4 with (fail)
  have H2 : Sto w [(b1, L1), (n, [u1 * v1]), (n + 1, [0]), (n + 1 + 1, [0]), (n + 1 + 1 + 1, [0]), (n + 1 + 1 + 1 + 1, [u0 * v0]), (n + 1 + 1 + 1 + 1 + 1, [0]), (n + 1 + 1 + 1 + 1 + 1 + 1, [0])] w2 := u2
  clear u2 H1
  refine wp_seq_atS (opsAt Tryd.f83 4) ((true, 0) :: (true, 1) :: (true, 2) :: (false, 3) :: []) (fun _ => True) (by kernel_rfl) (by kernel_rfl) trivial ?_
  refine k_pure (by kernel_rfl) (d := (some 49)) (by kernel_rfl) (v := .pointer (some ⟨n + 1 + 1 + 1 + 1, 0, none⟩)) (fun _ => by kernel_rfl) ?_
  refine k_pure (by kernel_rfl) (d := (some 50)) (by kernel_rfl) (v := .pointer (some ⟨n + 1 + 1 + 1 + 1, 0, none⟩)) (fun _ => by kernel_rfl) ?_
  refine k_pure (by kernel_rfl) (d := (some 51)) (by kernel_rfl) (v := .pointer (some ⟨n, 0, none⟩)) (fun _ => by kernel_rfl) ?_
  refine k_callR (by kernel_rfl) (d := (some 52)) (by kernel_rfl) (f := 103) (args := #[.pointer (some ⟨n + 1 + 1 + 1 + 1, 0, none⟩), .pointer (some ⟨n + 1 + 1 + 1 + 1, 0, none⟩), .pointer (some ⟨n, 0, none⟩)]) (fun _ => by kernel_rfl) (stAdd H2 (i := 5) rfl (k1 := 0) rfl (by simp) (H2.at 5 0 rfl rfl rfl) (H2.at 1 0 rfl rfl rfl) (z := a) HA.out) (fun _ w3 q3 => ⟨.tuple #[], q3.1, trivial, ?_⟩)
  have u3 := q3.2
  clear q3
  refine k_end ?_
  go_simp
  go_upto_region 5 with (fail)
  have H3 : Sto w [(b1, L1), (n, [u1 * v1]), (n + 1, [0]), (n + 1 + 1, [0]), (n + 1 + 1 + 1, [0]), (n + 1 + 1 + 1 + 1, [a]), (n + 1 + 1 + 1 + 1 + 1, [0]), (n + 1 + 1 + 1 + 1 + 1 + 1, [0])] w3 := u3
  clear u3 H2
  refine wp_seq_atS (opsAt Tryd.f83 5) ((true, 0) :: (true, 1) :: (true, 2) :: (true, 3) :: (false, 4) :: []) (fun _ => True) (by kernel_rfl) (by kernel_rfl) trivial ?_
  refine k_pure (by kernel_rfl) (d := (some 53)) (by kernel_rfl) (v := .pointer (some ⟨n + 1 + 1 + 1 + 1 + 1, 0, none⟩)) (fun _ => by kernel_rfl) ?_
  refine k_pure (by kernel_rfl) (d := (some 54)) (by kernel_rfl) (v := .pointer (some ⟨b3, o3, none⟩)) (fun _ => by kernel_rfl) ?_
  refine k_pure (by kernel_rfl) (d := (some 55)) (by kernel_rfl) (v := .pointer (some ⟨b3, o3, none⟩)) (fun _ => by kernel_rfl) ?_
  refine k_pure (by kernel_rfl) (d := (some 56)) (by kernel_rfl) (v := .pointer (some ⟨b3, o3, none⟩)) (fun _ => by kernel_rfl) ?_
  refine k_callR (by kernel_rfl) (d := (some 57)) (by kernel_rfl) (f := 104) (args := #[.pointer (some ⟨n + 1 + 1 + 1 + 1 + 1, 0, none⟩), .pointer (some ⟨b3, o3, none⟩)]) (fun _ => by kernel_rfl) (stSqr H3 (i := 6) rfl (k1 := 0) rfl (by simp) (hV.fst.sto H3 (keys8 dV HN3)) (z := v0 * v0) rfl) (fun _ w4 q4 => ⟨.tuple #[], q4.1, trivial, ?_⟩)
  have u4 := q4.2
  clear q4
  refine k_end ?_
  go_simp
  go_upto_region 6 with (fail)
  have H4 : Sto w [(b1, L1), (n, [u1 * v1]), (n + 1, [0]), (n + 1 + 1, [0]), (n + 1 + 1 + 1, [0]), (n + 1 + 1 + 1 + 1, [a]), (n + 1 + 1 + 1 + 1 + 1, [v0 * v0]), (n + 1 + 1 + 1 + 1 + 1 + 1, [0])] w4 := u4
  clear u4 H3
  refine wp_seq_atS (opsAt Tryd.f83 6) ((true, 0) :: (true, 1) :: (true, 2) :: (true, 3) :: (false, 4) :: []) (fun _ => True) (by kernel_rfl) (by kernel_rfl) trivial ?_
  refine k_pure (by kernel_rfl) (d := (some 58)) (by kernel_rfl) (v := .pointer (some ⟨n, 0, none⟩)) (fun _ => by kernel_rfl) ?_
  refine k_pure (by kernel_rfl) (d := (some 59)) (by kernel_rfl) (v := .pointer (some ⟨b3, o3, none⟩)) (fun _ => by kernel_rfl) ?_
  refine k_pure (by kernel_rfl) (d := (some 60)) (by kernel_rfl) (v := .pointer (some ⟨b3, o3, none⟩)) (fun _ => by kernel_rfl) ?_
  refine k_pure (by kernel_rfl) (d := (some 61)) (by kernel_rfl) (v := .pointer (some ⟨b3, o3 + 16, none⟩)) (fun _ => by kernel_rfl) ?_
  refine k_callR (by kernel_rfl) (d := (some 62)) (by kernel_rfl) (f := 104) (args := #[.pointer (some ⟨n, 0, none⟩), .pointer (some ⟨b3, o3 + 16, none⟩)]) (fun _ => by kernel_rfl) (stSqr H4 (i := 1) rfl (k1 := 0) rfl (by simp) (hV.snd.sto H4 (keys8 dV HN3)) (z := v1 * v1) rfl) (fun _ w5 q5 => ⟨.tuple #[], q5.1, trivial, ?_⟩)
  have u5 := q5.2
  clear q5
  refine k_end ?_
  go_simp
  go_upto_region 7 with (fail)
  have H5 : Sto w [(b1, L1), (n, [v1 * v1]), (n + 1, [0]), (n + 1 + 1, [0]), (n + 1 + 1 + 1, [0]), (n + 1 + 1 + 1 + 1, [a]), (n + 1 + 1 + 1 + 1 + 1, [v0 * v0]), (n + 1 + 1 + 1 + 1 + 1 + 1, [0])] w5 := u5
  clear u5 H4
  refine wp_seq_atS (opsAt Tryd.f83 7) ((true, 0) :: (true, 1) :: (true, 2) :: (false, 3) :: []) (fun _ => True) (by kernel_rfl) (by kernel_rfl) trivial ?_
  refine k_pure (by kernel_rfl) (d := (some 63)) (by kernel_rfl) (v := .pointer (some ⟨n + 1 + 1 + 1 + 1 + 1, 0, none⟩)) (fun _ => by kernel_rfl) ?_
  refine k_pure (by kernel_rfl) (d := (some 64)) (by kernel_rfl) (v := .pointer (some ⟨n + 1 + 1 + 1 + 1 + 1, 0, none⟩)) (fun _ => by kernel_rfl) ?_
  refine k_pure (by kernel_rfl) (d := (some 65)) (by kernel_rfl) (v := .pointer (some ⟨n, 0, none⟩)) (fun _ => by kernel_rfl) ?_
  refine k_callR (by kernel_rfl) (d := (some 66)) (by kernel_rfl) (f := 103) (args := #[.pointer (some ⟨n + 1 + 1 + 1 + 1 + 1, 0, none⟩), .pointer (some ⟨n + 1 + 1 + 1 + 1 + 1, 0, none⟩), .pointer (some ⟨n, 0, none⟩)]) (fun _ => by kernel_rfl) (stAdd H5 (i := 6) rfl (k1 := 0) rfl (by simp) (H5.at 6 0 rfl rfl rfl) (H5.at 1 0 rfl rfl rfl) (z := b) HB.out) (fun _ w6 q6 => ⟨.tuple #[], q6.1, trivial, ?_⟩)
  have u6 := q6.2
  clear q6
  refine k_end ?_
  go_simp
  go_upto_region 8 with (fail)
  have H6 : Sto w [(b1, L1), (n, [v1 * v1]), (n + 1, [0]), (n + 1 + 1, [0]), (n + 1 + 1 + 1, [0]), (n + 1 + 1 + 1 + 1, [a]), (n + 1 + 1 + 1 + 1 + 1, [b]), (n + 1 + 1 + 1 + 1 + 1 + 1, [0])] w6 := u6
  clear u6 H5
  refine wp_region_atS (opsAt Tryd.f83 8) ((true, 0) :: (true, 1) :: (true, 2) :: (true, 3) :: (true, 4) :: (true, 5) :: (true, 6) :: (false, 7) :: []) (fun _ => True) (by kernel_rfl) rfl (by kernel_rfl) (fun _ _ d _ _ h => by cases d <;> exact h) (by kernel_rfl) (by kernel_rfl) trivial ?_
  refine k_pure (by kernel_rfl) (d := (some 67)) (by kernel_rfl) (v := .pointer (some ⟨n + 1 + 1 + 1 + 1 + 1 + 1, 0, none⟩)) (fun _ => by kernel_rfl) ?_
  refine k_pure (by kernel_rfl) (d := (some 68)) (by kernel_rfl) (v := .pointer (some ⟨b2, o2, none⟩)) (fun _ => by kernel_rfl) ?_
  refine k_pure (by kernel_rfl) (d := (some 69)) (by kernel_rfl) (v := .pointer (some ⟨b2, o2, none⟩)) (fun _ => by kernel_rfl) ?_
  refine k_pure (by kernel_rfl) (d := (some 70)) (by kernel_rfl) (v := .pointer (some ⟨b2, o2 + 16, none⟩)) (fun _ => by kernel_rfl) ?_
  refine k_pure (by kernel_rfl) (d := (some 71)) (by kernel_rfl) (v := .pointer (some ⟨b3, o3, none⟩)) (fun _ => by kernel_rfl) ?_
  refine k_pure (by kernel_rfl) (d := (some 72)) (by kernel_rfl) (v := .pointer (some ⟨b3, o3, none⟩)) (fun _ => by kernel_rfl) ?_
  refine k_pure (by kernel_rfl) (d := (some 73)) (by kernel_rfl) (v := .pointer (some ⟨b3, o3, none⟩)) (fun _ => by kernel_rfl) ?_
  refine k_callR (by kernel_rfl) (d := (some 74)) (by kernel_rfl) (f := 102) (args := #[.pointer (some ⟨n + 1 + 1 + 1 + 1 + 1 + 1, 0, none⟩), .pointer (some ⟨b2, o2 + 16, none⟩), .pointer (some ⟨b3, o3, none⟩)]) (fun _ => by kernel_rfl) (stMul H6.drew (i := 7) rfl (k1 := 0) rfl (by simp) (hU.snd.sto H6 (keys8 dU HN2)).drew (hV.fst.sto H6 (keys8 dV HN3)).drew (z := u1 * v0) rfl) (fun _ w7 q7 => ⟨.tuple #[], q7.1, trivial, ?_⟩)
  have u7 := q7.2
  clear q7
  refine k_end ?_
  go_simp
  go_upto_region 9 with (fail)
  have H7 : Sto w [(b1, L1), (n, [v1 * v1]), (n + 1, [0]), (n + 1 + 1, [0]), (n + 1 + 1 + 1, [0]), (n + 1 + 1 + 1 + 1, [a]), (n + 1 + 1 + 1 + 1 + 1, [b]), (n + 1 + 1 + 1 + 1 + 1 + 1, [u1 * v0])] w7 := u7
  clear u7 H6
  refine wp_region_atS (opsAt Tryd.f83 9) ((true, 0) :: (true, 1) :: (true, 2) :: (true, 3) :: (true, 4) :: (true, 5) :: (true, 6) :: (false, 7) :: []) (fun _ => True) (by kernel_rfl) rfl (by kernel_rfl) (fun _ _ d _ _ h => by cases d <;> exact h) (by kernel_rfl) (by kernel_rfl) trivial ?_
  refine k_pure (by kernel_rfl) (d := (some 75)) (by kernel_rfl) (v := .pointer (some ⟨n, 0, none⟩)) (fun _ => by kernel_rfl) ?_
  refine k_pure (by kernel_rfl) (d := (some 76)) (by kernel_rfl) (v := .pointer (some ⟨b2, o2, none⟩)) (fun _ => by kernel_rfl) ?_
  refine k_pure (by kernel_rfl) (d := (some 77)) (by kernel_rfl) (v := .pointer (some ⟨b2, o2, none⟩)) (fun _ => by kernel_rfl) ?_
  refine k_pure (by kernel_rfl) (d := (some 78)) (by kernel_rfl) (v := .pointer (some ⟨b2, o2, none⟩)) (fun _ => by kernel_rfl) ?_
  refine k_pure (by kernel_rfl) (d := (some 79)) (by kernel_rfl) (v := .pointer (some ⟨b3, o3, none⟩)) (fun _ => by kernel_rfl) ?_
  refine k_pure (by kernel_rfl) (d := (some 80)) (by kernel_rfl) (v := .pointer (some ⟨b3, o3, none⟩)) (fun _ => by kernel_rfl) ?_
  refine k_pure (by kernel_rfl) (d := (some 81)) (by kernel_rfl) (v := .pointer (some ⟨b3, o3 + 16, none⟩)) (fun _ => by kernel_rfl) ?_
  refine k_callR (by kernel_rfl) (d := (some 82)) (by kernel_rfl) (f := 102) (args := #[.pointer (some ⟨n, 0, none⟩), .pointer (some ⟨b2, o2, none⟩), .pointer (some ⟨b3, o3 + 16, none⟩)]) (fun _ => by kernel_rfl) (stMul H7.drew (i := 1) rfl (k1 := 0) rfl (by simp) (hU.fst.sto H7 (keys8 dU HN2)).drew (hV.snd.sto H7 (keys8 dV HN3)).drew (z := u0 * v1) rfl) (fun _ w8 q8 => ⟨.tuple #[], q8.1, trivial, ?_⟩)
  have u8 := q8.2
  clear q8
  refine k_end ?_
  go_simp
  go_upto_region 10 with (fail)
  have H8 : Sto w [(b1, L1), (n, [u0 * v1]), (n + 1, [0]), (n + 1 + 1, [0]), (n + 1 + 1 + 1, [0]), (n + 1 + 1 + 1 + 1, [a]), (n + 1 + 1 + 1 + 1 + 1, [b]), (n + 1 + 1 + 1 + 1 + 1 + 1, [u1 * v0])] w8 := u8
  clear u8 H7
  refine wp_seq_atS (opsAt Tryd.f83 10) ((true, 0) :: (true, 1) :: (true, 2) :: (false, 3) :: []) (fun _ => True) (by kernel_rfl) (by kernel_rfl) trivial ?_
  refine k_pure (by kernel_rfl) (d := (some 83)) (by kernel_rfl) (v := .pointer (some ⟨n + 1 + 1 + 1 + 1 + 1 + 1, 0, none⟩)) (fun _ => by kernel_rfl) ?_
  refine k_pure (by kernel_rfl) (d := (some 84)) (by kernel_rfl) (v := .pointer (some ⟨n + 1 + 1 + 1 + 1 + 1 + 1, 0, none⟩)) (fun _ => by kernel_rfl) ?_
  refine k_pure (by kernel_rfl) (d := (some 85)) (by kernel_rfl) (v := .pointer (some ⟨n, 0, none⟩)) (fun _ => by kernel_rfl) ?_
  refine k_callR (by kernel_rfl) (d := (some 86)) (by kernel_rfl) (f := 105) (args := #[.pointer (some ⟨n + 1 + 1 + 1 + 1 + 1 + 1, 0, none⟩), .pointer (some ⟨n + 1 + 1 + 1 + 1 + 1 + 1, 0, none⟩), .pointer (some ⟨n, 0, none⟩)]) (fun _ => by kernel_rfl) (stSub H8 (i := 7) rfl (k1 := 0) rfl (by simp) (H8.at 7 0 rfl rfl rfl) (H8.at 1 0 rfl rfl rfl) (z := g) HGG.out) (fun _ w9 q9 => ⟨.tuple #[], q9.1, trivial, ?_⟩)
  have u9 := q9.2
  clear q9
  refine k_end ?_
  go_simp
  go_upto_region 11 with (fail)
  have H9 : Sto w [(b1, L1), (n, [u0 * v1]), (n + 1, [0]), (n + 1 + 1, [0]), (n + 1 + 1 + 1, [0]), (n + 1 + 1 + 1 + 1, [a]), (n + 1 + 1 + 1 + 1 + 1, [b]), (n + 1 + 1 + 1 + 1 + 1 + 1, [g])] w9 := u9
  clear u9 H8
  refine wp_seq_atS (opsAt Tryd.f83 11) ((true, 0) :: (true, 1) :: (false, 2) :: []) (fun _ => True) (by kernel_rfl) (by kernel_rfl) trivial ?_
  refine k_pure (by kernel_rfl) (d := (some 87)) (by kernel_rfl) (v := .pointer (some ⟨n, 0, none⟩)) (fun _ => by kernel_rfl) ?_
  refine k_pure (by kernel_rfl) (d := (some 88)) (by kernel_rfl) (v := .pointer (some ⟨n + 1 + 1 + 1 + 1, 0, none⟩)) (fun _ => by kernel_rfl) ?_
  refine k_callR (by kernel_rfl) (d := (some 89)) (by kernel_rfl) (f := 104) (args := #[.pointer (some ⟨n, 0, none⟩), .pointer (some ⟨n + 1 + 1 + 1 + 1, 0, none⟩)]) (fun _ => by kernel_rfl) (stSqr H9 (i := 1) rfl (k1 := 0) rfl (by simp) (H9.at 5 0 rfl rfl rfl) (z := a * a) rfl) (fun _ w10 q10 => ⟨.tuple #[], q10.1, trivial, ?_⟩)
  have u10 := q10.2
  clear q10
  refine k_end ?_
  go_simp
  go_upto_region 12 with (fail)
  have H10 : Sto w [(b1, L1), (n, [a * a]), (n + 1, [0]), (n + 1 + 1, [0]), (n + 1 + 1 + 1, [0]), (n + 1 + 1 + 1 + 1, [a]), (n + 1 + 1 + 1 + 1 + 1, [b]), (n + 1 + 1 + 1 + 1 + 1 + 1, [g])] w10 := u10
  clear u10 H9
  refine wp_seq_atS (opsAt Tryd.f83 12) ((true, 0) :: (true, 1) :: (false, 2) :: []) (fun _ => True) (by kernel_rfl) (by kernel_rfl) trivial ?_
  refine k_pure (by kernel_rfl) (d := (some 90)) (by kernel_rfl) (v := .pointer (some ⟨n + 1, 0, none⟩)) (fun _ => by kernel_rfl) ?_
  refine k_pure (by kernel_rfl) (d := (some 91)) (by kernel_rfl) (v := .pointer (some ⟨n + 1 + 1 + 1 + 1 + 1 + 1, 0, none⟩)) (fun _ => by kernel_rfl) ?_
  refine k_callR (by kernel_rfl) (d := (some 92)) (by kernel_rfl) (f := 104) (args := #[.pointer (some ⟨n + 1, 0, none⟩), .pointer (some ⟨n + 1 + 1 + 1 + 1 + 1 + 1, 0, none⟩)]) (fun _ => by kernel_rfl) (stSqr H10 (i := 2) rfl (k1 := 0) rfl (by simp) (H10.at 7 0 rfl rfl rfl) (z := g * g) rfl) (fun _ w11 q11 => ⟨.tuple #[], q11.1, trivial, ?_⟩)
  have u11 := q11.2
  clear q11
  refine k_end ?_
  go_simp
  go_upto_region 13 with (fail)
  have H11 : Sto w [(b1, L1), (n, [a * a]), (n + 1, [g * g]), (n + 1 + 1, [0]), (n + 1 + 1 + 1, [0]), (n + 1 + 1 + 1 + 1, [a]), (n + 1 + 1 + 1 + 1 + 1, [b]), (n + 1 + 1 + 1 + 1 + 1 + 1, [g])] w11 := u11
  clear u11 H10
  refine wp_seq_atS (opsAt Tryd.f83 13) ((true, 0) :: (true, 1) :: (true, 2) :: (false, 3) :: []) (fun _ => True) (by kernel_rfl) (by kernel_rfl) trivial ?_
  refine k_pure (by kernel_rfl) (d := (some 93)) (by kernel_rfl) (v := .pointer (some ⟨n, 0, none⟩)) (fun _ => by kernel_rfl) ?_
  refine k_pure (by kernel_rfl) (d := (some 94)) (by kernel_rfl) (v := .pointer (some ⟨n, 0, none⟩)) (fun _ => by kernel_rfl) ?_
  refine k_pure (by kernel_rfl) (d := (some 95)) (by kernel_rfl) (v := .pointer (some ⟨n + 1, 0, none⟩)) (fun _ => by kernel_rfl) ?_
  refine k_callR (by kernel_rfl) (d := (some 96)) (by kernel_rfl) (f := 103) (args := #[.pointer (some ⟨n, 0, none⟩), .pointer (some ⟨n, 0, none⟩), .pointer (some ⟨n + 1, 0, none⟩)]) (fun _ => by kernel_rfl) (stAdd H11 (i := 1) rfl (k1 := 0) rfl (by simp) (H11.at 1 0 rfl rfl rfl) (H11.at 2 0 rfl rfl rfl) (z := X) HX.out) (fun _ w12 q12 => ⟨.tuple #[], q12.1, trivial, ?_⟩)
  have u12 := q12.2
  clear q12
  refine k_end ?_
  go_simp
  go_upto_region 15 with (fail)
  have H12 : Sto w [(b1, L1), (n, [X]), (n + 1, [g * g]), (n + 1 + 1, [0]), (n + 1 + 1 + 1, [0]), (n + 1 + 1 + 1 + 1, [a]), (n + 1 + 1 + 1 + 1 + 1, [b]), (n + 1 + 1 + 1 + 1 + 1 + 1, [g])] w12 := u12
  clear u12 H11
  have HL : Hid (Sto w [(b1, L1), (n, [X.pow (1 * 2 ^ 0)]), (n + 1, [g * g]), (n + 1 + 1, [0]), (n + 1 + 1 + 1, [0]), (n + 1 + 1 + 1 + 1, [a]), (n + 1 + 1 + 1 + 1 + 1, [b]), (n + 1 + 1 + 1 + 1 + 1 + 1, [g])] w12) := Lib.hid (by have := H12; rw [← zpow_one X] at this; exact this)
  clear H12
  go_wp2_with fail
  go_loopw [15] (fun iv wr => ∃ k : Nat, k ≤ 125 ∧ iv = .int .i64 k ∧ Hid (Sto w [(b1, L1), (n, [X.pow (1 * 2 ^ k)]), (n + 1, [g * g]), (n + 1 + 1, [0]), (n + 1 + 1 + 1, [0]), (n + 1 + 1 + 1 + 1, [a]), (n + 1 + 1 + 1 + 1 + 1, [b]), (n + 1 + 1 + 1 + 1 + 1 + 1, [g])] wr)) (fun i _ => 125 - (intOf i).toNat)
  case atStart => exact ⟨0, Nat.zero_le _, rfl, Lib.hid HL.out⟩
  case round =>
    obtain ⟨k, hk, rfl, hs⟩ := hrel
    clear HL
    by_cases hlt : k < 125
    · go_wp2_with fail
      refine (stSqr hs.out (i := 1) rfl (k1 := 0) rfl (by simp) (hs.out.at 1 0 rfl rfl rfl) (pw_step X 1 k)).mono ?_
      rintro e w' ⟨rfl, hL⟩
      have HL := Lib.hid hL
      clear hL
      go_wp2_with fail
      exact ⟨⟨k + 1, by omega, by go_num, Lib.hid HL.out⟩, by simp [intOf]; omega⟩
    · have hk : k = 125 := by omega
      have hS0 : X.pow (1 * 2 ^ k) = S := by rw [hk]; exact HS.out
      have hk' : ¬ (k : Int) < 125 := by omega
      have H20 : Sto w [(b1, L1), (n, [S]), (n + 1, [g * g]), (n + 1 + 1, [0]), (n + 1 + 1 + 1, [0]), (n + 1 + 1 + 1 + 1, [a]), (n + 1 + 1 + 1 + 1 + 1, [b]), (n + 1 + 1 + 1 + 1 + 1 + 1, [g])] wr := by have := hs.out; rw [hS0] at this; exact this
      clear hs hS0 hk
      go_upto_region 18 with (fail)
      refine wp_seq_atS (opsAt Tryd.f83 18) ((true, 0) :: (true, 1) :: (true, 2) :: (false, 3) :: []) (fun _ => True) (by kernel_rfl) (by kernel_rfl) trivial ?_
      refine k_pure (by kernel_rfl) (d := (some 104)) (by kernel_rfl) (v := .pointer (some ⟨n + 1 + 1, 0, none⟩)) (fun _ => by kernel_rfl) ?_
      refine k_pure (by kernel_rfl) (d := (some 105)) (by kernel_rfl) (v := .pointer (some ⟨n + 1 + 1 + 1 + 1, 0, none⟩)) (fun _ => by kernel_rfl) ?_
      refine k_pure (by kernel_rfl) (d := (some 106)) (by kernel_rfl) (v := .pointer (some ⟨n, 0, none⟩)) (fun _ => by kernel_rfl) ?_
      refine k_callR (by kernel_rfl) (d := (some 107)) (by kernel_rfl) (f := 103) (args := #[.pointer (some ⟨n + 1 + 1, 0, none⟩), .pointer (some ⟨n + 1 + 1 + 1 + 1, 0, none⟩), .pointer (some ⟨n, 0, none⟩)]) (fun _ => by kernel_rfl) (stAdd H20 (i := 3) rfl (k1 := 0) rfl (by simp) (H20.at 5 0 rfl rfl rfl) (H20.at 1 0 rfl rfl rfl) (z := a + S) rfl) (fun _ w13 q13 => ⟨.tuple #[], q13.1, trivial, ?_⟩)
      have u13 := q13.2
      clear q13
      refine k_end ?_
      go_simp
      go_upto_region 19 with (fail)
      have H21 : Sto w [(b1, L1), (n, [S]), (n + 1, [g * g]), (n + 1 + 1, [a + S]), (n + 1 + 1 + 1, [0]), (n + 1 + 1 + 1 + 1, [a]), (n + 1 + 1 + 1 + 1 + 1, [b]), (n + 1 + 1 + 1 + 1 + 1 + 1, [g])] w13 := u13
      clear u13 H20
      refine wp_seq_atS (opsAt Tryd.f83 19) ((true, 0) :: (true, 1) :: (true, 2) :: (false, 3) :: []) (fun _ => True) (by kernel_rfl) (by kernel_rfl) trivial ?_
      refine k_pure (by kernel_rfl) (d := (some 108)) (by kernel_rfl) (v := .pointer (some ⟨n + 1, 0, none⟩)) (fun _ => by kernel_rfl) ?_
      refine k_pure (by kernel_rfl) (d := (some 109)) (by kernel_rfl) (v := .pointer (some ⟨n + 1 + 1 + 1 + 1, 0, none⟩)) (fun _ => by kernel_rfl) ?_
      refine k_pure (by kernel_rfl) (d := (some 110)) (by kernel_rfl) (v := .pointer (some ⟨n, 0, none⟩)) (fun _ => by kernel_rfl) ?_
      refine k_callR (by kernel_rfl) (d := (some 111)) (by kernel_rfl) (f := 105) (args := #[.pointer (some ⟨n + 1, 0, none⟩), .pointer (some ⟨n + 1 + 1 + 1 + 1, 0, none⟩), .pointer (some ⟨n, 0, none⟩)]) (fun _ => by kernel_rfl) (stSub H21 (i := 2) rfl (k1 := 0) rfl (by simp) (H21.at 5 0 rfl rfl rfl) (H21.at 1 0 rfl rfl rfl) (z := a - S) rfl) (fun _ w14 q14 => ⟨.tuple #[], q14.1, trivial, ?_⟩)
      have u14 := q14.2
      clear q14
      refine k_end ?_
      go_simp
      go_upto_region 20 with (fail)
      have H22 : Sto w [(b1, L1), (n, [S]), (n + 1, [a - S]), (n + 1 + 1, [a + S]), (n + 1 + 1 + 1, [0]), (n + 1 + 1 + 1 + 1, [a]), (n + 1 + 1 + 1 + 1 + 1, [b]), (n + 1 + 1 + 1 + 1 + 1 + 1, [g])] w14 := u14
      clear u14 H21
      refine wp_region_atS (opsAt Tryd.f83 20) ((true, 0) :: (true, 2) :: (true, 3) :: (true, 4) :: (true, 5) :: (true, 6) :: (true, 7) :: (false, 1) :: (false, 8) :: []) (fun _ => True) (by kernel_rfl) rfl (by kernel_rfl) (fun _ _ d _ _ h => by cases d <;> exact h) (by kernel_rfl) (by kernel_rfl) trivial ?_
      refine k_pure (by kernel_rfl) (d := (some 112)) (by kernel_rfl) (v := .pointer (some ⟨n + 1 + 1, 0, none⟩)) (fun _ => by kernel_rfl) ?_
      refine k_pure (by kernel_rfl) (d := (some 114)) (by kernel_rfl) (v := .pointer (some ⟨n + 1 + 1, 0, none⟩)) (fun _ => by kernel_rfl) ?_
      refine k_pure (by kernel_rfl) (d := (some 115)) (by kernel_rfl) (v := .pointer (some ⟨n + 1 + 1, 0, none⟩)) (fun _ => by kernel_rfl) ?_
      refine k_pure (by kernel_rfl) (d := (some 116)) (by kernel_rfl) (v := .slice (some ⟨n + 1 + 1, 0, none⟩) 16 16) (fun _ => by kernel_rfl) ?_
      refine k_pure (by kernel_rfl) (d := (some 117)) (by kernel_rfl) (v := .pointer (some ⟨n + 1, 0, none⟩)) (fun _ => by kernel_rfl) ?_
      refine k_pure (by kernel_rfl) (d := (some 118)) (by kernel_rfl) (v := .pointer (some ⟨n + 1, 0, none⟩)) (fun _ => by kernel_rfl) ?_
      refine k_pure (by kernel_rfl) (d := (some 119)) (by kernel_rfl) (v := .slice (some ⟨n + 1, 0, none⟩) 16 16) (fun _ => by kernel_rfl) ?_
      refine k_callR (by kernel_rfl) (d := (some 113)) (by kernel_rfl) (f := 107) (args := #[.pointer (some ⟨n + 1 + 1, 0, none⟩)]) (fun _ => by kernel_rfl) (stZeroCT (hm.sto H22 (keys8 (Nat.ne_of_lt hg) HG)).drew H22.drew (i := 3) rfl (k1 := 0) rfl rfl) (fun _ w15 q15 => ⟨.int .i64 (isz (a + S).val), q15.1, trivial, ?_⟩)
      have u15 := q15.2
      clear q15
      have H20b : Sto w [(b1, L1), (n, [S]), (n + 1, [a - S]), (n + 1 + 1, [a + S]), (n + 1 + 1 + 1, [0]), (n + 1 + 1 + 1 + 1, [a]), (n + 1 + 1 + 1 + 1 + 1, [b]), (n + 1 + 1 + 1 + 1 + 1 + 1, [g])] w15 := u15
      clear u15 H22
      refine k_callR (by kernel_rfl) (d := (some 120)) (by kernel_rfl) (f := 106) (args := #[.int .i64 (isz (a + S).val), .slice (some ⟨n + 1 + 1, 0, none⟩) 16 16, .slice (some ⟨n + 1, 0, none⟩) 16 16]) (fun _ => by kernel_rfl) (stSel (isz01 _) H20b (i := 3) rfl (k1 := 0) rfl rfl (H20b.at 2 0 rfl rfl rfl) (.inl (H20b.ne 2 3 _ _ _ _ rfl rfl (by decide)))) (fun _ w16 q16 => ⟨.tuple #[], q16.1, trivial, ?_⟩)
      have u16 := q16.2
      clear q16
      refine k_end ?_
      go_simp
      go_upto_region 21 with (fail)
      have H23 : Sto w [(b1, L1), (n, [S]), (n + 1, [a - S]), (n + 1 + 1, [(if isz (a + S).val = 1 then a - S else a + S)]), (n + 1 + 1 + 1, [0]), (n + 1 + 1 + 1 + 1, [a]), (n + 1 + 1 + 1 + 1 + 1, [b]), (n + 1 + 1 + 1 + 1 + 1 + 1, [g])] w16 := u16
      clear u16 H20b
      rw [HT.out] at H23
      refine wp_seq_atS (opsAt Tryd.f83 21) ((true, 0) :: (true, 1) :: (true, 2) :: (false, 3) :: []) (fun _ => True) (by kernel_rfl) (by kernel_rfl) trivial ?_
      refine k_pure (by kernel_rfl) (d := (some 121)) (by kernel_rfl) (v := .pointer (some ⟨n + 1 + 1, 0, none⟩)) (fun _ => by kernel_rfl) ?_
      refine k_pure (by kernel_rfl) (d := (some 122)) (by kernel_rfl) (v := .pointer (some ⟨n + 1 + 1, 0, none⟩)) (fun _ => by kernel_rfl) ?_
      refine k_pure (by kernel_rfl) (d := (some 123)) (by kernel_rfl) (v := .pointer (some ⟨n + 1 + 1, 0, none⟩)) (fun _ => by kernel_rfl) ?_
      refine k_callR (by kernel_rfl) (d := (some 124)) (by kernel_rfl) (f := 103) (args := #[.pointer (some ⟨n + 1 + 1, 0, none⟩), .pointer (some ⟨n + 1 + 1, 0, none⟩), .pointer (some ⟨n + 1 + 1, 0, none⟩)]) (fun _ => by kernel_rfl) (stAdd H23 (i := 3) rfl (k1 := 0) rfl (by simp) (H23.at 3 0 rfl rfl rfl) (H23.at 3 0 rfl rfl rfl) (z := T) HTT.out) (fun _ w17 q17 => ⟨.tuple #[], q17.1, trivial, ?_⟩)
      have u17 := q17.2
      clear q17
      refine k_end ?_
      go_simp
      go_upto_region 22 with (fail)
      have H24 : Sto w [(b1, L1), (n, [S]), (n + 1, [a - S]), (n + 1 + 1, [T]), (n + 1 + 1 + 1, [0]), (n + 1 + 1 + 1 + 1, [a]), (n + 1 + 1 + 1 + 1 + 1, [b]), (n + 1 + 1 + 1 + 1 + 1 + 1, [g])] w17 := u17
      clear u17 H23
      refine wp_seq_atS (opsAt Tryd.f83 22) ((true, 0) :: (true, 1) :: (false, 2) :: []) (fun _ => True) (by kernel_rfl) (by kernel_rfl) trivial ?_
      refine k_pure (by kernel_rfl) (d := (some 125)) (by kernel_rfl) (v := .pointer (some ⟨n + 1 + 1 + 1, 0, none⟩)) (fun _ => by kernel_rfl) ?_
      refine k_pure (by kernel_rfl) (d := (some 126)) (by kernel_rfl) (v := .pointer (some ⟨n + 1 + 1 + 1 + 1 + 1, 0, none⟩)) (fun _ => by kernel_rfl) ?_
      refine k_callR (by kernel_rfl) (d := (some 127)) (by kernel_rfl) (f := 104) (args := #[.pointer (some ⟨n + 1 + 1 + 1, 0, none⟩), .pointer (some ⟨n + 1 + 1 + 1 + 1 + 1, 0, none⟩)]) (fun _ => by kernel_rfl) (stSqr H24 (i := 4) rfl (k1 := 0) rfl (by simp) (H24.at 6 0 rfl rfl rfl) (z := b * b) rfl) (fun _ w18 q18 => ⟨.tuple #[], q18.1, trivial, ?_⟩)
      have u18 := q18.2
      clear q18
      refine k_end ?_
      go_simp
      go_upto_region 23 with (fail)
      have H25 : Sto w [(b1, L1), (n, [S]), (n + 1, [a - S]), (n + 1 + 1, [T]), (n + 1 + 1 + 1, [b * b]), (n + 1 + 1 + 1 + 1, [a]), (n + 1 + 1 + 1 + 1 + 1, [b]), (n + 1 + 1 + 1 + 1 + 1 + 1, [g])] w18 := u18
      clear u18 H24
      refine wp_seq_atS (opsAt Tryd.f83 23) ((true, 0) :: (true, 1) :: (true, 2) :: (false, 3) :: []) (fun _ => True) (by kernel_rfl) (by kernel_rfl) trivial ?_
      refine k_pure (by kernel_rfl) (d := (some 128)) (by kernel_rfl) (v := .pointer (some ⟨n + 1 + 1 + 1, 0, none⟩)) (fun _ => by kernel_rfl) ?_
      refine k_pure (by kernel_rfl) (d := (some 129)) (by kernel_rfl) (v := .pointer (some ⟨n + 1 + 1 + 1, 0, none⟩)) (fun _ => by kernel_rfl) ?_
      refine k_pure (by kernel_rfl) (d := (some 130)) (by kernel_rfl) (v := .pointer (some ⟨n + 1 + 1 + 1 + 1 + 1, 0, none⟩)) (fun _ => by kernel_rfl) ?_
      refine k_callR (by kernel_rfl) (d := (some 131)) (by kernel_rfl) (f := 102) (args := #[.pointer (some ⟨n + 1 + 1 + 1, 0, none⟩), .pointer (some ⟨n + 1 + 1 + 1, 0, none⟩), .pointer (some ⟨n + 1 + 1 + 1 + 1 + 1, 0, none⟩)]) (fun _ => by kernel_rfl) (stMul H25 (i := 4) rfl (k1 := 0) rfl (by simp) (H25.at 4 0 rfl rfl rfl) (H25.at 6 0 rfl rfl rfl) (z := b * b * b) rfl) (fun _ w19 q19 => ⟨.tuple #[], q19.1, trivial, ?_⟩)
      have u19 := q19.2
      clear q19
      refine k_end ?_
      go_simp
      go_upto_region 24 with (fail)
      have H26 : Sto w [(b1, L1), (n, [S]), (n + 1, [a - S]), (n + 1 + 1, [T]), (n + 1 + 1 + 1, [b * b * b]), (n + 1 + 1 + 1 + 1, [a]), (n + 1 + 1 + 1 + 1 + 1, [b]), (n + 1 + 1 + 1 + 1 + 1 + 1, [g])] w19 := u19
      clear u19 H25
      refine wp_seq_atS (opsAt Tryd.f83 24) ((true, 0) :: (true, 1) :: (true, 2) :: (false, 3) :: []) (fun _ => True) (by kernel_rfl) (by kernel_rfl) trivial ?_
      refine k_pure (by kernel_rfl) (d := (some 132)) (by kernel_rfl) (v := .pointer (some ⟨n + 1 + 1 + 1, 0, none⟩)) (fun _ => by kernel_rfl) ?_
      refine k_pure (by kernel_rfl) (d := (some 133)) (by kernel_rfl) (v := .pointer (some ⟨n + 1 + 1 + 1, 0, none⟩)) (fun _ => by kernel_rfl) ?_
      refine k_pure (by kernel_rfl) (d := (some 134)) (by kernel_rfl) (v := .pointer (some ⟨n + 1 + 1, 0, none⟩)) (fun _ => by kernel_rfl) ?_
      refine k_callR (by kernel_rfl) (d := (some 135)) (by kernel_rfl) (f := 102) (args := #[.pointer (some ⟨n + 1 + 1 + 1, 0, none⟩), .pointer (some ⟨n + 1 + 1 + 1, 0, none⟩), .pointer (some ⟨n + 1 + 1, 0, none⟩)]) (fun _ => by kernel_rfl) (stMul H26 (i := 4) rfl (k1 := 0) rfl (by simp) (H26.at 4 0 rfl rfl rfl) (H26.at 3 0 rfl rfl rfl) (z := b * b * b * T) rfl) (fun _ w20 q20 => ⟨.tuple #[], q20.1, trivial, ?_⟩)
      have u20 := q20.2
      clear q20
      refine k_end ?_
      go_simp
      go_upto_region 25 with (fail)
      have H27 : Sto w [(b1, L1), (n, [S]), (n + 1, [a - S]), (n + 1 + 1, [T]), (n + 1 + 1 + 1, [b * b * b * T]), (n + 1 + 1 + 1 + 1, [a]), (n + 1 + 1 + 1 + 1 + 1, [b]), (n + 1 + 1 + 1 + 1 + 1 + 1, [g])] w20 := u20
      clear u20 H26
      refine wp_seq_atS (opsAt Tryd.f83 25) ((true, 0) :: (true, 1) :: (false, 2) :: []) (fun _ => True) (by kernel_rfl) (by kernel_rfl) trivial ?_
      refine k_pure (by kernel_rfl) (d := (some 136)) (by kernel_rfl) (v := .pointer (some ⟨n + 1 + 1 + 1, 0, none⟩)) (fun _ => by kernel_rfl) ?_
      refine k_pure (by kernel_rfl) (d := (some 137)) (by kernel_rfl) (v := .pointer (some ⟨n + 1 + 1 + 1, 0, none⟩)) (fun _ => by kernel_rfl) ?_
      refine k_callR (by kernel_rfl) (d := (some 138)) (by kernel_rfl) (f := 108) (args := #[.pointer (some ⟨n + 1 + 1 + 1, 0, none⟩), .pointer (some ⟨n + 1 + 1 + 1, 0, none⟩)]) (fun _ => by kernel_rfl) (stTwo H27 (i := 4) rfl (k1 := 0) rfl (by simp) (H27.at 4 0 rfl rfl rfl) (z := r) HR.out) (fun _ w21 q21 => ⟨.tuple #[], q21.1, trivial, ?_⟩)
      have u21 := q21.2
      clear q21
      refine k_end ?_
      go_simp
      go_upto_region 26 with (fail)
      have H28 : Sto w [(b1, L1), (n, [S]), (n + 1, [a - S]), (n + 1 + 1, [T]), (n + 1 + 1 + 1, [r]), (n + 1 + 1 + 1 + 1, [a]), (n + 1 + 1 + 1 + 1 + 1, [b]), (n + 1 + 1 + 1 + 1 + 1 + 1, [g])] w21 := u21
      clear u21 H27
      have H29 : Sto w [(b1, cl L1 k1 p0 p1), (n, [S]), (n + 1, [a - S]), (n + 1 + 1, [T]), (n + 1 + 1 + 1, [r]), (n + 1 + 1 + 1 + 1, [a]), (n + 1 + 1 + 1 + 1 + 1, [b]), (n + 1 + 1 + 1 + 1 + 1 + 1, [g])] w21 := by rw [HSELF.out]; exact H28
      clear H28
      refine wp_seq_atS (opsAt Tryd.f83 26) ((true, 0) :: (true, 1) :: (true, 2) :: (true, 3) :: (true, 4) :: (false, 5) :: []) (fun _ => True) (by kernel_rfl) (by kernel_rfl) trivial ?_
      refine k_pure (by kernel_rfl) (d := (some 139)) (by kernel_rfl) (v := .pointer (some ⟨b1, o1, none⟩)) (fun _ => by kernel_rfl) ?_
      refine k_pure (by kernel_rfl) (d := (some 140)) (by kernel_rfl) (v := .pointer (some ⟨b1, o1, none⟩)) (fun _ => by kernel_rfl) ?_
      refine k_pure (by kernel_rfl) (d := (some 141)) (by kernel_rfl) (v := .pointer (some ⟨b1, o1 + 16, none⟩)) (fun _ => by kernel_rfl) ?_
      refine k_pure (by kernel_rfl) (d := (some 142)) (by kernel_rfl) (v := .pointer (some ⟨n + 1 + 1 + 1, 0, none⟩)) (fun _ => by kernel_rfl) ?_
      refine k_pure (by kernel_rfl) (d := (some 143)) (by kernel_rfl) (v := .pointer (some ⟨n + 1 + 1 + 1 + 1 + 1, 0, none⟩)) (fun _ => by kernel_rfl) ?_
      refine k_callR (by kernel_rfl) (d := (some 144)) (by kernel_rfl) (f := 102) (args := #[.pointer (some ⟨b1, o1 + 16, none⟩), .pointer (some ⟨n + 1 + 1 + 1, 0, none⟩), .pointer (some ⟨n + 1 + 1 + 1 + 1 + 1, 0, none⟩)]) (fun _ => by kernel_rfl) (stMul H29 (i := 0) rfl (k1 := k1 + 1) (e16 E1.out) (cl_lt1 I1.out _ _) (H29.at 4 0 rfl rfl rfl) (H29.at 6 0 rfl rfl rfl) (z := q) HQ.out) (fun _ w22 q22 => ⟨.tuple #[], q22.1, trivial, ?_⟩)
      have u22 := q22.2
      clear q22
      refine k_end ?_
      go_simp
      go_upto_region 27 with (fail)
      have H30 : Sto w [(b1, cl L1 k1 p0 q), (n, [S]), (n + 1, [a - S]), (n + 1 + 1, [T]), (n + 1 + 1 + 1, [r]), (n + 1 + 1 + 1 + 1, [a]), (n + 1 + 1 + 1 + 1 + 1, [b]), (n + 1 + 1 + 1 + 1 + 1 + 1, [g])] w22 := by have := u22; rw [cl_snd] at this; exact this
      clear u22 H29
      refine wp_region_atS (opsAt Tryd.f83 27) ((true, 0) :: (true, 1) :: (true, 2) :: (true, 3) :: (true, 4) :: (true, 5) :: (true, 6) :: (false, 7) :: []) (fun _ => True) (by kernel_rfl) rfl (by kernel_rfl) (fun _ _ d _ _ h => by cases d <;> exact h) (by kernel_rfl) (by kernel_rfl) trivial ?_
      refine k_pure (by kernel_rfl) (d := (some 145)) (by kernel_rfl) (v := .pointer (some ⟨b1, o1, none⟩)) (fun _ => by kernel_rfl) ?_
      refine k_pure (by kernel_rfl) (d := (some 146)) (by kernel_rfl) (v := .pointer (some ⟨b1, o1, none⟩)) (fun _ => by kernel_rfl) ?_
      refine k_pure (by kernel_rfl) (d := (some 147)) (by kernel_rfl) (v := .pointer (some ⟨b1, o1, none⟩)) (fun _ => by kernel_rfl) ?_
      refine k_pure (by kernel_rfl) (d := (some 148)) (by kernel_rfl) (v := .pointer (some ⟨b1, o1, none⟩)) (fun _ => by kernel_rfl) ?_
      refine k_pure (by kernel_rfl) (d := (some 149)) (by kernel_rfl) (v := .pointer (some ⟨b1, o1, none⟩)) (fun _ => by kernel_rfl) ?_
      refine k_pure (by kernel_rfl) (d := (some 150)) (by kernel_rfl) (v := .pointer (some ⟨b1, o1 + 16, none⟩)) (fun _ => by kernel_rfl) ?_
      refine k_pure (by kernel_rfl) (d := (some 151)) (by kernel_rfl) (v := .pointer (some ⟨n + 1 + 1, 0, none⟩)) (fun _ => by kernel_rfl) ?_
      refine k_callR (by kernel_rfl) (d := (some 152)) (by kernel_rfl) (f := 102) (args := #[.pointer (some ⟨b1, o1, none⟩), .pointer (some ⟨b1, o1 + 16, none⟩), .pointer (some ⟨n + 1 + 1, 0, none⟩)]) (fun _ => by kernel_rfl) (stMul H30.drew (i := 0) rfl (k1 := k1) E1.out (cl_lt0 I1.out _ _) (H30.at 0 (k1 + 1) rfl (cl_get1 I1.out _ _) (e16 E1.out)).drew (H30.at 3 0 rfl rfl rfl).drew (z := q * T) rfl) (fun _ w23 q23 => ⟨.tuple #[], q23.1, trivial, ?_⟩)
      have u23 := q23.2
      clear q23
      refine k_end ?_
      go_simp
      go_upto_region 28 with (fail)
      have H31 : Sto w [(b1, cl L1 k1 (q * T) q), (n, [S]), (n + 1, [a - S]), (n + 1 + 1, [T]), (n + 1 + 1 + 1, [r]), (n + 1 + 1 + 1 + 1, [a]), (n + 1 + 1 + 1 + 1 + 1, [b]), (n + 1 + 1 + 1 + 1 + 1 + 1, [g])] w23 := by have := u23; rw [cl_fst] at this; exact this
      clear u23 H30
      refine wp_region_atS (opsAt Tryd.f83 28) ((true, 0) :: (true, 1) :: (true, 2) :: (true, 3) :: (true, 4) :: (true, 5) :: (false, 6) :: []) (fun _ => True) (by kernel_rfl) rfl (by kernel_rfl) (fun _ _ d _ _ h => by cases d <;> exact h) (by kernel_rfl) (by kernel_rfl) trivial ?_
      refine k_pure (by kernel_rfl) (d := (some 153)) (by kernel_rfl) (v := .pointer (some ⟨b1, o1, none⟩)) (fun _ => by kernel_rfl) ?_
      refine k_pure (by kernel_rfl) (d := (some 154)) (by kernel_rfl) (v := .pointer (some ⟨b1, o1, none⟩)) (fun _ => by kernel_rfl) ?_
      refine k_pure (by kernel_rfl) (d := (some 155)) (by kernel_rfl) (v := .pointer (some ⟨b1, o1, none⟩)) (fun _ => by kernel_rfl) ?_
      refine k_pure (by kernel_rfl) (d := (some 156)) (by kernel_rfl) (v := .pointer (some ⟨b1, o1, none⟩)) (fun _ => by kernel_rfl) ?_
      refine k_pure (by kernel_rfl) (d := (some 157)) (by kernel_rfl) (v := .pointer (some ⟨b1, o1, none⟩)) (fun _ => by kernel_rfl) ?_
      refine k_pure (by kernel_rfl) (d := (some 158)) (by kernel_rfl) (v := .pointer (some ⟨b1, o1, none⟩)) (fun _ => by kernel_rfl) ?_
      refine k_callR (by kernel_rfl) (d := (some 159)) (by kernel_rfl) (f := 109) (args := #[.pointer (some ⟨b1, o1, none⟩), .pointer (some ⟨b1, o1, none⟩)]) (fun _ => by kernel_rfl) (stHlf H31.drew (i := 0) rfl (k1 := k1) E1.out (cl_lt0 I1.out _ _) (H31.at 0 k1 rfl (cl_get0 I1.out _ _) E1.out).drew (z := c0) HC0.out) (fun _ w24 q24 => ⟨.tuple #[], q24.1, trivial, ?_⟩)
      have u24 := q24.2
      clear q24
      refine k_end ?_
      go_simp
      go_upto_region 29 with (fail)
      have H32 : Sto w [(b1, cl L1 k1 c0 q), (n, [S]), (n + 1, [a - S]), (n + 1 + 1, [T]), (n + 1 + 1 + 1, [r]), (n + 1 + 1 + 1 + 1, [a]), (n + 1 + 1 + 1 + 1 + 1, [b]), (n + 1 + 1 + 1 + 1 + 1 + 1, [g])] w24 := by have := u24; rw [cl_fst] at this; exact this
      clear u24 H31
      refine wp_region_atS (opsAt Tryd.f83 29) ((true, 0) :: (true, 1) :: (true, 2) :: (true, 3) :: (true, 4) :: (true, 5) :: (true, 6) :: (false, 7) :: []) (fun _ => True) (by kernel_rfl) rfl (by kernel_rfl) (fun _ _ d _ _ h => by cases d <;> exact h) (by kernel_rfl) (by kernel_rfl) trivial ?_
      refine k_pure (by kernel_rfl) (d := (some 160)) (by kernel_rfl) (v := .pointer (some ⟨b1, o1, none⟩)) (fun _ => by kernel_rfl) ?_
      refine k_pure (by kernel_rfl) (d := (some 161)) (by kernel_rfl) (v := .pointer (some ⟨b1, o1, none⟩)) (fun _ => by kernel_rfl) ?_
      refine k_pure (by kernel_rfl) (d := (some 162)) (by kernel_rfl) (v := .pointer (some ⟨b1, o1 + 16, none⟩)) (fun _ => by kernel_rfl) ?_
      refine k_pure (by kernel_rfl) (d := (some 163)) (by kernel_rfl) (v := .pointer (some ⟨b1, o1, none⟩)) (fun _ => by kernel_rfl) ?_
      refine k_pure (by kernel_rfl) (d := (some 164)) (by kernel_rfl) (v := .pointer (some ⟨b1, o1, none⟩)) (fun _ => by kernel_rfl) ?_
      refine k_pure (by kernel_rfl) (d := (some 165)) (by kernel_rfl) (v := .pointer (some ⟨b1, o1 + 16, none⟩)) (fun _ => by kernel_rfl) ?_
      refine k_pure (by kernel_rfl) (d := (some 166)) (by kernel_rfl) (v := .pointer (some ⟨n + 1 + 1 + 1 + 1 + 1 + 1, 0, none⟩)) (fun _ => by kernel_rfl) ?_
      refine k_callR (by kernel_rfl) (d := (some 167)) (by kernel_rfl) (f := 102) (args := #[.pointer (some ⟨b1, o1 + 16, none⟩), .pointer (some ⟨b1, o1 + 16, none⟩), .pointer (some ⟨n + 1 + 1 + 1 + 1 + 1 + 1, 0, none⟩)]) (fun _ => by kernel_rfl) (stMul H32.drew (i := 0) rfl (k1 := k1 + 1) (e16 E1.out) (cl_lt1 I1.out _ _) (H32.at 0 (k1 + 1) rfl (cl_get1 I1.out _ _) (e16 E1.out)).drew (H32.at 7 0 rfl rfl rfl).drew (z := c1) HC1.out) (fun _ w25 q25 => ⟨.tuple #[], q25.1, trivial, ?_⟩)
      have u25 := q25.2
      clear q25
      refine k_end ?_
      go_simp
      go_upto_region 30 with (fail)
      have H33 : Sto w [(b1, cl L1 k1 c0 c1), (n, [S]), (n + 1, [a - S]), (n + 1 + 1, [T]), (n + 1 + 1 + 1, [r]), (n + 1 + 1 + 1 + 1, [a]), (n + 1 + 1 + 1 + 1 + 1, [b]), (n + 1 + 1 + 1 + 1 + 1 + 1, [g])] w25 := by have := u25; rw [cl_snd] at this; exact this
      clear u25 H32
      refine wp_region_atS (opsAt Tryd.f83 30) ((true, 0) :: (true, 1) :: (true, 2) :: (true, 3) :: (true, 4) :: (true, 5) :: (true, 6) :: (false, 7) :: []) (fun _ => True) (by kernel_rfl) rfl (by kernel_rfl) (fun _ _ d _ _ h => by cases d <;> exact h) (by kernel_rfl) (by kernel_rfl) trivial ?_
      refine k_pure (by kernel_rfl) (d := (some 168)) (by kernel_rfl) (v := .pointer (some ⟨n, 0, none⟩)) (fun _ => by kernel_rfl) ?_
      refine k_pure (by kernel_rfl) (d := (some 169)) (by kernel_rfl) (v := .pointer (some ⟨b1, o1, none⟩)) (fun _ => by kernel_rfl) ?_
      refine k_pure (by kernel_rfl) (d := (some 170)) (by kernel_rfl) (v := .pointer (some ⟨b1, o1, none⟩)) (fun _ => by kernel_rfl) ?_
      refine k_pure (by kernel_rfl) (d := (some 171)) (by kernel_rfl) (v := .pointer (some ⟨b1, o1, none⟩)) (fun _ => by kernel_rfl) ?_
      refine k_pure (by kernel_rfl) (d := (some 172)) (by kernel_rfl) (v := .pointer (some ⟨b1, o1, none⟩)) (fun _ => by kernel_rfl) ?_
      refine k_pure (by kernel_rfl) (d := (some 173)) (by kernel_rfl) (v := .pointer (some ⟨b1, o1, none⟩)) (fun _ => by kernel_rfl) ?_
      refine k_pure (by kernel_rfl) (d := (some 174)) (by kernel_rfl) (v := .pointer (some ⟨b1, o1, none⟩)) (fun _ => by kernel_rfl) ?_
      refine k_callR (by kernel_rfl) (d := (some 175)) (by kernel_rfl) (f := 103) (args := #[.pointer (some ⟨n, 0, none⟩), .pointer (some ⟨b1, o1, none⟩), .pointer (some ⟨b1, o1, none⟩)]) (fun _ => by kernel_rfl) (stAdd H33.drew (i := 1) rfl (k1 := 0) rfl (by simp) (H33.at 0 k1 rfl (cl_get0 I1.out _ _) E1.out).drew (H33.at 0 k1 rfl (cl_get0 I1.out _ _) E1.out).drew (z := c0 + c0) rfl) (fun _ w26 q26 => ⟨.tuple #[], q26.1, trivial, ?_⟩)
      have u26 := q26.2
      clear q26
      refine k_end ?_
      go_simp
      go_upto_region 31 with (fail)
      have H34 : Sto w [(b1, cl L1 k1 c0 c1), (n, [c0 + c0]), (n + 1, [a - S]), (n + 1 + 1, [T]), (n + 1 + 1 + 1, [r]), (n + 1 + 1 + 1 + 1, [a]), (n + 1 + 1 + 1 + 1 + 1, [b]), (n + 1 + 1 + 1 + 1 + 1 + 1, [g])] w26 := u26
      clear u26 H33
      refine wp_seq_atS (opsAt Tryd.f83 31) ((true, 0) :: (true, 1) :: (false, 2) :: []) (fun _ => True) (by kernel_rfl) (by kernel_rfl) trivial ?_
      refine k_pure (by kernel_rfl) (d := (some 176)) (by kernel_rfl) (v := .pointer (some ⟨n, 0, none⟩)) (fun _ => by kernel_rfl) ?_
      refine k_pure (by kernel_rfl) (d := (some 177)) (by kernel_rfl) (v := .pointer (some ⟨n, 0, none⟩)) (fun _ => by kernel_rfl) ?_
      refine k_callR (by kernel_rfl) (d := (some 178)) (by kernel_rfl) (f := 104) (args := #[.pointer (some ⟨n, 0, none⟩), .pointer (some ⟨n, 0, none⟩)]) (fun _ => by kernel_rfl) (stSqr H34 (i := 1) rfl (k1 := 0) rfl (by simp) (H34.at 1 0 rfl rfl rfl) (z := (c0 + c0) * (c0 + c0)) rfl) (fun _ w27 q27 => ⟨.tuple #[], q27.1, trivial, ?_⟩)
      have u27 := q27.2
      clear q27
      refine k_end ?_
      go_simp
      go_upto_region 32 with (fail)
      have H35 : Sto w [(b1, cl L1 k1 c0 c1), (n, [(c0 + c0) * (c0 + c0)]), (n + 1, [a - S]), (n + 1 + 1, [T]), (n + 1 + 1 + 1, [r]), (n + 1 + 1 + 1 + 1, [a]), (n + 1 + 1 + 1 + 1 + 1, [b]), (n + 1 + 1 + 1 + 1 + 1 + 1, [g])] w27 := u27
      clear u27 H34
      refine wp_seq_atS (opsAt Tryd.f83 32) ((true, 0) :: (true, 1) :: (true, 2) :: (false, 3) :: []) (fun _ => True) (by kernel_rfl) (by kernel_rfl) trivial ?_
      refine k_pure (by kernel_rfl) (d := (some 179)) (by kernel_rfl) (v := .pointer (some ⟨n, 0, none⟩)) (fun _ => by kernel_rfl) ?_
      refine k_pure (by kernel_rfl) (d := (some 180)) (by kernel_rfl) (v := .pointer (some ⟨n, 0, none⟩)) (fun _ => by kernel_rfl) ?_
      refine k_pure (by kernel_rfl) (d := (some 181)) (by kernel_rfl) (v := .pointer (some ⟨n + 1 + 1 + 1 + 1 + 1, 0, none⟩)) (fun _ => by kernel_rfl) ?_
      refine k_callR (by kernel_rfl) (d := (some 182)) (by kernel_rfl) (f := 102) (args := #[.pointer (some ⟨n, 0, none⟩), .pointer (some ⟨n, 0, none⟩), .pointer (some ⟨n + 1 + 1 + 1 + 1 + 1, 0, none⟩)]) (fun _ => by kernel_rfl) (stMul H35 (i := 1) rfl (k1 := 0) rfl (by simp) (H35.at 1 0 rfl rfl rfl) (H35.at 6 0 rfl rfl rfl) (z := (c0 + c0) * (c0 + c0) * b) rfl) (fun _ w28 q28 => ⟨.tuple #[], q28.1, trivial, ?_⟩)
      have u28 := q28.2
      clear q28
      refine k_end ?_
      go_simp
      go_upto_region 33 with (fail)
      have H36 : Sto w [(b1, cl L1 k1 c0 c1), (n, [(c0 + c0) * (c0 + c0) * b]), (n + 1, [a - S]), (n + 1 + 1, [T]), (n + 1 + 1 + 1, [r]), (n + 1 + 1 + 1 + 1, [a]), (n + 1 + 1 + 1 + 1 + 1, [b]), (n + 1 + 1 + 1 + 1 + 1 + 1, [g])] w28 := u28
      clear u28 H35
      refine wp_seq_atS (opsAt Tryd.f83 33) ((true, 0) :: (true, 1) :: (true, 2) :: (false, 3) :: []) (fun _ => True) (by kernel_rfl) (by kernel_rfl) trivial ?_
      refine k_pure (by kernel_rfl) (d := (some 183)) (by kernel_rfl) (v := .pointer (some ⟨n, 0, none⟩)) (fun _ => by kernel_rfl) ?_
      refine k_pure (by kernel_rfl) (d := (some 184)) (by kernel_rfl) (v := .pointer (some ⟨n, 0, none⟩)) (fun _ => by kernel_rfl) ?_
      refine k_pure (by kernel_rfl) (d := (some 185)) (by kernel_rfl) (v := .pointer (some ⟨n + 1 + 1, 0, none⟩)) (fun _ => by kernel_rfl) ?_
      refine k_callR (by kernel_rfl) (d := (some 186)) (by kernel_rfl) (f := 105) (args := #[.pointer (some ⟨n, 0, none⟩), .pointer (some ⟨n, 0, none⟩), .pointer (some ⟨n + 1 + 1, 0, none⟩)]) (fun _ => by kernel_rfl) (stSub H36 (i := 1) rfl (k1 := 0) rfl (by simp) (H36.at 1 0 rfl rfl rfl) (H36.at 3 0 rfl rfl rfl) (z := K) HK.out) (fun _ w29 q29 => ⟨.tuple #[], q29.1, trivial, ?_⟩)
      have u29 := q29.2
      clear q29
      refine k_end ?_
      go_simp
      go_upto_region 34 with (fail)
      have H37 : Sto w [(b1, cl L1 k1 c0 c1), (n, [K]), (n + 1, [a - S]), (n + 1 + 1, [T]), (n + 1 + 1 + 1, [r]), (n + 1 + 1 + 1 + 1, [a]), (n + 1 + 1 + 1 + 1 + 1, [b]), (n + 1 + 1 + 1 + 1 + 1 + 1, [g])] w29 := u29
      clear u29 H36
      obtain ⟨l, x0, x1, hF, hl0, hl1, hz0, hz1, hy0, hy1⟩ := (H37.blk 0 _ _ rfl).two2 (cl_get0 I1.out c0 c1) (cl_get1 I1.out c0 c1)
      replace hF := Lib.hid hF
      replace hl0 := Lib.hid hl0
      replace hl1 := Lib.hid hl1
      replace hz0 := Lib.hid hz0
      replace hz1 := Lib.hid hz1
      replace hy0 := Lib.hid hy0
      replace hy1 := Lib.hid hy1
      refine wp_region_atS (opsAt Tryd.f83 34) ((true, 0) :: (true, 1) :: (true, 2) :: (true, 3) :: (true, 4) :: (true, 5) :: (true, 6) :: (true, 7) :: (true, 8) :: (false, 9) :: (true, 10) :: []) (fun w' => Fps w' b1 l) (by kernel_rfl) rfl (by kernel_rfl) (fun _ _ d _ _ h => by cases d <;> exact h) (by kernel_rfl) (by kernel_rfl) hF.out ?_
      refine k_pure (by kernel_rfl) (d := (some 187)) (by kernel_rfl) (v := .pointer (some ⟨b1, o1, none⟩)) (fun _ => by kernel_rfl) ?_
      refine k_pure (by kernel_rfl) (d := (some 188)) (by kernel_rfl) (v := .pointer (some ⟨b1, o1, none⟩)) (fun _ => by kernel_rfl) ?_
      refine k_pure (by kernel_rfl) (d := (some 189)) (by kernel_rfl) (v := .pointer (some ⟨b1, o1 + 16, none⟩)) (fun _ => by kernel_rfl) ?_
      refine k_load (by kernel_rfl) (d := (some 190)) (by kernel_rfl) (ty := 73) (x := (.tmp 189)) (by kernel_rfl) (b := b1) (off := o1 + 16) (by kernel_rfl) (cs := fpC x1) (fun w' hs => hs.cells1 (e16 E1.out) hl1.out) Tryd.underlying73 rfl (by kernel_rfl) ?_
      refine k_pure (by kernel_rfl) (d := (some 191)) (by kernel_rfl) (v := .pointer (some ⟨b1, o1, none⟩)) (fun _ => by kernel_rfl) ?_
      refine k_pure (by kernel_rfl) (d := (some 192)) (by kernel_rfl) (v := .pointer (some ⟨b1, o1, none⟩)) (fun _ => by kernel_rfl) ?_
      refine k_pure (by kernel_rfl) (d := (some 193)) (by kernel_rfl) (v := .pointer (some ⟨b1, o1, none⟩)) (fun _ => by kernel_rfl) ?_
      refine k_load (by kernel_rfl) (d := (some 194)) (by kernel_rfl) (ty := 73) (x := (.tmp 193)) (by kernel_rfl) (b := b1) (off := o1) (by kernel_rfl) (cs := fpC x0) (fun w' hs => hs.cells1 E1.out hl0.out) Tryd.underlying73 rfl (by kernel_rfl) ?_
      refine k_pure (by kernel_rfl) (d := (some 195)) (by kernel_rfl) (v := .agg (fps [x1, x0])) (fun _ => by kernel_rfl) ?_
      refine k_make (by kernel_rfl) (d := (some 196)) (by kernel_rfl) (v := .pointer (some ⟨w29.heap.size, 0, none⟩)) (w' := w29.drew.alloc (.cells (fps [x1, x0]) 83)) (by kernel_rfl) (hF.out.alloc _) ?_
      intro wB hwB hSB
      refine k_pure (by kernel_rfl) (d := (some 16)) (by kernel_rfl) (v := .pointer (some ⟨w29.heap.size, 0, none⟩)) (fun _ => by kernel_rfl) ?_
      have HN8 : n ≤ w29.heap.size := by have := (H37.blk 1 _ _ rfl).lt; omega
      have H38 : Sto w [(b1, cl L1 k1 c0 c1), (n, [K]), (n + 1, [a - S]), (n + 1 + 1, [T]), (n + 1 + 1 + 1, [r]), (n + 1 + 1 + 1 + 1, [a]), (n + 1 + 1 + 1 + 1 + 1, [b]), (n + 1 + 1 + 1 + 1 + 1 + 1, [g]), (w29.heap.size, [c1, c0])] wB := by rw [hwB]; exact H37.drew.new (l := [x1, x0]) rfl rfl (all2L hy1.out hy0.out) (by rw [List.map, List.map, List.map, hz1.out, hz0.out])
      clear hwB hSB H37 hF hl0 hl1 hz0 hz1 hy0 hy1
      refine k_end ?_
      go_simp
      go_upto_region 35 with (fail)
      refine wp_seq_atS (opsAt Tryd.f83 35) ((true, 0) :: (true, 1) :: (true, 2) :: (false, 3) :: (true, 4) :: (false, 5) :: []) (fun _ => True) (by kernel_rfl) (by kernel_rfl) trivial ?_
      refine k_pure (by kernel_rfl) (d := (some 197)) (by kernel_rfl) (v := .pointer (some ⟨b1, o1, none⟩)) (fun _ => by kernel_rfl) ?_
      refine k_pure (by kernel_rfl) (d := (some 198)) (by kernel_rfl) (v := .pointer (some ⟨w29.heap.size, 0, none⟩)) (fun _ => by kernel_rfl) ?_
      refine k_pure (by kernel_rfl) (d := (some 199)) (by kernel_rfl) (v := .pointer (some ⟨n, 0, none⟩)) (fun _ => by kernel_rfl) ?_
      refine k_callR (by kernel_rfl) (d := (some 200)) (by kernel_rfl) (f := 107) (args := #[.pointer (some ⟨n, 0, none⟩)]) (fun _ => by kernel_rfl) (stZeroCT (hm.sto H38 (keys9 (Nat.ne_of_lt hg) HG HN8)) H38 (i := 1) rfl (k1 := 0) rfl rfl) (fun _ w30 q30 => ⟨.int .i64 (isz K.val), q30.1, trivial, ?_⟩)
      have u30 := q30.2
      clear q30
      have H35b : Sto w [(b1, cl L1 k1 c0 c1), (n, [K]), (n + 1, [a - S]), (n + 1 + 1, [T]), (n + 1 + 1 + 1, [r]), (n + 1 + 1 + 1 + 1, [a]), (n + 1 + 1 + 1 + 1 + 1, [b]), (n + 1 + 1 + 1 + 1 + 1 + 1, [g]), (w29.heap.size, [c1, c0])] w30 := u30
      clear u30 H38
      refine k_pure (by kernel_rfl) (d := (some 201)) (by kernel_rfl) (v := .int .i64 (nz K.val)) (fun _ => by kernel_rfl) ?_
      refine k_callR (by kernel_rfl) (d := (some 202)) (by kernel_rfl) (f := 110) (args := #[.pointer (some ⟨b1, o1, none⟩), .pointer (some ⟨w29.heap.size, 0, none⟩), .int .i64 (nz K.val)]) (fun _ => by kernel_rfl) (stCmov (nz01 _) H35b (i := 0) rfl E1.out (cl_get0 I1.out _ _) (cl_get1 I1.out _ _) ⟨H35b.at 8 0 rfl rfl rfl, H35b.at 8 1 rfl rfl rfl⟩ (.inl (H35b.ne 8 0 _ _ _ _ rfl rfl (by decide))) (.inl (H35b.ne 8 0 _ _ _ _ rfl rfl (by decide))) (.inl (H35b.ne 8 0 _ _ _ _ rfl rfl (by decide)))) (fun _ w31 q31 => ⟨.tuple #[], q31.1, trivial, ?_⟩)
      have u31 := q31.2
      clear q31
      refine k_end ?_
      go_simp
      go_upto_region 36 with (fail)
      have H39 : Sto w [(b1, cl L1 k1 d0 d1), (n, [K]), (n + 1, [a - S]), (n + 1 + 1, [T]), (n + 1 + 1 + 1, [r]), (n + 1 + 1 + 1 + 1, [a]), (n + 1 + 1 + 1 + 1 + 1, [b]), (n + 1 + 1 + 1 + 1 + 1 + 1, [g]), (w29.heap.size, [c1, c0])] w31 := by have := u31; rw [cl_fst, cl_snd, HD0.out, HD1.out] at this; exact this
      clear u31 H35b
      refine wp_seq_atS (opsAt Tryd.f83 36) ((true, 0) :: (false, 1) :: (true, 2) :: (true, 3) :: (true, 4) :: (false, 5) :: (true, 6) :: (true, 7) :: []) (fun _ => True) (by kernel_rfl) (by kernel_rfl) trivial ?_
      refine k_pure (by kernel_rfl) (d := (some 203)) (by kernel_rfl) (v := .pointer (some ⟨b1, o1, none⟩)) (fun _ => by kernel_rfl) ?_
      refine k_callR (by kernel_rfl) (d := (some 204)) (by kernel_rfl) (f := 86) (args := #[.pointer (some ⟨b1, o1, none⟩)]) (fun _ => by kernel_rfl) (stSgnQ (hm.sto H39 (keys9 (Nat.ne_of_lt hg) HG HN8)) hg H39 (i := 0) rfl E1.out (cl_get0 I1.out _ _) (cl_get1 I1.out _ _)) (fun _ w32 q32 => ⟨.int .i64 (sgnQ d0 d1), q32.1, trivial, ?_⟩)
      have u32 := q32.2
      clear q32
      have H36b : Sto w [(b1, cl L1 k1 d0 d1), (n, [K]), (n + 1, [a - S]), (n + 1 + 1, [T]), (n + 1 + 1 + 1, [r]), (n + 1 + 1 + 1 + 1, [a]), (n + 1 + 1 + 1 + 1 + 1, [b]), (n + 1 + 1 + 1 + 1 + 1 + 1, [g]), (w29.heap.size, [c1, c0])] w32 := u32
      clear u32 H39
      refine k_pure (by kernel_rfl) (d := (some 205)) (by kernel_rfl) (v := .int .i32 (IntKind.i32.wrap (sgnQ d0 d1))) (fun _ => by kernel_rfl) ?_
      refine k_pure (by kernel_rfl) (d := (some 206)) (by kernel_rfl) (v := .int .i64 sg) (fun _ => by kernel_rfl) ?_
      refine k_pure (by kernel_rfl) (d := (some 207)) (by kernel_rfl) (v := .int .i32 (IntKind.i32.wrap sg)) (fun _ => by kernel_rfl) ?_
      refine k_callR (by kernel_rfl) (d := (some 208)) (by kernel_rfl) (f := 111) (args := #[.int .i32 (IntKind.i32.wrap (sgnQ d0 d1)), .int .i32 (IntKind.i32.wrap sg)]) (fun _ => by kernel_rfl) (ctEqS _ _ H36b) (fun _ w33 q33 => ⟨.int .i64 (ceq (IntKind.i32.wrap (sgnQ d0 d1)) (IntKind.i32.wrap sg)), q33.1, trivial, ?_⟩)
      have u33 := q33.2
      clear q33
      refine k_pure (by kernel_rfl) (d := (some 209)) (by kernel_rfl) (v := .int .i64 (df (sgnQ d0 d1) sg)) (fun _ => by kernel_rfl) ?_
      refine k_pure (by kernel_rfl) (d := (some 17)) (by kernel_rfl) (v := .int .i64 (df (sgnQ d0 d1) sg)) (fun _ => by kernel_rfl) ?_
      refine k_end ?_
      go_simp
      go_upto_region 38 with (fail)
      have H37 : Sto w [(b1, cl L1 k1 d0 d1), (n, [K]), (n + 1, [a - S]), (n + 1 + 1, [T]), (n + 1 + 1 + 1, [r]), (n + 1 + 1 + 1 + 1, [a]), (n + 1 + 1 + 1 + 1 + 1, [b]), (n + 1 + 1 + 1 + 1 + 1 + 1, [g]), (w29.heap.size, [c1, c0])] w33 := u33
      clear u33 H36b
      have HN9 : n ≤ w33.heap.size := by have := (H37.blk 1 _ _ rfl).lt; omega
      have H38 : Sto w [(b1, cl L1 k1 d0 d1), (n, [K]), (n + 1, [a - S]), (n + 1 + 1, [T]), (n + 1 + 1 + 1, [r]), (n + 1 + 1 + 1 + 1, [a]), (n + 1 + 1 + 1 + 1 + 1, [b]), (n + 1 + 1 + 1 + 1 + 1 + 1, [g]), (w29.heap.size, [c1, c0]), (w33.heap.size, [0, 0])] (w33.alloc (.cells #[.int .u8 0, .int .u8 0, .int .u8 0, .int .u8 0, .int .u8 0, .int .u8 0, .int .u8 0, .int .u8 0, .int .u8 0, .int .u8 0, .int .u8 0, .int .u8 0, .int .u8 0, .int .u8 0, .int .u8 0, .int .u8 0, .int .u8 0, .int .u8 0, .int .u8 0, .int .u8 0, .int .u8 0, .int .u8 0, .int .u8 0, .int .u8 0, .int .u8 0, .int .u8 0, .int .u8 0, .int .u8 0, .int .u8 0, .int .u8 0, .int .u8 0, .int .u8 0] 83)) := H37.new (l := [0, 0]) rfl zero_fps2.symm (all2L low_zero low_zero) rfl
      obtain ⟨W37, hW⟩ : ∃ W37 : World, W37 = (w33.alloc (.cells #[.int .u8 0, .int .u8 0, .int .u8 0, .int .u8 0, .int .u8 0, .int .u8 0, .int .u8 0, .int .u8 0, .int .u8 0, .int .u8 0, .int .u8 0, .int .u8 0, .int .u8 0, .int .u8 0, .int .u8 0, .int .u8 0, .int .u8 0, .int .u8 0, .int .u8 0, .int .u8 0, .int .u8 0, .int .u8 0, .int .u8 0, .int .u8 0, .int .u8 0, .int .u8 0, .int .u8 0, .int .u8 0, .int .u8 0, .int .u8 0, .int .u8 0, .int .u8 0] 83)) := ⟨_, rfl⟩
      rw [← hW] at H38 ⊢
      clear hW H37
      refine wp_seq_atS (opsAt Tryd.f83 38) ((true, 0) :: (true, 1) :: (false, 2) :: []) (fun _ => True) (by kernel_rfl) (by kernel_rfl) trivial ?_
      refine k_pure (by kernel_rfl) (d := (some 212)) (by kernel_rfl) (v := .pointer (some ⟨w33.heap.size, 0, none⟩)) (fun _ => by kernel_rfl) ?_
      refine k_pure (by kernel_rfl) (d := (some 213)) (by kernel_rfl) (v := .pointer (some ⟨b1, o1, none⟩)) (fun _ => by kernel_rfl) ?_
      refine k_callR (by kernel_rfl) (d := (some 214)) (by kernel_rfl) (f := 112) (args := #[.pointer (some ⟨w33.heap.size, 0, none⟩), .pointer (some ⟨b1, o1, none⟩)]) (fun _ => by kernel_rfl) (stNegQ (hm.sto H38 (keys10 (Nat.ne_of_lt hg) HG HN8 HN9)) (Nat.lt_of_lt_of_le HG HN9) H38 (i := 9) rfl (k1 := 0) rfl (by simp) ⟨(H38.at 0 k1 rfl (cl_get0 I1.out _ _) E1.out), (H38.at 0 (k1 + 1) rfl (cl_get1 I1.out _ _) (e16 E1.out))⟩ (.inl (H38.ne 0 9 _ _ _ _ rfl rfl (by decide)))) (fun _ w34 q34 => ⟨.tuple #[], q34.1, trivial, ?_⟩)
      have u34 := q34.2
      clear q34
      refine k_end ?_
      go_simp
      go_upto_region 39 with (fail)
      have H39 : Sto w [(b1, cl L1 k1 d0 d1), (n, [K]), (n + 1, [a - S]), (n + 1 + 1, [T]), (n + 1 + 1 + 1, [r]), (n + 1 + 1 + 1 + 1, [a]), (n + 1 + 1 + 1 + 1 + 1, [b]), (n + 1 + 1 + 1 + 1 + 1 + 1, [g]), (w29.heap.size, [c1, c0]), (w33.heap.size, [-d0, -d1])] w34 := u34
      clear u34 H38
      refine wp_seq_atS (opsAt Tryd.f83 39) ((true, 0) :: (true, 1) :: (true, 2) :: (false, 3) :: []) (fun _ => True) (by kernel_rfl) (by kernel_rfl) trivial ?_
      refine k_pure (by kernel_rfl) (d := (some 215)) (by kernel_rfl) (v := .pointer (some ⟨b1, o1, none⟩)) (fun _ => by kernel_rfl) ?_
      refine k_pure (by kernel_rfl) (d := (some 216)) (by kernel_rfl) (v := .pointer (some ⟨w33.heap.size, 0, none⟩)) (fun _ => by kernel_rfl) ?_
      refine k_pure (by kernel_rfl) (d := (some 217)) (by kernel_rfl) (v := .int .i64 (df (sgnQ d0 d1) sg)) (fun _ => by kernel_rfl) ?_
      refine k_callR (by kernel_rfl) (d := (some 218)) (by kernel_rfl) (f := 110) (args := #[.pointer (some ⟨b1, o1, none⟩), .pointer (some ⟨w33.heap.size, 0, none⟩), .int .i64 (df (sgnQ d0 d1) sg)]) (fun _ => by kernel_rfl) (stCmov (df01 _ _) H39 (i := 0) rfl E1.out (cl_get0 I1.out _ _) (cl_get1 I1.out _ _) ⟨H39.at 9 0 rfl rfl rfl, H39.at 9 1 rfl rfl rfl⟩ (.inl (H39.ne 9 0 _ _ _ _ rfl rfl (by decide))) (.inl (H39.ne 9 0 _ _ _ _ rfl rfl (by decide))) (.inl (H39.ne 9 0 _ _ _ _ rfl rfl (by decide)))) (fun _ w35 q35 => ⟨.tuple #[], q35.1, trivial, ?_⟩)
      have u35 := q35.2
      clear q35
      refine k_end ?_
      go_simp
      have H40 : Hid (Sto w [(b1, cl L1 k1 f0 f1), (n, [K]), (n + 1, [a - S]), (n + 1 + 1, [T]), (n + 1 + 1 + 1, [r]), (n + 1 + 1 + 1 + 1, [a]), (n + 1 + 1 + 1 + 1 + 1, [b]), (n + 1 + 1 + 1 + 1 + 1 + 1, [g]), (w29.heap.size, [c1, c0]), (w33.heap.size, [-d0, -d1])] w35) := Lib.hid (by have := u35; rw [cl_fst, cl_snd, HF0.out, HF1.out] at this; exact this)
      clear u35 H39
      go_wp2_with fail
      go_end0
      exact ⟨rfl, H40.out.end1 (fun p hp => hn.out.symm ▸ keysT HN8 HN9 p hp)⟩
end
end Go.Proofs.YtfkfljohhabldaaDoor
namespace Go.FourQ
theorem sq_10 (z0 z1 v0 v1 b : Zp) : (b * ((((z0 * z0) - (z1 * z1)) * v0) - (((z0 * z1) + (z1 * z0)) * v1))) = (((b * ((z0 * z0) - (z1 * z1))) * v0) - ((b * ((z0 * z1) + (z0 * z1))) * v1)) := ring_eq zpR (fun i => [z0, z1, v0, v1, b].getD i 0) (.mul (.v 4) (.sub (.mul (.sub (.mul (.v 0) (.v 0)) (.mul (.v 1) (.v 1))) (.v 2)) (.mul (.add (.mul (.v 0) (.v 1)) (.mul (.v 1) (.v 0))) (.v 3)))) (.sub (.mul (.mul (.v 4) (.sub (.mul (.v 0) (.v 0)) (.mul (.v 1) (.v 1)))) (.v 2)) (.mul (.mul (.v 4) (.add (.mul (.v 0) (.v 1)) (.mul (.v 0) (.v 1)))) (.v 3))) (by kernel_rfl)
theorem sq_11 (z0 z1 v0 v1 b : Zp) : (b * ((((z0 * z0) - (z1 * z1)) * v1) + (((z0 * z1) + (z1 * z0)) * v0))) = (((b * ((z0 * z0) - (z1 * z1))) * v1) + ((b * ((z0 * z1) + (z0 * z1))) * v0)) := ring_eq zpR (fun i => [z0, z1, v0, v1, b].getD i 0) (.mul (.v 4) (.add (.mul (.sub (.mul (.v 0) (.v 0)) (.mul (.v 1) (.v 1))) (.v 3)) (.mul (.add (.mul (.v 0) (.v 1)) (.mul (.v 1) (.v 0))) (.v 2)))) (.add (.mul (.mul (.v 4) (.sub (.mul (.v 0) (.v 0)) (.mul (.v 1) (.v 1)))) (.v 3)) (.mul (.mul (.v 4) (.add (.mul (.v 0) (.v 1)) (.mul (.v 0) (.v 1)))) (.v 2))) (by kernel_rfl)
theorem sq_12 (b z0 z1 : Zp) : (b * ((z0 * z0) - (z1 * z1))) = (-(b * ((z1 * z1) - (z0 * z0)))) := ring_eq zpR (fun i => [b, z0, z1].getD i 0) (.mul (.v 0) (.sub (.mul (.v 1) (.v 1)) (.mul (.v 2) (.v 2)))) (.neg (.mul (.v 0) (.sub (.mul (.v 2) (.v 2)) (.mul (.v 1) (.v 1))))) (by kernel_rfl)
theorem sq_13 (b z0 z1 : Zp) : (b * ((z0 * (-z1)) + (z0 * (-z1)))) = (-(b * ((z1 * z0) + (z1 * z0)))) := ring_eq zpR (fun i => [b, z0, z1].getD i 0) (.mul (.v 0) (.add (.mul (.v 1) (.neg (.v 2))) (.mul (.v 1) (.neg (.v 2))))) (.neg (.mul (.v 0) (.add (.mul (.v 2) (.v 1)) (.mul (.v 2) (.v 1))))) (by kernel_rfl)
def conj (a : Zq) : Zq := ⟨a.re, -a.im⟩
/-- From what the code reckons to a root. -/
theorem root_of {u v z : Zq} (hb : v.re * v.re + v.im * v.im ≠ 0) (h0 : (v.re * v.re + v.im * v.im) * (z.re * z.re - z.im * z.im) = u.re * v.re + u.im * v.im)
    (h1 : (v.re * v.re + v.im * v.im) * (z.re * z.im + z.re * z.im) = u.im * v.re - u.re * v.im) : z * z * v = u := by
  refine Zq.ext ?_ ?_
  · refine zmul_cancel hb ?_
    refine Eq.trans (sq_10 z.re z.im v.re v.im _) ?_
    rw [h0, h1, sq_8]
    exact zmul_comm _ _
  · refine zmul_cancel hb ?_
    refine Eq.trans (sq_11 z.re z.im v.re v.im _) ?_
    rw [h0, h1, sq_9]
    exact zmul_comm _ _
theorem pow_2127 {m : Zp} {e F : Nat} (hF : m.pow F = 1) (he : 2 * (e + e) = F + 2) : (m * m).pow e * (m * m).pow e = m * m := by
  have sq : ∀ t : Zp, t * t = t.pow 2 := fun t => by rw [show 2 = 1 + 1 from rfl, zpow_add, zpow_one]
  have h1 : (m * m).pow e * (m * m).pow e = m.pow (F + 2) := by rw [← zpow_add, sq m, zpow_mul, he]
  rw [h1, zpow_add, hF, zone_mul, ← sq]
theorem pow_rr {P r : Zp} {E : Nat} (hr : P.pow E = r) : r * r * P = P.pow (2 * E + 1) := by
  rw [← hr, ← zpow_add, show 2 * E + 1 = E + E + 1 by omega, zpow_add _ (E + E) 1, zpow_one]
theorem zneg_ne {t : Zp} (h : t ≠ 0) : -t ≠ 0 := fun e => h (by rw [← zneg_neg t, e, zneg_zero])
theorem ztwo_ne {t : Zp} (h : t ≠ 0) : t + t ≠ 0 := fun e => h (by rw [← two_half t, ← zmul_comm half, ← zmul_add, e, zmul_zero])
end Go.FourQ
namespace Go.Proofs.YtfkfljohhabldaaDoor
open Go.RowKit Go.FourQ
/-- What fqSqrt reckons. -/
def SqV (u v : Zq) (sg : Int) (f : Zq) : Prop := ∃ a b g X S t T r q c0 c1 K d0 d1 : Zp,
  u.re * v.re + u.im * v.im = a ∧ v.re * v.re + v.im * v.im = b ∧ u.im * v.re - u.re * v.im = g ∧ a * a + g * g = X ∧ X.pow (1 * 2 ^ 125) = S ∧
  (if isz (a + S).val = 1 then a - S else a + S) = t ∧ t + t = T ∧ (b * b * b * T).pow 42535295865117307932921825928971026431 = r ∧ r * b = q ∧ q * T * half = c0 ∧ q * g = c1 ∧
  (c0 + c0) * (c0 + c0) * b - T = K ∧ (if nz K.val = 1 then c1 else c0) = d0 ∧ (if nz K.val = 1 then c0 else c1) = d1 ∧
  (if df (sgnQ d0 d1) sg = 1 then -d0 else d0) = f.re ∧ (if df (sgnQ d0 d1) sg = 1 then -d1 else d1) = f.im
theorem SqV.ex (u v : Zq) (sg : Int) : ∃ f, SqV u v sg f := by
  obtain ⟨a, ha⟩ : ∃ z : Zp, u.re * v.re + u.im * v.im = z := ⟨_, rfl⟩
  obtain ⟨b, hb⟩ : ∃ z : Zp, v.re * v.re + v.im * v.im = z := ⟨_, rfl⟩
  obtain ⟨g, hg⟩ : ∃ z : Zp, u.im * v.re - u.re * v.im = z := ⟨_, rfl⟩
  obtain ⟨X, hX⟩ : ∃ z : Zp, a * a + g * g = z := ⟨_, rfl⟩
  obtain ⟨S, hS⟩ : ∃ z : Zp, X.pow (1 * 2 ^ 125) = z := ⟨_, rfl⟩
  obtain ⟨t, ht⟩ : ∃ z : Zp, (if isz (a + S).val = 1 then a - S else a + S) = z := ⟨_, rfl⟩
  obtain ⟨T, hT⟩ : ∃ z : Zp, t + t = z := ⟨_, rfl⟩
  obtain ⟨r, hr⟩ : ∃ z : Zp, (b * b * b * T).pow 42535295865117307932921825928971026431 = z := ⟨_, rfl⟩
  obtain ⟨q, hq⟩ : ∃ z : Zp, r * b = z := ⟨_, rfl⟩
  obtain ⟨c0, hc0⟩ : ∃ z : Zp, q * T * half = z := ⟨_, rfl⟩
  obtain ⟨c1, hc1⟩ : ∃ z : Zp, q * g = z := ⟨_, rfl⟩
  obtain ⟨K, hK⟩ : ∃ z : Zp, (c0 + c0) * (c0 + c0) * b - T = z := ⟨_, rfl⟩
  obtain ⟨d0, hd0⟩ : ∃ z : Zp, (if nz K.val = 1 then c1 else c0) = z := ⟨_, rfl⟩
  obtain ⟨d1, hd1⟩ : ∃ z : Zp, (if nz K.val = 1 then c0 else c1) = z := ⟨_, rfl⟩
  obtain ⟨f0, hf0⟩ : ∃ z : Zp, (if df (sgnQ d0 d1) sg = 1 then -d0 else d0) = z := ⟨_, rfl⟩
  obtain ⟨f1, hf1⟩ : ∃ z : Zp, (if df (sgnQ d0 d1) sg = 1 then -d1 else d1) = z := ⟨_, rfl⟩
  exact ⟨⟨f0, f1⟩, a, b, g, X, S, t, T, r, q, c0, c1, K, d0, d1, ha, hb, hg, hX, hS, ht, hT, hr, hq, hc0, hc1, hK, hd0, hd1, hf0, hf1⟩
theorem fqSqrt {w : World} {b1 b2 b3 o1 o2 o3 k1 : Nat} {L1 : List Zp} {u v f : Zq} {sg : Int} (hf : SqV u v sg f) (hm : ModW w) (hg : 4 < b1) (h1 : FpsZ w b1 L1) (hU : AtQ w b2 o2 u.re u.im) (hV : AtQ w b3 o3 v.re v.im) (e1 : o1 = 16 * k1) (i1 : k1 + 1 < L1.length) (dU : b2 ≠ b1) (dV : b3 ≠ b1) :
    Calls Tryd.prog 83 #[.pointer (some ⟨b1, o1, none⟩), .pointer (some ⟨b2, o2, none⟩), .pointer (some ⟨b3, o3, none⟩), .int .i64 sg] w fun e w' => e = .returned (.tuple #[]) ∧ UpdZ w w' b1 ((L1.set k1 f.re).set (k1 + 1) f.im) := by
  obtain ⟨a, b, g, X, S, t, T, r, q, c0, c1, K, d0, d1, ha, hb, hgg, hx, hS, ht, htt, hr, hq, hc0, hc1, hk, hd0, hd1, hf0, hf1⟩ := hf
  have p0 := List.getElem?_eq_getElem (Nat.lt_of_succ_lt i1)
  have p1 := List.getElem?_eq_getElem i1
  exact fqSqrtW hm hg h1 hU hV e1 i1 dU dV ha hb hgg hx hS ht htt hr hq hc0 hc1 hk hd0 hd1 hf0 hf1 (cl_self p0 p1)
theorem isz_one {x : Nat} : isz x = 1 ↔ x = 0 := by
  unfold isz
  by_cases h : x = 0
  · rw [if_pos h]; exact ⟨fun _ => h, fun _ => rfl⟩
  · rw [if_neg h]; exact ⟨fun e => absurd e (by decide), fun e => absurd e h⟩
theorem nz_one {x : Nat} : nz x = 1 ↔ x ≠ 0 := by
  rw [nz_eq]
  by_cases h : x = 0
  · rw [if_pos h]; exact ⟨fun e => absurd e (by decide), fun e => absurd h e⟩
  · rw [if_neg h]; exact ⟨fun _ => h, fun _ => rfl⟩
theorem sq_sign {f d0 : Zp} {v : Int} (h : (if v = 1 then -d0 else d0) = f) : f = d0 ∧ v ≠ 1 ∨ f = -d0 ∧ v = 1 := by
  by_cases hv : v = 1
  · rw [if_pos hv] at h; exact .inr ⟨h.symm, hv⟩
  · rw [if_neg hv] at h; exact .inl ⟨h.symm, hv⟩
/-- The root of a square's quotient. -/
theorem SqV.law {u v w f : Zq} {sg : Int} (h : SqV u v sg f) (hv : v ≠ 0) (hw : w ≠ 0) (hu : u = w * w * v) : f * f * v = u ∨ conj f * conj f * v = u := by
  obtain ⟨a, b, g, X, S, t, T, r, q, c0, c1, K, d0, d1, ha, hb, hgg, hx, hS, ht, htt, hr, hq, hc0, hc1, hk, hd0, hd1, hf0, hf1⟩ := h
  have hb0 : b ≠ 0 := hb ▸ norm_ne hv
  have hb0' : v.re * v.re + v.im * v.im ≠ 0 := norm_ne hv
  have hw0 : w.norm ≠ 0 := norm_ne hw
  have hm : w.norm * b ≠ 0 := zmul_ne hw0 hb0
  have hX : X = (w.norm * b) * (w.norm * b) := by
    rw [← hx, ← ha, ← hgg, sq_6, show u.re * u.re + u.im * u.im = u.norm from rfl, hu, norm_mul, norm_mul, show v.norm = b from hb, hb]
    exact ring_eq zpR (fun i => [w.norm, b].getD i 0) (.mul (.mul (.mul (.v 0) (.v 0)) (.v 1)) (.v 1)) (.mul (.mul (.v 0) (.v 1)) (.mul (.v 0) (.v 1))) (by kernel_rfl)
  have hX0 : X ≠ 0 := hX ▸ zmul_ne hm hm
  have hSS : S * S = X := by rw [← hS, hX]; exact pow_2127 (zfermat hm) (by decide +kernel)
  -- t = a + s
  obtain ⟨s, hs, hts, ht0⟩ : ∃ s : Zp, s * s = a * a + g * g ∧ t = a + s ∧ t ≠ 0 := by
    by_cases h0 : a + S = 0
    · rw [if_pos (isz_one.2 (by rw [h0]; rfl))] at ht
      refine ⟨-S, by rw [zneg_mul, zmul_neg, zneg_neg, hSS, hx], ht.symm, fun e => ?_⟩
      rw [← ht] at e
      have haS : a = S := zeq_of_sub e
      rw [haS] at h0
      have : S = 0 := Classical.byContradiction fun hne => ztwo_ne hne h0
      exact hX0 (by rw [← hSS, this, zmul_zero])
    · rw [if_neg (fun e => h0 (Zp.ext (isz_one.1 e)))] at ht
      exact ⟨S, by rw [hSS, hx], ht.symm, fun e => h0 (ht.trans e)⟩
  have hT0 : T ≠ 0 := htt ▸ ztwo_ne ht0
  have hP0 : b * b * b * T ≠ 0 := zmul_ne (zmul_ne (zmul_ne hb0 hb0) hb0) hT0
  obtain ⟨e, he, hre⟩ : ∃ e : Zp, (e = 1 ∨ e = -1) ∧ r * r * ((t + t) * (b * b * b)) = e := by
    refine ⟨_, sign_pow hP0, ?_⟩
    rw [htt, zmul_comm T]
    exact pow_rr hr
  subst hts
  have core := sqrt_core hs hre
  obtain ⟨k1, k2, k3⟩ := core
  have hc0' : c0 = r * b * (a + s) := by
    rw [← hc0, ← hq, ← htt]
    exact (zmul_assoc _ _ _).trans (congrArg (fun t => r * b * t) (zhalf _))
  have hc1' : c1 = r * b * g := by rw [← hc1, ← hq]
  have hcc : c0 + c0 = r * b * ((a + s) + (a + s)) := by rw [hc0']; exact (zmul_add _ _ _).symm
  have hK : K = e * T - T := by rw [← hk, hcc, zmul_comm _ b, k3, htt]
  rw [← hc0', ← hc1'] at k1 k2
  have base : b * (d0 * d0 - d1 * d1) = a ∧ b * (d0 * d1 + d0 * d1) = g ∨ b * (d0 * d0 - -d1 * -d1) = a ∧ b * (d0 * -d1 + d0 * -d1) = g := by
    rcases he with rfl | rfl
    · have hK0 : K = 0 := by rw [hK, zone_mul, zsub_self]
      have hn : nz K.val ≠ 1 := fun e => nz_one.1 e (by rw [hK0]; rfl)
      rw [if_neg hn] at hd0 hd1
      subst hd0 hd1
      rw [zone_mul] at k1 k2
      exact .inl ⟨k1, k2⟩
    · have hK0 : K ≠ 0 := by
        rw [hK, zneg_mul, zone_mul]
        intro e
        have e' : -(T + T) = 0 := by rw [← e]; exact zpR.neg_add_rev T T
        exact zneg_ne (ztwo_ne hT0) e'
      have hn : nz K.val = 1 := nz_one.2 (zval_ne hK0)
      rw [if_pos hn] at hd0 hd1
      subst hd0 hd1
      rw [zneg_mul, zone_mul] at k1 k2
      refine .inr ⟨?_, ?_⟩
      · rw [zneg_mul, zmul_neg, zneg_neg, sq_12, k1, zneg_neg]
      · rw [sq_13, k2, zneg_neg]
  rw [← hb, ← ha, ← hgg] at base
  rcases sq_sign hf0 with ⟨e0, hd⟩ | ⟨e0, hd⟩
  · rw [if_neg hd] at hf1
    rcases base with ⟨b0, b1⟩ | ⟨b0, b1⟩
    · exact .inl (root_of hb0' (by rw [e0, ← hf1]; exact b0) (by rw [e0, ← hf1]; exact b1))
    · exact .inr (root_of hb0' (by show _ * (f.re * f.re - -f.im * -f.im) = _; rw [e0, ← hf1]; exact b0) (by show _ * (f.re * -f.im + f.re * -f.im) = _; rw [e0, ← hf1]; exact b1))
  · rw [if_pos hd] at hf1
    rcases base with ⟨b0, b1⟩ | ⟨b0, b1⟩
    · exact .inl (root_of hb0' (by rw [e0, ← hf1, zneg_mul, zmul_neg, zneg_neg, zneg_mul, zmul_neg, zneg_neg]; exact b0) (by rw [e0, ← hf1, zneg_mul, zmul_neg, zneg_neg]; exact b1))
    · refine .inr (root_of hb0' ?_ ?_)
      · show _ * (f.re * f.re - -f.im * -f.im) = _
        rw [e0, ← hf1, zneg_neg, zneg_mul, zmul_neg, zneg_neg]
        rw [zneg_mul, zmul_neg, zneg_neg] at b0
        exact b0
      · show _ * (f.re * -f.im + f.re * -f.im) = _
        rw [e0, ← hf1, zneg_neg, zneg_mul]
        rw [zmul_neg] at b1
        exact b1
/-- Nothing of nothing. -/
theorem SqV.zero {v f : Zq} {sg : Int} (h : SqV 0 v sg f) : f = 0 := by
  obtain ⟨a, b, g, X, S, t, T, r, q, c0, c1, K, d0, d1, ha, hb, hgg, hx, hS, ht, htt, hr, hq, hc0, hc1, hk, hd0, hd1, hf0, hf1⟩ := h
  have ha0 : a = 0 := by rw [← ha]; show 0 * v.re + 0 * v.im = 0; rw [zzero_mul, zzero_mul, zadd_zero]
  have hg0 : g = 0 := by rw [← hgg]; show 0 * v.re - 0 * v.im = 0; rw [zzero_mul, zzero_mul, zsub_self]
  have hX0 : X = 0 := by rw [← hx, ha0, hg0, zmul_zero, zadd_zero]
  have hS0 : S = 0 := by rw [← hS, hX0]; exact zero_pow (by decide)
  have ht0 : t = 0 := by
    rw [← ht, ha0, hS0]
    split
    · exact zsub_self 0
    · exact zadd_zero 0
  have hT0 : T = 0 := by rw [← htt, ht0, zadd_zero]
  have hc00 : c0 = 0 := by rw [← hc0, hT0, zmul_zero, zzero_mul]
  have hc10 : c1 = 0 := by rw [← hc1, hg0, zmul_zero]
  subst hc00 hc10
  have hd00 : d0 = 0 := by rw [← hd0]; split <;> rfl
  have hd10 : d1 = 0 := by rw [← hd1]; split <;> rfl
  subst hd00 hd10
  refine Zq.ext ?_ ?_
  · rw [← hf0]; split
    · exact zneg_zero
    · rfl
  · rw [← hf1]; split
    · exact zneg_zero
    · rfl
end Go.Proofs.YtfkfljohhabldaaDoor
namespace Go.FourQ
open Go.Proofs.YtfkfljohhabldaaDoor
theorem zero4 : ∀ v ∈ [0, 0, 0, 0], LowB v := fun v hv => by rw [show v = 0 by simpa using hv]; exact low_zero
theorem sgnN_neg {x : Zp} (h : x ≠ 0) : sgnN (-x).val = -sgnN x.val := by
  have h0 := zval_ne h
  have hl := x.lt
  have e : (-x).val = pp - x.val := by
    show (pp - x.val) % pp = _
    rw [Nat.mod_eq_of_lt (by omega)]
  rw [e]
  unfold sgnN
  rw [if_neg (by omega), if_neg h0]
  unfold pp at *
  omega
theorem sgnN_pm {x : Nat} (h : x ≠ 0) : sgnN x = 1 ∨ sgnN x = -1 := by
  unfold sgnN
  rw [if_neg h]; omega
theorem val_ne_iff {x : Zp} : x.val = 0 ↔ x = 0 := ⟨fun e => Zp.ext e, fun e => by rw [e]; rfl⟩
theorem sgnQ_ne {a b : Zp} (h : a ≠ 0) : sgnQ a b = sgnN a.val := by
  unfold sgnQ; rw [if_neg (fun e => h (val_ne_iff.1 e))]
theorem sgnQ_z {b : Zp} : sgnQ 0 b = sgnN b.val := by
  unfold sgnQ; rw [if_pos val_zero]
theorem sgnQ_neg {a b : Zp} (h : ¬ (a = 0 ∧ b = 0)) : sgnQ (-a) (-b) = -sgnQ a b := by
  by_cases ha : a = 0
  · subst ha
    rw [zneg_zero, sgnQ_z, sgnQ_z]
    exact sgnN_neg fun e => h ⟨rfl, e⟩
  · rw [sgnQ_ne ha, sgnQ_ne (zneg_ne ha)]
    exact sgnN_neg ha
theorem sgnQ_pm {a b : Zp} (h : ¬ (a = 0 ∧ b = 0)) : sgnQ a b = 1 ∨ sgnQ a b = -1 := by
  by_cases ha : a = 0
  · subst ha; rw [sgnQ_z]; exact sgnN_pm fun e => h ⟨rfl, val_ne_iff.1 e⟩
  · rw [sgnQ_ne ha]; exact sgnN_pm fun e => ha (val_ne_iff.1 e)
theorem sgnQ_zero : sgnQ 0 0 = 0 := by rw [sgnQ_z, val_zero]; rfl
theorem wrap_pm {a b : Int} (ha : a = 1 ∨ a = -1) (hb : b = 1 ∨ b = -1) (h : IntKind.i32.wrap a = IntKind.i32.wrap b) : a = b := by
  rcases ha with rfl | rfl <;> rcases hb with rfl | rfl
  · rfl
  · exact absurd h (by decide +kernel)
  · exact absurd h (by decide +kernel)
  · rfl
/-- The root has the sign that was asked for. -/
theorem SqV.sgn {u v f : Zq} {sg : Int} (h : SqV u v sg f) (hs : sg = 1 ∨ sg = -1) (hf : f ≠ 0) : sgnQ f.re f.im = sg := by
  obtain ⟨a, b, g, X, S, t, T, r, q, c0, c1, K, d0, d1, -, -, -, -, -, -, -, -, -, -, -, -, -, -, hf0, hf1⟩ := h
  rw [df_eq] at hf0 hf1
  have hd : ¬ (d0 = 0 ∧ d1 = 0) := fun ⟨e0, e1⟩ => hf (Zq.ext (by rw [← hf0, e0]; split <;> first | rfl | exact zneg_zero) (by rw [← hf1, e1]; split <;> first | rfl | exact zneg_zero))
  have hp := sgnQ_pm hd
  by_cases hw : IntKind.i32.wrap (sgnQ d0 d1) = IntKind.i32.wrap sg
  · rw [if_pos hw, if_neg (by decide)] at hf0 hf1
    rw [← hf0, ← hf1]
    exact wrap_pm hp hs hw
  · rw [if_neg hw, if_pos rfl] at hf0 hf1
    rw [← hf0, ← hf1, sgnQ_neg hd]
    rcases hp with e | e <;> rcases hs with e' | e' <;> first | (rw [e, e']; done) | (rw [e, e']; decide) | exact absurd (by rw [e, e']) hw
/-- The sign bit. -/
def ebit (x : Zq) : Nat := if sgnQ x.re x.im = -1 then 1 else 0
def esgn (e : Nat) : Int := if e = 1 then -1 else 1
theorem ebit01 (x : Zq) : ebit x = 0 ∨ ebit x = 1 := by unfold ebit; split <;> simp
theorem zq_ne {x : Zq} (h : x ≠ 0) : ¬ (x.re = 0 ∧ x.im = 0) := fun e => h (Zq.ext e.1 e.2)
theorem esgn_ebit {x : Zq} (h : x ≠ 0) : esgn (ebit x) = sgnQ x.re x.im := by
  unfold esgn ebit
  rcases sgnQ_pm (zq_ne h) with e | e <;> rw [e] <;> decide
theorem esgn_pm (e : Nat) : esgn e = 1 ∨ esgn e = -1 := by unfold esgn; split <;> simp
theorem ebit_neg {x : Zq} (h : x ≠ 0) : ebit (-x) + ebit x = 1 := by
  unfold ebit
  rw [q_neg_re, q_neg_im, sgnQ_neg (zq_ne h)]
  rcases sgnQ_pm (zq_ne h) with e | e <;> rw [e] <;> decide
theorem ebit_zero : ebit 0 = 0 := by
  unfold ebit
  rw [show (0 : Zq).re = 0 from rfl, show (0 : Zq).im = 0 from rfl, sgnQ_zero]; decide
theorem pm_of_sq {a b : Zq} (h : a * a = b * b) : a = b ∨ a = -b := by
  have e : (a - b) * (a + b) = 0 := by
    rw [show (a - b) * (a + b) = a * a - b * b from ring_eq zqR (fun i => [a, b].getD i 0) (.mul (.sub (.v 0) (.v 1)) (.add (.v 0) (.v 1))) (.sub (.mul (.v 0) (.v 0)) (.mul (.v 1) (.v 1))) (by kernel_rfl), h, qsub_self]
  rcases qmul_eq_zero e with e | e
  · exact .inl (qeq_of_sub e)
  · exact .inr (zqR.eq_neg (a := b) (b := a) ((qadd_comm b a).trans e))
theorem v_ne (y : Zq) : y * y * dd + 1 ≠ 0 := fun e => by
  by_cases hy : y = 0
  · subst hy; rw [qzero_mul, qzero_mul, qzero_add] at e; exact qone_ne_zero e
  · have hi := qmul_inv hy
    have h1 : y * y * dd = -1 := zqR.eq_neg (a := 1) (b := y * y * dd) ((qadd_comm _ _).trans e)
    refine dd_nonsq (ii * y.inv) ?_
    have e2 : ii * y.inv * (ii * y.inv) = ii * ii * (y.inv * y.inv) := ring_eq zqR (fun i => [ii, y.inv].getD i 0) (.mul (.mul (.v 0) (.v 1)) (.mul (.v 0) (.v 1))) (.mul (.mul (.v 0) (.v 0)) (.mul (.v 1) (.v 1))) (by kernel_rfl)
    rw [e2, ii_sq, ← h1]
    have e3 : y * y * dd * (y.inv * y.inv) = dd * (y * y.inv) * (y * y.inv) := ring_eq zqR (fun i => [y, y.inv, dd].getD i 0) (.mul (.mul (.mul (.v 0) (.v 0)) (.v 2)) (.mul (.v 1) (.v 1))) (.mul (.mul (.v 2) (.mul (.v 0) (.v 1))) (.mul (.v 0) (.v 1))) (by kernel_rfl)
    rw [e3, hi, qmul_one, qmul_one]
theorem onC_iff {x y : Zq} : OnC x y ↔ x * x * (y * y * dd + 1) = y * y - 1 := by
  have e : (y * y - x * x) - (1 + dd * (x * x * (y * y))) = (y * y - 1) - x * x * (y * y * dd + 1) := ring_eq zqR (fun i => [x, y, dd].getD i 0) (.sub (.sub (.mul (.v 1) (.v 1)) (.mul (.v 0) (.v 0))) (.add (.n 1) (.mul (.v 2) (.mul (.mul (.v 0) (.v 0)) (.mul (.v 1) (.v 1)))))) (.sub (.sub (.mul (.v 1) (.v 1)) (.n 1)) (.mul (.mul (.v 0) (.v 0)) (.add (.mul (.mul (.v 1) (.v 1)) (.v 2)) (.n 1)))) (by kernel_rfl)
  unfold OnC
  constructor
  · intro h
    rw [h, qsub_self] at e
    exact (qeq_of_sub e.symm).symm
  · intro h
    rw [h, qsub_self] at e
    exact qeq_of_sub e
/-- Two elements with equal squares and signs are one. -/
theorem same_sgn {a b : Zq} {s : Int} (h : a * a = b * b) (ha : a ≠ 0) (hs : sgnQ a.re a.im = s) (ht : sgnQ b.re b.im = s) : a = b := by
  rcases pm_of_sq h with e | e
  · exact e
  · exfalso
    have hb : b ≠ 0 := fun e2 => ha (by rw [e, e2]; exact qneg_zero)
    rw [e, q_neg_re, q_neg_im, sgnQ_neg (zq_ne hb), ht] at hs
    have := sgnQ_pm (zq_ne hb)
    rw [ht] at this
    omega
/-- The decoded root is the first coordinate, or its conjugate is, where it is none. -/
theorem decode_root {p : Pt} {f : Zq} (h : SqV (p.y * p.y - 1) (p.y * p.y * dd + 1) (esgn (ebit p.x)) f) : (OnC f p.y → f = p.x) ∧ (¬ OnC f p.y → conj f = p.x) := by
  have hv := v_ne p.y
  have hon := onC_iff.1 p.on
  by_cases hx : p.x = 0
  · have hu : p.y * p.y - 1 = 0 := by rw [← hon, hx, qzero_mul, qzero_mul]
    rw [hu] at h
    have hf := h.zero
    refine ⟨fun _ => by rw [hf, hx], fun hn => absurd ?_ hn⟩
    rw [hf, ← hx]; exact p.on
  · have hl := h.law hv hx hon.symm
    have hsg : esgn (ebit p.x) = sgnQ p.x.re p.x.im := esgn_ebit hx
    have hf : f ≠ 0 := fun e => by
      subst e
      have hc : conj (0 : Zq) = 0 := Zq.ext rfl zneg_zero
      rw [hc, qzero_mul, qzero_mul] at hl
      have h0 : p.y * p.y - 1 = 0 := by rcases hl with e | e <;> exact e.symm
      rw [h0] at hon
      rcases qmul_eq_zero hon with e | e
      · rcases qmul_eq_zero e with e | e <;> exact hx e
      · exact hv e
    have hs := SqV.sgn h (esgn_pm _) hf
    constructor
    · intro hc
      have h1 := onC_iff.1 hc
      have h2 : f * f = p.x * p.x := qmul_cancel hv (by rw [qmul_comm _ (f * f), h1, qmul_comm _ (p.x * p.x), hon])
      exact same_sgn h2 hf hs hsg.symm
    · intro hc
      have h1 : conj f * conj f * (p.y * p.y * dd + 1) = p.y * p.y - 1 := by
        rcases hl with e | e
        · exact absurd (onC_iff.2 e) hc
        · exact e
      have h2 : conj f * conj f = p.x * p.x := qmul_cancel hv (by rw [qmul_comm _ (conj f * conj f), h1, qmul_comm _ (p.x * p.x), hon])
      have hre : f.re ≠ 0 := fun e => by
        have hcf : conj f = -f := Zq.ext (by show f.re = -f.re; rw [e, zneg_zero]) rfl
        rw [hcf, qneg_mul, qmul_neg, qneg_neg] at h1
        exact hc (onC_iff.2 h1)
      have hc0 : conj f ≠ 0 := fun e => hre (congrArg Zq.re e)
      refine same_sgn h2 hc0 ?_ hsg.symm
      rw [show (conj f).re = f.re from rfl, sgnQ_ne hre, ← sgnQ_ne hre (b := f.im)]
      exact hs
theorem decode_on {p : Pt} {f : Zq} (h : conj f = p.x) : OnC (conj f) p.y := by rw [h]; exact p.on
end Go.FourQ
