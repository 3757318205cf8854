/- The exported functions of the field, over values. Elements below 2^127; the package's variable modulusP holds the prime. -/
import Derived.Test.YtpogbljoohdehaaDoorLow
import Derived.Test.YtpogbljoohdehaaDoorFp3
namespace Go.Proofs.YtpogbljoohdehaaDoor
open Go.RowKit Go.FourQ

section
variable {w : World} {x y : Nat}

theorem low16 {x : Nat} (h : LowB x) : x < 256 ^ 16 := Nat.lt_trans h (by decide +kernel)

set_option maxRecDepth 100000 in
theorem zzAdd (hx : LowB x) (hy : LowB y) :
    Calls Tryd.prog 59 #[.agg (fpC x), .agg (fpC y)] w fun e w' => e = .returned (.agg (fpC (addN x y))) ∧ Below w.heap.size w w' := by
  have HX := Lib.hid hx; have HY := Lib.hid hy
  clear hx hy
  go_enter Tryd.func59, Tryd.ntmps59
  go_wp2_with fail
  refine (fpAdd (Fps.new _ [0] _ _ _ (by simp) zero_fps.symm) (((Fps.new w [x] _ _ _ rfl (fps_one x).symm).alloc _).alloc _) ((Fps.new _ [y] _ _ _ (by simp) (fps_one y).symm).alloc _) (k1 := 0) rfl (k2 := 0) rfl (k3 := 0) rfl (by decide) rfl rfl HX.out HY.out).mono ?_
  rintro e w' ⟨rfl, u⟩
  go_wp2_with fail
  exact bodyPost_ret_by (results_fps1 rfl _ (w.heap.size + 1 + 1) _ _ rfl u.blk Tryd.underlying61 rfl (by kernel_rfl)) rfl ⟨rfl, ((((Below.refl _ _).alloc (Nat.le_refl _) _).alloc (by simp) _).alloc (by simp; omega) _).trans (u.below (by omega) (by simp; omega))⟩

set_option maxRecDepth 100000 in
theorem zzSub (hx : LowB x) (hy : LowB y) :
    Calls Tryd.prog 67 #[.agg (fpC x), .agg (fpC y)] w fun e w' => e = .returned (.agg (fpC (subN x y))) ∧ Below w.heap.size w w' := by
  have HX := Lib.hid hx; have HY := Lib.hid hy
  clear hx hy
  go_enter Tryd.func67, Tryd.ntmps67
  go_wp2_with fail
  refine (fpSub (Fps.new _ [0] _ _ _ (by simp) zero_fps.symm) (((Fps.new w [x] _ _ _ rfl (fps_one x).symm).alloc _).alloc _) ((Fps.new _ [y] _ _ _ (by simp) (fps_one y).symm).alloc _) (k1 := 0) rfl (k2 := 0) rfl (k3 := 0) rfl (by decide) rfl rfl HX.out HY.out).mono ?_
  rintro e w' ⟨rfl, u⟩
  go_wp2_with fail
  exact bodyPost_ret_by (results_fps1 rfl _ (w.heap.size + 1 + 1) _ _ rfl u.blk Tryd.underlying61 rfl (by kernel_rfl)) rfl ⟨rfl, ((((Below.refl _ _).alloc (Nat.le_refl _) _).alloc (by simp) _).alloc (by simp; omega) _).trans (u.below (by omega) (by simp; omega))⟩

set_option maxRecDepth 100000 in
theorem zzMul (hx : LowB x) (hy : LowB y) :
    Calls Tryd.prog 60 #[.agg (fpC x), .agg (fpC y)] w fun e w' => e = .returned (.agg (fpC (mulN x y))) ∧ Below w.heap.size w w' := by
  have HX := Lib.hid hx; have HY := Lib.hid hy
  clear hx hy
  go_enter Tryd.func60, Tryd.ntmps60
  go_wp2_with fail
  refine (fpMul (Fps.new _ [0] _ _ _ (by simp) zero_fps.symm) (((Fps.new w [x] _ _ _ rfl (fps_one x).symm).alloc _).alloc _) ((Fps.new _ [y] _ _ _ (by simp) (fps_one y).symm).alloc _) (k1 := 0) rfl (k2 := 0) rfl (k3 := 0) rfl (by decide) rfl rfl HX.out HY.out).mono ?_
  rintro e w' ⟨rfl, u⟩
  go_wp2_with fail
  exact bodyPost_ret_by (results_fps1 rfl _ (w.heap.size + 1 + 1) _ _ rfl u.blk Tryd.underlying61 rfl (by kernel_rfl)) rfl ⟨rfl, ((((Below.refl _ _).alloc (Nat.le_refl _) _).alloc (by simp) _).alloc (by simp; omega) _).trans (u.below (by omega) (by simp; omega))⟩

set_option maxRecDepth 100000 in
theorem zzSqr (hx : LowB x) :
    Calls Tryd.prog 68 #[.agg (fpC x)] w fun e w' => e = .returned (.agg (fpC (mulN x x))) ∧ Below w.heap.size w w' := by
  have HX := Lib.hid hx
  clear hx
  go_enter Tryd.func68, Tryd.ntmps68
  go_wp2_with fail
  refine (fpSqr (Fps.new _ [0] _ _ _ (by simp) zero_fps.symm) ((Fps.new w [x] _ _ _ rfl (fps_one x).symm).alloc _) (k1 := 0) rfl (k2 := 0) rfl (by decide) rfl HX.out).mono ?_
  rintro e w' ⟨rfl, u⟩
  go_wp2_with fail
  exact bodyPost_ret_by (results_fps1 rfl _ (w.heap.size + 1) _ _ rfl u.blk Tryd.underlying61 rfl (by kernel_rfl)) rfl ⟨rfl, (((Below.refl _ _).alloc (Nat.le_refl _) _).alloc (by simp) _).trans (u.below (by omega) (by simp; omega))⟩

set_option maxRecDepth 100000 in
theorem zzHlf (hx : LowB x) :
    Calls Tryd.prog 78 #[.agg (fpC x)] w fun e w' => e = .returned (.agg (fpC (hlfN x))) ∧ Below w.heap.size w w' := by
  have HX := Lib.hid hx
  clear hx
  go_enter Tryd.func78, Tryd.ntmps78
  go_wp2_with fail
  refine (fpHlf (Fps.new _ [0] _ _ _ (by simp) zero_fps.symm) ((Fps.new w [x] _ _ _ rfl (fps_one x).symm).alloc _) (k1 := 0) rfl (k2 := 0) rfl (by decide) rfl HX.out).mono ?_
  rintro e w' ⟨rfl, u⟩
  go_wp2_with fail
  exact bodyPost_ret_by (results_fps1 rfl _ (w.heap.size + 1) _ _ rfl u.blk Tryd.underlying61 rfl (by kernel_rfl)) rfl ⟨rfl, (((Below.refl _ _).alloc (Nat.le_refl _) _).alloc (by simp) _).trans (u.below (by omega) (by simp; omega))⟩

set_option maxRecDepth 100000 in
theorem zzNeg (hm : ModW w) (hx : LowB x) :
    Calls Tryd.prog 58 #[.agg (fpC x)] w fun e w' => e = .returned (.agg (fpC (subN pp x))) ∧ Below w.heap.size w w' := by
  have HM := Lib.hid hm; have HX := Lib.hid hx
  clear hx hm
  go_enter Tryd.func58, Tryd.ntmps58
  go_wp2_with fail
  refine (fpNeg (HM.out.alloc _ |>.alloc _) (Fps.new _ [0] _ _ _ (by simp) zero_fps.symm) ((Fps.new w [x] _ _ _ rfl (fps_one x).symm).alloc _) (k1 := 0) rfl (k2 := 0) rfl (by decide) rfl HX.out).mono ?_
  rintro e w' ⟨rfl, u⟩
  go_wp2_with fail
  exact bodyPost_ret_by (results_fps1 rfl _ (w.heap.size + 1) _ _ rfl u.blk Tryd.underlying61 rfl (by kernel_rfl)) rfl ⟨rfl, (((Below.refl _ _).alloc (Nat.le_refl _) _).alloc (by simp) _).trans (u.below (by omega) (by simp; omega))⟩

set_option maxRecDepth 100000 in
theorem zzMod (hm : ModW w) (hx : LowB x) :
    Calls Tryd.prog 70 #[.agg (fpC x)] w fun e w' => e = .returned (.agg (fpC (x % pp))) ∧ Below w.heap.size w w' := by
  have HM := Lib.hid hm; have HX := Lib.hid hx
  clear hx hm
  go_enter Tryd.func70, Tryd.ntmps70
  go_wp2_with fail
  refine (fpMod (HM.out.alloc _ |>.alloc _) ((Fps.new w [x] _ _ _ rfl (fps_one x).symm).alloc _) (k1 := 0) rfl rfl HX.out).mono ?_
  rintro e w' ⟨rfl, u⟩
  have hb : Below w.heap.size w w' := (((Below.refl _ _).alloc (Nat.le_refl _) _).alloc (by simp) _).trans (u.below (by omega) (by simp; omega))
  obtain ⟨T0, hT0⟩ := u.blk
  have HT0 := Lib.hid hT0
  have hr : w'.heap[w.heap.size + 1]? = _ := (u.other (w.heap.size + 1) (by simp) (by omega)).trans (hp2_1 _ _)
  have HR := Lib.hid hr
  have hz : Fps w' (w.heap.size + 1) [0] := ⟨_, HR.out⟩
  have HB := Lib.hid hb
  clear hT0 hr u hb
  go_wp2_with (first | (refine wpList_load_row rfl 61 _ rfl w.heap.size rfl T0 (fps [x % pp]) _ _ HT0.out Tryd.underlying61 rfl (by rw [size_fps]; kernel_rfl) ?_) | (refine wpList_store_row rfl 61 _ _ rfl _ (fps [x % pp]) rfl rfl _ _ HR.out (by rw [size_fps]; kernel_rfl) (by rw [size_fps]; rfl) (by rw [fps_one]; exact all_fpC _) ?_))
  exact bodyPost_ret_by (results_fps1 rfl _ (w.heap.size + 1) _ _ rfl (setRow_fps [x % pp] hz) Tryd.underlying61 rfl (by kernel_rfl)) rfl ⟨rfl, below_setRow HB.out (by omega)⟩

set_option maxRecDepth 100000 in
theorem implLow (hm : ModW w) (hx : LowB x) :
    Calls Tryd.prog 57 #[.agg (fpC x)] w fun e w' => e = .returned (.agg (fpC (x % pp))) ∧ Below w.heap.size w w' := by
  have HM := Lib.hid hm; have HX := Lib.hid hx
  clear hx hm
  go_enter Tryd.func57, Tryd.ntmps57
  go_wp2_with (refine wpList_load_row rfl 61 _ rfl w.heap.size rfl _ (fpC x) _ _ (hp2_0 _ _) Tryd.underlying61 rfl (by kernel_rfl) ?_)
  refine (zzMod (HM.out.alloc _ |>.alloc _) HX.out).mono ?_
  rintro e w' ⟨rfl, hb⟩
  have HR := Lib.hid (nb_heap (hp2_1 _ _) w' hb)
  have HB := Lib.hid hb
  clear hb
  go_wp2_with (refine wpList_store_row rfl 22 _ _ rfl _ (fpC (x % pp)) rfl rfl _ _ HR.out (by kernel_rfl) rfl (all_fpC _) ?_)
  exact bodyPost_ret_by (results_fps1 rfl _ (w.heap.size + 1) _ _ rfl (by have := setRow_fps (l := [0]) [x % pp] ⟨_, HR.out⟩; rw [fps_one] at this; exact this) Tryd.underlying22 rfl (by kernel_rfl)) rfl ⟨rfl, below_setRow ((((Below.refl _ _).alloc (Nat.le_refl _) _).alloc (by simp) _).trans (HB.out.mono (by simp; omega))) (by omega)⟩

set_option maxRecDepth 100000 in
set_option maxHeartbeats 400000 in
theorem implAdd {r : Nat} (hm : ModW w) (hx : LowB x) (hy : LowB y) (hr : (x + y) % pp = r) :
    Calls Tryd.prog 20 #[.agg (fpC x), .agg (fpC y)] w fun e w' => e = .returned (.agg (fpC r)) ∧ Below w.heap.size w w' := by
  have HM := Lib.hid hm; have HX := Lib.hid hx; have HY := Lib.hid hy
  have hl : LowB (addN x y) := addN_low hx hy
  have hv : addN x y % pp = r := (addN_mod x y).trans hr
  have HL := Lib.hid hl; have HV := Lib.hid hv
  have H0 := Lib.hid (hp3_0 (w := w) (.cells (fpC x) 22) (.cells (fpC y) 22) (.cells #[.int .u8 0, .int .u8 0, .int .u8 0, .int .u8 0, .int .u8 0, .int .u8 0, .int .u8 0, .int .u8 0, .int .u8 0, .int .u8 0, .int .u8 0, .int .u8 0, .int .u8 0, .int .u8 0, .int .u8 0, .int .u8 0] 22))
  have H1 := Lib.hid (hp3_1 (w := w) (.cells (fpC x) 22) (.cells (fpC y) 22) (.cells #[.int .u8 0, .int .u8 0, .int .u8 0, .int .u8 0, .int .u8 0, .int .u8 0, .int .u8 0, .int .u8 0, .int .u8 0, .int .u8 0, .int .u8 0, .int .u8 0, .int .u8 0, .int .u8 0, .int .u8 0, .int .u8 0] 22))
  have H2 := Lib.hid (hp3_2 (w := w) (.cells (fpC x) 22) (.cells (fpC y) 22) (.cells #[.int .u8 0, .int .u8 0, .int .u8 0, .int .u8 0, .int .u8 0, .int .u8 0, .int .u8 0, .int .u8 0, .int .u8 0, .int .u8 0, .int .u8 0, .int .u8 0, .int .u8 0, .int .u8 0, .int .u8 0, .int .u8 0] 22))
  clear hx hy hm hl hv hr
  go_enter Tryd.func20, Tryd.ntmps20
  have tok1 : True := trivial
  have tok2 : True := trivial
  go_wp2_with (first | (have _t := tok1; refine wpList_load_row rfl 22 _ rfl w.heap.size rfl 22 (fpC x) (0, 0) _ H0.out Tryd.underlying22 rfl (by kernel_rfl) ?_; clear tok1) | (have _t := tok2; refine wpList_load_row rfl 22 _ rfl (w.heap.size + 1) rfl 22 (fpC y) (0, 0) _ H1.out Tryd.underlying22 rfl (by kernel_rfl) ?_; clear tok2))
  refine (zzAdd HX.out HY.out).mono ?_
  rintro e w1 ⟨rfl, hb⟩
  have hm1 := ((HM.out.alloc _ |>.alloc _) |>.alloc _).nb hb
  have HR := Lib.hid (nb_heap H2.out w1 hb)
  have hb1 : Below w.heap.size w w1 := ((((Below.refl _ _).alloc (Nat.le_refl _) _).alloc (by simp) _).alloc (by simp; omega) _).trans (hb.mono (by simp; omega))
  clear hb
  go_wp2_with fail
  refine (implLow hm1 HL.out).mono ?_
  rintro e w2 ⟨rfl, hb2⟩
  have HR2 := Lib.hid (nb_heap HR.out w2 hb2)
  have HB := Lib.hid (hb1.trans (hb2.mono hb1.size))
  clear hb1 hb2
  rw [HV.out]
  go_wp2_with (refine wpList_store_row rfl 22 _ _ rfl _ (fpC r) rfl rfl _ _ HR2.out (by kernel_rfl) rfl (all_fpC _) ?_)
  exact bodyPost_ret_by (results_fps1 rfl _ (w.heap.size + 1 + 1) _ _ rfl (by have := setRow_fps (l := [0]) [r] ⟨_, HR2.out⟩; rw [fps_one] at this; exact this) Tryd.underlying22 rfl (by kernel_rfl)) rfl ⟨rfl, below_setRow HB.out (by omega)⟩

set_option maxRecDepth 100000 in
set_option maxHeartbeats 400000 in
theorem implSub {r : Nat} (hm : ModW w) (hx : LowB x) (hy : LowB y) (hr : subN x y % pp = r) :
    Calls Tryd.prog 29 #[.agg (fpC x), .agg (fpC y)] w fun e w' => e = .returned (.agg (fpC r)) ∧ Below w.heap.size w w' := by
  have HM := Lib.hid hm; have HX := Lib.hid hx; have HY := Lib.hid hy
  have hl : LowB (subN x y) := subN_low hx hy
  have hv : subN x y % pp = r := hr
  have HL := Lib.hid hl; have HV := Lib.hid hv
  have H0 := Lib.hid (hp3_0 (w := w) (.cells (fpC x) 22) (.cells (fpC y) 22) (.cells #[.int .u8 0, .int .u8 0, .int .u8 0, .int .u8 0, .int .u8 0, .int .u8 0, .int .u8 0, .int .u8 0, .int .u8 0, .int .u8 0, .int .u8 0, .int .u8 0, .int .u8 0, .int .u8 0, .int .u8 0, .int .u8 0] 22))
  have H1 := Lib.hid (hp3_1 (w := w) (.cells (fpC x) 22) (.cells (fpC y) 22) (.cells #[.int .u8 0, .int .u8 0, .int .u8 0, .int .u8 0, .int .u8 0, .int .u8 0, .int .u8 0, .int .u8 0, .int .u8 0, .int .u8 0, .int .u8 0, .int .u8 0, .int .u8 0, .int .u8 0, .int .u8 0, .int .u8 0] 22))
  have H2 := Lib.hid (hp3_2 (w := w) (.cells (fpC x) 22) (.cells (fpC y) 22) (.cells #[.int .u8 0, .int .u8 0, .int .u8 0, .int .u8 0, .int .u8 0, .int .u8 0, .int .u8 0, .int .u8 0, .int .u8 0, .int .u8 0, .int .u8 0, .int .u8 0, .int .u8 0, .int .u8 0, .int .u8 0, .int .u8 0] 22))
  clear hx hy hm hl hv hr
  go_enter Tryd.func29, Tryd.ntmps29
  have tok1 : True := trivial
  have tok2 : True := trivial
  go_wp2_with (first | (have _t := tok1; refine wpList_load_row rfl 22 _ rfl w.heap.size rfl 22 (fpC x) (0, 0) _ H0.out Tryd.underlying22 rfl (by kernel_rfl) ?_; clear tok1) | (have _t := tok2; refine wpList_load_row rfl 22 _ rfl (w.heap.size + 1) rfl 22 (fpC y) (0, 0) _ H1.out Tryd.underlying22 rfl (by kernel_rfl) ?_; clear tok2))
  refine (zzSub HX.out HY.out).mono ?_
  rintro e w1 ⟨rfl, hb⟩
  have hm1 := ((HM.out.alloc _ |>.alloc _) |>.alloc _).nb hb
  have HR := Lib.hid (nb_heap H2.out w1 hb)
  have hb1 : Below w.heap.size w w1 := ((((Below.refl _ _).alloc (Nat.le_refl _) _).alloc (by simp) _).alloc (by simp; omega) _).trans (hb.mono (by simp; omega))
  clear hb
  go_wp2_with fail
  refine (implLow hm1 HL.out).mono ?_
  rintro e w2 ⟨rfl, hb2⟩
  have HR2 := Lib.hid (nb_heap HR.out w2 hb2)
  have HB := Lib.hid (hb1.trans (hb2.mono hb1.size))
  clear hb1 hb2
  rw [HV.out]
  go_wp2_with (refine wpList_store_row rfl 22 _ _ rfl _ (fpC r) rfl rfl _ _ HR2.out (by kernel_rfl) rfl (all_fpC _) ?_)
  exact bodyPost_ret_by (results_fps1 rfl _ (w.heap.size + 1 + 1) _ _ rfl (by have := setRow_fps (l := [0]) [r] ⟨_, HR2.out⟩; rw [fps_one] at this; exact this) Tryd.underlying22 rfl (by kernel_rfl)) rfl ⟨rfl, below_setRow HB.out (by omega)⟩

set_option maxRecDepth 100000 in
set_option maxHeartbeats 400000 in
theorem implMul {r : Nat} (hm : ModW w) (hx : LowB x) (hy : LowB y) (hr : x * y % pp = r) :
    Calls Tryd.prog 21 #[.agg (fpC x), .agg (fpC y)] w fun e w' => e = .returned (.agg (fpC r)) ∧ Below w.heap.size w w' := by
  have HM := Lib.hid hm; have HX := Lib.hid hx; have HY := Lib.hid hy
  have hl : LowB (mulN x y) := mulN_low hx hy
  have hv : mulN x y % pp = r := (mulN_mod x y).trans hr
  have HL := Lib.hid hl; have HV := Lib.hid hv
  have H0 := Lib.hid (hp3_0 (w := w) (.cells (fpC x) 22) (.cells (fpC y) 22) (.cells #[.int .u8 0, .int .u8 0, .int .u8 0, .int .u8 0, .int .u8 0, .int .u8 0, .int .u8 0, .int .u8 0, .int .u8 0, .int .u8 0, .int .u8 0, .int .u8 0, .int .u8 0, .int .u8 0, .int .u8 0, .int .u8 0] 22))
  have H1 := Lib.hid (hp3_1 (w := w) (.cells (fpC x) 22) (.cells (fpC y) 22) (.cells #[.int .u8 0, .int .u8 0, .int .u8 0, .int .u8 0, .int .u8 0, .int .u8 0, .int .u8 0, .int .u8 0, .int .u8 0, .int .u8 0, .int .u8 0, .int .u8 0, .int .u8 0, .int .u8 0, .int .u8 0, .int .u8 0] 22))
  have H2 := Lib.hid (hp3_2 (w := w) (.cells (fpC x) 22) (.cells (fpC y) 22) (.cells #[.int .u8 0, .int .u8 0, .int .u8 0, .int .u8 0, .int .u8 0, .int .u8 0, .int .u8 0, .int .u8 0, .int .u8 0, .int .u8 0, .int .u8 0, .int .u8 0, .int .u8 0, .int .u8 0, .int .u8 0, .int .u8 0] 22))
  clear hx hy hm hl hv hr
  go_enter Tryd.func21, Tryd.ntmps21
  have tok1 : True := trivial
  have tok2 : True := trivial
  go_wp2_with (first | (have _t := tok1; refine wpList_load_row rfl 22 _ rfl w.heap.size rfl 22 (fpC x) (0, 0) _ H0.out Tryd.underlying22 rfl (by kernel_rfl) ?_; clear tok1) | (have _t := tok2; refine wpList_load_row rfl 22 _ rfl (w.heap.size + 1) rfl 22 (fpC y) (0, 0) _ H1.out Tryd.underlying22 rfl (by kernel_rfl) ?_; clear tok2))
  refine (zzMul HX.out HY.out).mono ?_
  rintro e w1 ⟨rfl, hb⟩
  have hm1 := ((HM.out.alloc _ |>.alloc _) |>.alloc _).nb hb
  have HR := Lib.hid (nb_heap H2.out w1 hb)
  have hb1 : Below w.heap.size w w1 := ((((Below.refl _ _).alloc (Nat.le_refl _) _).alloc (by simp) _).alloc (by simp; omega) _).trans (hb.mono (by simp; omega))
  clear hb
  go_wp2_with fail
  refine (implLow hm1 HL.out).mono ?_
  rintro e w2 ⟨rfl, hb2⟩
  have HR2 := Lib.hid (nb_heap HR.out w2 hb2)
  have HB := Lib.hid (hb1.trans (hb2.mono hb1.size))
  clear hb1 hb2
  rw [HV.out]
  go_wp2_with (refine wpList_store_row rfl 22 _ _ rfl _ (fpC r) rfl rfl _ _ HR2.out (by kernel_rfl) rfl (all_fpC _) ?_)
  exact bodyPost_ret_by (results_fps1 rfl _ (w.heap.size + 1 + 1) _ _ rfl (by have := setRow_fps (l := [0]) [r] ⟨_, HR2.out⟩; rw [fps_one] at this; exact this) Tryd.underlying22 rfl (by kernel_rfl)) rfl ⟨rfl, below_setRow HB.out (by omega)⟩

set_option maxRecDepth 100000 in
set_option maxHeartbeats 400000 in
theorem implSqr {r : Nat} (hm : ModW w) (hx : LowB x) (hr : x * x % pp = r) :
    Calls Tryd.prog 32 #[.agg (fpC x)] w fun e w' => e = .returned (.agg (fpC r)) ∧ Below w.heap.size w w' := by
  have HM := Lib.hid hm; have HX := Lib.hid hx
  have hl : LowB (mulN x x) := mulN_low hx hx
  have hv : mulN x x % pp = r := (mulN_mod x x).trans hr
  have HL := Lib.hid hl; have HV := Lib.hid hv
  clear hx hm hl hv hr
  go_enter Tryd.func32, Tryd.ntmps32
  go_wp2_with (refine wpList_load_row rfl 22 _ rfl w.heap.size rfl _ (fpC x) _ _ (hp2_0 _ _) Tryd.underlying22 rfl (by kernel_rfl) ?_)
  refine (zzSqr HX.out).mono ?_
  rintro e w1 ⟨rfl, hb⟩
  have hm1 := (HM.out.alloc _ |>.alloc _).nb hb
  have HR := Lib.hid (nb_heap (hp2_1 _ _) w1 hb)
  have hb1 : Below w.heap.size w w1 := (((Below.refl _ _).alloc (Nat.le_refl _) _).alloc (by simp) _).trans (hb.mono (by simp; omega))
  clear hb
  go_wp2_with fail
  refine (implLow hm1 HL.out).mono ?_
  rintro e w2 ⟨rfl, hb2⟩
  have HR2 := Lib.hid (nb_heap HR.out w2 hb2)
  have HB := Lib.hid (hb1.trans (hb2.mono hb1.size))
  clear hb1 hb2
  rw [HV.out]
  go_wp2_with (refine wpList_store_row rfl 22 _ _ rfl _ (fpC r) rfl rfl _ _ HR2.out (by kernel_rfl) rfl (all_fpC _) ?_)
  exact bodyPost_ret_by (results_fps1 rfl _ (w.heap.size + 1) _ _ rfl (by have := setRow_fps (l := [0]) [r] ⟨_, HR2.out⟩; rw [fps_one] at this; exact this) Tryd.underlying22 rfl (by kernel_rfl)) rfl ⟨rfl, below_setRow HB.out (by omega)⟩

set_option maxRecDepth 100000 in
set_option maxHeartbeats 400000 in
theorem implHlf {r : Nat} (hm : ModW w) (hx : LowB x) (hr : hlfN x % pp = r) :
    Calls Tryd.prog 45 #[.agg (fpC x)] w fun e w' => e = .returned (.agg (fpC r)) ∧ Below w.heap.size w w' := by
  have HM := Lib.hid hm; have HX := Lib.hid hx
  have hl : LowB (hlfN x) := hlfN_low hx
  have hv : hlfN x % pp = r := hr
  have HL := Lib.hid hl; have HV := Lib.hid hv
  clear hx hm hl hv hr
  go_enter Tryd.func45, Tryd.ntmps45
  go_wp2_with (refine wpList_load_row rfl 22 _ rfl w.heap.size rfl _ (fpC x) _ _ (hp2_0 _ _) Tryd.underlying22 rfl (by kernel_rfl) ?_)
  refine (zzHlf HX.out).mono ?_
  rintro e w1 ⟨rfl, hb⟩
  have hm1 := (HM.out.alloc _ |>.alloc _).nb hb
  have HR := Lib.hid (nb_heap (hp2_1 _ _) w1 hb)
  have hb1 : Below w.heap.size w w1 := (((Below.refl _ _).alloc (Nat.le_refl _) _).alloc (by simp) _).trans (hb.mono (by simp; omega))
  clear hb
  go_wp2_with fail
  refine (implLow hm1 HL.out).mono ?_
  rintro e w2 ⟨rfl, hb2⟩
  have HR2 := Lib.hid (nb_heap HR.out w2 hb2)
  have HB := Lib.hid (hb1.trans (hb2.mono hb1.size))
  clear hb1 hb2
  rw [HV.out]
  go_wp2_with (refine wpList_store_row rfl 22 _ _ rfl _ (fpC r) rfl rfl _ _ HR2.out (by kernel_rfl) rfl (all_fpC _) ?_)
  exact bodyPost_ret_by (results_fps1 rfl _ (w.heap.size + 1) _ _ rfl (by have := setRow_fps (l := [0]) [r] ⟨_, HR2.out⟩; rw [fps_one] at this; exact this) Tryd.underlying22 rfl (by kernel_rfl)) rfl ⟨rfl, below_setRow HB.out (by omega)⟩

set_option maxRecDepth 100000 in
set_option maxHeartbeats 400000 in
theorem implNeg {r : Nat} (hm : ModW w) (hx : LowB x) (hr : subN pp x % pp = r) :
    Calls Tryd.prog 19 #[.agg (fpC x)] w fun e w' => e = .returned (.agg (fpC r)) ∧ Below w.heap.size w w' := by
  have HM := Lib.hid hm; have HX := Lib.hid hx
  have hl : LowB (subN pp x) := subN_low low_pp hx
  have hv : subN pp x % pp = r := hr
  have HL := Lib.hid hl; have HV := Lib.hid hv
  clear hx hm hl hv hr
  go_enter Tryd.func19, Tryd.ntmps19
  go_wp2_with (refine wpList_load_row rfl 22 _ rfl w.heap.size rfl _ (fpC x) _ _ (hp2_0 _ _) Tryd.underlying22 rfl (by kernel_rfl) ?_)
  refine (zzNeg (HM.out.alloc _ |>.alloc _) HX.out).mono ?_
  rintro e w1 ⟨rfl, hb⟩
  have hm1 := (HM.out.alloc _ |>.alloc _).nb hb
  have HR := Lib.hid (nb_heap (hp2_1 _ _) w1 hb)
  have hb1 : Below w.heap.size w w1 := (((Below.refl _ _).alloc (Nat.le_refl _) _).alloc (by simp) _).trans (hb.mono (by simp; omega))
  clear hb
  go_wp2_with fail
  refine (implLow hm1 HL.out).mono ?_
  rintro e w2 ⟨rfl, hb2⟩
  have HR2 := Lib.hid (nb_heap HR.out w2 hb2)
  have HB := Lib.hid (hb1.trans (hb2.mono hb1.size))
  clear hb1 hb2
  rw [HV.out]
  go_wp2_with (refine wpList_store_row rfl 22 _ _ rfl _ (fpC r) rfl rfl _ _ HR2.out (by kernel_rfl) rfl (all_fpC _) ?_)
  exact bodyPost_ret_by (results_fps1 rfl _ (w.heap.size + 1) _ _ rfl (by have := setRow_fps (l := [0]) [r] ⟨_, HR2.out⟩; rw [fps_one] at this; exact this) Tryd.underlying22 rfl (by kernel_rfl)) rfl ⟨rfl, below_setRow HB.out (by omega)⟩

end
end Go.Proofs.YtpogbljoohdehaaDoor
