/- The exported functions of the field, over values. Elements below 2^127; the package's variable modulusP holds the prime. -/
import Derived.Test.YtfkfljohhabldaaDoorLow
import Derived.Test.YtfkfljohhabldaaDoorFp3
namespace Go.Proofs.YtfkfljohhabldaaDoor
open Go.RowKit Go.FourQ

section
variable {w : World} {x y : Nat}

theorem low16 {x : Nat} (h : LowB x) : x < 256 ^ 16 := Nat.lt_trans h (by decide +kernel)

set_option maxRecDepth 100000 in
theorem zzMod (hm : ModW w) (hx : LowB x) :
    Calls Tryd.prog 101 #[.agg (fpC x)] w fun e w' => e = .returned (.agg (fpC (x % pp))) ∧ Below w.heap.size w w' := by
  have HM := Lib.hid hm; have HX := Lib.hid hx
  clear hx hm
  go_enter Tryd.func101, Tryd.ntmps101
  go_wp2_with fail
  refine (fpMod (HM.out.alloc _ |>.alloc _) ((Fps.new w [x] _ _ _ rfl (fps_one x).symm).alloc _) (k1 := 0) rfl rfl HX.out).mono ?_
  rintro e w' ⟨rfl, u⟩
  have hb : Below w.heap.size w w' := (((Below.refl _ _).alloc (Nat.le_refl _) _).alloc (by simp) _).trans (u.below (by omega) (by simp; omega))
  obtain ⟨T0, hT0⟩ := u.blk
  have HT0 := Lib.hid hT0
  have hr : w'.heap[w.heap.size + 1]? = _ := (u.other (w.heap.size + 1) (by simp) (by omega)).trans (hp2_1 _ _)
  have HR := Lib.hid hr
  have hz : Fps w' (w.heap.size + 1) [0] := ⟨_, HR.out⟩
  have HB := Lib.hid hb
  clear hT0 hr u hb
  go_wp2_with (first | (refine wpList_load_row rfl 73 _ rfl w.heap.size rfl T0 (fps [x % pp]) _ _ HT0.out Tryd.underlying73 rfl (by rw [size_fps]; kernel_rfl) ?_) | (refine wpList_store_row rfl 73 _ _ rfl _ (fps [x % pp]) rfl rfl _ _ HR.out (by rw [size_fps]; kernel_rfl) (by rw [size_fps]; rfl) (by rw [fps_one]; exact all_fpC _) ?_))
  exact bodyPost_ret_by (results_fps1 rfl _ (w.heap.size + 1) _ _ rfl (setRow_fps [x % pp] hz) Tryd.underlying73 rfl (by kernel_rfl)) rfl ⟨rfl, below_setRow HB.out (by omega)⟩

set_option maxRecDepth 100000 in
theorem implLow (hm : ModW w) (hx : LowB x) :
    Calls Tryd.prog 82 #[.agg (fpC x)] w fun e w' => e = .returned (.agg (fpC (x % pp))) ∧ Below w.heap.size w w' := by
  have HM := Lib.hid hm; have HX := Lib.hid hx
  clear hx hm
  go_enter Tryd.func82, Tryd.ntmps82
  go_wp2_with (refine wpList_load_row rfl 73 _ rfl w.heap.size rfl _ (fpC x) _ _ (hp2_0 _ _) Tryd.underlying73 rfl (by kernel_rfl) ?_)
  refine (zzMod (HM.out.alloc _ |>.alloc _) HX.out).mono ?_
  rintro e w' ⟨rfl, hb⟩
  have HR := Lib.hid (nb_heap (hp2_1 _ _) w' hb)
  have HB := Lib.hid hb
  clear hb
  go_wp2_with (refine wpList_store_row rfl 22 _ _ rfl _ (fpC (x % pp)) rfl rfl _ _ HR.out (by kernel_rfl) rfl (all_fpC _) ?_)
  exact bodyPost_ret_by (results_fps1 rfl _ (w.heap.size + 1) _ _ rfl (by have := setRow_fps (l := [0]) [x % pp] ⟨_, HR.out⟩; rw [fps_one] at this; exact this) Tryd.underlying22 rfl (by kernel_rfl)) rfl ⟨rfl, below_setRow ((((Below.refl _ _).alloc (Nat.le_refl _) _).alloc (by simp) _).trans (HB.out.mono (by simp; omega))) (by omega)⟩

end
end Go.Proofs.YtfkfljohhabldaaDoor
