/- The power by 2^125 - 1 and the inverse, over values. Elements below 2^127; the package's variable modulusP holds the prime. -/
import Derived.Test.YtpogbljoohdehaaDoorPow
import Derived.Test.YtpogbljoohdehaaDoorIs
namespace Go.FourQ
open Go.RowKit
/-- An element is handed back, by some bytes of it. -/
def RetZ (z : Zp) (w : World) (e : Ending) (w' : World) : Prop := ∃ v, e = .returned (.agg (fpC v)) ∧ LowB v ∧ zp v = z ∧ Below w.heap.size w w'
theorem one_list {l : List Nat} {z : Zp} (h : l.map zp = [z]) : ∃ v, l = [v] ∧ zp v = z := by
  cases l with
  | nil => cases h
  | cons v l =>
    cases l with
    | nil => exact ⟨v, rfl, by simpa using h⟩
    | cons _ _ => simp at h
end Go.FourQ
namespace Go.Proofs.YtpogbljoohdehaaDoor
open Go.RowKit Go.FourQ

section
variable {w : World} {x : Nat}


set_option maxRecDepth 100000 in
theorem zzTwo (hx : LowB x) : Calls Tryd.prog 71 #[.agg (fpC x)] w (RetZ ((zp x).pow 42535295865117307932921825928971026431) w) := by
  have HX := Lib.hid hx
  clear hx
  go_enter Tryd.func71, Tryd.ntmps71
  go_wp2_with fail
  refine (zTwo (L1 := [0]) (k1 := 0) (FpsZ.ofFps (l := [0]) (Fps.new _ [0] _ _ _ (by simp) zero_fps.symm) (fun v hv => by rw [show v = 0 by simpa using hv]; exact low_zero))
    ((FpsZ.ofFps (l := [x]) ((Fps.new w [x] _ _ _ rfl (fps_one x).symm).alloc _) (fun v hv => by rw [show v = x by simpa using hv]; exact HX.out)).atK (k := 0) rfl rfl) rfl (by simp)).mono ?_
  rintro e w' ⟨rfl, u⟩
  obtain ⟨l, hl, hm, hlow⟩ := u.blk
  obtain ⟨v, rfl, hv⟩ := one_list hm
  have HL := Lib.hid hl; have HV := Lib.hid hv; have HO := Lib.hid (hlow v (by simp))
  have HB := Lib.hid ((((Below.refl _ _).alloc (Nat.le_refl _) _).alloc (by simp) _).trans (u.below (by omega) (by simp; omega)) : Below w.heap.size w w')
  clear u hl hm hlow hv
  go_wp2_with fail
  exact bodyPost_ret_by (results_fps1 rfl _ (w.heap.size + 1) _ _ rfl HL.out Tryd.underlying61 rfl (by kernel_rfl)) rfl ⟨v, rfl, HO.out, HV.out, HB.out⟩

set_option maxRecDepth 100000 in
set_option maxHeartbeats 400000 in
theorem implTwo (hm : ModW w) (hx : LowB x) :
    Calls Tryd.prog 35 #[.agg (fpC x)] w fun e w' => e = .returned (.agg (fpC ((zp x).pow 42535295865117307932921825928971026431).val)) ∧ Below w.heap.size w w' := by
  have HM := Lib.hid hm; have HX := Lib.hid hx
  obtain ⟨r, hr⟩ : ∃ r, ((zp x).pow 42535295865117307932921825928971026431).val = r := ⟨_, rfl⟩
  rw [hr]
  have HRR := Lib.hid hr
  clear hx hm hr
  go_enter Tryd.func35, Tryd.ntmps35
  go_wp2_with (refine wpList_load_row rfl 22 _ rfl w.heap.size rfl _ (fpC x) _ _ (hp2_0 _ _) Tryd.underlying22 rfl (by kernel_rfl) ?_)
  refine (zzTwo HX.out).mono ?_
  rintro e w1 ⟨v, rfl, hv, hz, hb⟩
  have hm1 := (HM.out.alloc _ |>.alloc _).nb hb
  have HR := Lib.hid (nb_heap (hp2_1 _ _) w1 hb)
  have hb1 : Below w.heap.size w w1 := (((Below.refl _ _).alloc (Nat.le_refl _) _).alloc (by simp) _).trans (hb.mono (by simp; omega))
  have HV := Lib.hid hv; have HZ := Lib.hid (congrArg Zp.val hz)
  clear hb hv hz
  go_wp2_with fail
  refine (implLow hm1 HV.out).mono ?_
  rintro e w2 ⟨rfl, hb2⟩
  have HR2 := Lib.hid (nb_heap HR.out w2 hb2)
  have HB := Lib.hid (hb1.trans (hb2.mono hb1.size))
  clear hb1 hb2
  have hr : v % pp = r := HZ.out.trans HRR.out
  rw [hr]
  clear hr
  go_wp2_with (refine wpList_store_row rfl 22 _ _ rfl _ (fpC r) rfl rfl _ _ HR2.out (by kernel_rfl) rfl (all_fpC _) ?_)
  exact bodyPost_ret_by (results_fps1 rfl _ (w.heap.size + 1) _ _ rfl (by have := setRow_fps (l := [0]) [r] ⟨_, HR2.out⟩; rw [fps_one] at this; exact this) Tryd.underlying22 rfl (by kernel_rfl)) rfl ⟨rfl, below_setRow HB.out (by omega)⟩

set_option maxRecDepth 100000 in
theorem zzInv (hx : LowB x) : Calls Tryd.prog 79 #[.agg (fpC x)] w (RetZ ((zp x).inv) w) := by
  have HX := Lib.hid hx
  clear hx
  go_enter Tryd.func79, Tryd.ntmps79
  go_wp2_with fail
  refine (zInv (L1 := [0]) (k1 := 0) (FpsZ.ofFps (l := [0]) (Fps.new _ [0] _ _ _ (by simp) zero_fps.symm) (fun v hv => by rw [show v = 0 by simpa using hv]; exact low_zero))
    ((FpsZ.ofFps (l := [x]) ((Fps.new w [x] _ _ _ rfl (fps_one x).symm).alloc _) (fun v hv => by rw [show v = x by simpa using hv]; exact HX.out)).atK (k := 0) rfl rfl) rfl (by simp)).mono ?_
  rintro e w' ⟨rfl, u⟩
  obtain ⟨l, hl, hm, hlow⟩ := u.blk
  obtain ⟨v, rfl, hv⟩ := one_list hm
  have HL := Lib.hid hl; have HV := Lib.hid hv; have HO := Lib.hid (hlow v (by simp))
  have HB := Lib.hid ((((Below.refl _ _).alloc (Nat.le_refl _) _).alloc (by simp) _).trans (u.below (by omega) (by simp; omega)) : Below w.heap.size w w')
  clear u hl hm hlow hv
  go_wp2_with fail
  exact bodyPost_ret_by (results_fps1 rfl _ (w.heap.size + 1) _ _ rfl HL.out Tryd.underlying61 rfl (by kernel_rfl)) rfl ⟨v, rfl, HO.out, HV.out, HB.out⟩

set_option maxRecDepth 100000 in
set_option maxHeartbeats 400000 in
theorem implInv (hm : ModW w) (hx : LowB x) :
    Calls Tryd.prog 46 #[.agg (fpC x)] w fun e w' => e = .returned (.agg (fpC ((zp x).inv).val)) ∧ Below w.heap.size w w' := by
  have HM := Lib.hid hm; have HX := Lib.hid hx
  obtain ⟨r, hr⟩ : ∃ r, ((zp x).inv).val = r := ⟨_, rfl⟩
  rw [hr]
  have HRR := Lib.hid hr
  clear hx hm hr
  go_enter Tryd.func46, Tryd.ntmps46
  go_wp2_with (refine wpList_load_row rfl 22 _ rfl w.heap.size rfl _ (fpC x) _ _ (hp2_0 _ _) Tryd.underlying22 rfl (by kernel_rfl) ?_)
  refine (zzInv HX.out).mono ?_
  rintro e w1 ⟨v, rfl, hv, hz, hb⟩
  have hm1 := (HM.out.alloc _ |>.alloc _).nb hb
  have HR := Lib.hid (nb_heap (hp2_1 _ _) w1 hb)
  have hb1 : Below w.heap.size w w1 := (((Below.refl _ _).alloc (Nat.le_refl _) _).alloc (by simp) _).trans (hb.mono (by simp; omega))
  have HV := Lib.hid hv; have HZ := Lib.hid (congrArg Zp.val hz)
  clear hb hv hz
  go_wp2_with fail
  refine (implLow hm1 HV.out).mono ?_
  rintro e w2 ⟨rfl, hb2⟩
  have HR2 := Lib.hid (nb_heap HR.out w2 hb2)
  have HB := Lib.hid (hb1.trans (hb2.mono hb1.size))
  clear hb1 hb2
  have hr : v % pp = r := HZ.out.trans HRR.out
  rw [hr]
  clear hr
  go_wp2_with (refine wpList_store_row rfl 22 _ _ rfl _ (fpC r) rfl rfl _ _ HR2.out (by kernel_rfl) rfl (all_fpC _) ?_)
  exact bodyPost_ret_by (results_fps1 rfl _ (w.heap.size + 1) _ _ rfl (by have := setRow_fps (l := [0]) [r] ⟨_, HR2.out⟩; rw [fps_one] at this; exact this) Tryd.underlying22 rfl (by kernel_rfl)) rfl ⟨rfl, below_setRow HB.out (by omega)⟩

end
end Go.Proofs.YtpogbljoohdehaaDoor
