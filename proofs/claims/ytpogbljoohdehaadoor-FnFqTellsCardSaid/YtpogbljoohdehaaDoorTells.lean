/- Zero and sign of an element, over values. An element below 2^127; modulusP holds the prime. -/
import Derived.Test.YtpogbljoohdehaaDoorZz
import Derived.Test.YtpogbljoohdehaaDoorLawKit2
namespace Go.Proofs.YtpogbljoohdehaaDoor
open Go.RowKit Go.FourQ

section
variable {w : World} {x : Nat}

theorem zzIsZero (hm : ModW w) (hx : LowB x) :
    Calls Tryd.prog 55 #[.agg (fpC x)] w fun e w' => e = .returned (.bool (isz (x % pp) == 1)) ∧ Below w.heap.size w w' := by
  have HM := Lib.hid hm; have HX := Lib.hid hx
  clear hx hm
  go_enter Tryd.func55, Tryd.ntmps55
  go_wp2_with fail
  refine (isZero (HM.out.alloc _) (Fps.new w [x] _ _ _ rfl (fps_one x).symm) (k1 := 0) rfl rfl HX.out).mono ?_
  rintro e w' ⟨rfl, u⟩
  go_wp2_with fail
  go_ret
  exact ⟨rfl, ((Below.refl _ _).alloc (Nat.le_refl _) _).trans (u.below (by omega) (by simp))⟩

theorem zzSgn (hm : ModW w) (hx : LowB x) :
    Calls Tryd.prog 56 #[.agg (fpC x)] w fun e w' => e = .returned (.int .i64 (sgnN (x % pp))) ∧ Below w.heap.size w w' := by
  have HM := Lib.hid hm; have HX := Lib.hid hx
  clear hx hm
  go_enter Tryd.func56, Tryd.ntmps56
  go_wp2_with fail
  refine (fpSgn (HM.out.alloc _) (Fps.new w [x] _ _ _ rfl (fps_one x).symm) (k1 := 0) rfl rfl HX.out).mono ?_
  rintro e w' ⟨rfl, u⟩
  go_wp2_with fail
  go_ret
  exact ⟨rfl, ((Below.refl _ _).alloc (Nat.le_refl _) _).trans (u.below (by omega) (by simp))⟩

theorem hp1_0' (O0 : Obj) : (w.alloc O0).heap[w.heap.size]? = some O0 := hp1_0 O0

theorem implTells (hm : ModW w) (hx : LowB x) :
    Calls Tryd.prog 18 #[.agg (fpC x)] w fun e w' => e = .returned (.tuple #[.bool (isz (x % pp) == 1), .int .i64 (sgnN (x % pp))]) ∧ Below w.heap.size w w' := by
  have HM := Lib.hid hm; have HX := Lib.hid hx
  clear hx hm
  go_enter Tryd.func18, Tryd.ntmps18
  go_wp2_with fail
  have hm1 := HM.out.alloc (.cells (fpC x) 22)
  have h0 := nb_heap (hp1_0' (w := w) (.cells (fpC x) 22))
  refine wp_region_nb (by kernel_rfl) (by kernel_rfl) ?_
  refine q_load rfl 22 _ rfl w.heap.size rfl _ (fpC x) _ _ h0 Tryd.underlying22 rfl (by kernel_rfl) ?_
  refine q_call rfl 55 #[.agg (fpC x)] (.bool (isz (x % pp) == 1)) (fun _ => by kernel_rfl) (fun w' hb => (zzIsZero (hm1.nb hb) HX.out).mono fun _ _ h => ⟨h.1, hb.trans (h.2.mono hb.size)⟩) ?_
  refine q_load rfl 22 _ rfl w.heap.size rfl _ (fpC x) _ _ h0 Tryd.underlying22 rfl (by kernel_rfl) ?_
  refine q_call rfl 56 #[.agg (fpC x)] (.int .i64 (sgnN (x % pp))) (fun _ => by kernel_rfl) (fun w' hb => (zzSgn (hm1.nb hb) HX.out).mono fun _ _ h => ⟨h.1, hb.trans (h.2.mono hb.size)⟩) ?_
  refine q_pure rfl (.bool (isz (x % pp) == 1)) (fun _ => by kernel_rfl) ?_
  refine q_pure rfl (.int .i64 (sgnN (x % pp))) (fun _ => by kernel_rfl) ?_
  refine wpQuiet_nil ?_
  intro w' hb
  go_wp2_with fail
  go_ret2
  exact ⟨rfl, ((Below.refl _ _).alloc (Nat.le_refl _) _).trans (hb.mono (by simp))⟩

end
end Go.Proofs.YtpogbljoohdehaaDoor
