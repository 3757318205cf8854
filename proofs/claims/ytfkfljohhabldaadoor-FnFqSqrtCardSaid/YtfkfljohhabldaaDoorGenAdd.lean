/- fpAddGeneric, fpSubGeneric: sums and differences of elements below 2^127, wherever they lie. -/
import Derived.Test.YtfkfljohhabldaaDoorGen
namespace Go.Proofs.YtfkfljohhabldaaDoor
open Go.RowKit Go.FourQ

set_option maxRecDepth 100000 in
set_option maxHeartbeats 1000000 in
theorem fpAddG {w : World} {b1 b2 b3 o1 o2 o3 k1 k2 k3 : Nat} {l1 l2 l3 : List Nat} {x y : Nat} (h1 : Fps w b1 l1) (h2 : Fps w b2 l2) (h3 : Fps w b3 l3)
    (e1 : o1 = 16 * k1) (e2 : o2 = 16 * k2) (e3 : o3 = 16 * k3) (i1 : k1 < l1.length) (i2 : l2[k2]? = some x) (i3 : l3[k3]? = some y) (hx : LowB x) (hy : LowB y) :
    Calls Tryd.prog 128 #[.pointer (some ⟨b1, o1, none⟩), .pointer (some ⟨b2, o2, none⟩), .pointer (some ⟨b3, o3, none⟩)] w fun e w' => e = .returned (.tuple #[]) ∧ Upd w w' b1 (l1.set k1 (addN x y)) := by
  have G : ∀ s0 k0 s1 k1' d1 h c0 k2' c1 k3' : Nat, _ := fun s0 k0 s1 k1' d1 h c0 k2' c1 k3' => @add_words x y s0 k0 s1 k1' d1 h c0 k2' c1 k3' hx hy
  obtain ⟨x0, hx0⟩ : ∃ x0, x % 18446744073709551616 = x0 := ⟨_, rfl⟩
  obtain ⟨x1, hx1⟩ : ∃ x1, x / 18446744073709551616 = x1 := ⟨_, rfl⟩
  obtain ⟨y0, hy0⟩ : ∃ y0, y % 18446744073709551616 = y0 := ⟨_, rfl⟩
  obtain ⟨y1, hy1⟩ : ∃ y1, y / 18446744073709551616 = y1 := ⟨_, rfl⟩
  have hxh : x / 18446744073709551616 % 18446744073709551616 = x1 := by unfold LowB at hx; omega
  have hyh : y / 18446744073709551616 % 18446744073709551616 = y1 := by unfold LowB at hy; omega
  have x0b : x0 < 18446744073709551616 := by omega
  have x1b : x1 < 18446744073709551616 := by unfold LowB at hx; omega
  have y0b : y0 < 18446744073709551616 := by omega
  have y1b : y1 < 18446744073709551616 := by unfold LowB at hy; omega
  rw [hx0, hx1, hy0, hy1] at G
  obtain ⟨s0, k0, q0, r0, t0, a0⟩ := add64_as x0 y0 0 x0 y0 0 rfl rfl rfl x0b y0b (by omega)
  obtain ⟨s1, k1', q1, r1, t1, a1⟩ := add64_ex x1 y1 k0 x1b y1b t0
  obtain ⟨d1, h, q2, r2, t2, a2⟩ := add64_as s1 s1 0 s1 s1 0 rfl rfl rfl r1 r1 (by omega)
  obtain ⟨c0, k2', q3, r3, t3, a3⟩ := add64_as s0 0 h s0 0 h rfl rfl rfl r0 (by omega) t2
  obtain ⟨c1, k3', q4, r4, t4, a4⟩ := add64_as ((d1 : Int) / 2) 0 k2' (d1 / 2) 0 k2' (by omega) rfl rfl (by omega) (by omega) t3
  have hz : c0 + 18446744073709551616 * c1 = addN x y := G s0 k0 s1 k1' d1 h c0 k2' c1 k3' q0 r0 q1 r1 q2 r2 q3 r3 q4 r4
  have E1 := Lib.hid e1; have E2 := Lib.hid e2; have E3 := Lib.hid e3; have I1 := Lib.hid i1; have I2 := Lib.hid i2; have I3 := Lib.hid i3; have HZ := Lib.hid hz
  have X0 := Lib.hid hx0; have XH := Lib.hid hxh; have Y0 := Lib.hid hy0; have YH := Lib.hid hyh
  clear e1 e2 e3 i1 i2 i3 G hx hy hx0 hx1 hy0 hy1 hxh hyh q0 q1 q2 q3 q4 hz
  go_enter Tryd.func128, Tryd.ntmps128
  go_wp2_with fail
  go_still_tail 4, (by kernel_rfl)
  change wpList _ _ _ _ _ w.drew
  go_wp2_with fail
  refine (uint64_lo h2.drew I2.out E2.out X0.out).mono ?_
  rintro e w1 ⟨rfl, v1⟩
  have f11 := h1.drew.below v1 h1.lt; have f12 := h2.drew.below v1 h2.lt; have f13 := h3.drew.below v1 h3.lt
  go_wp2_with fail
  go_still_tail 4, (by kernel_rfl)
  change wpList _ _ _ _ _ w1.drew
  go_wp2_with fail
  refine (uint64_hi f12.drew I2.out (congrArg (· + 8) E2.out) XH.out).mono ?_
  rintro e w2 ⟨rfl, v2⟩
  have f21 := f11.drew.below v2 f11.lt; have f22 := f12.drew.below v2 f12.lt; have f23 := f13.drew.below v2 f13.lt
  go_wp2_with fail
  go_still_tail 4, (by kernel_rfl)
  change wpList _ _ _ _ _ w2.drew
  go_wp2_with fail
  refine (uint64_lo f23.drew I3.out E3.out Y0.out).mono ?_
  rintro e w3 ⟨rfl, v3⟩
  have f31 := f21.drew.below v3 f21.lt; have f33 := f23.drew.below v3 f23.lt
  go_wp2_with fail
  go_still_tail 4, (by kernel_rfl)
  change wpList _ _ _ _ _ w3.drew
  go_wp2_with fail
  refine (uint64_hi f33.drew I3.out (congrArg (· + 8) E3.out) YH.out).mono ?_
  rintro e w4 ⟨rfl, v4⟩
  have f41 := f31.drew.below v4 f31.lt
  have v4' : Below w.heap.size w w4 := nb_trans (nb_trans (nb_trans (nb_drew v1) (nb_drew v2)) (nb_drew v3)) (nb_drew v4)
  go_wp2_with fail
  go_still_tail 5, (by kernel_rfl)
  change wpList _ _ _ _ _ w4.drew
  go_wp2_with fail
  refine (put_lo f41.drew (List.getElem?_eq_getElem I1.out) E1.out r3).mono ?_
  rintro e w5 ⟨rfl, v5⟩
  go_wp2_with fail
  go_still_tail 5, (by kernel_rfl)
  change wpList _ _ _ _ _ w5.drew
  go_wp2_with fail
  refine (put_hi v5.blk.drew (List.getElem?_set_self I1.out) (congrArg (· + 8) E1.out) r4).mono ?_
  rintro e w6 ⟨rfl, v6⟩
  go_wp2_with fail
  go_end0
  refine ⟨rfl, ?_⟩
  have u := Upd.ahead v4' (v5.ofDrew.trans v6.ofDrew)
  rw [List.set_set, word_join r3, HZ.out] at u
  exact u
set_option maxRecDepth 100000 in
set_option maxHeartbeats 1000000 in
theorem fpSubG {w : World} {b1 b2 b3 o1 o2 o3 k1 k2 k3 : Nat} {l1 l2 l3 : List Nat} {x y : Nat} (h1 : Fps w b1 l1) (h2 : Fps w b2 l2) (h3 : Fps w b3 l3)
    (e1 : o1 = 16 * k1) (e2 : o2 = 16 * k2) (e3 : o3 = 16 * k3) (i1 : k1 < l1.length) (i2 : l2[k2]? = some x) (i3 : l3[k3]? = some y) (hx : LowB x) (hy : LowB y) :
    Calls Tryd.prog 130 #[.pointer (some ⟨b1, o1, none⟩), .pointer (some ⟨b2, o2, none⟩), .pointer (some ⟨b3, o3, none⟩)] w fun e w' => e = .returned (.tuple #[]) ∧ Upd w w' b1 (l1.set k1 (subN x y)) := by
  have G : ∀ s0 k0 s1 k1' d1 h c0 k2' c1 k3' : Nat, _ := fun s0 k0 s1 k1' d1 h c0 k2' c1 k3' => @sub_words x y s0 k0 s1 k1' d1 h c0 k2' c1 k3' hx hy
  obtain ⟨x0, hx0⟩ : ∃ x0, x % 18446744073709551616 = x0 := ⟨_, rfl⟩
  obtain ⟨x1, hx1⟩ : ∃ x1, x / 18446744073709551616 = x1 := ⟨_, rfl⟩
  obtain ⟨y0, hy0⟩ : ∃ y0, y % 18446744073709551616 = y0 := ⟨_, rfl⟩
  obtain ⟨y1, hy1⟩ : ∃ y1, y / 18446744073709551616 = y1 := ⟨_, rfl⟩
  have hxh : x / 18446744073709551616 % 18446744073709551616 = x1 := by unfold LowB at hx; omega
  have hyh : y / 18446744073709551616 % 18446744073709551616 = y1 := by unfold LowB at hy; omega
  have x0b : x0 < 18446744073709551616 := by omega
  have x1b : x1 < 18446744073709551616 := by unfold LowB at hx; omega
  have y0b : y0 < 18446744073709551616 := by omega
  have y1b : y1 < 18446744073709551616 := by unfold LowB at hy; omega
  rw [hx0, hx1, hy0, hy1] at G
  obtain ⟨s0, k0, q0, r0, t0, a0⟩ := sub64_as x0 y0 0 x0 y0 0 rfl rfl rfl x0b y0b (by omega)
  obtain ⟨s1, k1', q1, r1, t1, a1⟩ := sub64_ex x1 y1 k0 x1b y1b t0
  obtain ⟨d1, h, q2, r2, t2, a2⟩ := add64_as s1 s1 0 s1 s1 0 rfl rfl rfl r1 r1 (by omega)
  obtain ⟨c0, k2', q3, r3, t3, a3⟩ := sub64_as s0 0 h s0 0 h rfl rfl rfl r0 (by omega) t2
  obtain ⟨c1, k3', q4, r4, t4, a4⟩ := sub64_as ((d1 : Int) / 2) 0 k2' (d1 / 2) 0 k2' (by omega) rfl rfl (by omega) (by omega) t3
  have hz : c0 + 18446744073709551616 * c1 = subN x y := G s0 k0 s1 k1' d1 h c0 k2' c1 k3' q0 r0 q1 r1 q2 r2 q3 r3 q4 r4
  have E1 := Lib.hid e1; have E2 := Lib.hid e2; have E3 := Lib.hid e3; have I1 := Lib.hid i1; have I2 := Lib.hid i2; have I3 := Lib.hid i3; have HZ := Lib.hid hz
  have X0 := Lib.hid hx0; have XH := Lib.hid hxh; have Y0 := Lib.hid hy0; have YH := Lib.hid hyh
  clear e1 e2 e3 i1 i2 i3 G hx hy hx0 hx1 hy0 hy1 hxh hyh q0 q1 q2 q3 q4 hz
  go_enter Tryd.func130, Tryd.ntmps130
  go_wp2_with fail
  go_still_tail 4, (by kernel_rfl)
  change wpList _ _ _ _ _ w.drew
  go_wp2_with fail
  refine (uint64_lo h2.drew I2.out E2.out X0.out).mono ?_
  rintro e w1 ⟨rfl, v1⟩
  have f11 := h1.drew.below v1 h1.lt; have f12 := h2.drew.below v1 h2.lt; have f13 := h3.drew.below v1 h3.lt
  go_wp2_with fail
  go_still_tail 4, (by kernel_rfl)
  change wpList _ _ _ _ _ w1.drew
  go_wp2_with fail
  refine (uint64_hi f12.drew I2.out (congrArg (· + 8) E2.out) XH.out).mono ?_
  rintro e w2 ⟨rfl, v2⟩
  have f21 := f11.drew.below v2 f11.lt; have f22 := f12.drew.below v2 f12.lt; have f23 := f13.drew.below v2 f13.lt
  go_wp2_with fail
  go_still_tail 4, (by kernel_rfl)
  change wpList _ _ _ _ _ w2.drew
  go_wp2_with fail
  refine (uint64_lo f23.drew I3.out E3.out Y0.out).mono ?_
  rintro e w3 ⟨rfl, v3⟩
  have f31 := f21.drew.below v3 f21.lt; have f33 := f23.drew.below v3 f23.lt
  go_wp2_with fail
  go_still_tail 4, (by kernel_rfl)
  change wpList _ _ _ _ _ w3.drew
  go_wp2_with fail
  refine (uint64_hi f33.drew I3.out (congrArg (· + 8) E3.out) YH.out).mono ?_
  rintro e w4 ⟨rfl, v4⟩
  have f41 := f31.drew.below v4 f31.lt
  have v4' : Below w.heap.size w w4 := nb_trans (nb_trans (nb_trans (nb_drew v1) (nb_drew v2)) (nb_drew v3)) (nb_drew v4)
  go_wp2_with fail
  go_still_tail 5, (by kernel_rfl)
  change wpList _ _ _ _ _ w4.drew
  go_wp2_with fail
  refine (put_lo f41.drew (List.getElem?_eq_getElem I1.out) E1.out r3).mono ?_
  rintro e w5 ⟨rfl, v5⟩
  go_wp2_with fail
  go_still_tail 5, (by kernel_rfl)
  change wpList _ _ _ _ _ w5.drew
  go_wp2_with fail
  refine (put_hi v5.blk.drew (List.getElem?_set_self I1.out) (congrArg (· + 8) E1.out) r4).mono ?_
  rintro e w6 ⟨rfl, v6⟩
  go_wp2_with fail
  go_end0
  refine ⟨rfl, ?_⟩
  have u := Upd.ahead v4' (v5.ofDrew.trans v6.ofDrew)
  rw [List.set_set, word_join r3, HZ.out] at u
  exact u
end Go.Proofs.YtfkfljohhabldaaDoor
