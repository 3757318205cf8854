/- fpHlfGeneric: the half of an element below 2^127. -/
import Derived.Test.YtfkfljohhabldaaDoorGen
namespace Go.Proofs.YtfkfljohhabldaaDoor
open Go.RowKit Go.FourQ

theorem and1_ex (x0 : Nat) (hx : x0 < 18446744073709551616) : ∃ h : Nat, h = x0 % 2 ∧ bits .and .u64 (x0 : Int) 1 = (h : Int) := by
  refine ⟨_, rfl, ?_⟩
  have := bits_mask .u64 64 (by decide) wraps_u64 1 (by decide) (x0 : Int) (by omega) (by omega)
  exact this.trans (by omega)

theorem shl_ex (x1 : Nat) (C : Int) (c d : Nat) (hC : C = c) (hc : c * d = 18446744073709551616) : ∃ z : Nat, z = x1 % d * c ∧ IntKind.u64.wrap ((x1 : Int) * C) = (z : Int) := by
  subst hC
  refine ⟨_, rfl, ?_⟩
  rw [IntKind.wrap_u64]
  have e : x1 * c % 18446744073709551616 = x1 % d * c := by rw [← hc, Nat.mul_comm c d, Nat.mul_mod_mul_right]
  rw [← e]
  omega

theorem or_ex (X Y : Int) (z y i : Nat) (hX : X = z) (hY : Y = y) (hi : i ≤ 64) (h1 : z % 2 ^ i = 0) (h2 : z < 18446744073709551616) (h3 : y < 2 ^ i) : ∃ c : Nat, c = z + y ∧ bits .or .u64 X Y = (c : Int) := by
  subst hX hY
  refine ⟨_, rfl, ?_⟩
  have h4 : (2 : Nat) ^ i ≤ 2 ^ 64 := Nat.pow_le_pow_right (by decide) hi
  have := bits_join .u64 64 (by decide) wraps_u64 i (z : Int) (y : Int) (by omega) (by exact_mod_cast h1) (by exact_mod_cast h2) (by omega) (by exact_mod_cast h3) (by have : y < 2 ^ 64 := by omega
                                                                                                                                                                       exact_mod_cast this)
  rw [this]; omega

theorem hlf_words {x x0 x1 h z z' c0 c1 : Nat} (e0 : x % 18446744073709551616 = x0) (e1 : x / 18446744073709551616 = x1) (hh : h = x0 % 2) (hz : z = x1 % 2 * 9223372036854775808) (hz' : z' = h % 4 * 4611686018427387904)
    (hc0 : c0 = z + x0 / 2) (hc1 : c1 = z' + x1 / 2) : c0 + 18446744073709551616 * c1 = hlfN x := by
  unfold hlfN
  have q : h % 4 = h := by omega
  rw [q] at hz'
  subst hz' hc0 hc1 hz hh
  omega

set_option maxRecDepth 100000 in
set_option maxHeartbeats 1000000 in
theorem fpHlfG {w : World} {b1 b2 o1 o2 k1 k2 : Nat} {l1 l2 : List Nat} {x : Nat} (h1 : Fps w b1 l1) (h2 : Fps w b2 l2)
    (e1 : o1 = 16 * k1) (e2 : o2 = 16 * k2) (i1 : k1 < l1.length) (i2 : l2[k2]? = some x) (hx : LowB x) :
    Calls Tryd.prog 133 #[.pointer (some ⟨b1, o1, none⟩), .pointer (some ⟨b2, o2, none⟩)] w fun e w' => e = .returned (.tuple #[]) ∧ Upd w w' b1 (l1.set k1 (hlfN x)) := by
  obtain ⟨x0, hx0⟩ : ∃ x0, x % 18446744073709551616 = x0 := ⟨_, rfl⟩
  obtain ⟨x1, hx1⟩ : ∃ x1, x / 18446744073709551616 = x1 := ⟨_, rfl⟩
  have hxh := (low_hi hx).2.trans hx1
  have x1c := (low_hi hx).1
  rw [hx1] at x1c
  have x0b := mod_lt64 hx0
  have E1 := Lib.hid e1; have E2 := Lib.hid e2; have I1 := Lib.hid i1; have I2 := Lib.hid i2
  have X0 := Lib.hid hx0; have XH := Lib.hid hxh
  obtain ⟨h, hh, A1⟩ := and1_ex x0 x0b
  obtain ⟨z, hz, A2⟩ := shl_ex x1 9223372036854775808 9223372036854775808 2 rfl (by decide)
  obtain ⟨c0, hc0, A3⟩ := or_ex (z : Int) ((x0 : Int) / 2) z (x0 / 2) 63 rfl (castHalf x0) (by decide) (by omega) (by omega) (by omega)
  obtain ⟨z', hz', A4⟩ := shl_ex h 4611686018427387904 4611686018427387904 4 rfl (by decide)
  obtain ⟨c1, hc1, A5⟩ := or_ex (z' : Int) ((x1 : Int) / 2) z' (x1 / 2) 62 rfl (castHalf x1) (by decide) (by omega) (by omega) (by omega)
  have rc0 : c0 < 18446744073709551616 := by omega
  have rc1 : c1 < 18446744073709551616 := by omega
  have hzz := hlf_words hx0 hx1 hh hz hz' hc0 hc1
  have HZ := Lib.hid hzz
  clear e1 e2 i1 i2 hx hx0 hx1 hxh hh hz hc0 hz' hc1 hzz
  go_enter Tryd.func133, Tryd.ntmps133
  go_wp2_with fail
  go_still_tail 4, (by kernel_rfl)
  change wpList _ _ _ _ _ w.drew
  go_wp2_with fail
  refine (uint64_lo h2.drew I2.out E2.out X0.out).mono ?_
  rintro e w1 ⟨rfl, v1⟩
  have f11 := h1.drew.below v1 h1.lt; have f12 := h2.drew.below v1 h2.lt
  go_wp2_with fail
  go_still_tail 4, (by kernel_rfl)
  change wpList _ _ _ _ _ w1.drew
  go_wp2_with fail
  refine (uint64_hi f12.drew I2.out (congrArg (· + 8) E2.out) XH.out).mono ?_
  rintro e w2 ⟨rfl, v2⟩
  have f21 := f11.drew.below v2 f11.lt; have v2' : Below w.heap.size w w2 := nb_trans (nb_drew v1) (nb_drew v2)
  go_wp2_with fail
  go_still_tail 5, (by kernel_rfl)
  change wpList _ _ _ _ _ w2.drew
  go_wp2_with fail
  refine (put_lo f21.drew (List.getElem?_eq_getElem I1.out) E1.out rc0).mono ?_
  rintro e w3 ⟨rfl, v3⟩
  go_wp2_with fail
  go_still_tail 5, (by kernel_rfl)
  change wpList _ _ _ _ _ w3.drew
  go_wp2_with fail
  refine (put_hi v3.blk.drew (List.getElem?_set_self I1.out) (congrArg (· + 8) E1.out) rc1).mono ?_
  rintro e w4 ⟨rfl, v4⟩
  go_wp2_with fail
  go_end0
  refine ⟨rfl, ?_⟩
  have u := Upd.ahead v2' (v3.ofDrew.trans v4.ofDrew)
  rw [List.set_set, word_join rc0, HZ.out] at u
  exact u
end Go.Proofs.YtfkfljohhabldaaDoor
