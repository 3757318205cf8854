/- fpMulGeneric: products of elements below 2^127, wherever they lie. -/
import Derived.Test.YtfkfljohhabldaaDoorGen
namespace Go.Proofs.YtfkfljohhabldaaDoor
open Go.RowKit Go.FourQ

set_option maxRecDepth 100000 in
set_option maxHeartbeats 4000000 in
theorem fpMulG {w : World} {b1 b2 b3 o1 o2 o3 k1 k2 k3 : Nat} {l1 l2 l3 : List Nat} {x y : Nat} (h1 : Fps w b1 l1) (h2 : Fps w b2 l2) (h3 : Fps w b3 l3)
    (e1 : o1 = 16 * k1) (e2 : o2 = 16 * k2) (e3 : o3 = 16 * k3) (i1 : k1 < l1.length) (i2 : l2[k2]? = some x) (i3 : l3[k3]? = some y) (hx : LowB x) (hy : LowB y) :
    Calls Tryd.prog 127 #[.pointer (some ⟨b1, o1, none⟩), .pointer (some ⟨b2, o2, none⟩), .pointer (some ⟨b3, o3, none⟩)] w fun e w' => e = .returned (.tuple #[]) ∧ Upd w w' b1 (l1.set k1 (mulN x y)) := by
  obtain ⟨x0, hx0⟩ : ∃ x0, x % 18446744073709551616 = x0 := ⟨_, rfl⟩
  obtain ⟨x1, hx1⟩ : ∃ x1, x / 18446744073709551616 = x1 := ⟨_, rfl⟩
  obtain ⟨y0, hy0⟩ : ∃ y0, y % 18446744073709551616 = y0 := ⟨_, rfl⟩
  obtain ⟨y1, hy1⟩ : ∃ y1, y / 18446744073709551616 = y1 := ⟨_, rfl⟩
  have hxh := (low_hi hx).2.trans hx1
  have hyh := (low_hi hy).2.trans hy1
  have x1c := (low_hi hx).1
  have y1c := (low_hi hy).1
  rw [hx1] at x1c
  rw [hy1] at y1c
  have x0b := mod_lt64 hx0
  have y0b := mod_lt64 hy0
  have x1b : x1 < 18446744073709551616 := Nat.lt_trans x1c (by decide)
  have y1b : y1 < 18446744073709551616 := Nat.lt_trans y1c (by decide)
  have hm : mulN x y = fold (fold (mulT x0 x1 y0 y1)) := by unfold mulN; rw [hx0, hx1, hy0, hy1]
  obtain ⟨w0, w1, w2, w3⟩ := words_bound x0b x1c y0b y1c
  obtain ⟨h0v, eh0⟩ : ∃ v, x0 * y0 / 18446744073709551616 = v := ⟨_, rfl⟩
  obtain ⟨u0, el0⟩ : ∃ v, x0 * y0 % 18446744073709551616 = v := ⟨_, rfl⟩
  obtain ⟨h1v, eh1⟩ : ∃ v, x0 * y1 / 18446744073709551616 = v := ⟨_, rfl⟩
  obtain ⟨l1v, el1⟩ : ∃ v, x0 * y1 % 18446744073709551616 = v := ⟨_, rfl⟩
  obtain ⟨h2v, eh2⟩ : ∃ v, x1 * y0 / 18446744073709551616 = v := ⟨_, rfl⟩
  obtain ⟨l2v, el2⟩ : ∃ v, x1 * y0 % 18446744073709551616 = v := ⟨_, rfl⟩
  obtain ⟨h3v, eh3⟩ : ∃ v, x1 * y1 / 18446744073709551616 = v := ⟨_, rfl⟩
  obtain ⟨l3v, el3⟩ : ∃ v, x1 * y1 % 18446744073709551616 = v := ⟨_, rfl⟩
  have u0b := mod_lt64 el0
  have h0b := div_lt64 eh0 w0
  have l1b := mod_lt64 el1
  have h1b := div_lt63 eh1 w1
  have l2b := mod_lt64 el2
  have h2b := div_lt63 eh2 w2
  have l3b := mod_lt64 el3
  have h3b := div_lt62 eh3 w3
  have M0 := Lib.hid (And.intro eh0 el0); have M1 := Lib.hid (And.intro eh1 el1); have M2 := Lib.hid (And.intro eh2 el2); have M3 := Lib.hid (And.intro eh3 el3)
  have X0 := Lib.hid hx0; have XH := Lib.hid hxh; have Y0 := Lib.hid hy0; have YH := Lib.hid hyh
  clear eh0 el0 eh1 el1 eh2 el2 eh3 el3 hx0 hx1 hy0 hy1 hxh hyh w0 w1 w2
  obtain ⟨u1, cx1, qu1, ru1, tu1, au1⟩ := add64_as (u0) ((h1v : Int) * 2) (0) (u0) (2 * h1v) (0) rfl (cast2 h1v) rfl u0b (lt2 h1b) (Nat.zero_le 1)
  obtain ⟨v1, cx2, qv1, rv1, tv1, av1⟩ := add64_as (h0v) (l1v) (cx1) (h0v) (l1v) (cx1) rfl rfl rfl h0b l1b tu1
  obtain ⟨c2a, z1, qc2a, rc2a, tc2a, ac2a⟩ := add64_as (0) (0) (cx2) (0) (0) (cx2) rfl rfl rfl zlt zlt tv1
  obtain ⟨u2, cx3, qu2, ru2, tu2, au2⟩ := add64_as (u1) ((h2v : Int) * 2) (0) (u1) (2 * h2v) (0) rfl (cast2 h2v) rfl ru1 (lt2 h2b) (Nat.zero_le 1)
  obtain ⟨v2, cx4, qv2, rv2, tv2, av2⟩ := add64_as (v1) (l2v) (cx3) (v1) (l2v) (cx3) rfl rfl rfl rv1 l2b tu2
  obtain ⟨c2b, z2, qc2b, rc2b, tc2b, ac2b⟩ := add64_as (c2a) (0) (cx4) (c2a) (0) (cx4) rfl rfl rfl rc2a zlt tv2
  obtain ⟨m3, cx5, qm3, rm3, tm3, am3⟩ := add64_as (l3v) (l3v) (0) (l3v) (l3v) (0) rfl rfl rfl l3b l3b (Nat.zero_le 1)
  obtain ⟨n3, cx5p, qn3, rn3, tn3, an3⟩ := add64_as (h3v) (h3v) (cx5) (h3v) (h3v) (cx5) rfl rfl rfl h3b h3b tm3
  obtain ⟨u3, cx6, qu3, ru3, tu3, au3⟩ := add64_as (u2) (m3) (0) (u2) (m3) (0) rfl rfl rfl ru2 rm3 (Nat.zero_le 1)
  obtain ⟨v3, cx7, qv3, rv3, tv3, av3⟩ := add64_as (v2) (n3) (cx6) (v2) (n3) (cx6) rfl rfl rfl rv2 rn3 tu3
  obtain ⟨c2c, z3, qc2c, rc2c, tc2c, ac2c⟩ := add64_as (c2b) (0) (cx7) (c2b) (0) (cx7) rfl rfl rfl rc2b zlt tv3
  obtain ⟨hc2, hc3⟩ := three_sum qc2a qc2b qc2c tv1 tv2 tv3
  obtain ⟨d1, hh1, qd1, rd1, td1, ad1⟩ := add64_as (v3) (v3) (0) (v3) (v3) (0) rfl rfl rfl rv3 rv3 (Nat.zero_le 1)
  obtain ⟨D0, kk1, qD0, rD0, tD0, aD0⟩ := add64_as (u3) ((c2c : Int) * 2) (hh1) (u3) (2 * c2c) (hh1) rfl (cast2 c2c) rfl ru3 (le8_lt hc3) td1
  obtain ⟨D1, kk2, qD1, rD1, tD1, aD1⟩ := add64_as ((d1 : Int) / 2) (0) (kk1) (d1 / 2) (0) (kk1) (castHalf d1) rfl rfl (half_lt rd1) zlt tD0
  obtain ⟨f1, hh2, qf1, rf1, tf1, af1⟩ := add64_as (D1) (D1) (0) (D1) (D1) (0) rfl rfl rfl rD1 rD1 (Nat.zero_le 1)
  obtain ⟨E0, kk3, qE0, rE0, tE0, aE0⟩ := add64_as (D0) (0) (hh2) (D0) (0) (hh2) rfl rfl rfl rD0 zlt tf1
  obtain ⟨E1, kk4, qE1, rE1, tE1, aE1⟩ := add64_as ((f1 : Int) / 2) (0) (kk3) (f1 / 2) (0) (kk3) (castHalf f1) rfl rfl (half_lt rf1) zlt tE0
  have hz : E0 + 18446744073709551616 * E1 = mulN x y := by
    have s1 := mul_words_sum w3 M0.out.2.symm M0.out.1.symm M1.out.2.symm M1.out.1.symm M2.out.2.symm M2.out.1.symm M3.out.2.symm M3.out.1.symm qu1 qv1 qu2 qv2 qm3 qn3 qu3 qv3 hc2
    have s2 := fold_words ru3 rv3 (Nat.le_trans hc3 (by decide)) qd1 rd1 qD0 rD0 qD1 rD1
    have s3 := fold_words (c2 := 0) rD0 rD1 (by decide) qf1 rf1 qE0 rE0 qE1 rE1
    rw [s3, Nat.mul_zero, Nat.add_zero, s2, s1, hm]
    rfl
  have E1' := Lib.hid e1; have E2 := Lib.hid e2; have E3 := Lib.hid e3; have I1 := Lib.hid i1; have I2 := Lib.hid i2; have I3 := Lib.hid i3; have HZ := Lib.hid hz
  clear e1 e2 e3 i1 i2 i3 hx hy hm hz hc2 w3
  clear qc2a qc2b qc2c qd1 qD0 qD1 qf1 qE0 qE1 qu1 qu2 qu3 qv1 qv2 qv3 qm3 qn3
  go_enter Tryd.func127, Tryd.ntmps127
  go_wp2_with fail
  go_still_tail 4, (by kernel_rfl)
  change wpList _ _ _ _ _ w.drew
  go_wp2_with fail
  refine (uint64_lo h2.drew I2.out E2.out X0.out).mono ?_
  rintro e w1 ⟨rfl, v1⟩
  have f11 := h1.drew.below v1 h1.lt; have f12 := h2.drew.below v1 h2.lt; have f13 := h3.drew.below v1 h3.lt
  go_wp2_with fail
  go_still_tail 4, (by kernel_rfl)
  change wpList _ _ _ _ _ w1.drew
  go_wp2_with fail
  refine (uint64_hi f12.drew I2.out (congrArg (· + 8) E2.out) XH.out).mono ?_
  rintro e w2 ⟨rfl, v2⟩
  have f21 := f11.drew.below v2 f11.lt; have f22 := f12.drew.below v2 f12.lt; have f23 := f13.drew.below v2 f13.lt
  go_wp2_with fail
  go_still_tail 4, (by kernel_rfl)
  change wpList _ _ _ _ _ w2.drew
  go_wp2_with fail
  refine (uint64_lo f23.drew I3.out E3.out Y0.out).mono ?_
  rintro e w3 ⟨rfl, v3⟩
  have f31 := f21.drew.below v3 f21.lt; have f33 := f23.drew.below v3 f23.lt
  go_wp2_with fail
  go_still_tail 4, (by kernel_rfl)
  change wpList _ _ _ _ _ w3.drew
  go_wp2_with fail
  refine (uint64_hi f33.drew I3.out (congrArg (· + 8) E3.out) YH.out).mono ?_
  rintro e w4 ⟨rfl, v4⟩
  have f41 := f31.drew.below v4 f31.lt
  have v4' : Below w.heap.size w w4 := nb_trans (nb_trans (nb_trans (nb_drew v1) (nb_drew v2)) (nb_drew v3)) (nb_drew v4)
  go_wp2_with fail
  refine (mul64_ex x0b y0b M0.out.1 M0.out.2 _).mono ?_
  rintro e w' ⟨rfl, rfl⟩
  go_wp2_with fail
  refine (mul64_ex x0b y1b M1.out.1 M1.out.2 _).mono ?_
  rintro e w' ⟨rfl, rfl⟩
  go_wp2_with fail
  refine (mul64_ex x1b y0b M2.out.1 M2.out.2 _).mono ?_
  rintro e w' ⟨rfl, rfl⟩
  go_wp2_with fail
  refine (mul64_ex x1b y1b M3.out.1 M3.out.2 _).mono ?_
  rintro e w' ⟨rfl, rfl⟩
  go_wp2_with fail
  go_still_tail 5, (by kernel_rfl)
  change wpList _ _ _ _ _ w4.drew
  go_wp2_with fail
  refine (put_lo f41.drew (List.getElem?_eq_getElem I1.out) E1'.out rE0).mono ?_
  rintro e w5 ⟨rfl, v5⟩
  go_wp2_with fail
  go_still_tail 5, (by kernel_rfl)
  change wpList _ _ _ _ _ w5.drew
  go_wp2_with fail
  refine (put_hi v5.blk.drew (List.getElem?_set_self I1.out) (congrArg (· + 8) E1'.out) rE1).mono ?_
  rintro e w6 ⟨rfl, v6⟩
  go_wp2_with fail
  go_end0
  refine ⟨rfl, ?_⟩
  have u := Upd.ahead v4' (v5.ofDrew.trans v6.ofDrew)
  rw [List.set_set, word_join rE0, HZ.out] at u
  exact u
end Go.Proofs.YtfkfljohhabldaaDoor
