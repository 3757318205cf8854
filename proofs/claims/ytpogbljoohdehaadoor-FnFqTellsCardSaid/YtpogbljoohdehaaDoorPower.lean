/- Powers of the reference: the power by 2^125 - 1. Digits below 2^16. -/
import Derived.Test.YtpogbljoohdehaaDoorSpecM
import Derived.Test.YtpogbljoohdehaaDoorZp
namespace Go.FourQ
theorem bit125 : ∀ m, m < 128 → 42535295865117307932921825928971026431 / 2 ^ m % 2 = if m < 125 then 1 else 0 := by decide +kernel
theorem ex_step {m : Nat} (h : m < 128) : 42535295865117307932921825928971026431 / 2 ^ m = 42535295865117307932921825928971026431 / 2 ^ (m + 1) + 42535295865117307932921825928971026431 / 2 ^ (m + 1) + if m < 125 then 1 else 0 := by
  have h1 := bit125 m h
  rw [Nat.pow_succ, ← Nat.div_div_eq_div_mul]
  omega
theorem ex_top : 42535295865117307932921825928971026431 / 2 ^ 128 = 0 := by decide +kernel
theorem val_lt8 (a : Zp) : a.val < 65536 ^ 8 := Nat.lt_trans a.lt (by decide +kernel)
end Go.FourQ
namespace Go.Proofs.YtpogbljoohdehaaDoor
open Go.RowKit Go.FourQ

theorem clos_c (n : Int) (w : World) (b : Bool) (h : decide (n < 125) = b) : Calls Tryd.prog 73 #[.int .i64 n] w fun e w' => e = .returned (.bool b) ∧ w = w' := by
  cases b
  · have h' : ¬ n < 125 := by simpa using h
    go_enter Tryd.func73, Tryd.ntmps73
    go_wp2
    go_ret
    exact ⟨rfl, rfl⟩
  · have h' : n < 125 := by simpa using h
    go_enter Tryd.func73, Tryd.ntmps73
    go_wp2
    go_ret
    exact ⟨rfl, rfl⟩

set_option maxRecDepth 100000 in
set_option maxHeartbeats 4000000 in
theorem power_c (w : World) {x : Nat} (hx : x < 65536 ^ 8) :
    Calls Tryd.prog 72 #[.agg (dgA (digs 8 x)), .func (.func 73) #[] #[]] w fun e w' => e = .returned (.agg (dgA (digs 8 ((zp x).pow 42535295865117307932921825928971026431).val))) ∧ Below w.heap.size w w' := by
  have M2 : ∀ (a : Zp) (wr : World), Calls Tryd.prog 31 #[.agg (dgA (digs 8 a.val)), .agg (dgA (digs 8 a.val))] wr fun e w' => e = .returned (.agg (dgA (digs 8 (a * a).val))) ∧ Below wr.heap.size wr w' := fun a wr => mul_c wr (val_lt8 a) (val_lt8 a)
  have M1 : ∀ (a : Zp) (wr : World), Calls Tryd.prog 31 #[.agg (dgA (digs 8 a.val)), .agg (dgA (digs 8 x))] wr fun e w' => e = .returned (.agg (dgA (digs 8 (a * zp x).val))) ∧ Below wr.heap.size wr w' := fun a wr => by
    have := mul_c wr (val_lt8 a) hx
    have e : a.val * x % pp = (a * zp x).val := by rw [← val_zp, zp_mul, zp_val]
    rwa [e] at this
  obtain ⟨Y, hY⟩ : ∃ Y, zp x = Y := ⟨_, rfl⟩
  rw [hY] at M1 ⊢
  have hl := digs_length 8 x
  generalize digs 8 x = X at *
  have HM1 := Lib.hid M1; have HM2 := Lib.hid M2; have HXL := Lib.hid hl
  clear M1 M2 hx hY hl
  have hone : dgA (digs 8 (Y.pow (42535295865117307932921825928971026431 / 2 ^ 128)).val) = #[.int .u64 1, .int .u64 0, .int .u64 0, .int .u64 0, .int .u64 0, .int .u64 0, .int .u64 0, .int .u64 0] := by rw [ex_top, zpow_zero, val_one]; rfl
  have HONE := Lib.hid hone
  clear hone
  go_enter Tryd.func72, Tryd.ntmps72
  go_wp2_with fail
  go_loopw [6] (fun iv wr => ∃ (j : Nat) (v : Int), j ≤ 128 ∧ iv = .int .i64 v ∧ Hid (v = (j : Int) - 1) ∧ Ds wr w.heap.size X ∧ Ds wr (w.heap.size + 1) (digs 8 0) ∧ Ds wr (w.heap.size + 1 + 1) (digs 8 (Y.pow (42535295865117307932921825928971026431 / 2 ^ j)).val) ∧ Below w.heap.size w wr ∧ w.heap.size + 1 + 1 < wr.heap.size) (fun i _ => (intOf i + 1).toNat)
  case atStart =>
    refine ⟨128, 127, by decide, rfl, Lib.hid (by decide), ?_, ?_, ?_, ?_, by simp⟩
    · exact ((Ds.new _ X _ _ _ rfl rfl).alloc _).alloc _
    · exact (Ds.new _ (digs 8 0) _ _ _ (by simp) zero_digs.symm).alloc _
    · exact Ds.new _ _ _ _ _ (by simp) HONE.out.symm
    · exact (((Below.refl _ _).alloc (Nat.le_refl _) _).alloc (by simp) _).alloc (by simp; omega) _
  case round =>
    clear HONE
    obtain ⟨j, v, hj, rfl, hv, hX, hZ, hO, hbel, hsz⟩ := hrel
    rcases Nat.eq_zero_or_pos j with h0 | h0
    · have hv1 : v = -1 := by rw [hv.out, h0]; rfl
      subst h0
      subst hv1
      rw [Nat.pow_zero, Nat.div_one] at hO
      obtain ⟨T, hT⟩ := hO
      obtain ⟨T1, hT1⟩ := hZ
      have HT := Lib.hid hT; have HT1 := Lib.hid hT1
      clear hT hT1
      obtain ⟨R, hR⟩ : ∃ R, digs 8 (Y.pow 42535295865117307932921825928971026431).val = R := ⟨_, rfl⟩
      have hRl : R.length = 8 := by rw [← hR, digs_length]
      have HRE := Lib.hid hR
      rw [hR] at HT
      have HRL := Lib.hid hRl
      clear hR hRl
      go_wp2_with (first | (refine wpList_load_row rfl 26 _ rfl (w.heap.size + 1 + 1) rfl T _ _ _ HT.out Tryd.underlying26 rfl (by rw [size_dgA, HRL.out]; kernel_rfl) ?_) | (refine wpList_store_row rfl 26 _ _ rfl _ (dgA R) rfl rfl _ _ HT1.out (by rw [size_dgA, HRL.out]; kernel_rfl) (by rw [size_dgA, size_dgA, digs_length, HRL.out]) (all_dgA _) ?_))
      exact bodyPost_ret_by (results_ds rfl _ (w.heap.size + 1) R _ rfl (setRow_ds _ ⟨T1, HT1.out⟩) Tryd.underlying26 rfl (by rw [HRL.out]; kernel_rfl)) rfl ⟨by rw [HRE.out], below_setRow hbel (by omega)⟩
    · obtain ⟨m, rfl⟩ : ∃ m, j = m + 1 := ⟨j - 1, by omega⟩
      have hvm : v = (m : Int) := by rw [hv.out]; omega
      subst hvm
      have hm : m < 128 := by omega
      have hes := ex_step hm
      generalize 42535295865117307932921825928971026431 / 2 ^ (m + 1) = E at hO hes
      obtain ⟨E2, hEE⟩ : ∃ q, 42535295865117307932921825928971026431 / 2 ^ m = q := ⟨_, rfl⟩
      rw [hEE] at hes
      have HEE := Lib.hid hEE
      clear hEE
      have hE2 : (Y.pow E * Y.pow E).val = (Y.pow (E + E)).val := by rw [← zpow_add]
      obtain ⟨T, hT⟩ := hO
      have HT := Lib.hid hT
      clear hT
      have HES := Lib.hid hes
      have HE2 := Lib.hid hE2
      clear hes hv h0 hE2
      go_wp2_with (refine wpList_load_row rfl 26 _ rfl (w.heap.size + 1 + 1) rfl T _ _ _ HT.out Tryd.underlying26 rfl (by kernel_rfl) ?_)
      refine (HM2.out (Y.pow E) _).mono ?_
      rintro e w1 ⟨rfl, hb⟩
      rw [HE2.out]
      have hX1 := hX.nb hb
      have hZ1 := hZ.nb hb
      have HT1 := Lib.hid (nb_heap HT.out w1 hb)
      have hbel1 := hbel.trans (hb.mono (by omega))
      have hsz1 : w.heap.size + 1 + 1 < w1.heap.size := Nat.lt_of_lt_of_le hsz hb.size
      clear hX hZ HT hbel hsz hb
      have hO2 : Ds (w1.setRow (w.heap.size + 1 + 1) (dgA (digs 8 (Y.pow (E + E)).val))) (w.heap.size + 1 + 1) (digs 8 (Y.pow (E + E)).val) := setRow_ds _ ⟨T, HT1.out⟩
      have hX2 : Ds (w1.setRow (w.heap.size + 1 + 1) (dgA (digs 8 (Y.pow (E + E)).val))) w.heap.size X := hX1.of_heap (setRow_other _ _ _ _ (by omega))
      have hZ2 : Ds (w1.setRow (w.heap.size + 1 + 1) (dgA (digs 8 (Y.pow (E + E)).val))) (w.heap.size + 1) (digs 8 0) := hZ1.of_heap (setRow_other _ _ _ _ (by omega))
      have hbel2 : Below w.heap.size w (w1.setRow (w.heap.size + 1 + 1) (dgA (digs 8 (Y.pow (E + E)).val))) := below_setRow hbel1 (by omega)
      have hsz2 : w.heap.size + 1 + 1 < (w1.setRow (w.heap.size + 1 + 1) (dgA (digs 8 (Y.pow (E + E)).val))).heap.size := by simpa using hsz1
      go_wp2_with (refine wpList_store_row rfl 26 _ _ rfl _ (dgA (digs 8 (Y.pow (E + E)).val)) rfl rfl _ _ HT1.out (by kernel_rfl) rfl (all_dgA _) ?_)
      generalize w1.setRow (w.heap.size + 1 + 1) (dgA (digs 8 (Y.pow (E + E)).val)) = w2 at *
      clear hX1 hZ1 HT1 hbel1 hsz1
      obtain ⟨T2, hT2⟩ := hO2
      obtain ⟨T3, hT3⟩ := hX2
      have HT2 := Lib.hid hT2; have HT3 := Lib.hid hT3
      clear hT2 hT3
      by_cases hbit : m < 125
      · rw [if_pos hbit] at HES
        refine (clos_c _ _ true (by simp; omega)).mono ?_
        rintro e w3 ⟨rfl, rfl⟩
        go_wp2_with (first | (refine wpList_load_row rfl 26 _ rfl (w.heap.size + 1 + 1) rfl T2 _ _ _ HT2.out Tryd.underlying26 rfl (by kernel_rfl) ?_) | (refine wpList_load_row rfl 26 _ rfl w.heap.size rfl T3 _ _ _ HT3.out Tryd.underlying26 rfl (by rw [size_dgA, HXL.out]; kernel_rfl) ?_))
        refine (HM1.out (Y.pow (E + E)) _).mono ?_
        rintro e w4 ⟨rfl, hb⟩
        have hE3 : (Y.pow (E + E) * Y).val = (Y.pow E2).val := by rw [HES.out, zpow_add Y (E + E) 1, zpow_one]
        rw [hE3]
        clear hE3
        have HT4 := Lib.hid (nb_heap HT2.out w4 hb)
        have HT5 := Lib.hid (nb_heap HT3.out w4 hb)
        have HZ := Lib.hid (hZ2.nb hb)
        have HB := Lib.hid (hbel2.trans (hb.mono (by omega)))
        have hsz4 : w.heap.size + 1 + 1 < w4.heap.size := Nat.lt_of_lt_of_le hsz2 hb.size
        clear hZ2 hbel2 hsz2 hb
        go_wp2_with (refine wpList_store_row rfl 26 _ _ rfl _ (dgA (digs 8 (Y.pow E2).val)) rfl rfl _ _ HT4.out (by kernel_rfl) rfl (all_dgA _) ?_)
        refine ⟨⟨m, (m : Int) - 1, by omega, rfl, Lib.hid rfl, ?_, ?_, ?_, ?_, ?_⟩, by simp [intOf]⟩
        · exact Ds.of_heap ⟨T3, HT5.out⟩ (setRow_other _ _ _ _ (by omega))
        · exact HZ.out.of_heap (setRow_other _ _ _ _ (by omega))
        · rw [HEE.out]; exact setRow_ds _ ⟨T2, HT4.out⟩
        · exact below_setRow HB.out (by omega)
        · simpa using hsz4
      · rw [if_neg hbit] at HES
        refine (clos_c _ _ false (by simp; omega)).mono ?_
        rintro e w3 ⟨rfl, rfl⟩
        have hE3 : E + E = E2 := HES.out.symm
        rw [hE3] at HT2
        go_wp2_with fail
        refine ⟨⟨m, (m : Int) - 1, by omega, rfl, Lib.hid rfl, ⟨T3, HT3.out⟩, hZ2, ?_, hbel2, hsz2⟩, by simp [intOf]⟩
        rw [HEE.out]; exact ⟨T2, HT2.out⟩

set_option maxRecDepth 100000 in
set_option maxHeartbeats 400000 in
theorem two1251_c (w : World) {x : Nat} (hx : x < 65536 ^ 8) :
    Calls Tryd.prog 36 #[.agg (dgA (digs 8 x))] w fun e w' => e = .returned (.agg (dgA (digs 8 ((zp x).pow 42535295865117307932921825928971026431).val))) ∧ Below w.heap.size w w' := by
  have P : ∀ wr : World, _ := fun wr => power_c wr hx
  have hl := digs_length 8 x
  obtain ⟨R, hR⟩ : ∃ R, digs 8 ((zp x).pow 42535295865117307932921825928971026431).val = R := ⟨_, rfl⟩
  have hRl : R.length = 8 := by rw [← hR, digs_length]
  rw [hR] at P ⊢
  generalize digs 8 x = X at *
  have HP := Lib.hid P; have HXL := Lib.hid hl; have HRL := Lib.hid hRl
  clear P hx hl hR hRl
  have H0 := Lib.hid (hp2_0 (w := w) (.cells (dgA X) 26) (.cells (dgA (digs 8 0)) 26))
  have H1 := Lib.hid (hp2_1 (w := w) (.cells (dgA X) 26) (.cells (dgA (digs 8 0)) 26))
  go_enter Tryd.func36, Tryd.ntmps36
  go_wp2_with (refine wpList_load_row rfl 26 _ rfl w.heap.size rfl 26 (dgA X) (0, 0) _ H0.out Tryd.underlying26 rfl (by rw [size_dgA, HXL.out]; kernel_rfl) ?_)
  refine (HP.out _).mono ?_
  rintro e w1 ⟨rfl, hb⟩
  have HT := Lib.hid (nb_heap H1.out w1 hb)
  have HB := Lib.hid (nb_trans (nb_alloc (nb_alloc (Below.refl w.heap.size w) (.cells (dgA X) 26)) (.cells (dgA (digs 8 0)) 26)) hb)
  clear hb H0 H1
  go_wp2_with (refine wpList_store_row rfl 26 _ _ rfl _ (dgA R) rfl rfl _ _ HT.out (by rw [size_dgA, HRL.out]; kernel_rfl) (by rw [size_dgA, size_dgA, digs_length, HRL.out]) (all_dgA _) ?_)
  exact bodyPost_ret_by (results_ds rfl _ (w.heap.size + 1) R _ rfl (setRow_ds _ ⟨_, HT.out⟩) Tryd.underlying26 rfl (by rw [HRL.out]; kernel_rfl)) rfl ⟨rfl, below_setRow HB.out (by omega)⟩

end Go.Proofs.YtpogbljoohdehaaDoor
