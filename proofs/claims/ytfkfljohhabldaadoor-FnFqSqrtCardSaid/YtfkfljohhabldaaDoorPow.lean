/- The power by 2^125 - 1 and the inverse. The source lies in memory below 2^127. -/
import Derived.Test.YtfkfljohhabldaaDoorLoc
namespace Go.FourQ

theorem pw_mul (a : Zp) {m n k : Nat} (h : m + n = k) : a.pow m * a.pow n = a.pow k := by rw [← zpow_add, h]
theorem pwR (a : Zp) {n k : Nat} (h : n + 1 = k) : a.pow n * a = a.pow k := by rw [← h, zpow_add, zpow_one]
theorem pwL (a : Zp) {n k : Nat} (h : 1 + n = k) : a * a.pow n = a.pow k := by rw [← h, zpow_add, zpow_one]
theorem pw_two (a : Zp) : a * a = a.pow 2 := by rw [show 2 = 1 + 1 from rfl, zpow_add, zpow_one]
theorem pw_step (a : Zp) (E k : Nat) : a.pow (E * 2 ^ k) * a.pow (E * 2 ^ k) = a.pow (E * 2 ^ (k + 1)) := pw_mul a (by rw [Nat.pow_succ, ← Nat.mul_assoc, Nat.mul_two])

theorem low_zero : LowB 0 := by show 0 < 2 ^ 127; decide +kernel

end Go.FourQ
namespace Go.Proofs.YtfkfljohhabldaaDoor
open Go.RowKit Go.FourQ

section
variable {w : World} {b1 b2 o1 o2 k1 : Nat} {L1 : List Zp} {a : Zp}

set_option maxRecDepth 100000 in
set_option maxHeartbeats 8000000 in
theorem zTwo (h1 : FpsZ w b1 L1) (h2 : At w b2 o2 a) (e1 : o1 = 16 * k1) (i1 : k1 < L1.length) :
    Calls Tryd.prog 108 #[.pointer (some ⟨b1, o1, none⟩), .pointer (some ⟨b2, o2, none⟩)] w fun e w' => e = .returned (.tuple #[]) ∧ UpdZ w w' b1 (L1.set k1 (a.pow 42535295865117307932921825928971026431)) := by
  have HC := Lib.hid h1; have HA := Lib.hid h2; have E1 := Lib.hid e1; have I1 := Lib.hid i1
  have HAB := Lib.hid h2.lt; have HB1 := Lib.hid h1.lt
  clear h1 h2 e1 i1
  go_enter Tryd.func108, Tryd.ntmps108
  go_wp2_with fail
  have H0 : Hid (Boxes w.heap.size w [0, 0, 0, 0, 0] (((((w.alloc (.cells #[.int .u8 0, .int .u8 0, .int .u8 0, .int .u8 0, .int .u8 0, .int .u8 0, .int .u8 0, .int .u8 0, .int .u8 0, .int .u8 0, .int .u8 0, .int .u8 0, .int .u8 0, .int .u8 0, .int .u8 0, .int .u8 0] 73)).alloc (.cells #[.int .u8 0, .int .u8 0, .int .u8 0, .int .u8 0, .int .u8 0, .int .u8 0, .int .u8 0, .int .u8 0, .int .u8 0, .int .u8 0, .int .u8 0, .int .u8 0, .int .u8 0, .int .u8 0, .int .u8 0, .int .u8 0] 73)).alloc (.cells #[.int .u8 0, .int .u8 0, .int .u8 0, .int .u8 0, .int .u8 0, .int .u8 0, .int .u8 0, .int .u8 0, .int .u8 0, .int .u8 0, .int .u8 0, .int .u8 0, .int .u8 0, .int .u8 0, .int .u8 0, .int .u8 0] 73)).alloc (.cells #[.int .u8 0, .int .u8 0, .int .u8 0, .int .u8 0, .int .u8 0, .int .u8 0, .int .u8 0, .int .u8 0, .int .u8 0, .int .u8 0, .int .u8 0, .int .u8 0, .int .u8 0, .int .u8 0, .int .u8 0, .int .u8 0] 73)).alloc (.cells #[.int .u8 0, .int .u8 0, .int .u8 0, .int .u8 0, .int .u8 0, .int .u8 0, .int .u8 0, .int .u8 0, .int .u8 0, .int .u8 0, .int .u8 0, .int .u8 0, .int .u8 0, .int .u8 0, .int .u8 0, .int .u8 0] 73))) :=
    Lib.hid ((((((Boxes.start w).new rfl zero_fps.symm low_zero zp_zero).new (by simp) zero_fps.symm low_zero zp_zero).new (by simp) zero_fps.symm low_zero zp_zero).new (by simp) zero_fps.symm low_zero zp_zero).new (by simp) zero_fps.symm low_zero zp_zero)
  go_wp2_with fail
  refine (locSqr H0.out (i := 1) rfl rfl (HA.out.below H0.out.nb HAB.out) (z := a.pow 2) (pw_two a)).mono ?_
  rintro e w1 ⟨rfl, hL⟩
  have H1 : Hid (Boxes w.heap.size w [0, a.pow 2, 0, 0, 0] w1) := Lib.hid hL
  clear hL H0
  go_wp2_with fail
  refine (locMul H1.out (i := 1) rfl rfl (H1.out.at 1 rfl rfl) (HA.out.below H1.out.nb HAB.out) (z := a.pow 3) (pwR a (by decide))).mono ?_
  rintro e w2 ⟨rfl, hL⟩
  have H2 : Hid (Boxes w.heap.size w [0, a.pow 3, 0, 0, 0] w2) := Lib.hid hL
  clear hL H1
  go_wp2_with fail
  refine (locSqr H2.out (i := 2) rfl rfl (H2.out.at 1 rfl rfl) (z := a.pow 6) (pw_mul a (by decide))).mono ?_
  rintro e w3 ⟨rfl, hL⟩
  have H3 : Hid (Boxes w.heap.size w [0, a.pow 3, a.pow 6, 0, 0] w3) := Lib.hid hL
  clear hL H2
  go_wp2_with fail
  refine (locSqr H3.out (i := 2) rfl rfl (H3.out.at 2 rfl rfl) (z := a.pow 12) (pw_mul a (by decide))).mono ?_
  rintro e w4 ⟨rfl, hL⟩
  have H4 : Hid (Boxes w.heap.size w [0, a.pow 3, a.pow 12, 0, 0] w4) := Lib.hid hL
  clear hL H3
  go_wp2_with fail
  refine (locMul H4.out (i := 2) rfl rfl (H4.out.at 2 rfl rfl) (H4.out.at 1 rfl rfl) (z := a.pow 15) (pw_mul a (by decide))).mono ?_
  rintro e w5 ⟨rfl, hL⟩
  have H5 : Hid (Boxes w.heap.size w [0, a.pow 3, a.pow 15, 0, 0] w5) := Lib.hid hL
  clear hL H4
  go_wp2_with fail
  refine (locSqr H5.out (i := 3) rfl rfl (H5.out.at 2 rfl rfl) (z := a.pow 30) (pw_mul a (by decide))).mono ?_
  rintro e w6 ⟨rfl, hL⟩
  have H6 : Hid (Boxes w.heap.size w [0, a.pow 3, a.pow 15, a.pow 30, 0] w6) := Lib.hid hL
  clear hL H5
  go_wp2_with fail
  refine (locSqr H6.out (i := 3) rfl rfl (H6.out.at 3 rfl rfl) (z := a.pow 60) (pw_mul a (by decide))).mono ?_
  rintro e w7 ⟨rfl, hL⟩
  have H7 : Hid (Boxes w.heap.size w [0, a.pow 3, a.pow 15, a.pow 60, 0] w7) := Lib.hid hL
  clear hL H6
  go_wp2_with fail
  refine (locSqr H7.out (i := 3) rfl rfl (H7.out.at 3 rfl rfl) (z := a.pow 120) (pw_mul a (by decide))).mono ?_
  rintro e w8 ⟨rfl, hL⟩
  have H8 : Hid (Boxes w.heap.size w [0, a.pow 3, a.pow 15, a.pow 120, 0] w8) := Lib.hid hL
  clear hL H7
  go_wp2_with fail
  refine (locSqr H8.out (i := 3) rfl rfl (H8.out.at 3 rfl rfl) (z := a.pow 240) (pw_mul a (by decide))).mono ?_
  rintro e w9 ⟨rfl, hL⟩
  have H9 : Hid (Boxes w.heap.size w [0, a.pow 3, a.pow 15, a.pow 240, 0] w9) := Lib.hid hL
  clear hL H8
  go_wp2_with fail
  refine (locMul H9.out (i := 3) rfl rfl (H9.out.at 3 rfl rfl) (H9.out.at 2 rfl rfl) (z := a.pow 255) (pw_mul a (by decide))).mono ?_
  rintro e w10 ⟨rfl, hL⟩
  have H10 : Hid (Boxes w.heap.size w [0, a.pow 3, a.pow 15, a.pow 255, 0] w10) := Lib.hid hL
  clear hL H9
  go_wp2_with fail
  refine (locSqr H10.out (i := 4) rfl rfl (H10.out.at 3 rfl rfl) (z := a.pow 510) (pw_mul a (by decide))).mono ?_
  rintro e w11 ⟨rfl, hL⟩
  have H11 : Hid (Boxes w.heap.size w [0, a.pow 3, a.pow 15, a.pow 255, a.pow 510] w11) := Lib.hid hL
  clear hL H10
  go_wp2_with fail
  go_loopw [9] (fun i wr => ∃ k : Nat, k ≤ 7 ∧ i = .int .i64 k ∧ Hid (Boxes w.heap.size w [0, a.pow 3, a.pow 15, a.pow 255, a.pow (510 * 2 ^ k)] wr)) (fun i _ => 7 - (intOf i).toNat)
  case atStart => exact ⟨0, Nat.zero_le _, rfl, Lib.hid H11.out⟩
  case round =>
    obtain ⟨k, hk, rfl, hb⟩ := hrel
    clear H11
    by_cases hlt : k < 7
    · go_wp2_with fail
      refine (locSqr hb.out (i := 4) rfl rfl (hb.out.at 4 rfl rfl) (pw_step a 510 k)).mono ?_
      rintro e w' ⟨rfl, hL⟩
      have HL := Lib.hid hL
      clear hL
      go_wp2_with fail
      exact ⟨⟨k + 1, by omega, by go_num, Lib.hid HL.out⟩, by simp [intOf]; omega⟩
    · have hkn : k = 7 := by omega
      have H12 : Hid (Boxes w.heap.size w [0, a.pow 3, a.pow 15, a.pow 255, a.pow 65280] wr) := Lib.hid (by have := hb.out; rw [hkn] at this; exact this)
      clear hb hkn
      go_wp2_with fail
      refine (locMul H12.out (i := 4) rfl rfl (H12.out.at 4 rfl rfl) (H12.out.at 3 rfl rfl) (z := a.pow 65535) (pw_mul a (by decide))).mono ?_
      rintro e w13 ⟨rfl, hL⟩
      have H13 : Hid (Boxes w.heap.size w [0, a.pow 3, a.pow 15, a.pow 255, a.pow 65535] w13) := Lib.hid hL
      clear hL H12
      go_wp2_with fail
      refine (locSqr H13.out (i := 1) rfl rfl (H13.out.at 4 rfl rfl) (z := a.pow 131070) (pw_mul a (by decide))).mono ?_
      rintro e w14 ⟨rfl, hL⟩
      have H14 : Hid (Boxes w.heap.size w [0, a.pow 131070, a.pow 15, a.pow 255, a.pow 65535] w14) := Lib.hid hL
      clear hL H13
      go_wp2_with fail
      go_loopw [10] (fun i wr => ∃ k : Nat, k ≤ 15 ∧ i = .int .i64 k ∧ Hid (Boxes w.heap.size w [0, a.pow (131070 * 2 ^ k), a.pow 15, a.pow 255, a.pow 65535] wr)) (fun i _ => 15 - (intOf i).toNat)
      case atStart => exact ⟨0, Nat.zero_le _, rfl, Lib.hid H14.out⟩
      case round =>
        obtain ⟨k, hk, rfl, hb⟩ := hrel
        clear H14
        by_cases hlt : k < 15
        · go_wp2_with fail
          refine (locSqr hb.out (i := 1) rfl rfl (hb.out.at 1 rfl rfl) (pw_step a 131070 k)).mono ?_
          rintro e w' ⟨rfl, hL⟩
          have HL := Lib.hid hL
          clear hL
          go_wp2_with fail
          exact ⟨⟨k + 1, by omega, by go_num, Lib.hid HL.out⟩, by simp [intOf]; omega⟩
        · have hkn : k = 15 := by omega
          have H15 : Hid (Boxes w.heap.size w [0, a.pow 4294901760, a.pow 15, a.pow 255, a.pow 65535] wr) := Lib.hid (by have := hb.out; rw [hkn] at this; exact this)
          clear hb hkn
          go_wp2_with fail
          refine (locMul H15.out (i := 1) rfl rfl (H15.out.at 1 rfl rfl) (H15.out.at 4 rfl rfl) (z := a.pow 4294967295) (pw_mul a (by decide))).mono ?_
          rintro e w16 ⟨rfl, hL⟩
          have H16 : Hid (Boxes w.heap.size w [0, a.pow 4294967295, a.pow 15, a.pow 255, a.pow 65535] w16) := Lib.hid hL
          clear hL H15
          go_wp2_with fail
          refine (locSqr H16.out (i := 0) rfl rfl (H16.out.at 1 rfl rfl) (z := a.pow 8589934590) (pw_mul a (by decide))).mono ?_
          rintro e w17 ⟨rfl, hL⟩
          have H17 : Hid (Boxes w.heap.size w [a.pow 8589934590, a.pow 4294967295, a.pow 15, a.pow 255, a.pow 65535] w17) := Lib.hid hL
          clear hL H16
          go_wp2_with fail
          go_loopw [11] (fun i wr => ∃ k : Nat, k ≤ 31 ∧ i = .int .i64 k ∧ Hid (Boxes w.heap.size w [a.pow (8589934590 * 2 ^ k), a.pow 4294967295, a.pow 15, a.pow 255, a.pow 65535] wr)) (fun i _ => 31 - (intOf i).toNat)
          case atStart => exact ⟨0, Nat.zero_le _, rfl, Lib.hid H17.out⟩
          case round =>
            obtain ⟨k, hk, rfl, hb⟩ := hrel
            clear H17
            by_cases hlt : k < 31
            · go_wp2_with fail
              refine (locSqr hb.out (i := 0) rfl rfl (hb.out.at 0 rfl rfl) (pw_step a 8589934590 k)).mono ?_
              rintro e w' ⟨rfl, hL⟩
              have HL := Lib.hid hL
              clear hL
              go_wp2_with fail
              exact ⟨⟨k + 1, by omega, by go_num, Lib.hid HL.out⟩, by simp [intOf]; omega⟩
            · have hkn : k = 31 := by omega
              have H18 : Hid (Boxes w.heap.size w [a.pow 18446744069414584320, a.pow 4294967295, a.pow 15, a.pow 255, a.pow 65535] wr) := Lib.hid (by have := hb.out; rw [hkn] at this; exact this)
              clear hb hkn
              go_wp2_with fail
              refine (locMul H18.out (i := 0) rfl rfl (H18.out.at 0 rfl rfl) (H18.out.at 1 rfl rfl) (z := a.pow 18446744073709551615) (pw_mul a (by decide))).mono ?_
              rintro e w19 ⟨rfl, hL⟩
              have H19 : Hid (Boxes w.heap.size w [a.pow 18446744073709551615, a.pow 4294967295, a.pow 15, a.pow 255, a.pow 65535] w19) := Lib.hid hL
              clear hL H18
              go_wp2_with fail
              go_loopw [12] (fun i wr => ∃ k : Nat, k ≤ 32 ∧ i = .int .i64 k ∧ Hid (Boxes w.heap.size w [a.pow (18446744073709551615 * 2 ^ k), a.pow 4294967295, a.pow 15, a.pow 255, a.pow 65535] wr)) (fun i _ => 32 - (intOf i).toNat)
              case atStart => exact ⟨0, Nat.zero_le _, rfl, Lib.hid H19.out⟩
              case round =>
                obtain ⟨k, hk, rfl, hb⟩ := hrel
                clear H19
                by_cases hlt : k < 32
                · go_wp2_with fail
                  refine (locSqr hb.out (i := 0) rfl rfl (hb.out.at 0 rfl rfl) (pw_step a 18446744073709551615 k)).mono ?_
                  rintro e w' ⟨rfl, hL⟩
                  have HL := Lib.hid hL
                  clear hL
                  go_wp2_with fail
                  exact ⟨⟨k + 1, by omega, by go_num, Lib.hid HL.out⟩, by simp [intOf]; omega⟩
                · have hkn : k = 32 := by omega
                  have H20 : Hid (Boxes w.heap.size w [a.pow 79228162514264337589248983040, a.pow 4294967295, a.pow 15, a.pow 255, a.pow 65535] wr) := Lib.hid (by have := hb.out; rw [hkn] at this; exact this)
                  clear hb hkn
                  go_wp2_with fail
                  refine (locMul H20.out (i := 0) rfl rfl (H20.out.at 1 rfl rfl) (H20.out.at 0 rfl rfl) (z := a.pow 79228162514264337593543950335) (pw_mul a (by decide))).mono ?_
                  rintro e w21 ⟨rfl, hL⟩
                  have H21 : Hid (Boxes w.heap.size w [a.pow 79228162514264337593543950335, a.pow 4294967295, a.pow 15, a.pow 255, a.pow 65535] w21) := Lib.hid hL
                  clear hL H20
                  go_wp2_with fail
                  go_loopw [13] (fun i wr => ∃ k : Nat, k ≤ 16 ∧ i = .int .i64 k ∧ Hid (Boxes w.heap.size w [a.pow (79228162514264337593543950335 * 2 ^ k), a.pow 4294967295, a.pow 15, a.pow 255, a.pow 65535] wr)) (fun i _ => 16 - (intOf i).toNat)
                  case atStart => exact ⟨0, Nat.zero_le _, rfl, Lib.hid H21.out⟩
                  case round =>
                    obtain ⟨k, hk, rfl, hb⟩ := hrel
                    clear H21
                    by_cases hlt : k < 16
                    · go_wp2_with fail
                      refine (locSqr hb.out (i := 0) rfl rfl (hb.out.at 0 rfl rfl) (pw_step a 79228162514264337593543950335 k)).mono ?_
                      rintro e w' ⟨rfl, hL⟩
                      have HL := Lib.hid hL
                      clear hL
                      go_wp2_with fail
                      exact ⟨⟨k + 1, by omega, by go_num, Lib.hid HL.out⟩, by simp [intOf]; omega⟩
                    · have hkn : k = 16 := by omega
                      have H22 : Hid (Boxes w.heap.size w [a.pow 5192296858534827628530496329154560, a.pow 4294967295, a.pow 15, a.pow 255, a.pow 65535] wr) := Lib.hid (by have := hb.out; rw [hkn] at this; exact this)
                      clear hb hkn
                      go_wp2_with fail
                      refine (locMul H22.out (i := 0) rfl rfl (H22.out.at 0 rfl rfl) (H22.out.at 4 rfl rfl) (z := a.pow 5192296858534827628530496329220095) (pw_mul a (by decide))).mono ?_
                      rintro e w23 ⟨rfl, hL⟩
                      have H23 : Hid (Boxes w.heap.size w [a.pow 5192296858534827628530496329220095, a.pow 4294967295, a.pow 15, a.pow 255, a.pow 65535] w23) := Lib.hid hL
                      clear hL H22
                      go_wp2_with fail
                      go_loopw [14] (fun i wr => ∃ k : Nat, k ≤ 8 ∧ i = .int .i64 k ∧ Hid (Boxes w.heap.size w [a.pow (5192296858534827628530496329220095 * 2 ^ k), a.pow 4294967295, a.pow 15, a.pow 255, a.pow 65535] wr)) (fun i _ => 8 - (intOf i).toNat)
                      case atStart => exact ⟨0, Nat.zero_le _, rfl, Lib.hid H23.out⟩
                      case round =>
                        obtain ⟨k, hk, rfl, hb⟩ := hrel
                        clear H23
                        by_cases hlt : k < 8
                        · go_wp2_with fail
                          refine (locSqr hb.out (i := 0) rfl rfl (hb.out.at 0 rfl rfl) (pw_step a 5192296858534827628530496329220095 k)).mono ?_
                          rintro e w' ⟨rfl, hL⟩
                          have HL := Lib.hid hL
                          clear hL
                          go_wp2_with fail
                          exact ⟨⟨k + 1, by omega, by go_num, Lib.hid HL.out⟩, by simp [intOf]; omega⟩
                        · have hkn : k = 8 := by omega
                          have H24 : Hid (Boxes w.heap.size w [a.pow 1329227995784915872903807060280344320, a.pow 4294967295, a.pow 15, a.pow 255, a.pow 65535] wr) := Lib.hid (by have := hb.out; rw [hkn] at this; exact this)
                          clear hb hkn
                          go_wp2_with fail
                          refine (locMul H24.out (i := 0) rfl rfl (H24.out.at 0 rfl rfl) (H24.out.at 3 rfl rfl) (z := a.pow 1329227995784915872903807060280344575) (pw_mul a (by decide))).mono ?_
                          rintro e w25 ⟨rfl, hL⟩
                          have H25 : Hid (Boxes w.heap.size w [a.pow 1329227995784915872903807060280344575, a.pow 4294967295, a.pow 15, a.pow 255, a.pow 65535] w25) := Lib.hid hL
                          clear hL H24
                          go_wp2_with fail
                          go_loopw [15] (fun i wr => ∃ k : Nat, k ≤ 4 ∧ i = .int .i64 k ∧ Hid (Boxes w.heap.size w [a.pow (1329227995784915872903807060280344575 * 2 ^ k), a.pow 4294967295, a.pow 15, a.pow 255, a.pow 65535] wr)) (fun i _ => 4 - (intOf i).toNat)
                          case atStart => exact ⟨0, Nat.zero_le _, rfl, Lib.hid H25.out⟩
                          case round =>
                            obtain ⟨k, hk, rfl, hb⟩ := hrel
                            clear H25
                            by_cases hlt : k < 4
                            · go_wp2_with fail
                              refine (locSqr hb.out (i := 0) rfl rfl (hb.out.at 0 rfl rfl) (pw_step a 1329227995784915872903807060280344575 k)).mono ?_
                              rintro e w' ⟨rfl, hL⟩
                              have HL := Lib.hid hL
                              clear hL
                              go_wp2_with fail
                              exact ⟨⟨k + 1, by omega, by go_num, Lib.hid HL.out⟩, by simp [intOf]; omega⟩
                            · have hkn : k = 4 := by omega
                              have H26 : Hid (Boxes w.heap.size w [a.pow 21267647932558653966460912964485513200, a.pow 4294967295, a.pow 15, a.pow 255, a.pow 65535] wr) := Lib.hid (by have := hb.out; rw [hkn] at this; exact this)
                              clear hb hkn
                              go_wp2_with fail
                              refine (locMul H26.out (i := 0) rfl rfl (H26.out.at 0 rfl rfl) (H26.out.at 2 rfl rfl) (z := a.pow 21267647932558653966460912964485513215) (pw_mul a (by decide))).mono ?_
                              rintro e w27 ⟨rfl, hL⟩
                              have H27 : Hid (Boxes w.heap.size w [a.pow 21267647932558653966460912964485513215, a.pow 4294967295, a.pow 15, a.pow 255, a.pow 65535] w27) := Lib.hid hL
                              clear hL H26
                              go_wp2_with fail
                              refine (locSqr H27.out (i := 0) rfl rfl (H27.out.at 0 rfl rfl) (z := a.pow 42535295865117307932921825928971026430) (pw_mul a (by decide))).mono ?_
                              rintro e w28 ⟨rfl, hL⟩
                              have H28 : Hid (Boxes w.heap.size w [a.pow 42535295865117307932921825928971026430, a.pow 4294967295, a.pow 15, a.pow 255, a.pow 65535] w28) := Lib.hid hL
                              clear hL H27
                              go_wp2_with fail
                              refine (atMul (HC.out.of_heap (H28.out.nb.block _ HB1.out)) (HA.out.below H28.out.nb HAB.out) (H28.out.at 0 rfl rfl) E1.out I1.out (z := a.pow 42535295865117307932921825928971026431) (pwL a (by decide))).mono ?_
                              rintro e w' ⟨rfl, hu⟩
                              have HU := Lib.hid (UpdZ.ahead H28.out.nb hu)
                              clear hu H28
                              go_wp2_with fail
                              go_end0
                              exact ⟨rfl, HU.out⟩

theorem pp_two : pp - 2 = 170141183460469231731687303715884105725 := by decide +kernel

set_option maxRecDepth 100000 in
set_option maxHeartbeats 1000000 in
theorem zInv (h1 : FpsZ w b1 L1) (h2 : At w b2 o2 a) (e1 : o1 = 16 * k1) (i1 : k1 < L1.length) :
    Calls Tryd.prog 143 #[.pointer (some ⟨b1, o1, none⟩), .pointer (some ⟨b2, o2, none⟩)] w fun e w' => e = .returned (.tuple #[]) ∧ UpdZ w w' b1 (L1.set k1 a.inv) := by
  have HC := Lib.hid h1; have HA := Lib.hid h2; have E1 := Lib.hid e1; have I1 := Lib.hid i1
  have HAB := Lib.hid h2.lt; have HB1 := Lib.hid h1.lt
  clear h1 h2 e1 i1
  go_enter Tryd.func143, Tryd.ntmps143
  go_wp2_with fail
  have H0 : Hid (Boxes w.heap.size w [0] (w.alloc (.cells #[.int .u8 0, .int .u8 0, .int .u8 0, .int .u8 0, .int .u8 0, .int .u8 0, .int .u8 0, .int .u8 0, .int .u8 0, .int .u8 0, .int .u8 0, .int .u8 0, .int .u8 0, .int .u8 0, .int .u8 0, .int .u8 0] 73))) := Lib.hid ((Boxes.start w).new rfl zero_fps.symm low_zero zp_zero)
  refine (zTwo (H0.out.blk 0 0 rfl) (HA.out.below H0.out.nb HAB.out) (k1 := 0) rfl (by simp)).mono ?_
  rintro e w1 ⟨rfl, hu⟩
  have H1 : Hid (Boxes w.heap.size w [a.pow 42535295865117307932921825928971026431] w1) := Lib.hid (H0.out.upd hu)
  clear hu H0
  go_wp2_with fail
  refine (locSqr H1.out (i := 0) rfl rfl (H1.out.at 0 rfl rfl) (z := a.pow 85070591730234615865843651857942052862) (pw_mul a (by decide))).mono ?_
  rintro e w2 ⟨rfl, hL⟩
  have H2 : Hid (Boxes w.heap.size w [a.pow 85070591730234615865843651857942052862] w2) := Lib.hid hL
  clear hL H1
  go_wp2_with fail
  refine (locSqr H2.out (i := 0) rfl rfl (H2.out.at 0 rfl rfl) (z := a.pow 170141183460469231731687303715884105724) (pw_mul a (by decide))).mono ?_
  rintro e w3 ⟨rfl, hL⟩
  have H3 : Hid (Boxes w.heap.size w [a.pow 170141183460469231731687303715884105724] w3) := Lib.hid hL
  clear hL H2
  go_wp2_with fail
  refine (atMul (HC.out.of_heap (H3.out.nb.block _ HB1.out)) (H3.out.at 0 rfl rfl) (HA.out.below H3.out.nb HAB.out) E1.out I1.out (z := a.inv) ((pwR a (k := 170141183460469231731687303715884105725) (by decide)).trans (by unfold Zp.inv; rw [pp_two]))).mono ?_
  rintro e w' ⟨rfl, hu⟩
  have HU := Lib.hid (UpdZ.ahead H3.out.nb hu)
  clear hu H3
  go_wp2_with fail
  go_end0
  exact ⟨rfl, HU.out⟩

end
end Go.Proofs.YtfkfljohhabldaaDoor
