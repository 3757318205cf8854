/- FnFpRing: whatever three elements of 16 bytes: true. -/
import Derived.Test.YtpogbljoohdehaaDoorLawKit
namespace Go.FourQ
theorem ring_assoc (x y z : Nat) : ((x + y) % pp + z) % pp = (x + (y + z) % pp) % pp := by rw [Nat.mod_add_mod, Nat.add_mod_mod, Nat.add_assoc]
theorem ring_massoc (x y z : Nat) : ((x * y) % pp * z) % pp = (x * ((y * z) % pp)) % pp := by rw [Nat.mod_mul_mod, Nat.mul_mod_mod, Nat.mul_assoc]
theorem ring_dist (x y z : Nat) : (x * ((y + z) % pp)) % pp = (x * y % pp + x * z % pp) % pp := by rw [Nat.mul_mod_mod, ← Nat.add_mod, Nat.mul_add]
end Go.FourQ
namespace Go.Proofs.YtpogbljoohdehaaDoor
open Go.RowKit Go.FourQ


theorem ring_plan : planOk .any (opsAt Tryd.f5 1) (Array.replicate (opsAt Tryd.f5 1).size false) ((true, 0) :: (true, 1) :: (true, 2) :: (false, 3) :: (false, 4) :: (true, 5) :: (true, 6) :: (true, 7) :: (true, 8) :: (true, 10) :: (true, 11) :: (false, 9) :: (false, 12) :: (true, 13) :: (true, 14) :: (true, 15) :: (true, 16) :: (true, 18) :: (true, 19) :: (false, 17) :: (false, 20) :: (true, 21) :: (true, 22) :: (true, 23) :: (true, 24) :: (true, 25) :: (true, 27) :: (true, 29) :: (true, 30) :: (true, 31) :: (false, 26) :: (false, 28) :: (false, 32) :: (false, 33) :: (true, 34) :: (true, 35) :: (true, 36) :: (true, 37) :: (true, 38) :: (true, 40) :: (true, 42) :: (true, 43) :: (true, 44) :: (false, 39) :: (false, 41) :: (false, 45) :: (false, 46) :: (true, 47) :: (true, 48) :: (true, 49) :: (true, 50) :: (true, 51) :: (true, 52) :: (true, 55) :: (true, 56) :: (true, 58) :: (true, 59) :: (false, 53) :: (false, 54) :: (false, 57) :: (false, 60) :: (false, 61) :: (true, 62) :: (true, 63) :: (true, 64) :: (true, 68) :: (false, 65) :: (false, 66) :: (false, 67) :: (true, 69) :: (true, 70) :: (true, 71) :: (true, 72) :: []) = true := by kernel_rfl

set_option maxRecDepth 100000 in
set_option maxHeartbeats 2000000 in
theorem ring_low {w : World} {a b c : Nat} (hm : ModW w) (ha : a < 256 ^ 16) (hb : b < 256 ^ 16) (hc : c < 256 ^ 16) (hlow : LowB a ∧ LowB b ∧ LowB c) :
    Calls Tryd.prog 5 #[.agg (fpC a), .agg (fpC b), .agg (fpC c)] w fun e w' => e = .returned (.bool true) ∧ Below w.heap.size w w' := by
  have HM := Lib.hid hm; have HA := Lib.hid ha; have HB := Lib.hid hb; have HC := Lib.hid hc; have HL := Lib.hid hlow
  clear hm ha hb hc hlow
  go_enter Tryd.func5, Tryd.ntmps5
  go_wp2_with fail
  have hB0 : Below w.heap.size w (((w.alloc (.cells (fpC a) 22)).alloc (.cells (fpC b) 22)).alloc (.cells (fpC c) 22)) := nb_alloc (nb_alloc (nb_alloc (Below.refl _ _) _) _) _
  have hm0 := HM.out.nb hB0
  have F0 : Fps (((w.alloc (.cells (fpC a) 22)).alloc (.cells (fpC b) 22)).alloc (.cells (fpC c) 22)) w.heap.size [a] := ⟨_, by rw [fps_one]; exact hp3_0 _ _ _⟩
  have F1 : Fps (((w.alloc (.cells (fpC a) 22)).alloc (.cells (fpC b) 22)).alloc (.cells (fpC c) 22)) (w.heap.size + 1) [b] := ⟨_, by rw [fps_one]; exact hp3_1 _ _ _⟩
  have F2 : Fps (((w.alloc (.cells (fpC a) 22)).alloc (.cells (fpC b) 22)).alloc (.cells (fpC c) 22)) (w.heap.size + 1 + 1) [c] := ⟨_, by rw [fps_one]; exact hp3_2 _ _ _⟩
  obtain ⟨W, hW⟩ : ∃ x, x = (((w.alloc (.cells (fpC a) 22)).alloc (.cells (fpC b) 22)).alloc (.cells (fpC c) 22)) := ⟨_, rfl⟩
  rw [← hW] at hB0 hm0 F0 F1 F2 ⊢
  clear hW
  have la : LowB a := HL.out.1
  have lb : LowB b := HL.out.2.1
  have lc : LowB c := HL.out.2.2
  have hlow : lowAll [a, b, c] = true := lowAll_of (all3 la lb lc)
  obtain ⟨ab, eab⟩ : ∃ x, (a + b) % pp = x := ⟨_, rfl⟩
  obtain ⟨mab, emab⟩ : ∃ x, a * b % pp = x := ⟨_, rfl⟩
  obtain ⟨bc, ebc⟩ : ∃ x, (b + c) % pp = x := ⟨_, rfl⟩
  obtain ⟨mbc, embc⟩ : ∃ x, b * c % pp = x := ⟨_, rfl⟩
  obtain ⟨mac, emac⟩ : ∃ x, a * c % pp = x := ⟨_, rfl⟩
  have eba : (b + a) % pp = ab := by rw [Nat.add_comm]; exact eab
  have emba : b * a % pp = mab := by rw [Nat.mul_comm]; exact emab
  have lab : LowB ab := eab ▸ low_mod' _
  have lmab : LowB mab := emab ▸ low_mod' _
  have lbc : LowB bc := ebc ▸ low_mod' _
  have lmbc : LowB mbc := embc ▸ low_mod' _
  have lmac : LowB mac := emac ▸ low_mod' _
  obtain ⟨s3, es3⟩ : ∃ x, (ab + c) % pp = x := ⟨_, rfl⟩
  have es3' : (a + bc) % pp = s3 := by rw [← es3, ← eab, ← ebc]; exact (ring_assoc a b c).symm
  have ls3 : LowB s3 := es3 ▸ low_mod' _
  obtain ⟨m3, em3⟩ : ∃ x, mab * c % pp = x := ⟨_, rfl⟩
  have em3' : a * mbc % pp = m3 := by rw [← em3, ← emab, ← embc]; exact (ring_massoc a b c).symm
  have lm3 : LowB m3 := em3 ▸ low_mod' _
  obtain ⟨d3, ed3⟩ : ∃ x, a * bc % pp = x := ⟨_, rfl⟩
  have ed3' : (mab + mac) % pp = d3 := by rw [← ed3, ← ebc, ← emab, ← emac]; exact (ring_dist a b c).symm
  have ld3 : LowB d3 := ed3 ▸ low_mod' _
  have e2 : (1 + 1) % pp = 2 := by kernel_rfl
  have l2 : LowB 2 := by show 2 < 2 ^ 127; decide +kernel
  refine wp_region_at (opsAt Tryd.f5 1) ((true, 0) :: (true, 1) :: (true, 2) :: (false, 3) :: (false, 4) :: (true, 5) :: (true, 6) :: (true, 7) :: (true, 8) :: (true, 10) :: (true, 11) :: (false, 9) :: (false, 12) :: (true, 13) :: (true, 14) :: (true, 15) :: (true, 16) :: (true, 18) :: (true, 19) :: (false, 17) :: (false, 20) :: (true, 21) :: (true, 22) :: (true, 23) :: (true, 24) :: (true, 25) :: (true, 27) :: (true, 29) :: (true, 30) :: (true, 31) :: (false, 26) :: (false, 28) :: (false, 32) :: (false, 33) :: (true, 34) :: (true, 35) :: (true, 36) :: (true, 37) :: (true, 38) :: (true, 40) :: (true, 42) :: (true, 43) :: (true, 44) :: (false, 39) :: (false, 41) :: (false, 45) :: (false, 46) :: (true, 47) :: (true, 48) :: (true, 49) :: (true, 50) :: (true, 51) :: (true, 52) :: (true, 55) :: (true, 56) :: (true, 58) :: (true, 59) :: (false, 53) :: (false, 54) :: (false, 57) :: (false, 60) :: (false, 61) :: (true, 62) :: (true, 63) :: (true, 64) :: (true, 68) :: (false, 65) :: (false, 66) :: (false, 67) :: (true, 69) :: (true, 70) :: (true, 71) :: (true, 72) :: []) (by kernel_rfl) rfl (by kernel_rfl) (fun _ _ d _ _ h => by cases d <;> exact h) (by kernel_rfl) ring_plan ?_
  have hS0 : Below W.heap.size W W.drew := (Below.refl _ _).drew
  refine k_load (by kernel_rfl) (d := (some 7)) (by kernel_rfl) (ty := 22) (x := (.tmp 3)) (by kernel_rfl) (b := w.heap.size) (off := 0) (by kernel_rfl) (cs := (fpC a)) (fun w' hs => (F0.nb hs).cells1 (k := 0) (off := 0) rfl rfl) Tryd.underlying22 rfl (by kernel_rfl) ?_
  refine k_load (by kernel_rfl) (d := (some 8)) (by kernel_rfl) (ty := 22) (x := (.tmp 4)) (by kernel_rfl) (b := (w.heap.size + 1)) (off := 0) (by kernel_rfl) (cs := (fpC b)) (fun w' hs => (F1.nb hs).cells1 (k := 0) (off := 0) rfl rfl) Tryd.underlying22 rfl (by kernel_rfl) ?_
  refine k_load (by kernel_rfl) (d := (some 9)) (by kernel_rfl) (ty := 22) (x := (.tmp 5)) (by kernel_rfl) (b := (w.heap.size + 1 + 1)) (off := 0) (by kernel_rfl) (cs := (fpC c)) (fun w' hs => (F2.nb hs).cells1 (k := 0) (off := 0) rfl rfl) Tryd.underlying22 rfl (by kernel_rfl) ?_
  refine k_make (by kernel_rfl) (d := (some 10)) (by kernel_rfl) (v := .slice (some ⟨W.heap.size, 0, none⟩) 3 3) (w' := W.drew.alloc (.cells (fps [a, b, c]) 22)) (by kernel_rfl) (nb_alloc hS0 _) ?_
  intro w1 hw1 hM1
  refine k_call (by kernel_rfl) (d := (some 11)) (by kernel_rfl) (f := 17) (args := #[.slice (some ⟨W.heap.size, 0, none⟩) 3 3]) (v := .bool true) (fun _ => by kernel_rfl) (hlow ▸ low_c (hw1 ▸ Fps.new _ [a, b, c] _ _ _ rfl rfl) (all3 HA.out HB.out HC.out) (by show 3 < 1000; decide)) (fun w2 hb2 => ⟨nb_trans hM1 hb2, ?_⟩)
  have hS2 := nb_trans hM1 hb2
  refine k_pure (by kernel_rfl) (d := (some 12)) (by kernel_rfl) (v := .bool false) (fun _ => by kernel_rfl) ?_
  refine k_pure (by kernel_rfl) (d := (some 13)) (by kernel_rfl) (v := .bool false) (fun _ => by kernel_rfl) ?_
  refine k_load (by kernel_rfl) (d := (some 14)) (by kernel_rfl) (ty := 22) (x := (.tmp 3)) (by kernel_rfl) (b := w.heap.size) (off := 0) (by kernel_rfl) (cs := (fpC a)) (fun w' hs => (F0.nb hs).cells1 (k := 0) (off := 0) rfl rfl) Tryd.underlying22 rfl (by kernel_rfl) ?_
  refine k_load (by kernel_rfl) (d := (some 15)) (by kernel_rfl) (ty := 22) (x := (.tmp 4)) (by kernel_rfl) (b := (w.heap.size + 1)) (off := 0) (by kernel_rfl) (cs := (fpC b)) (fun w' hs => (F1.nb hs).cells1 (k := 0) (off := 0) rfl rfl) Tryd.underlying22 rfl (by kernel_rfl) ?_
  refine k_load (by kernel_rfl) (d := (some 17)) (by kernel_rfl) (ty := 22) (x := (.tmp 4)) (by kernel_rfl) (b := (w.heap.size + 1)) (off := 0) (by kernel_rfl) (cs := (fpC b)) (fun w' hs => (F1.nb hs).cells1 (k := 0) (off := 0) rfl rfl) Tryd.underlying22 rfl (by kernel_rfl) ?_
  refine k_load (by kernel_rfl) (d := (some 18)) (by kernel_rfl) (ty := 22) (x := (.tmp 3)) (by kernel_rfl) (b := w.heap.size) (off := 0) (by kernel_rfl) (cs := (fpC a)) (fun w' hs => (F0.nb hs).cells1 (k := 0) (off := 0) rfl rfl) Tryd.underlying22 rfl (by kernel_rfl) ?_
  refine k_call (by kernel_rfl) (d := (some 16)) (by kernel_rfl) (f := 20) (args := #[.agg (fpC a), .agg (fpC b)]) (v := .agg (fpC ab)) (fun _ => by kernel_rfl) (implAdd (hm0.nb hS2) la lb eab) (fun w3 hb3 => ⟨nb_trans hS2 hb3, ?_⟩)
  have hS3 := nb_trans hS2 hb3
  refine k_call (by kernel_rfl) (d := (some 19)) (by kernel_rfl) (f := 20) (args := #[.agg (fpC b), .agg (fpC a)]) (v := .agg (fpC ab)) (fun _ => by kernel_rfl) (implAdd (hm0.nb hS3) lb la eba) (fun w4 hb4 => ⟨nb_trans hS3 hb4, ?_⟩)
  have hS4 := nb_trans hS3 hb4
  refine k_eql (by kernel_rfl) (d := (some 20)) (by kernel_rfl) (ty := 22) (ty' := 22) (x := (.tmp 16)) (y := (.tmp 19)) (by kernel_rfl) (xs := (fpC ab)) (ys := (fpC ab)) (b := true) (by kernel_rfl) (by kernel_rfl) (by kernel_rfl) (fun w' => (eql_fpC Tryd.underlying22 (by kernel_rfl) Tryd.underlying5 (low16 lab) (low16 lab) w').trans (by rw [decide_eq_true rfl])) ?_
  refine k_pure (by kernel_rfl) (d := (some 21)) (by kernel_rfl) (v := .bool true) (fun _ => by kernel_rfl) ?_
  refine k_load (by kernel_rfl) (d := (some 22)) (by kernel_rfl) (ty := 22) (x := (.tmp 3)) (by kernel_rfl) (b := w.heap.size) (off := 0) (by kernel_rfl) (cs := (fpC a)) (fun w' hs => (F0.nb hs).cells1 (k := 0) (off := 0) rfl rfl) Tryd.underlying22 rfl (by kernel_rfl) ?_
  refine k_load (by kernel_rfl) (d := (some 23)) (by kernel_rfl) (ty := 22) (x := (.tmp 4)) (by kernel_rfl) (b := (w.heap.size + 1)) (off := 0) (by kernel_rfl) (cs := (fpC b)) (fun w' hs => (F1.nb hs).cells1 (k := 0) (off := 0) rfl rfl) Tryd.underlying22 rfl (by kernel_rfl) ?_
  refine k_load (by kernel_rfl) (d := (some 25)) (by kernel_rfl) (ty := 22) (x := (.tmp 4)) (by kernel_rfl) (b := (w.heap.size + 1)) (off := 0) (by kernel_rfl) (cs := (fpC b)) (fun w' hs => (F1.nb hs).cells1 (k := 0) (off := 0) rfl rfl) Tryd.underlying22 rfl (by kernel_rfl) ?_
  refine k_load (by kernel_rfl) (d := (some 26)) (by kernel_rfl) (ty := 22) (x := (.tmp 3)) (by kernel_rfl) (b := w.heap.size) (off := 0) (by kernel_rfl) (cs := (fpC a)) (fun w' hs => (F0.nb hs).cells1 (k := 0) (off := 0) rfl rfl) Tryd.underlying22 rfl (by kernel_rfl) ?_
  refine k_call (by kernel_rfl) (d := (some 24)) (by kernel_rfl) (f := 21) (args := #[.agg (fpC a), .agg (fpC b)]) (v := .agg (fpC mab)) (fun _ => by kernel_rfl) (implMul (hm0.nb hS4) la lb emab) (fun w5 hb5 => ⟨nb_trans hS4 hb5, ?_⟩)
  have hS5 := nb_trans hS4 hb5
  refine k_call (by kernel_rfl) (d := (some 27)) (by kernel_rfl) (f := 21) (args := #[.agg (fpC b), .agg (fpC a)]) (v := .agg (fpC mab)) (fun _ => by kernel_rfl) (implMul (hm0.nb hS5) lb la emba) (fun w6 hb6 => ⟨nb_trans hS5 hb6, ?_⟩)
  have hS6 := nb_trans hS5 hb6
  refine k_eql (by kernel_rfl) (d := (some 28)) (by kernel_rfl) (ty := 22) (ty' := 22) (x := (.tmp 24)) (y := (.tmp 27)) (by kernel_rfl) (xs := (fpC mab)) (ys := (fpC mab)) (b := true) (by kernel_rfl) (by kernel_rfl) (by kernel_rfl) (fun w' => (eql_fpC Tryd.underlying22 (by kernel_rfl) Tryd.underlying5 (low16 lmab) (low16 lmab) w').trans (by rw [decide_eq_true rfl])) ?_
  refine k_pure (by kernel_rfl) (d := (some 29)) (by kernel_rfl) (v := .bool true) (fun _ => by kernel_rfl) ?_
  refine k_pure (by kernel_rfl) (d := (some 30)) (by kernel_rfl) (v := .bool true) (fun _ => by kernel_rfl) ?_
  refine k_load (by kernel_rfl) (d := (some 31)) (by kernel_rfl) (ty := 22) (x := (.tmp 3)) (by kernel_rfl) (b := w.heap.size) (off := 0) (by kernel_rfl) (cs := (fpC a)) (fun w' hs => (F0.nb hs).cells1 (k := 0) (off := 0) rfl rfl) Tryd.underlying22 rfl (by kernel_rfl) ?_
  refine k_load (by kernel_rfl) (d := (some 32)) (by kernel_rfl) (ty := 22) (x := (.tmp 4)) (by kernel_rfl) (b := (w.heap.size + 1)) (off := 0) (by kernel_rfl) (cs := (fpC b)) (fun w' hs => (F1.nb hs).cells1 (k := 0) (off := 0) rfl rfl) Tryd.underlying22 rfl (by kernel_rfl) ?_
  refine k_load (by kernel_rfl) (d := (some 34)) (by kernel_rfl) (ty := 22) (x := (.tmp 5)) (by kernel_rfl) (b := (w.heap.size + 1 + 1)) (off := 0) (by kernel_rfl) (cs := (fpC c)) (fun w' hs => (F2.nb hs).cells1 (k := 0) (off := 0) rfl rfl) Tryd.underlying22 rfl (by kernel_rfl) ?_
  refine k_load (by kernel_rfl) (d := (some 36)) (by kernel_rfl) (ty := 22) (x := (.tmp 3)) (by kernel_rfl) (b := w.heap.size) (off := 0) (by kernel_rfl) (cs := (fpC a)) (fun w' hs => (F0.nb hs).cells1 (k := 0) (off := 0) rfl rfl) Tryd.underlying22 rfl (by kernel_rfl) ?_
  refine k_load (by kernel_rfl) (d := (some 37)) (by kernel_rfl) (ty := 22) (x := (.tmp 4)) (by kernel_rfl) (b := (w.heap.size + 1)) (off := 0) (by kernel_rfl) (cs := (fpC b)) (fun w' hs => (F1.nb hs).cells1 (k := 0) (off := 0) rfl rfl) Tryd.underlying22 rfl (by kernel_rfl) ?_
  refine k_load (by kernel_rfl) (d := (some 38)) (by kernel_rfl) (ty := 22) (x := (.tmp 5)) (by kernel_rfl) (b := (w.heap.size + 1 + 1)) (off := 0) (by kernel_rfl) (cs := (fpC c)) (fun w' hs => (F2.nb hs).cells1 (k := 0) (off := 0) rfl rfl) Tryd.underlying22 rfl (by kernel_rfl) ?_
  refine k_call (by kernel_rfl) (d := (some 33)) (by kernel_rfl) (f := 20) (args := #[.agg (fpC a), .agg (fpC b)]) (v := .agg (fpC ab)) (fun _ => by kernel_rfl) (implAdd (hm0.nb hS6) la lb eab) (fun w7 hb7 => ⟨nb_trans hS6 hb7, ?_⟩)
  have hS7 := nb_trans hS6 hb7
  refine k_call (by kernel_rfl) (d := (some 35)) (by kernel_rfl) (f := 20) (args := #[.agg (fpC ab), .agg (fpC c)]) (v := .agg (fpC s3)) (fun _ => by kernel_rfl) (implAdd (hm0.nb hS7) lab lc es3) (fun w8 hb8 => ⟨nb_trans hS7 hb8, ?_⟩)
  have hS8 := nb_trans hS7 hb8
  refine k_call (by kernel_rfl) (d := (some 39)) (by kernel_rfl) (f := 20) (args := #[.agg (fpC b), .agg (fpC c)]) (v := .agg (fpC bc)) (fun _ => by kernel_rfl) (implAdd (hm0.nb hS8) lb lc ebc) (fun w9 hb9 => ⟨nb_trans hS8 hb9, ?_⟩)
  have hS9 := nb_trans hS8 hb9
  refine k_call (by kernel_rfl) (d := (some 40)) (by kernel_rfl) (f := 20) (args := #[.agg (fpC a), .agg (fpC bc)]) (v := .agg (fpC s3)) (fun _ => by kernel_rfl) (implAdd (hm0.nb hS9) la lbc es3') (fun w10 hb10 => ⟨nb_trans hS9 hb10, ?_⟩)
  have hS10 := nb_trans hS9 hb10
  refine k_eql (by kernel_rfl) (d := (some 41)) (by kernel_rfl) (ty := 22) (ty' := 22) (x := (.tmp 35)) (y := (.tmp 40)) (by kernel_rfl) (xs := (fpC s3)) (ys := (fpC s3)) (b := true) (by kernel_rfl) (by kernel_rfl) (by kernel_rfl) (fun w' => (eql_fpC Tryd.underlying22 (by kernel_rfl) Tryd.underlying5 (low16 ls3) (low16 ls3) w').trans (by rw [decide_eq_true rfl])) ?_
  refine k_pure (by kernel_rfl) (d := (some 42)) (by kernel_rfl) (v := .bool true) (fun _ => by kernel_rfl) ?_
  refine k_pure (by kernel_rfl) (d := (some 43)) (by kernel_rfl) (v := .bool true) (fun _ => by kernel_rfl) ?_
  refine k_load (by kernel_rfl) (d := (some 44)) (by kernel_rfl) (ty := 22) (x := (.tmp 3)) (by kernel_rfl) (b := w.heap.size) (off := 0) (by kernel_rfl) (cs := (fpC a)) (fun w' hs => (F0.nb hs).cells1 (k := 0) (off := 0) rfl rfl) Tryd.underlying22 rfl (by kernel_rfl) ?_
  refine k_load (by kernel_rfl) (d := (some 45)) (by kernel_rfl) (ty := 22) (x := (.tmp 4)) (by kernel_rfl) (b := (w.heap.size + 1)) (off := 0) (by kernel_rfl) (cs := (fpC b)) (fun w' hs => (F1.nb hs).cells1 (k := 0) (off := 0) rfl rfl) Tryd.underlying22 rfl (by kernel_rfl) ?_
  refine k_load (by kernel_rfl) (d := (some 47)) (by kernel_rfl) (ty := 22) (x := (.tmp 5)) (by kernel_rfl) (b := (w.heap.size + 1 + 1)) (off := 0) (by kernel_rfl) (cs := (fpC c)) (fun w' hs => (F2.nb hs).cells1 (k := 0) (off := 0) rfl rfl) Tryd.underlying22 rfl (by kernel_rfl) ?_
  refine k_load (by kernel_rfl) (d := (some 49)) (by kernel_rfl) (ty := 22) (x := (.tmp 3)) (by kernel_rfl) (b := w.heap.size) (off := 0) (by kernel_rfl) (cs := (fpC a)) (fun w' hs => (F0.nb hs).cells1 (k := 0) (off := 0) rfl rfl) Tryd.underlying22 rfl (by kernel_rfl) ?_
  refine k_load (by kernel_rfl) (d := (some 50)) (by kernel_rfl) (ty := 22) (x := (.tmp 4)) (by kernel_rfl) (b := (w.heap.size + 1)) (off := 0) (by kernel_rfl) (cs := (fpC b)) (fun w' hs => (F1.nb hs).cells1 (k := 0) (off := 0) rfl rfl) Tryd.underlying22 rfl (by kernel_rfl) ?_
  refine k_load (by kernel_rfl) (d := (some 51)) (by kernel_rfl) (ty := 22) (x := (.tmp 5)) (by kernel_rfl) (b := (w.heap.size + 1 + 1)) (off := 0) (by kernel_rfl) (cs := (fpC c)) (fun w' hs => (F2.nb hs).cells1 (k := 0) (off := 0) rfl rfl) Tryd.underlying22 rfl (by kernel_rfl) ?_
  refine k_call (by kernel_rfl) (d := (some 46)) (by kernel_rfl) (f := 21) (args := #[.agg (fpC a), .agg (fpC b)]) (v := .agg (fpC mab)) (fun _ => by kernel_rfl) (implMul (hm0.nb hS10) la lb emab) (fun w11 hb11 => ⟨nb_trans hS10 hb11, ?_⟩)
  have hS11 := nb_trans hS10 hb11
  refine k_call (by kernel_rfl) (d := (some 48)) (by kernel_rfl) (f := 21) (args := #[.agg (fpC mab), .agg (fpC c)]) (v := .agg (fpC m3)) (fun _ => by kernel_rfl) (implMul (hm0.nb hS11) lmab lc em3) (fun w12 hb12 => ⟨nb_trans hS11 hb12, ?_⟩)
  have hS12 := nb_trans hS11 hb12
  refine k_call (by kernel_rfl) (d := (some 52)) (by kernel_rfl) (f := 21) (args := #[.agg (fpC b), .agg (fpC c)]) (v := .agg (fpC mbc)) (fun _ => by kernel_rfl) (implMul (hm0.nb hS12) lb lc embc) (fun w13 hb13 => ⟨nb_trans hS12 hb13, ?_⟩)
  have hS13 := nb_trans hS12 hb13
  refine k_call (by kernel_rfl) (d := (some 53)) (by kernel_rfl) (f := 21) (args := #[.agg (fpC a), .agg (fpC mbc)]) (v := .agg (fpC m3)) (fun _ => by kernel_rfl) (implMul (hm0.nb hS13) la lmbc em3') (fun w14 hb14 => ⟨nb_trans hS13 hb14, ?_⟩)
  have hS14 := nb_trans hS13 hb14
  refine k_eql (by kernel_rfl) (d := (some 54)) (by kernel_rfl) (ty := 22) (ty' := 22) (x := (.tmp 48)) (y := (.tmp 53)) (by kernel_rfl) (xs := (fpC m3)) (ys := (fpC m3)) (b := true) (by kernel_rfl) (by kernel_rfl) (by kernel_rfl) (fun w' => (eql_fpC Tryd.underlying22 (by kernel_rfl) Tryd.underlying5 (low16 lm3) (low16 lm3) w').trans (by rw [decide_eq_true rfl])) ?_
  refine k_pure (by kernel_rfl) (d := (some 55)) (by kernel_rfl) (v := .bool true) (fun _ => by kernel_rfl) ?_
  refine k_pure (by kernel_rfl) (d := (some 56)) (by kernel_rfl) (v := .bool true) (fun _ => by kernel_rfl) ?_
  refine k_load (by kernel_rfl) (d := (some 57)) (by kernel_rfl) (ty := 22) (x := (.tmp 3)) (by kernel_rfl) (b := w.heap.size) (off := 0) (by kernel_rfl) (cs := (fpC a)) (fun w' hs => (F0.nb hs).cells1 (k := 0) (off := 0) rfl rfl) Tryd.underlying22 rfl (by kernel_rfl) ?_
  refine k_load (by kernel_rfl) (d := (some 58)) (by kernel_rfl) (ty := 22) (x := (.tmp 4)) (by kernel_rfl) (b := (w.heap.size + 1)) (off := 0) (by kernel_rfl) (cs := (fpC b)) (fun w' hs => (F1.nb hs).cells1 (k := 0) (off := 0) rfl rfl) Tryd.underlying22 rfl (by kernel_rfl) ?_
  refine k_load (by kernel_rfl) (d := (some 59)) (by kernel_rfl) (ty := 22) (x := (.tmp 5)) (by kernel_rfl) (b := (w.heap.size + 1 + 1)) (off := 0) (by kernel_rfl) (cs := (fpC c)) (fun w' hs => (F2.nb hs).cells1 (k := 0) (off := 0) rfl rfl) Tryd.underlying22 rfl (by kernel_rfl) ?_
  refine k_load (by kernel_rfl) (d := (some 62)) (by kernel_rfl) (ty := 22) (x := (.tmp 3)) (by kernel_rfl) (b := w.heap.size) (off := 0) (by kernel_rfl) (cs := (fpC a)) (fun w' hs => (F0.nb hs).cells1 (k := 0) (off := 0) rfl rfl) Tryd.underlying22 rfl (by kernel_rfl) ?_
  refine k_load (by kernel_rfl) (d := (some 63)) (by kernel_rfl) (ty := 22) (x := (.tmp 4)) (by kernel_rfl) (b := (w.heap.size + 1)) (off := 0) (by kernel_rfl) (cs := (fpC b)) (fun w' hs => (F1.nb hs).cells1 (k := 0) (off := 0) rfl rfl) Tryd.underlying22 rfl (by kernel_rfl) ?_
  refine k_load (by kernel_rfl) (d := (some 65)) (by kernel_rfl) (ty := 22) (x := (.tmp 3)) (by kernel_rfl) (b := w.heap.size) (off := 0) (by kernel_rfl) (cs := (fpC a)) (fun w' hs => (F0.nb hs).cells1 (k := 0) (off := 0) rfl rfl) Tryd.underlying22 rfl (by kernel_rfl) ?_
  refine k_load (by kernel_rfl) (d := (some 66)) (by kernel_rfl) (ty := 22) (x := (.tmp 5)) (by kernel_rfl) (b := (w.heap.size + 1 + 1)) (off := 0) (by kernel_rfl) (cs := (fpC c)) (fun w' hs => (F2.nb hs).cells1 (k := 0) (off := 0) rfl rfl) Tryd.underlying22 rfl (by kernel_rfl) ?_
  refine k_call (by kernel_rfl) (d := (some 60)) (by kernel_rfl) (f := 20) (args := #[.agg (fpC b), .agg (fpC c)]) (v := .agg (fpC bc)) (fun _ => by kernel_rfl) (implAdd (hm0.nb hS14) lb lc ebc) (fun w15 hb15 => ⟨nb_trans hS14 hb15, ?_⟩)
  have hS15 := nb_trans hS14 hb15
  refine k_call (by kernel_rfl) (d := (some 61)) (by kernel_rfl) (f := 21) (args := #[.agg (fpC a), .agg (fpC bc)]) (v := .agg (fpC d3)) (fun _ => by kernel_rfl) (implMul (hm0.nb hS15) la lbc ed3) (fun w16 hb16 => ⟨nb_trans hS15 hb16, ?_⟩)
  have hS16 := nb_trans hS15 hb16
  refine k_call (by kernel_rfl) (d := (some 64)) (by kernel_rfl) (f := 21) (args := #[.agg (fpC a), .agg (fpC b)]) (v := .agg (fpC mab)) (fun _ => by kernel_rfl) (implMul (hm0.nb hS16) la lb emab) (fun w17 hb17 => ⟨nb_trans hS16 hb17, ?_⟩)
  have hS17 := nb_trans hS16 hb17
  refine k_call (by kernel_rfl) (d := (some 67)) (by kernel_rfl) (f := 21) (args := #[.agg (fpC a), .agg (fpC c)]) (v := .agg (fpC mac)) (fun _ => by kernel_rfl) (implMul (hm0.nb hS17) la lc emac) (fun w18 hb18 => ⟨nb_trans hS17 hb18, ?_⟩)
  have hS18 := nb_trans hS17 hb18
  refine k_call (by kernel_rfl) (d := (some 68)) (by kernel_rfl) (f := 20) (args := #[.agg (fpC mab), .agg (fpC mac)]) (v := .agg (fpC d3)) (fun _ => by kernel_rfl) (implAdd (hm0.nb hS18) lmab lmac ed3') (fun w19 hb19 => ⟨nb_trans hS18 hb19, ?_⟩)
  have hS19 := nb_trans hS18 hb19
  refine k_eql (by kernel_rfl) (d := (some 69)) (by kernel_rfl) (ty := 22) (ty' := 22) (x := (.tmp 61)) (y := (.tmp 68)) (by kernel_rfl) (xs := (fpC d3)) (ys := (fpC d3)) (b := true) (by kernel_rfl) (by kernel_rfl) (by kernel_rfl) (fun w' => (eql_fpC Tryd.underlying22 (by kernel_rfl) Tryd.underlying5 (low16 ld3) (low16 ld3) w').trans (by rw [decide_eq_true rfl])) ?_
  refine k_pure (by kernel_rfl) (d := (some 70)) (by kernel_rfl) (v := .bool true) (fun _ => by kernel_rfl) ?_
  refine k_pure (by kernel_rfl) (d := (some 71)) (by kernel_rfl) (v := .bool true) (fun _ => by kernel_rfl) ?_
  refine k_pure (by kernel_rfl) (d := (some 75)) (by kernel_rfl) (v := .agg (fpC 2)) (fun _ => by kernel_rfl) ?_
  refine k_call (by kernel_rfl) (d := (some 72)) (by kernel_rfl) (f := 22) (args := #[]) (v := .agg (fpC 1)) (fun _ => by kernel_rfl) (unit_c) (fun w20 hb20 => ⟨nb_trans hS19 hb20, ?_⟩)
  have hS20 := nb_trans hS19 hb20
  refine k_call (by kernel_rfl) (d := (some 73)) (by kernel_rfl) (f := 22) (args := #[]) (v := .agg (fpC 1)) (fun _ => by kernel_rfl) (unit_c) (fun w21 hb21 => ⟨nb_trans hS20 hb21, ?_⟩)
  have hS21 := nb_trans hS20 hb21
  refine k_call (by kernel_rfl) (d := (some 74)) (by kernel_rfl) (f := 20) (args := #[.agg (fpC 1), .agg (fpC 1)]) (v := .agg (fpC 2)) (fun _ => by kernel_rfl) (implAdd (hm0.nb hS21) low_one low_one e2) (fun w22 hb22 => ⟨nb_trans hS21 hb22, ?_⟩)
  have hS22 := nb_trans hS21 hb22
  refine k_eql (by kernel_rfl) (d := (some 76)) (by kernel_rfl) (ty := 22) (ty' := 22) (x := (.tmp 74)) (y := (.tmp 75)) (by kernel_rfl) (xs := (fpC 2)) (ys := (fpC 2)) (b := true) (by kernel_rfl) (by kernel_rfl) (by kernel_rfl) (fun w' => (eql_fpC Tryd.underlying22 (by kernel_rfl) Tryd.underlying5 (low16 l2) (low16 l2) w').trans (by rw [decide_eq_true rfl])) ?_
  refine k_pure (by kernel_rfl) (d := (some 77)) (by kernel_rfl) (v := .bool true) (fun _ => by kernel_rfl) ?_
  refine k_pure (by kernel_rfl) (d := (some 78)) (by kernel_rfl) (v := .bool true) (fun _ => by kernel_rfl) ?_
  refine k_pure (by kernel_rfl) (d := (some 6)) (by kernel_rfl) (v := .bool true) (fun _ => by kernel_rfl) ?_
  refine k_end ?_
  go_wp2_with fail
  exact bodyPost_ret_by (by kernel_rfl) (by kernel_rfl) ⟨rfl, hB0.trans (Below.mono hS22 hB0.size)⟩


set_option maxRecDepth 100000 in
set_option maxHeartbeats 2000000 in
theorem ring_high {w : World} {a b c : Nat} (hm : ModW w) (ha : a < 256 ^ 16) (hb : b < 256 ^ 16) (hc : c < 256 ^ 16) (hlow : lowAll [a, b, c] = false) :
    Calls Tryd.prog 5 #[.agg (fpC a), .agg (fpC b), .agg (fpC c)] w fun e w' => e = .returned (.bool true) ∧ Below w.heap.size w w' := by
  have HM := Lib.hid hm; have HA := Lib.hid ha; have HB := Lib.hid hb; have HC := Lib.hid hc; have HL := Lib.hid hlow
  clear hm ha hb hc hlow
  go_enter Tryd.func5, Tryd.ntmps5
  go_wp2_with fail
  have hB0 : Below w.heap.size w (((w.alloc (.cells (fpC a) 22)).alloc (.cells (fpC b) 22)).alloc (.cells (fpC c) 22)) := nb_alloc (nb_alloc (nb_alloc (Below.refl _ _) _) _) _
  have hm0 := HM.out.nb hB0
  have F0 : Fps (((w.alloc (.cells (fpC a) 22)).alloc (.cells (fpC b) 22)).alloc (.cells (fpC c) 22)) w.heap.size [a] := ⟨_, by rw [fps_one]; exact hp3_0 _ _ _⟩
  have F1 : Fps (((w.alloc (.cells (fpC a) 22)).alloc (.cells (fpC b) 22)).alloc (.cells (fpC c) 22)) (w.heap.size + 1) [b] := ⟨_, by rw [fps_one]; exact hp3_1 _ _ _⟩
  have F2 : Fps (((w.alloc (.cells (fpC a) 22)).alloc (.cells (fpC b) 22)).alloc (.cells (fpC c) 22)) (w.heap.size + 1 + 1) [c] := ⟨_, by rw [fps_one]; exact hp3_2 _ _ _⟩
  obtain ⟨W, hW⟩ : ∃ x, x = (((w.alloc (.cells (fpC a) 22)).alloc (.cells (fpC b) 22)).alloc (.cells (fpC c) 22)) := ⟨_, rfl⟩
  rw [← hW] at hB0 hm0 F0 F1 F2 ⊢
  clear hW
  have hlow : lowAll [a, b, c] = false := HL.out
  refine wp_region_at (opsAt Tryd.f5 1) ((true, 0) :: (true, 1) :: (true, 2) :: (false, 3) :: (false, 4) :: (true, 5) :: (true, 6) :: (true, 7) :: (true, 8) :: (true, 10) :: (true, 11) :: (false, 9) :: (false, 12) :: (true, 13) :: (true, 14) :: (true, 15) :: (true, 16) :: (true, 18) :: (true, 19) :: (false, 17) :: (false, 20) :: (true, 21) :: (true, 22) :: (true, 23) :: (true, 24) :: (true, 25) :: (true, 27) :: (true, 29) :: (true, 30) :: (true, 31) :: (false, 26) :: (false, 28) :: (false, 32) :: (false, 33) :: (true, 34) :: (true, 35) :: (true, 36) :: (true, 37) :: (true, 38) :: (true, 40) :: (true, 42) :: (true, 43) :: (true, 44) :: (false, 39) :: (false, 41) :: (false, 45) :: (false, 46) :: (true, 47) :: (true, 48) :: (true, 49) :: (true, 50) :: (true, 51) :: (true, 52) :: (true, 55) :: (true, 56) :: (true, 58) :: (true, 59) :: (false, 53) :: (false, 54) :: (false, 57) :: (false, 60) :: (false, 61) :: (true, 62) :: (true, 63) :: (true, 64) :: (true, 68) :: (false, 65) :: (false, 66) :: (false, 67) :: (true, 69) :: (true, 70) :: (true, 71) :: (true, 72) :: []) (by kernel_rfl) rfl (by kernel_rfl) (fun _ _ d _ _ h => by cases d <;> exact h) (by kernel_rfl) ring_plan ?_
  have hS0 : Below W.heap.size W W.drew := (Below.refl _ _).drew
  refine k_load (by kernel_rfl) (d := (some 7)) (by kernel_rfl) (ty := 22) (x := (.tmp 3)) (by kernel_rfl) (b := w.heap.size) (off := 0) (by kernel_rfl) (cs := (fpC a)) (fun w' hs => (F0.nb hs).cells1 (k := 0) (off := 0) rfl rfl) Tryd.underlying22 rfl (by kernel_rfl) ?_
  refine k_load (by kernel_rfl) (d := (some 8)) (by kernel_rfl) (ty := 22) (x := (.tmp 4)) (by kernel_rfl) (b := (w.heap.size + 1)) (off := 0) (by kernel_rfl) (cs := (fpC b)) (fun w' hs => (F1.nb hs).cells1 (k := 0) (off := 0) rfl rfl) Tryd.underlying22 rfl (by kernel_rfl) ?_
  refine k_load (by kernel_rfl) (d := (some 9)) (by kernel_rfl) (ty := 22) (x := (.tmp 5)) (by kernel_rfl) (b := (w.heap.size + 1 + 1)) (off := 0) (by kernel_rfl) (cs := (fpC c)) (fun w' hs => (F2.nb hs).cells1 (k := 0) (off := 0) rfl rfl) Tryd.underlying22 rfl (by kernel_rfl) ?_
  refine k_make (by kernel_rfl) (d := (some 10)) (by kernel_rfl) (v := .slice (some ⟨W.heap.size, 0, none⟩) 3 3) (w' := W.drew.alloc (.cells (fps [a, b, c]) 22)) (by kernel_rfl) (nb_alloc hS0 _) ?_
  intro w1 hw1 hM1
  refine k_call (by kernel_rfl) (d := (some 11)) (by kernel_rfl) (f := 17) (args := #[.slice (some ⟨W.heap.size, 0, none⟩) 3 3]) (v := .bool false) (fun _ => by kernel_rfl) (hlow ▸ low_c (hw1 ▸ Fps.new _ [a, b, c] _ _ _ rfl rfl) (all3 HA.out HB.out HC.out) (by show 3 < 1000; decide)) (fun w2 hb2 => ⟨nb_trans hM1 hb2, ?_⟩)
  have hS2 := nb_trans hM1 hb2
  refine k_pure (by kernel_rfl) (d := (some 12)) (by kernel_rfl) (v := .bool true) (fun _ => by kernel_rfl) ?_
  refine k_pure (by kernel_rfl) (d := (some 13)) (by kernel_rfl) (v := .bool true) (fun _ => by kernel_rfl) ?_
  refine k_skip (by kernel_rfl) (d := (some 14)) (by kernel_rfl) ?_
  refine k_skip (by kernel_rfl) (d := (some 15)) (by kernel_rfl) ?_
  refine k_skip (by kernel_rfl) (d := (some 17)) (by kernel_rfl) ?_
  refine k_skip (by kernel_rfl) (d := (some 18)) (by kernel_rfl) ?_
  refine k_skip' hS2 (by kernel_rfl) (d := (some 16)) (by kernel_rfl) ?_
  refine k_skip' hS2 (by kernel_rfl) (d := (some 19)) (by kernel_rfl) ?_
  refine k_skip (by kernel_rfl) (d := (some 20)) (by kernel_rfl) ?_
  refine k_skip (by kernel_rfl) (d := (some 21)) (by kernel_rfl) ?_
  refine k_skip (by kernel_rfl) (d := (some 22)) (by kernel_rfl) ?_
  refine k_skip (by kernel_rfl) (d := (some 23)) (by kernel_rfl) ?_
  refine k_skip (by kernel_rfl) (d := (some 25)) (by kernel_rfl) ?_
  refine k_skip (by kernel_rfl) (d := (some 26)) (by kernel_rfl) ?_
  refine k_skip' hS2 (by kernel_rfl) (d := (some 24)) (by kernel_rfl) ?_
  refine k_skip' hS2 (by kernel_rfl) (d := (some 27)) (by kernel_rfl) ?_
  refine k_skip (by kernel_rfl) (d := (some 28)) (by kernel_rfl) ?_
  refine k_skip (by kernel_rfl) (d := (some 29)) (by kernel_rfl) ?_
  refine k_skip (by kernel_rfl) (d := (some 30)) (by kernel_rfl) ?_
  refine k_skip (by kernel_rfl) (d := (some 31)) (by kernel_rfl) ?_
  refine k_skip (by kernel_rfl) (d := (some 32)) (by kernel_rfl) ?_
  refine k_skip (by kernel_rfl) (d := (some 34)) (by kernel_rfl) ?_
  refine k_skip (by kernel_rfl) (d := (some 36)) (by kernel_rfl) ?_
  refine k_skip (by kernel_rfl) (d := (some 37)) (by kernel_rfl) ?_
  refine k_skip (by kernel_rfl) (d := (some 38)) (by kernel_rfl) ?_
  refine k_skip' hS2 (by kernel_rfl) (d := (some 33)) (by kernel_rfl) ?_
  refine k_skip' hS2 (by kernel_rfl) (d := (some 35)) (by kernel_rfl) ?_
  refine k_skip' hS2 (by kernel_rfl) (d := (some 39)) (by kernel_rfl) ?_
  refine k_skip' hS2 (by kernel_rfl) (d := (some 40)) (by kernel_rfl) ?_
  refine k_skip (by kernel_rfl) (d := (some 41)) (by kernel_rfl) ?_
  refine k_skip (by kernel_rfl) (d := (some 42)) (by kernel_rfl) ?_
  refine k_skip (by kernel_rfl) (d := (some 43)) (by kernel_rfl) ?_
  refine k_skip (by kernel_rfl) (d := (some 44)) (by kernel_rfl) ?_
  refine k_skip (by kernel_rfl) (d := (some 45)) (by kernel_rfl) ?_
  refine k_skip (by kernel_rfl) (d := (some 47)) (by kernel_rfl) ?_
  refine k_skip (by kernel_rfl) (d := (some 49)) (by kernel_rfl) ?_
  refine k_skip (by kernel_rfl) (d := (some 50)) (by kernel_rfl) ?_
  refine k_skip (by kernel_rfl) (d := (some 51)) (by kernel_rfl) ?_
  refine k_skip' hS2 (by kernel_rfl) (d := (some 46)) (by kernel_rfl) ?_
  refine k_skip' hS2 (by kernel_rfl) (d := (some 48)) (by kernel_rfl) ?_
  refine k_skip' hS2 (by kernel_rfl) (d := (some 52)) (by kernel_rfl) ?_
  refine k_skip' hS2 (by kernel_rfl) (d := (some 53)) (by kernel_rfl) ?_
  refine k_skip (by kernel_rfl) (d := (some 54)) (by kernel_rfl) ?_
  refine k_skip (by kernel_rfl) (d := (some 55)) (by kernel_rfl) ?_
  refine k_skip (by kernel_rfl) (d := (some 56)) (by kernel_rfl) ?_
  refine k_skip (by kernel_rfl) (d := (some 57)) (by kernel_rfl) ?_
  refine k_skip (by kernel_rfl) (d := (some 58)) (by kernel_rfl) ?_
  refine k_skip (by kernel_rfl) (d := (some 59)) (by kernel_rfl) ?_
  refine k_skip (by kernel_rfl) (d := (some 62)) (by kernel_rfl) ?_
  refine k_skip (by kernel_rfl) (d := (some 63)) (by kernel_rfl) ?_
  refine k_skip (by kernel_rfl) (d := (some 65)) (by kernel_rfl) ?_
  refine k_skip (by kernel_rfl) (d := (some 66)) (by kernel_rfl) ?_
  refine k_skip' hS2 (by kernel_rfl) (d := (some 60)) (by kernel_rfl) ?_
  refine k_skip' hS2 (by kernel_rfl) (d := (some 61)) (by kernel_rfl) ?_
  refine k_skip' hS2 (by kernel_rfl) (d := (some 64)) (by kernel_rfl) ?_
  refine k_skip' hS2 (by kernel_rfl) (d := (some 67)) (by kernel_rfl) ?_
  refine k_skip' hS2 (by kernel_rfl) (d := (some 68)) (by kernel_rfl) ?_
  refine k_skip (by kernel_rfl) (d := (some 69)) (by kernel_rfl) ?_
  refine k_skip (by kernel_rfl) (d := (some 70)) (by kernel_rfl) ?_
  refine k_skip (by kernel_rfl) (d := (some 71)) (by kernel_rfl) ?_
  refine k_skip (by kernel_rfl) (d := (some 75)) (by kernel_rfl) ?_
  refine k_skip' hS2 (by kernel_rfl) (d := (some 72)) (by kernel_rfl) ?_
  refine k_skip' hS2 (by kernel_rfl) (d := (some 73)) (by kernel_rfl) ?_
  refine k_skip' hS2 (by kernel_rfl) (d := (some 74)) (by kernel_rfl) ?_
  refine k_skip (by kernel_rfl) (d := (some 76)) (by kernel_rfl) ?_
  refine k_skip (by kernel_rfl) (d := (some 77)) (by kernel_rfl) ?_
  refine k_pure (by kernel_rfl) (d := (some 78)) (by kernel_rfl) (v := .bool true) (fun _ => by kernel_rfl) ?_
  refine k_pure (by kernel_rfl) (d := (some 6)) (by kernel_rfl) (v := .bool true) (fun _ => by kernel_rfl) ?_
  refine k_end ?_
  go_wp2_with fail
  exact bodyPost_ret_by (by kernel_rfl) (by kernel_rfl) ⟨rfl, hB0.trans (Below.mono hS2 hB0.size)⟩


theorem ring_c {w : World} {a b c : Nat} (hm : ModW w) (ha : a < 256 ^ 16) (hb : b < 256 ^ 16) (hc : c < 256 ^ 16) :
    Calls Tryd.prog 5 #[.agg (fpC a), .agg (fpC b), .agg (fpC c)] w fun e w' => e = .returned (.bool true) ∧ Below w.heap.size w w' := by
  cases h : lowAll [a, b, c] with
  | true => have h := lowAll_iff.1 h; exact ring_low hm ha hb hc ⟨h a (by simp), h b (by simp), h c (by simp)⟩
  | false => exact ring_high hm ha hb hc h


end Go.Proofs.YtpogbljoohdehaaDoor
