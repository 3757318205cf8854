/- The square field's inverse, in memory and over values. Elements below 2^127; modulusP holds the prime. -/
import Derived.Test.YtpogbljoohdehaaDoorFqImpl
namespace Go.FourQ
open Go.RowKit
theorem Boxes.rebase {n : Nat} {w wr w' : World} {zs : List Zp} {b : Nat} {L : List Zp} (h : Boxes n w zs wr) (u : UpdZ wr w' b L) (hb : b < n) : Boxes n w' zs w' where
  nb := Below.refl _ _
  size := Nat.le_trans h.size u.size
  blk := fun i z hi => u.keep (h.blk i z hi) (by omega)
theorem UpdZ.afterN {n : Nat} {w w' w'' : World} {b : Nat} {L : List Zp} (u : UpdZ w w' b L) (v : Below n w' w'') (hn : w.heap.size ≤ n) (hb : b < n) : UpdZ w w'' b L :=
  ⟨v.os.trans u.os, v.tape.trans u.tape, v.output.trans u.output, Nat.le_trans u.size v.size, u.blk.of_heap (v.block b hb),
    fun k hk hb => (v.block k (by omega)).trans (u.other k hk hb)⟩
theorem ModW_below : True := trivial
end Go.FourQ
namespace Go.Proofs.YtpogbljoohdehaaDoor
open Go.RowKit Go.FourQ

theorem ModW.belowN {n : Nat} {w w' : World} (h : ModW w) (v : Below n w w') (hn : 0 < n) : ModW w' := h.of_heap (v.block _ hn)

section
variable {w : World} {b1 b2 o1 o2 k1 : Nat} {L1 : List Zp} {x0 x1 z0 z1 : Zp}

set_option maxRecDepth 100000 in
set_option maxHeartbeats 1000000 in
theorem fqInv (hm : ModW w) (hg : 0 < b1) (h1 : FpsZ w b1 L1) (hA : AtQ w b2 o2 x0 x1) (e1 : o1 = 16 * k1) (i1 : k1 + 1 < L1.length) (dA : b2 ≠ b1 ∨ o2 + 16 ≠ o1) (hz0 : x0 * (x0 * x0 + x1 * x1).inv = z0) (hz1 : x1 * -(x0 * x0 + x1 * x1).inv = z1) :
    Calls Tryd.prog 103 #[.pointer (some ⟨b1, o1, none⟩), .pointer (some ⟨b2, o2, none⟩)] w fun e w' => e = .returned (.tuple #[]) ∧ UpdZ w w' b1 ((L1.set k1 z0).set (k1 + 1) z1) := by
  have E1 := Lib.hid e1
  have HZ0 := Lib.hid hz0
  have HZ1 := Lib.hid hz1
  clear e1 hz0 hz1
  go_enter Tryd.func103, Tryd.ntmps103
  go_upto_region 1 with (fail)
  have HN := h1.lt
  have HN2 := hA.fst.lt
  have HG := hm.lt
  have H0 : Boxes w.heap.size w [0, 0] ((w.alloc (.cells #[.int .u8 0, .int .u8 0, .int .u8 0, .int .u8 0, .int .u8 0, .int .u8 0, .int .u8 0, .int .u8 0, .int .u8 0, .int .u8 0, .int .u8 0, .int .u8 0, .int .u8 0, .int .u8 0, .int .u8 0, .int .u8 0] 61)).alloc (.cells #[.int .u8 0, .int .u8 0, .int .u8 0, .int .u8 0, .int .u8 0, .int .u8 0, .int .u8 0, .int .u8 0, .int .u8 0, .int .u8 0, .int .u8 0, .int .u8 0, .int .u8 0, .int .u8 0, .int .u8 0, .int .u8 0] 61)) := ((Boxes.start w).new rfl zero_fps.symm low_zero zp_zero).new (by simp) zero_fps.symm low_zero zp_zero
  obtain ⟨W0, hW⟩ : ∃ W0 : World, W0 = ((w.alloc (.cells #[.int .u8 0, .int .u8 0, .int .u8 0, .int .u8 0, .int .u8 0, .int .u8 0, .int .u8 0, .int .u8 0, .int .u8 0, .int .u8 0, .int .u8 0, .int .u8 0, .int .u8 0, .int .u8 0, .int .u8 0, .int .u8 0] 61)).alloc (.cells #[.int .u8 0, .int .u8 0, .int .u8 0, .int .u8 0, .int .u8 0, .int .u8 0, .int .u8 0, .int .u8 0, .int .u8 0, .int .u8 0, .int .u8 0, .int .u8 0, .int .u8 0, .int .u8 0, .int .u8 0, .int .u8 0] 61)) := ⟨_, rfl⟩
  rw [← hW] at H0 ⊢
  clear hW
  obtain ⟨n, hn⟩ : ∃ n, w.heap.size = n := ⟨_, rfl⟩
  rw [hn] at H0 HN HN2 HG ⊢
  replace hn := Lib.hid hn
  refine wp_seq_atS (opsAt Tryd.f103 1) ((true, 0) :: (true, 1) :: (true, 2) :: (true, 3) :: (false, 4) :: []) (fun _ => True) (by kernel_rfl) (by kernel_rfl) trivial ?_
  refine k_pure (by kernel_rfl) (d := (some 10)) (by kernel_rfl) (v := .pointer (some ⟨n, 0, none⟩)) (fun _ => by kernel_rfl) ?_
  refine k_pure (by kernel_rfl) (d := (some 11)) (by kernel_rfl) (v := .pointer (some ⟨b2, o2, none⟩)) (fun _ => by kernel_rfl) ?_
  refine k_pure (by kernel_rfl) (d := (some 12)) (by kernel_rfl) (v := .pointer (some ⟨b2, o2, none⟩)) (fun _ => by kernel_rfl) ?_
  refine k_pure (by kernel_rfl) (d := (some 13)) (by kernel_rfl) (v := .pointer (some ⟨b2, o2, none⟩)) (fun _ => by kernel_rfl) ?_
  refine k_callR (by kernel_rfl) (d := (some 14)) (by kernel_rfl) (f := 94) (args := #[.pointer (some ⟨n, 0, none⟩), .pointer (some ⟨b2, o2, none⟩)]) (fun _ => by kernel_rfl) (locSqr H0 (i := 0) rfl rfl (hA.fst.below H0.nb HN2) rfl) (fun _ w1 q1 => ⟨.tuple #[], q1.1, trivial, ?_⟩)
  have u1 := q1.2
  clear q1
  refine k_end ?_
  go_simp
  go_upto_region 2 with (fail)
  have H1 : Boxes n w [x0 * x0, 0] w1 := u1
  refine wp_seq_atS (opsAt Tryd.f103 2) ((true, 0) :: (true, 1) :: (true, 2) :: (true, 3) :: (false, 4) :: []) (fun _ => True) (by kernel_rfl) (by kernel_rfl) trivial ?_
  refine k_pure (by kernel_rfl) (d := (some 15)) (by kernel_rfl) (v := .pointer (some ⟨n + 1, 0, none⟩)) (fun _ => by kernel_rfl) ?_
  refine k_pure (by kernel_rfl) (d := (some 16)) (by kernel_rfl) (v := .pointer (some ⟨b2, o2, none⟩)) (fun _ => by kernel_rfl) ?_
  refine k_pure (by kernel_rfl) (d := (some 17)) (by kernel_rfl) (v := .pointer (some ⟨b2, o2, none⟩)) (fun _ => by kernel_rfl) ?_
  refine k_pure (by kernel_rfl) (d := (some 18)) (by kernel_rfl) (v := .pointer (some ⟨b2, o2 + 16, none⟩)) (fun _ => by kernel_rfl) ?_
  refine k_callR (by kernel_rfl) (d := (some 19)) (by kernel_rfl) (f := 94) (args := #[.pointer (some ⟨n + 1, 0, none⟩), .pointer (some ⟨b2, o2 + 16, none⟩)]) (fun _ => by kernel_rfl) (locSqr H1 (i := 1) rfl rfl (hA.snd.below H1.nb HN2) rfl) (fun _ w2 q2 => ⟨.tuple #[], q2.1, trivial, ?_⟩)
  have u2 := q2.2
  clear q2
  refine k_end ?_
  go_simp
  go_upto_region 3 with (fail)
  have H2 : Boxes n w [x0 * x0, x1 * x1] w2 := u2
  refine wp_seq_atS (opsAt Tryd.f103 3) ((true, 0) :: (true, 1) :: (true, 2) :: (false, 3) :: []) (fun _ => True) (by kernel_rfl) (by kernel_rfl) trivial ?_
  refine k_pure (by kernel_rfl) (d := (some 20)) (by kernel_rfl) (v := .pointer (some ⟨n, 0, none⟩)) (fun _ => by kernel_rfl) ?_
  refine k_pure (by kernel_rfl) (d := (some 21)) (by kernel_rfl) (v := .pointer (some ⟨n, 0, none⟩)) (fun _ => by kernel_rfl) ?_
  refine k_pure (by kernel_rfl) (d := (some 22)) (by kernel_rfl) (v := .pointer (some ⟨n + 1, 0, none⟩)) (fun _ => by kernel_rfl) ?_
  refine k_callR (by kernel_rfl) (d := (some 23)) (by kernel_rfl) (f := 87) (args := #[.pointer (some ⟨n, 0, none⟩), .pointer (some ⟨n, 0, none⟩), .pointer (some ⟨n + 1, 0, none⟩)]) (fun _ => by kernel_rfl) (locAdd H2 (i := 0) rfl rfl (H2.at 0 rfl rfl) (H2.at 1 rfl rfl) rfl) (fun _ w3 q3 => ⟨.tuple #[], q3.1, trivial, ?_⟩)
  have u3 := q3.2
  clear q3
  refine k_end ?_
  go_simp
  go_upto_region 4 with (fail)
  have H3 : Boxes n w [x0 * x0 + x1 * x1, x1 * x1] w3 := u3
  refine wp_seq_atS (opsAt Tryd.f103 4) ((true, 0) :: (true, 1) :: (false, 2) :: []) (fun _ => True) (by kernel_rfl) (by kernel_rfl) trivial ?_
  refine k_pure (by kernel_rfl) (d := (some 24)) (by kernel_rfl) (v := .pointer (some ⟨n, 0, none⟩)) (fun _ => by kernel_rfl) ?_
  refine k_pure (by kernel_rfl) (d := (some 25)) (by kernel_rfl) (v := .pointer (some ⟨n, 0, none⟩)) (fun _ => by kernel_rfl) ?_
  refine k_callR (by kernel_rfl) (d := (some 26)) (by kernel_rfl) (f := 102) (args := #[.pointer (some ⟨n, 0, none⟩), .pointer (some ⟨n, 0, none⟩)]) (fun _ => by kernel_rfl) (zInv (H3.blk 0 _ rfl) (H3.at 0 rfl rfl) (k1 := 0) rfl (by simp)) (fun _ w4 q4 => ⟨.tuple #[], q4.1, trivial, ?_⟩)
  have u4 := q4.2
  clear q4
  refine k_end ?_
  go_simp
  go_upto_region 5 with (fail)
  have H4 : Boxes n w [(x0 * x0 + x1 * x1).inv, x1 * x1] w4 := H3.upd (i := 0) (y := x0 * x0 + x1 * x1) u4
  refine wp_region_atS (opsAt Tryd.f103 5) ((true, 0) :: (true, 1) :: (true, 2) :: (true, 3) :: (true, 4) :: (true, 5) :: (true, 6) :: (false, 7) :: []) (fun _ => True) (by kernel_rfl) rfl (by kernel_rfl) (fun _ _ d _ _ h => by cases d <;> exact h) (by kernel_rfl) (by kernel_rfl) trivial ?_
  refine k_pure (by kernel_rfl) (d := (some 27)) (by kernel_rfl) (v := .pointer (some ⟨b1, o1, none⟩)) (fun _ => by kernel_rfl) ?_
  refine k_pure (by kernel_rfl) (d := (some 28)) (by kernel_rfl) (v := .pointer (some ⟨b1, o1, none⟩)) (fun _ => by kernel_rfl) ?_
  refine k_pure (by kernel_rfl) (d := (some 29)) (by kernel_rfl) (v := .pointer (some ⟨b1, o1, none⟩)) (fun _ => by kernel_rfl) ?_
  refine k_pure (by kernel_rfl) (d := (some 30)) (by kernel_rfl) (v := .pointer (some ⟨b2, o2, none⟩)) (fun _ => by kernel_rfl) ?_
  refine k_pure (by kernel_rfl) (d := (some 31)) (by kernel_rfl) (v := .pointer (some ⟨b2, o2, none⟩)) (fun _ => by kernel_rfl) ?_
  refine k_pure (by kernel_rfl) (d := (some 32)) (by kernel_rfl) (v := .pointer (some ⟨b2, o2, none⟩)) (fun _ => by kernel_rfl) ?_
  refine k_pure (by kernel_rfl) (d := (some 33)) (by kernel_rfl) (v := .pointer (some ⟨n, 0, none⟩)) (fun _ => by kernel_rfl) ?_
  refine k_callR (by kernel_rfl) (d := (some 34)) (by kernel_rfl) (f := 88) (args := #[.pointer (some ⟨b1, o1, none⟩), .pointer (some ⟨b2, o2, none⟩), .pointer (some ⟨n, 0, none⟩)]) (fun _ => by kernel_rfl) (atMul (h1.of_heap (H4.nb.block _ HN)).drew (hA.fst.below H4.nb HN2).drew (H4.at 0 rfl rfl).drew E1.out (Nat.lt_of_succ_lt i1) HZ0.out) (fun _ w5 q5 => ⟨.tuple #[], q5.1, trivial, ?_⟩)
  have u5 := q5.2.ofDrew
  clear q5
  refine k_end ?_
  go_simp
  go_upto_region 6 with (fail)
  have H5 : Boxes n w5 [(x0 * x0 + x1 * x1).inv, x1 * x1] w5 := H4.rebase u5 HN
  have hm5 : ModW w5 := (hm.belowN H4.nb HG).updZ hg u5
  have HA5 : At w5 b2 (o2 + 16) x1 := (hA.snd.below H4.nb HN2).set (h1.of_heap (H4.nb.block _ HN)) E1.out u5 dA
  refine wp_seq_atS (opsAt Tryd.f103 6) ((true, 0) :: (true, 1) :: (false, 2) :: []) (fun _ => True) (by kernel_rfl) (by kernel_rfl) trivial ?_
  refine k_pure (by kernel_rfl) (d := (some 35)) (by kernel_rfl) (v := .pointer (some ⟨n, 0, none⟩)) (fun _ => by kernel_rfl) ?_
  refine k_pure (by kernel_rfl) (d := (some 36)) (by kernel_rfl) (v := .pointer (some ⟨n, 0, none⟩)) (fun _ => by kernel_rfl) ?_
  refine k_callR (by kernel_rfl) (d := (some 37)) (by kernel_rfl) (f := 86) (args := #[.pointer (some ⟨n, 0, none⟩), .pointer (some ⟨n, 0, none⟩)]) (fun _ => by kernel_rfl) (locNeg hm5 H5 (i := 0) rfl rfl (H5.at 0 rfl rfl) rfl) (fun _ w6 q6 => ⟨.tuple #[], q6.1, trivial, ?_⟩)
  have u6 := q6.2
  clear q6
  refine k_end ?_
  go_simp
  go_upto_region 7 with (fail)
  have H6 : Boxes n w5 [-(x0 * x0 + x1 * x1).inv, x1 * x1] w6 := u6
  refine wp_region_atS (opsAt Tryd.f103 7) ((true, 0) :: (true, 1) :: (true, 2) :: (true, 3) :: (true, 4) :: (true, 5) :: (true, 6) :: (false, 7) :: []) (fun _ => True) (by kernel_rfl) rfl (by kernel_rfl) (fun _ _ d _ _ h => by cases d <;> exact h) (by kernel_rfl) (by kernel_rfl) trivial ?_
  refine k_pure (by kernel_rfl) (d := (some 38)) (by kernel_rfl) (v := .pointer (some ⟨b1, o1, none⟩)) (fun _ => by kernel_rfl) ?_
  refine k_pure (by kernel_rfl) (d := (some 39)) (by kernel_rfl) (v := .pointer (some ⟨b1, o1, none⟩)) (fun _ => by kernel_rfl) ?_
  refine k_pure (by kernel_rfl) (d := (some 40)) (by kernel_rfl) (v := .pointer (some ⟨b1, o1 + 16, none⟩)) (fun _ => by kernel_rfl) ?_
  refine k_pure (by kernel_rfl) (d := (some 41)) (by kernel_rfl) (v := .pointer (some ⟨b2, o2, none⟩)) (fun _ => by kernel_rfl) ?_
  refine k_pure (by kernel_rfl) (d := (some 42)) (by kernel_rfl) (v := .pointer (some ⟨b2, o2, none⟩)) (fun _ => by kernel_rfl) ?_
  refine k_pure (by kernel_rfl) (d := (some 43)) (by kernel_rfl) (v := .pointer (some ⟨b2, o2 + 16, none⟩)) (fun _ => by kernel_rfl) ?_
  refine k_pure (by kernel_rfl) (d := (some 44)) (by kernel_rfl) (v := .pointer (some ⟨n, 0, none⟩)) (fun _ => by kernel_rfl) ?_
  refine k_callR (by kernel_rfl) (d := (some 45)) (by kernel_rfl) (f := 88) (args := #[.pointer (some ⟨b1, o1 + 16, none⟩), .pointer (some ⟨b2, o2 + 16, none⟩), .pointer (some ⟨n, 0, none⟩)]) (fun _ => by kernel_rfl) (atMul (u5.blk.of_heap (H6.nb.block _ HN)).drew (HA5.below H6.nb HN2).drew (H6.at 0 rfl rfl).drew (e16 E1.out) (len_set i1) HZ1.out) (fun _ w7 q7 => ⟨.tuple #[], q7.1, trivial, ?_⟩)
  have u7 := q7.2.ofDrew
  clear q7
  refine k_end ?_
  go_simp
  have HU := Lib.hid (((UpdZ.ahead (hn.out ▸ H4.nb) u5).afterN H6.nb (Nat.le_of_eq hn.out) HN).trans u7)
  clear u1 u2 u3 u4 u5 u6 u7
  go_wp2_with fail
  go_end0
  exact ⟨rfl, HU.out⟩

end
section
variable {w : World} {a0 a1 : Nat}

set_option maxRecDepth 100000 in
set_option maxHeartbeats 400000 in
theorem zzFqInv (hm : ModW w) (ha0 : LowB a0) (ha1 : LowB a1) : Calls Tryd.prog 80 #[.agg (fps [a0, a1])] w (RetQ (zp a0 * (zp a0 * zp a0 + zp a1 * zp a1).inv) (zp a1 * -(zp a0 * zp a0 + zp a1 * zp a1).inv) w) := by
  have HA0 := Lib.hid ha0; have HA1 := Lib.hid ha1; have HM := Lib.hid hm
  clear ha0 ha1 hm
  go_enter Tryd.func80, Tryd.ntmps80
  go_wp2_with fail
  refine (fqInv (HM.out.alloc _ |>.alloc _) (Nat.lt_succ_of_lt HM.out.lt) (L1 := [0, 0].map zp) (k1 := 0) (FpsZ.ofFps (l := [0, 0]) (Fps.new _ [0, 0] _ _ _ (by simp) zero_fps2.symm) (all2L low_zero low_zero)) (FpsZ.two ((Fps.new w [a0, a1] _ _ _ rfl rfl).alloc _) HA0.out HA1.out).pair rfl (by simp) (.inl (by omega)) rfl rfl).mono ?_
  rintro e w' ⟨rfl, u⟩
  obtain ⟨l, hl, hmap, hlow⟩ := u.blk
  obtain ⟨p, q, rfl, hp, hq⟩ := two_list hmap
  have HL := Lib.hid hl; have HP := Lib.hid hp; have HQ := Lib.hid hq; have HPL := Lib.hid (hlow p (by simp)); have HQL := Lib.hid (hlow q (by simp))
  have HB := Lib.hid (((((Below.refl _ _).alloc (Nat.le_refl _) _).alloc (by simp) _)).trans (u.below (by omega) (by simp; omega)) : Below w.heap.size w w')
  clear u hl hmap hlow hp hq
  go_wp2_with fail
  exact bodyPost_ret_by (results_fps rfl _ (w.heap.size + 1) [p, q] _ rfl HL.out Tryd.underlying73 rfl (by kernel_rfl)) rfl ⟨p, q, rfl, HPL.out, HQL.out, HP.out, HQ.out, HB.out⟩

set_option maxRecDepth 100000 in
set_option maxHeartbeats 1000000 in
theorem implFqInv {w : World} {a0 a1 : Nat} (hm : ModW w) (ha0 : LowB a0) (ha1 : LowB a1) :
    Calls Tryd.prog 47 #[.agg (fps [a0, a1])] w fun e w' => e = .returned (.agg (fps [(zp a0 * (zp a0 * zp a0 + zp a1 * zp a1).inv).val, (zp a1 * -(zp a0 * zp a0 + zp a1 * zp a1).inv).val])) ∧ Below w.heap.size w w' := by
  go_enter Tryd.func47, Tryd.ntmps47
  go_upto_region 1 with (fail)
  have K0 : Kept w [(w.heap.size, (fps [a0, a1]))] [(w.heap.size + 1, 32)] ((w.alloc (.cells (fps [a0, a1]) 40)).alloc (.cells #[.int .u8 0, .int .u8 0, .int .u8 0, .int .u8 0, .int .u8 0, .int .u8 0, .int .u8 0, .int .u8 0, .int .u8 0, .int .u8 0, .int .u8 0, .int .u8 0, .int .u8 0, .int .u8 0, .int .u8 0, .int .u8 0, .int .u8 0, .int .u8 0, .int .u8 0, .int .u8 0, .int .u8 0, .int .u8 0, .int .u8 0, .int .u8 0, .int .u8 0, .int .u8 0, .int .u8 0, .int .u8 0, .int .u8 0, .int .u8 0, .int .u8 0, .int .u8 0] 40)) := Kept.one (nb_alloc (nb_alloc (Below.refl _ _) _) _) (rowsC ⟨_, hp2_0 (w := w) (.cells (fps [a0, a1]) 40) (.cells #[.int .u8 0, .int .u8 0, .int .u8 0, .int .u8 0, .int .u8 0, .int .u8 0, .int .u8 0, .int .u8 0, .int .u8 0, .int .u8 0, .int .u8 0, .int .u8 0, .int .u8 0, .int .u8 0, .int .u8 0, .int .u8 0, .int .u8 0, .int .u8 0, .int .u8 0, .int .u8 0, .int .u8 0, .int .u8 0, .int .u8 0, .int .u8 0, .int .u8 0, .int .u8 0, .int .u8 0, .int .u8 0, .int .u8 0, .int .u8 0, .int .u8 0, .int .u8 0] 40)⟩ rows0) rfl (hp2_1 (w := w) (.cells (fps [a0, a1]) 40) (.cells #[.int .u8 0, .int .u8 0, .int .u8 0, .int .u8 0, .int .u8 0, .int .u8 0, .int .u8 0, .int .u8 0, .int .u8 0, .int .u8 0, .int .u8 0, .int .u8 0, .int .u8 0, .int .u8 0, .int .u8 0, .int .u8 0, .int .u8 0, .int .u8 0, .int .u8 0, .int .u8 0, .int .u8 0, .int .u8 0, .int .u8 0, .int .u8 0, .int .u8 0, .int .u8 0, .int .u8 0, .int .u8 0, .int .u8 0, .int .u8 0, .int .u8 0, .int .u8 0] 40))
  obtain ⟨W0, hW⟩ : ∃ W0 : World, W0 = ((w.alloc (.cells (fps [a0, a1]) 40)).alloc (.cells #[.int .u8 0, .int .u8 0, .int .u8 0, .int .u8 0, .int .u8 0, .int .u8 0, .int .u8 0, .int .u8 0, .int .u8 0, .int .u8 0, .int .u8 0, .int .u8 0, .int .u8 0, .int .u8 0, .int .u8 0, .int .u8 0, .int .u8 0, .int .u8 0, .int .u8 0, .int .u8 0, .int .u8 0, .int .u8 0, .int .u8 0, .int .u8 0, .int .u8 0, .int .u8 0, .int .u8 0, .int .u8 0, .int .u8 0, .int .u8 0, .int .u8 0, .int .u8 0] 40)) := ⟨_, rfl⟩
  rw [← hW] at K0 ⊢
  clear hW
  refine wp_seq_atS (opsAt Tryd.f47 1) ((true, 0) :: (false, 1) :: (false, 2) :: (false, 3) :: (false, 4) :: []) (Kept w [(w.heap.size, (fps [a0, a1]))] [(w.heap.size + 1, 32)]) (by kernel_rfl) (by kernel_rfl) K0 ?_
  refine k_row (by kernel_rfl) (d := (some 3)) (by kernel_rfl) (ty := 40) (x := (.tmp 1)) (by kernel_rfl) (b := w.heap.size) (by kernel_rfl) (cs := (fps [a0, a1])) (fun _ hs => hs.at 0 rfl) Tryd.underlying40 rfl (by kernel_rfl) ?_
  refine k_call (by kernel_rfl) (d := (some 4)) (by kernel_rfl) (f := 62) (args := #[.agg (fps [a0, a1])]) (v := .agg (fps [a0, a1])) (fun _ => by kernel_rfl) (both_c) (fun w1 hb1 => ⟨K0.go hb1, ?_⟩)
  have K1 := K0.go hb1
  refine k_callR (by kernel_rfl) (d := (some 5)) (by kernel_rfl) (f := 80) (args := #[.agg (fps [a0, a1])]) (fun _ => by kernel_rfl) (zzFqInv (hm.nb K1.nb) ha0 ha1) (fun _ w2 ⟨u, v, he2, hu, hv, zu, zv, hb2⟩ => ⟨_, he2, K1.go hb2, ?_⟩)
  have K2 := K1.go hb2
  refine k_call (by kernel_rfl) (d := (some 6)) (by kernel_rfl) (f := 64) (args := #[.agg (fps [u, v])]) (v := .agg (fps [(zp a0 * (zp a0 * zp a0 + zp a1 * zp a1).inv).val, (zp a1 * -(zp a0 * zp a0 + zp a1 * zp a1).inv).val])) (fun _ => by kernel_rfl) (lowsZ_c (hm.nb K2.nb) hu hv zu zv) (fun w3 hb3 => ⟨K2.go hb3, ?_⟩)
  have K3 := K2.go hb3
  obtain ⟨T, old, hold, hT⟩ := K3.room _ (List.mem_cons_self ..)
  have KF := K3.put (cs := (fps [(zp a0 * (zp a0 * zp a0 + zp a1 * zp a1).inv).val, (zp a1 * -(zp a0 * zp a0 + zp a1 * zp a1).inv).val])) (by kernel_rfl) (by omega) (neC (by omega) ne0)
  refine k_store (by kernel_rfl) (d := none) (by kernel_rfl) (ty := 40) (x := (.tmp 2)) (y := (.tmp 6)) (by kernel_rfl) (g := w.heap.size + 1) (cells := (fps [(zp a0 * (zp a0 * zp a0 + zp a1 * zp a1).inv).val, (zp a1 * -(zp a0 * zp a0 + zp a1 * zp a1).inv).val])) (by kernel_rfl) (by kernel_rfl) hT (by kernel_rfl) (hold.trans (by kernel_rfl)) (all_fps2 _ _) ⟨KF, ?_⟩
  have hR := setRow_heap _ _ _ (fps [(zp a0 * (zp a0 * zp a0 + zp a1 * zp a1).inv).val, (zp a1 * -(zp a0 * zp a0 + zp a1 * zp a1).inv).val]) _ _ hT
  refine k_end ?_
  have KB := KF.nb
  go_simp
  go_wp2_with fail
  exact bodyPost_ret_by (results_cell_row rfl _ _ (w.heap.size + 1) _ (fps [(zp a0 * (zp a0 * zp a0 + zp a1 * zp a1).inv).val, (zp a1 * -(zp a0 * zp a0 + zp a1 * zp a1).inv).val]) _ _ rfl hR Tryd.underlying40 rfl (by kernel_rfl)) rfl ⟨rfl, KB⟩

end
end Go.Proofs.YtpogbljoohdehaaDoor
