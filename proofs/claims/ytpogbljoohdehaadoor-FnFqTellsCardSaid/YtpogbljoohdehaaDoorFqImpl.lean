/- The exported functions of the square field, over values: sums, differences, products, squares, opposites. Elements below 2^127; the package's variable modulusP holds the prime. -/
import Derived.Test.YtpogbljoohdehaaDoorFqG
import Derived.Test.YtpogbljoohdehaaDoorSpecQ
namespace Go.FourQ
open Go.RowKit
/-- A pair is handed back, by some bytes of it. -/
def RetQ (x y : Zp) (w : World) (e : Ending) (w' : World) : Prop := ∃ u v, e = .returned (.agg (fps [u, v])) ∧ LowB u ∧ LowB v ∧ zp u = x ∧ zp v = y ∧ Below w.heap.size w w'
theorem two_list {l : List Nat} {x y : Zp} (h : l.map zp = [x, y]) : ∃ u v, l = [u, v] ∧ zp u = x ∧ zp v = y := by
  cases l with
  | nil => cases h
  | cons u l =>
    cases l with
    | nil => simp at h
    | cons v l =>
      cases l with
      | nil => simp at h; exact ⟨u, v, rfl, h⟩
      | cons _ _ => simp at h
theorem all2L {a b : Nat} (ha : LowB a) (hb : LowB b) : ∀ v ∈ [a, b], LowB v := fun v hv => by
  simp only [List.mem_cons, List.not_mem_nil, or_false] at hv
  rcases hv with rfl | rfl
  · exact ha
  · exact hb
theorem FpsZ.pair {w : World} {b : Nat} {x y : Zp} (h : FpsZ w b [x, y]) : AtQ w b 0 x y := ⟨h.atK (k := 0) rfl rfl, h.atK (k := 1) rfl rfl⟩
theorem FpsZ.two {w : World} {b u v : Nat} (h : Fps w b [u, v]) (hu : LowB u) (hv : LowB v) : FpsZ w b [zp u, zp v] := FpsZ.ofFps h (all2L hu hv)
theorem zero_fps2 : fps [0, 0] = #[.int .u8 0, .int .u8 0, .int .u8 0, .int .u8 0, .int .u8 0, .int .u8 0, .int .u8 0, .int .u8 0, .int .u8 0, .int .u8 0, .int .u8 0, .int .u8 0, .int .u8 0, .int .u8 0, .int .u8 0, .int .u8 0, .int .u8 0, .int .u8 0, .int .u8 0, .int .u8 0, .int .u8 0, .int .u8 0, .int .u8 0, .int .u8 0, .int .u8 0, .int .u8 0, .int .u8 0, .int .u8 0, .int .u8 0, .int .u8 0, .int .u8 0, .int .u8 0] := by rfl
end Go.FourQ
namespace Go.Proofs.YtpogbljoohdehaaDoor
open Go.RowKit Go.FourQ

theorem lowsZ_c {w : World} {u v : Nat} {x y : Zp} (hm : ModW w) (hu : LowB u) (hv : LowB v) (hx : zp u = x) (hy : zp v = y) :
    Calls Tryd.prog 64 #[.agg (fps [u, v])] w fun e w' => e = .returned (.agg (fps [x.val, y.val])) ∧ Below w.heap.size w w' := by
  subst hx hy
  exact lows_c hm hu hv

section
variable {w : World} {a0 a1 c0 c1 : Nat}

set_option maxRecDepth 100000 in
set_option maxHeartbeats 400000 in
theorem zzFqAdd (ha0 : LowB a0) (ha1 : LowB a1) (hc0 : LowB c0) (hc1 : LowB c1) : Calls Tryd.prog 74 #[.agg (fps [a0, a1]), .agg (fps [c0, c1])] w (RetQ (zp a0 + zp c0) (zp a1 + zp c1) w) := by
  have HA0 := Lib.hid ha0; have HA1 := Lib.hid ha1; have HC0 := Lib.hid hc0; have HC1 := Lib.hid hc1
  clear ha0 ha1 hc0 hc1
  go_enter Tryd.func74, Tryd.ntmps74
  go_wp2_with fail
  refine (fqAdd (L1 := [0, 0].map zp) (k1 := 0) (FpsZ.ofFps (l := [0, 0]) (Fps.new _ [0, 0] _ _ _ (by simp) zero_fps2.symm) (all2L low_zero low_zero)) (FpsZ.two (((Fps.new w [a0, a1] _ _ _ rfl rfl).alloc _).alloc _) HA0.out HA1.out).pair (FpsZ.two ((Fps.new _ [c0, c1] _ _ _ (by simp) rfl).alloc _) HC0.out HC1.out).pair rfl (by simp) (.inl (by omega)) (.inl (by omega)) rfl rfl).mono ?_
  rintro e w' ⟨rfl, u⟩
  obtain ⟨l, hl, hmap, hlow⟩ := u.blk
  obtain ⟨p, q, rfl, hp, hq⟩ := two_list hmap
  have HL := Lib.hid hl; have HP := Lib.hid hp; have HQ := Lib.hid hq; have HPL := Lib.hid (hlow p (by simp)); have HQL := Lib.hid (hlow q (by simp))
  have HB := Lib.hid (((((Below.refl _ _).alloc (Nat.le_refl _) _).alloc (by simp) _).alloc (by simp; omega) _).trans (u.below (by omega) (by simp; omega)) : Below w.heap.size w w')
  clear u hl hmap hlow hp hq
  go_wp2_with fail
  exact bodyPost_ret_by (results_fps rfl _ (w.heap.size + 1 + 1) [p, q] _ rfl HL.out Tryd.underlying73 rfl (by kernel_rfl)) rfl ⟨p, q, rfl, HPL.out, HQL.out, HP.out, HQ.out, HB.out⟩

set_option maxRecDepth 100000 in
set_option maxHeartbeats 400000 in
theorem zzFqSub (ha0 : LowB a0) (ha1 : LowB a1) (hc0 : LowB c0) (hc1 : LowB c1) : Calls Tryd.prog 75 #[.agg (fps [a0, a1]), .agg (fps [c0, c1])] w (RetQ (zp a0 - zp c0) (zp a1 - zp c1) w) := by
  have HA0 := Lib.hid ha0; have HA1 := Lib.hid ha1; have HC0 := Lib.hid hc0; have HC1 := Lib.hid hc1
  clear ha0 ha1 hc0 hc1
  go_enter Tryd.func75, Tryd.ntmps75
  go_wp2_with fail
  refine (fqSub (L1 := [0, 0].map zp) (k1 := 0) (FpsZ.ofFps (l := [0, 0]) (Fps.new _ [0, 0] _ _ _ (by simp) zero_fps2.symm) (all2L low_zero low_zero)) (FpsZ.two (((Fps.new w [a0, a1] _ _ _ rfl rfl).alloc _).alloc _) HA0.out HA1.out).pair (FpsZ.two ((Fps.new _ [c0, c1] _ _ _ (by simp) rfl).alloc _) HC0.out HC1.out).pair rfl (by simp) (.inl (by omega)) (.inl (by omega)) rfl rfl).mono ?_
  rintro e w' ⟨rfl, u⟩
  obtain ⟨l, hl, hmap, hlow⟩ := u.blk
  obtain ⟨p, q, rfl, hp, hq⟩ := two_list hmap
  have HL := Lib.hid hl; have HP := Lib.hid hp; have HQ := Lib.hid hq; have HPL := Lib.hid (hlow p (by simp)); have HQL := Lib.hid (hlow q (by simp))
  have HB := Lib.hid (((((Below.refl _ _).alloc (Nat.le_refl _) _).alloc (by simp) _).alloc (by simp; omega) _).trans (u.below (by omega) (by simp; omega)) : Below w.heap.size w w')
  clear u hl hmap hlow hp hq
  go_wp2_with fail
  exact bodyPost_ret_by (results_fps rfl _ (w.heap.size + 1 + 1) [p, q] _ rfl HL.out Tryd.underlying73 rfl (by kernel_rfl)) rfl ⟨p, q, rfl, HPL.out, HQL.out, HP.out, HQ.out, HB.out⟩

set_option maxRecDepth 100000 in
set_option maxHeartbeats 400000 in
theorem zzFqMul (ha0 : LowB a0) (ha1 : LowB a1) (hc0 : LowB c0) (hc1 : LowB c1) : Calls Tryd.prog 76 #[.agg (fps [a0, a1]), .agg (fps [c0, c1])] w (RetQ (zp a0 * zp c0 - zp a1 * zp c1) (zp a0 * zp c1 + zp a1 * zp c0) w) := by
  have HA0 := Lib.hid ha0; have HA1 := Lib.hid ha1; have HC0 := Lib.hid hc0; have HC1 := Lib.hid hc1
  clear ha0 ha1 hc0 hc1
  go_enter Tryd.func76, Tryd.ntmps76
  go_wp2_with fail
  refine (fqMul (L1 := [0, 0].map zp) (k1 := 0) (FpsZ.ofFps (l := [0, 0]) (Fps.new _ [0, 0] _ _ _ (by simp) zero_fps2.symm) (all2L low_zero low_zero)) (FpsZ.two (((Fps.new w [a0, a1] _ _ _ rfl rfl).alloc _).alloc _) HA0.out HA1.out).pair (FpsZ.two ((Fps.new _ [c0, c1] _ _ _ (by simp) rfl).alloc _) HC0.out HC1.out).pair rfl (by simp) rfl rfl).mono ?_
  rintro e w' ⟨rfl, u⟩
  obtain ⟨l, hl, hmap, hlow⟩ := u.blk
  obtain ⟨p, q, rfl, hp, hq⟩ := two_list hmap
  have HL := Lib.hid hl; have HP := Lib.hid hp; have HQ := Lib.hid hq; have HPL := Lib.hid (hlow p (by simp)); have HQL := Lib.hid (hlow q (by simp))
  have HB := Lib.hid (((((Below.refl _ _).alloc (Nat.le_refl _) _).alloc (by simp) _).alloc (by simp; omega) _).trans (u.below (by omega) (by simp; omega)) : Below w.heap.size w w')
  clear u hl hmap hlow hp hq
  go_wp2_with fail
  exact bodyPost_ret_by (results_fps rfl _ (w.heap.size + 1 + 1) [p, q] _ rfl HL.out Tryd.underlying73 rfl (by kernel_rfl)) rfl ⟨p, q, rfl, HPL.out, HQL.out, HP.out, HQ.out, HB.out⟩

set_option maxRecDepth 100000 in
set_option maxHeartbeats 400000 in
theorem zzFqNeg (hm : ModW w) (ha0 : LowB a0) (ha1 : LowB a1) : Calls Tryd.prog 65 #[.agg (fps [a0, a1])] w (RetQ (-zp a0) (-zp a1) w) := by
  have HA0 := Lib.hid ha0; have HA1 := Lib.hid ha1; have HM := Lib.hid hm
  clear ha0 ha1 hm
  go_enter Tryd.func65, Tryd.ntmps65
  go_wp2_with fail
  refine (fqNeg (HM.out.alloc _ |>.alloc _) (Nat.lt_succ_of_lt HM.out.lt) (L1 := [0, 0].map zp) (k1 := 0) (FpsZ.ofFps (l := [0, 0]) (Fps.new _ [0, 0] _ _ _ (by simp) zero_fps2.symm) (all2L low_zero low_zero)) (FpsZ.two ((Fps.new w [a0, a1] _ _ _ rfl rfl).alloc _) HA0.out HA1.out).pair rfl (by simp) (.inl (by omega)) rfl rfl).mono ?_
  rintro e w' ⟨rfl, u⟩
  obtain ⟨l, hl, hmap, hlow⟩ := u.blk
  obtain ⟨p, q, rfl, hp, hq⟩ := two_list hmap
  have HL := Lib.hid hl; have HP := Lib.hid hp; have HQ := Lib.hid hq; have HPL := Lib.hid (hlow p (by simp)); have HQL := Lib.hid (hlow q (by simp))
  have HB := Lib.hid (((((Below.refl _ _).alloc (Nat.le_refl _) _).alloc (by simp) _)).trans (u.below (by omega) (by simp; omega)) : Below w.heap.size w w')
  clear u hl hmap hlow hp hq
  go_wp2_with fail
  exact bodyPost_ret_by (results_fps rfl _ (w.heap.size + 1) [p, q] _ rfl HL.out Tryd.underlying73 rfl (by kernel_rfl)) rfl ⟨p, q, rfl, HPL.out, HQL.out, HP.out, HQ.out, HB.out⟩

set_option maxRecDepth 100000 in
set_option maxHeartbeats 400000 in
theorem zzFqSqr (ha0 : LowB a0) (ha1 : LowB a1) : Calls Tryd.prog 77 #[.agg (fps [a0, a1])] w (RetQ (zp a0 * zp a0 - zp a1 * zp a1) (zp a0 * zp a1 + zp a0 * zp a1) w) := by
  have HA0 := Lib.hid ha0; have HA1 := Lib.hid ha1
  clear ha0 ha1
  go_enter Tryd.func77, Tryd.ntmps77
  go_wp2_with fail
  refine (fqSqr (L1 := [0, 0].map zp) (k1 := 0) (FpsZ.ofFps (l := [0, 0]) (Fps.new _ [0, 0] _ _ _ (by simp) zero_fps2.symm) (all2L low_zero low_zero)) (FpsZ.two ((Fps.new w [a0, a1] _ _ _ rfl rfl).alloc _) HA0.out HA1.out).pair rfl (by simp) rfl rfl).mono ?_
  rintro e w' ⟨rfl, u⟩
  obtain ⟨l, hl, hmap, hlow⟩ := u.blk
  obtain ⟨p, q, rfl, hp, hq⟩ := two_list hmap
  have HL := Lib.hid hl; have HP := Lib.hid hp; have HQ := Lib.hid hq; have HPL := Lib.hid (hlow p (by simp)); have HQL := Lib.hid (hlow q (by simp))
  have HB := Lib.hid (((((Below.refl _ _).alloc (Nat.le_refl _) _).alloc (by simp) _)).trans (u.below (by omega) (by simp; omega)) : Below w.heap.size w w')
  clear u hl hmap hlow hp hq
  go_wp2_with fail
  exact bodyPost_ret_by (results_fps rfl _ (w.heap.size + 1) [p, q] _ rfl HL.out Tryd.underlying73 rfl (by kernel_rfl)) rfl ⟨p, q, rfl, HPL.out, HQL.out, HP.out, HQ.out, HB.out⟩

set_option maxRecDepth 100000 in
set_option maxHeartbeats 1000000 in
theorem implFqAdd {w : World} {a0 a1 c0 c1 : Nat} (hm : ModW w) (ha0 : LowB a0) (ha1 : LowB a1) (hc0 : LowB c0) (hc1 : LowB c1) :
    Calls Tryd.prog 37 #[.agg (fps [a0, a1]), .agg (fps [c0, c1])] w fun e w' => e = .returned (.agg (fps [(zp a0 + zp c0).val, (zp a1 + zp c1).val])) ∧ Below w.heap.size w w' := by
  go_enter Tryd.func37, Tryd.ntmps37
  go_upto_region 1 with (fail)
  have K0 : Kept w [(w.heap.size, (fps [a0, a1])), (w.heap.size + 1, (fps [c0, c1]))] [(w.heap.size + 1 + 1, 32)] (((w.alloc (.cells (fps [a0, a1]) 40)).alloc (.cells (fps [c0, c1]) 40)).alloc (.cells #[.int .u8 0, .int .u8 0, .int .u8 0, .int .u8 0, .int .u8 0, .int .u8 0, .int .u8 0, .int .u8 0, .int .u8 0, .int .u8 0, .int .u8 0, .int .u8 0, .int .u8 0, .int .u8 0, .int .u8 0, .int .u8 0, .int .u8 0, .int .u8 0, .int .u8 0, .int .u8 0, .int .u8 0, .int .u8 0, .int .u8 0, .int .u8 0, .int .u8 0, .int .u8 0, .int .u8 0, .int .u8 0, .int .u8 0, .int .u8 0, .int .u8 0, .int .u8 0] 40)) := Kept.one (nb_alloc (nb_alloc (nb_alloc (Below.refl _ _) _) _) _) (rowsC ⟨_, hp3_0 (w := w) (.cells (fps [a0, a1]) 40) (.cells (fps [c0, c1]) 40) (.cells #[.int .u8 0, .int .u8 0, .int .u8 0, .int .u8 0, .int .u8 0, .int .u8 0, .int .u8 0, .int .u8 0, .int .u8 0, .int .u8 0, .int .u8 0, .int .u8 0, .int .u8 0, .int .u8 0, .int .u8 0, .int .u8 0, .int .u8 0, .int .u8 0, .int .u8 0, .int .u8 0, .int .u8 0, .int .u8 0, .int .u8 0, .int .u8 0, .int .u8 0, .int .u8 0, .int .u8 0, .int .u8 0, .int .u8 0, .int .u8 0, .int .u8 0, .int .u8 0] 40)⟩ (rowsC ⟨_, hp3_1 (w := w) (.cells (fps [a0, a1]) 40) (.cells (fps [c0, c1]) 40) (.cells #[.int .u8 0, .int .u8 0, .int .u8 0, .int .u8 0, .int .u8 0, .int .u8 0, .int .u8 0, .int .u8 0, .int .u8 0, .int .u8 0, .int .u8 0, .int .u8 0, .int .u8 0, .int .u8 0, .int .u8 0, .int .u8 0, .int .u8 0, .int .u8 0, .int .u8 0, .int .u8 0, .int .u8 0, .int .u8 0, .int .u8 0, .int .u8 0, .int .u8 0, .int .u8 0, .int .u8 0, .int .u8 0, .int .u8 0, .int .u8 0, .int .u8 0, .int .u8 0] 40)⟩ rows0)) rfl (hp3_2 (w := w) (.cells (fps [a0, a1]) 40) (.cells (fps [c0, c1]) 40) (.cells #[.int .u8 0, .int .u8 0, .int .u8 0, .int .u8 0, .int .u8 0, .int .u8 0, .int .u8 0, .int .u8 0, .int .u8 0, .int .u8 0, .int .u8 0, .int .u8 0, .int .u8 0, .int .u8 0, .int .u8 0, .int .u8 0, .int .u8 0, .int .u8 0, .int .u8 0, .int .u8 0, .int .u8 0, .int .u8 0, .int .u8 0, .int .u8 0, .int .u8 0, .int .u8 0, .int .u8 0, .int .u8 0, .int .u8 0, .int .u8 0, .int .u8 0, .int .u8 0] 40))
  obtain ⟨W0, hW⟩ : ∃ W0 : World, W0 = (((w.alloc (.cells (fps [a0, a1]) 40)).alloc (.cells (fps [c0, c1]) 40)).alloc (.cells #[.int .u8 0, .int .u8 0, .int .u8 0, .int .u8 0, .int .u8 0, .int .u8 0, .int .u8 0, .int .u8 0, .int .u8 0, .int .u8 0, .int .u8 0, .int .u8 0, .int .u8 0, .int .u8 0, .int .u8 0, .int .u8 0, .int .u8 0, .int .u8 0, .int .u8 0, .int .u8 0, .int .u8 0, .int .u8 0, .int .u8 0, .int .u8 0, .int .u8 0, .int .u8 0, .int .u8 0, .int .u8 0, .int .u8 0, .int .u8 0, .int .u8 0, .int .u8 0] 40)) := ⟨_, rfl⟩
  rw [← hW] at K0 ⊢
  clear hW
  refine wp_region_atS (opsAt Tryd.f37 1) ((true, 0) :: (true, 2) :: (false, 1) :: (false, 3) :: (false, 4) :: (false, 5) :: (false, 6) :: []) (Kept w [(w.heap.size, (fps [a0, a1])), (w.heap.size + 1, (fps [c0, c1]))] [(w.heap.size + 1 + 1, 32)]) (by kernel_rfl) rfl (by kernel_rfl) (fun _ _ d _ _ h => by cases d <;> exact h) (by kernel_rfl) (by kernel_rfl) K0.drew ?_
  have K0d := K0.drew
  refine k_row (by kernel_rfl) (d := (some 5)) (by kernel_rfl) (ty := 40) (x := (.tmp 2)) (by kernel_rfl) (b := w.heap.size) (by kernel_rfl) (cs := (fps [a0, a1])) (fun _ hs => hs.at 0 rfl) Tryd.underlying40 rfl (by kernel_rfl) ?_
  refine k_row (by kernel_rfl) (d := (some 7)) (by kernel_rfl) (ty := 40) (x := (.tmp 3)) (by kernel_rfl) (b := w.heap.size + 1) (by kernel_rfl) (cs := (fps [c0, c1])) (fun _ hs => hs.at 1 rfl) Tryd.underlying40 rfl (by kernel_rfl) ?_
  refine k_call (by kernel_rfl) (d := (some 6)) (by kernel_rfl) (f := 62) (args := #[.agg (fps [a0, a1])]) (v := .agg (fps [a0, a1])) (fun _ => by kernel_rfl) (both_c) (fun w1 hb1 => ⟨K0d.go hb1, ?_⟩)
  have K1 := K0d.go hb1
  refine k_call (by kernel_rfl) (d := (some 8)) (by kernel_rfl) (f := 62) (args := #[.agg (fps [c0, c1])]) (v := .agg (fps [c0, c1])) (fun _ => by kernel_rfl) (both_c) (fun w2 hb2 => ⟨K1.go hb2, ?_⟩)
  have K2 := K1.go hb2
  refine k_callR (by kernel_rfl) (d := (some 9)) (by kernel_rfl) (f := 74) (args := #[.agg (fps [a0, a1]), .agg (fps [c0, c1])]) (fun _ => by kernel_rfl) (zzFqAdd ha0 ha1 hc0 hc1) (fun _ w3 ⟨u, v, he3, hu, hv, zu, zv, hb3⟩ => ⟨_, he3, K2.go hb3, ?_⟩)
  have K3 := K2.go hb3
  refine k_call (by kernel_rfl) (d := (some 10)) (by kernel_rfl) (f := 64) (args := #[.agg (fps [u, v])]) (v := .agg (fps [(zp a0 + zp c0).val, (zp a1 + zp c1).val])) (fun _ => by kernel_rfl) (lowsZ_c (hm.nb K3.nb) hu hv zu zv) (fun w4 hb4 => ⟨K3.go hb4, ?_⟩)
  have K4 := K3.go hb4
  obtain ⟨T, old, hold, hT⟩ := K4.room _ (List.mem_cons_self ..)
  have KF := K4.put (cs := (fps [(zp a0 + zp c0).val, (zp a1 + zp c1).val])) (by kernel_rfl) (by omega) (neC (by omega) (neC (by omega) ne0))
  refine k_store (by kernel_rfl) (d := none) (by kernel_rfl) (ty := 40) (x := (.tmp 4)) (y := (.tmp 10)) (by kernel_rfl) (g := w.heap.size + 1 + 1) (cells := (fps [(zp a0 + zp c0).val, (zp a1 + zp c1).val])) (by kernel_rfl) (by kernel_rfl) hT (by kernel_rfl) (hold.trans (by kernel_rfl)) (all_fps2 _ _) ⟨KF, ?_⟩
  have hR := setRow_heap _ _ _ (fps [(zp a0 + zp c0).val, (zp a1 + zp c1).val]) _ _ hT
  refine k_end ?_
  have KB := KF.nb
  go_simp
  go_wp2_with fail
  exact bodyPost_ret_by (results_cell_row rfl _ _ (w.heap.size + 1 + 1) _ (fps [(zp a0 + zp c0).val, (zp a1 + zp c1).val]) _ _ rfl hR Tryd.underlying40 rfl (by kernel_rfl)) rfl ⟨rfl, KB⟩

set_option maxRecDepth 100000 in
set_option maxHeartbeats 1000000 in
theorem implFqSub {w : World} {a0 a1 c0 c1 : Nat} (hm : ModW w) (ha0 : LowB a0) (ha1 : LowB a1) (hc0 : LowB c0) (hc1 : LowB c1) :
    Calls Tryd.prog 39 #[.agg (fps [a0, a1]), .agg (fps [c0, c1])] w fun e w' => e = .returned (.agg (fps [(zp a0 - zp c0).val, (zp a1 - zp c1).val])) ∧ Below w.heap.size w w' := by
  go_enter Tryd.func39, Tryd.ntmps39
  go_upto_region 1 with (fail)
  have K0 : Kept w [(w.heap.size, (fps [a0, a1])), (w.heap.size + 1, (fps [c0, c1]))] [(w.heap.size + 1 + 1, 32)] (((w.alloc (.cells (fps [a0, a1]) 40)).alloc (.cells (fps [c0, c1]) 40)).alloc (.cells #[.int .u8 0, .int .u8 0, .int .u8 0, .int .u8 0, .int .u8 0, .int .u8 0, .int .u8 0, .int .u8 0, .int .u8 0, .int .u8 0, .int .u8 0, .int .u8 0, .int .u8 0, .int .u8 0, .int .u8 0, .int .u8 0, .int .u8 0, .int .u8 0, .int .u8 0, .int .u8 0, .int .u8 0, .int .u8 0, .int .u8 0, .int .u8 0, .int .u8 0, .int .u8 0, .int .u8 0, .int .u8 0, .int .u8 0, .int .u8 0, .int .u8 0, .int .u8 0] 40)) := Kept.one (nb_alloc (nb_alloc (nb_alloc (Below.refl _ _) _) _) _) (rowsC ⟨_, hp3_0 (w := w) (.cells (fps [a0, a1]) 40) (.cells (fps [c0, c1]) 40) (.cells #[.int .u8 0, .int .u8 0, .int .u8 0, .int .u8 0, .int .u8 0, .int .u8 0, .int .u8 0, .int .u8 0, .int .u8 0, .int .u8 0, .int .u8 0, .int .u8 0, .int .u8 0, .int .u8 0, .int .u8 0, .int .u8 0, .int .u8 0, .int .u8 0, .int .u8 0, .int .u8 0, .int .u8 0, .int .u8 0, .int .u8 0, .int .u8 0, .int .u8 0, .int .u8 0, .int .u8 0, .int .u8 0, .int .u8 0, .int .u8 0, .int .u8 0, .int .u8 0] 40)⟩ (rowsC ⟨_, hp3_1 (w := w) (.cells (fps [a0, a1]) 40) (.cells (fps [c0, c1]) 40) (.cells #[.int .u8 0, .int .u8 0, .int .u8 0, .int .u8 0, .int .u8 0, .int .u8 0, .int .u8 0, .int .u8 0, .int .u8 0, .int .u8 0, .int .u8 0, .int .u8 0, .int .u8 0, .int .u8 0, .int .u8 0, .int .u8 0, .int .u8 0, .int .u8 0, .int .u8 0, .int .u8 0, .int .u8 0, .int .u8 0, .int .u8 0, .int .u8 0, .int .u8 0, .int .u8 0, .int .u8 0, .int .u8 0, .int .u8 0, .int .u8 0, .int .u8 0, .int .u8 0] 40)⟩ rows0)) rfl (hp3_2 (w := w) (.cells (fps [a0, a1]) 40) (.cells (fps [c0, c1]) 40) (.cells #[.int .u8 0, .int .u8 0, .int .u8 0, .int .u8 0, .int .u8 0, .int .u8 0, .int .u8 0, .int .u8 0, .int .u8 0, .int .u8 0, .int .u8 0, .int .u8 0, .int .u8 0, .int .u8 0, .int .u8 0, .int .u8 0, .int .u8 0, .int .u8 0, .int .u8 0, .int .u8 0, .int .u8 0, .int .u8 0, .int .u8 0, .int .u8 0, .int .u8 0, .int .u8 0, .int .u8 0, .int .u8 0, .int .u8 0, .int .u8 0, .int .u8 0, .int .u8 0] 40))
  obtain ⟨W0, hW⟩ : ∃ W0 : World, W0 = (((w.alloc (.cells (fps [a0, a1]) 40)).alloc (.cells (fps [c0, c1]) 40)).alloc (.cells #[.int .u8 0, .int .u8 0, .int .u8 0, .int .u8 0, .int .u8 0, .int .u8 0, .int .u8 0, .int .u8 0, .int .u8 0, .int .u8 0, .int .u8 0, .int .u8 0, .int .u8 0, .int .u8 0, .int .u8 0, .int .u8 0, .int .u8 0, .int .u8 0, .int .u8 0, .int .u8 0, .int .u8 0, .int .u8 0, .int .u8 0, .int .u8 0, .int .u8 0, .int .u8 0, .int .u8 0, .int .u8 0, .int .u8 0, .int .u8 0, .int .u8 0, .int .u8 0] 40)) := ⟨_, rfl⟩
  rw [← hW] at K0 ⊢
  clear hW
  refine wp_region_atS (opsAt Tryd.f39 1) ((true, 0) :: (true, 2) :: (false, 1) :: (false, 3) :: (false, 4) :: (false, 5) :: (false, 6) :: []) (Kept w [(w.heap.size, (fps [a0, a1])), (w.heap.size + 1, (fps [c0, c1]))] [(w.heap.size + 1 + 1, 32)]) (by kernel_rfl) rfl (by kernel_rfl) (fun _ _ d _ _ h => by cases d <;> exact h) (by kernel_rfl) (by kernel_rfl) K0.drew ?_
  have K0d := K0.drew
  refine k_row (by kernel_rfl) (d := (some 5)) (by kernel_rfl) (ty := 40) (x := (.tmp 2)) (by kernel_rfl) (b := w.heap.size) (by kernel_rfl) (cs := (fps [a0, a1])) (fun _ hs => hs.at 0 rfl) Tryd.underlying40 rfl (by kernel_rfl) ?_
  refine k_row (by kernel_rfl) (d := (some 7)) (by kernel_rfl) (ty := 40) (x := (.tmp 3)) (by kernel_rfl) (b := w.heap.size + 1) (by kernel_rfl) (cs := (fps [c0, c1])) (fun _ hs => hs.at 1 rfl) Tryd.underlying40 rfl (by kernel_rfl) ?_
  refine k_call (by kernel_rfl) (d := (some 6)) (by kernel_rfl) (f := 62) (args := #[.agg (fps [a0, a1])]) (v := .agg (fps [a0, a1])) (fun _ => by kernel_rfl) (both_c) (fun w1 hb1 => ⟨K0d.go hb1, ?_⟩)
  have K1 := K0d.go hb1
  refine k_call (by kernel_rfl) (d := (some 8)) (by kernel_rfl) (f := 62) (args := #[.agg (fps [c0, c1])]) (v := .agg (fps [c0, c1])) (fun _ => by kernel_rfl) (both_c) (fun w2 hb2 => ⟨K1.go hb2, ?_⟩)
  have K2 := K1.go hb2
  refine k_callR (by kernel_rfl) (d := (some 9)) (by kernel_rfl) (f := 75) (args := #[.agg (fps [a0, a1]), .agg (fps [c0, c1])]) (fun _ => by kernel_rfl) (zzFqSub ha0 ha1 hc0 hc1) (fun _ w3 ⟨u, v, he3, hu, hv, zu, zv, hb3⟩ => ⟨_, he3, K2.go hb3, ?_⟩)
  have K3 := K2.go hb3
  refine k_call (by kernel_rfl) (d := (some 10)) (by kernel_rfl) (f := 64) (args := #[.agg (fps [u, v])]) (v := .agg (fps [(zp a0 - zp c0).val, (zp a1 - zp c1).val])) (fun _ => by kernel_rfl) (lowsZ_c (hm.nb K3.nb) hu hv zu zv) (fun w4 hb4 => ⟨K3.go hb4, ?_⟩)
  have K4 := K3.go hb4
  obtain ⟨T, old, hold, hT⟩ := K4.room _ (List.mem_cons_self ..)
  have KF := K4.put (cs := (fps [(zp a0 - zp c0).val, (zp a1 - zp c1).val])) (by kernel_rfl) (by omega) (neC (by omega) (neC (by omega) ne0))
  refine k_store (by kernel_rfl) (d := none) (by kernel_rfl) (ty := 40) (x := (.tmp 4)) (y := (.tmp 10)) (by kernel_rfl) (g := w.heap.size + 1 + 1) (cells := (fps [(zp a0 - zp c0).val, (zp a1 - zp c1).val])) (by kernel_rfl) (by kernel_rfl) hT (by kernel_rfl) (hold.trans (by kernel_rfl)) (all_fps2 _ _) ⟨KF, ?_⟩
  have hR := setRow_heap _ _ _ (fps [(zp a0 - zp c0).val, (zp a1 - zp c1).val]) _ _ hT
  refine k_end ?_
  have KB := KF.nb
  go_simp
  go_wp2_with fail
  exact bodyPost_ret_by (results_cell_row rfl _ _ (w.heap.size + 1 + 1) _ (fps [(zp a0 - zp c0).val, (zp a1 - zp c1).val]) _ _ rfl hR Tryd.underlying40 rfl (by kernel_rfl)) rfl ⟨rfl, KB⟩

set_option maxRecDepth 100000 in
set_option maxHeartbeats 1000000 in
theorem implFqMul {w : World} {a0 a1 c0 c1 : Nat} (hm : ModW w) (ha0 : LowB a0) (ha1 : LowB a1) (hc0 : LowB c0) (hc1 : LowB c1) :
    Calls Tryd.prog 41 #[.agg (fps [a0, a1]), .agg (fps [c0, c1])] w fun e w' => e = .returned (.agg (fps [(zp a0 * zp c0 - zp a1 * zp c1).val, (zp a0 * zp c1 + zp a1 * zp c0).val])) ∧ Below w.heap.size w w' := by
  go_enter Tryd.func41, Tryd.ntmps41
  go_upto_region 1 with (fail)
  have K0 : Kept w [(w.heap.size, (fps [a0, a1])), (w.heap.size + 1, (fps [c0, c1]))] [(w.heap.size + 1 + 1, 32)] (((w.alloc (.cells (fps [a0, a1]) 40)).alloc (.cells (fps [c0, c1]) 40)).alloc (.cells #[.int .u8 0, .int .u8 0, .int .u8 0, .int .u8 0, .int .u8 0, .int .u8 0, .int .u8 0, .int .u8 0, .int .u8 0, .int .u8 0, .int .u8 0, .int .u8 0, .int .u8 0, .int .u8 0, .int .u8 0, .int .u8 0, .int .u8 0, .int .u8 0, .int .u8 0, .int .u8 0, .int .u8 0, .int .u8 0, .int .u8 0, .int .u8 0, .int .u8 0, .int .u8 0, .int .u8 0, .int .u8 0, .int .u8 0, .int .u8 0, .int .u8 0, .int .u8 0] 40)) := Kept.one (nb_alloc (nb_alloc (nb_alloc (Below.refl _ _) _) _) _) (rowsC ⟨_, hp3_0 (w := w) (.cells (fps [a0, a1]) 40) (.cells (fps [c0, c1]) 40) (.cells #[.int .u8 0, .int .u8 0, .int .u8 0, .int .u8 0, .int .u8 0, .int .u8 0, .int .u8 0, .int .u8 0, .int .u8 0, .int .u8 0, .int .u8 0, .int .u8 0, .int .u8 0, .int .u8 0, .int .u8 0, .int .u8 0, .int .u8 0, .int .u8 0, .int .u8 0, .int .u8 0, .int .u8 0, .int .u8 0, .int .u8 0, .int .u8 0, .int .u8 0, .int .u8 0, .int .u8 0, .int .u8 0, .int .u8 0, .int .u8 0, .int .u8 0, .int .u8 0] 40)⟩ (rowsC ⟨_, hp3_1 (w := w) (.cells (fps [a0, a1]) 40) (.cells (fps [c0, c1]) 40) (.cells #[.int .u8 0, .int .u8 0, .int .u8 0, .int .u8 0, .int .u8 0, .int .u8 0, .int .u8 0, .int .u8 0, .int .u8 0, .int .u8 0, .int .u8 0, .int .u8 0, .int .u8 0, .int .u8 0, .int .u8 0, .int .u8 0, .int .u8 0, .int .u8 0, .int .u8 0, .int .u8 0, .int .u8 0, .int .u8 0, .int .u8 0, .int .u8 0, .int .u8 0, .int .u8 0, .int .u8 0, .int .u8 0, .int .u8 0, .int .u8 0, .int .u8 0, .int .u8 0] 40)⟩ rows0)) rfl (hp3_2 (w := w) (.cells (fps [a0, a1]) 40) (.cells (fps [c0, c1]) 40) (.cells #[.int .u8 0, .int .u8 0, .int .u8 0, .int .u8 0, .int .u8 0, .int .u8 0, .int .u8 0, .int .u8 0, .int .u8 0, .int .u8 0, .int .u8 0, .int .u8 0, .int .u8 0, .int .u8 0, .int .u8 0, .int .u8 0, .int .u8 0, .int .u8 0, .int .u8 0, .int .u8 0, .int .u8 0, .int .u8 0, .int .u8 0, .int .u8 0, .int .u8 0, .int .u8 0, .int .u8 0, .int .u8 0, .int .u8 0, .int .u8 0, .int .u8 0, .int .u8 0] 40))
  obtain ⟨W0, hW⟩ : ∃ W0 : World, W0 = (((w.alloc (.cells (fps [a0, a1]) 40)).alloc (.cells (fps [c0, c1]) 40)).alloc (.cells #[.int .u8 0, .int .u8 0, .int .u8 0, .int .u8 0, .int .u8 0, .int .u8 0, .int .u8 0, .int .u8 0, .int .u8 0, .int .u8 0, .int .u8 0, .int .u8 0, .int .u8 0, .int .u8 0, .int .u8 0, .int .u8 0, .int .u8 0, .int .u8 0, .int .u8 0, .int .u8 0, .int .u8 0, .int .u8 0, .int .u8 0, .int .u8 0, .int .u8 0, .int .u8 0, .int .u8 0, .int .u8 0, .int .u8 0, .int .u8 0, .int .u8 0, .int .u8 0] 40)) := ⟨_, rfl⟩
  rw [← hW] at K0 ⊢
  clear hW
  refine wp_region_atS (opsAt Tryd.f41 1) ((true, 0) :: (true, 2) :: (false, 1) :: (false, 3) :: (false, 4) :: (false, 5) :: (false, 6) :: []) (Kept w [(w.heap.size, (fps [a0, a1])), (w.heap.size + 1, (fps [c0, c1]))] [(w.heap.size + 1 + 1, 32)]) (by kernel_rfl) rfl (by kernel_rfl) (fun _ _ d _ _ h => by cases d <;> exact h) (by kernel_rfl) (by kernel_rfl) K0.drew ?_
  have K0d := K0.drew
  refine k_row (by kernel_rfl) (d := (some 5)) (by kernel_rfl) (ty := 40) (x := (.tmp 2)) (by kernel_rfl) (b := w.heap.size) (by kernel_rfl) (cs := (fps [a0, a1])) (fun _ hs => hs.at 0 rfl) Tryd.underlying40 rfl (by kernel_rfl) ?_
  refine k_row (by kernel_rfl) (d := (some 7)) (by kernel_rfl) (ty := 40) (x := (.tmp 3)) (by kernel_rfl) (b := w.heap.size + 1) (by kernel_rfl) (cs := (fps [c0, c1])) (fun _ hs => hs.at 1 rfl) Tryd.underlying40 rfl (by kernel_rfl) ?_
  refine k_call (by kernel_rfl) (d := (some 6)) (by kernel_rfl) (f := 62) (args := #[.agg (fps [a0, a1])]) (v := .agg (fps [a0, a1])) (fun _ => by kernel_rfl) (both_c) (fun w1 hb1 => ⟨K0d.go hb1, ?_⟩)
  have K1 := K0d.go hb1
  refine k_call (by kernel_rfl) (d := (some 8)) (by kernel_rfl) (f := 62) (args := #[.agg (fps [c0, c1])]) (v := .agg (fps [c0, c1])) (fun _ => by kernel_rfl) (both_c) (fun w2 hb2 => ⟨K1.go hb2, ?_⟩)
  have K2 := K1.go hb2
  refine k_callR (by kernel_rfl) (d := (some 9)) (by kernel_rfl) (f := 76) (args := #[.agg (fps [a0, a1]), .agg (fps [c0, c1])]) (fun _ => by kernel_rfl) (zzFqMul ha0 ha1 hc0 hc1) (fun _ w3 ⟨u, v, he3, hu, hv, zu, zv, hb3⟩ => ⟨_, he3, K2.go hb3, ?_⟩)
  have K3 := K2.go hb3
  refine k_call (by kernel_rfl) (d := (some 10)) (by kernel_rfl) (f := 64) (args := #[.agg (fps [u, v])]) (v := .agg (fps [(zp a0 * zp c0 - zp a1 * zp c1).val, (zp a0 * zp c1 + zp a1 * zp c0).val])) (fun _ => by kernel_rfl) (lowsZ_c (hm.nb K3.nb) hu hv zu zv) (fun w4 hb4 => ⟨K3.go hb4, ?_⟩)
  have K4 := K3.go hb4
  obtain ⟨T, old, hold, hT⟩ := K4.room _ (List.mem_cons_self ..)
  have KF := K4.put (cs := (fps [(zp a0 * zp c0 - zp a1 * zp c1).val, (zp a0 * zp c1 + zp a1 * zp c0).val])) (by kernel_rfl) (by omega) (neC (by omega) (neC (by omega) ne0))
  refine k_store (by kernel_rfl) (d := none) (by kernel_rfl) (ty := 40) (x := (.tmp 4)) (y := (.tmp 10)) (by kernel_rfl) (g := w.heap.size + 1 + 1) (cells := (fps [(zp a0 * zp c0 - zp a1 * zp c1).val, (zp a0 * zp c1 + zp a1 * zp c0).val])) (by kernel_rfl) (by kernel_rfl) hT (by kernel_rfl) (hold.trans (by kernel_rfl)) (all_fps2 _ _) ⟨KF, ?_⟩
  have hR := setRow_heap _ _ _ (fps [(zp a0 * zp c0 - zp a1 * zp c1).val, (zp a0 * zp c1 + zp a1 * zp c0).val]) _ _ hT
  refine k_end ?_
  have KB := KF.nb
  go_simp
  go_wp2_with fail
  exact bodyPost_ret_by (results_cell_row rfl _ _ (w.heap.size + 1 + 1) _ (fps [(zp a0 * zp c0 - zp a1 * zp c1).val, (zp a0 * zp c1 + zp a1 * zp c0).val]) _ _ rfl hR Tryd.underlying40 rfl (by kernel_rfl)) rfl ⟨rfl, KB⟩

set_option maxRecDepth 100000 in
set_option maxHeartbeats 1000000 in
theorem implFqNeg {w : World} {a0 a1 : Nat} (hm : ModW w) (ha0 : LowB a0) (ha1 : LowB a1) :
    Calls Tryd.prog 24 #[.agg (fps [a0, a1])] w fun e w' => e = .returned (.agg (fps [(-zp a0).val, (-zp a1).val])) ∧ Below w.heap.size w w' := by
  go_enter Tryd.func24, Tryd.ntmps24
  go_upto_region 1 with (fail)
  have K0 : Kept w [(w.heap.size, (fps [a0, a1]))] [(w.heap.size + 1, 32)] ((w.alloc (.cells (fps [a0, a1]) 40)).alloc (.cells #[.int .u8 0, .int .u8 0, .int .u8 0, .int .u8 0, .int .u8 0, .int .u8 0, .int .u8 0, .int .u8 0, .int .u8 0, .int .u8 0, .int .u8 0, .int .u8 0, .int .u8 0, .int .u8 0, .int .u8 0, .int .u8 0, .int .u8 0, .int .u8 0, .int .u8 0, .int .u8 0, .int .u8 0, .int .u8 0, .int .u8 0, .int .u8 0, .int .u8 0, .int .u8 0, .int .u8 0, .int .u8 0, .int .u8 0, .int .u8 0, .int .u8 0, .int .u8 0] 40)) := Kept.one (nb_alloc (nb_alloc (Below.refl _ _) _) _) (rowsC ⟨_, hp2_0 (w := w) (.cells (fps [a0, a1]) 40) (.cells #[.int .u8 0, .int .u8 0, .int .u8 0, .int .u8 0, .int .u8 0, .int .u8 0, .int .u8 0, .int .u8 0, .int .u8 0, .int .u8 0, .int .u8 0, .int .u8 0, .int .u8 0, .int .u8 0, .int .u8 0, .int .u8 0, .int .u8 0, .int .u8 0, .int .u8 0, .int .u8 0, .int .u8 0, .int .u8 0, .int .u8 0, .int .u8 0, .int .u8 0, .int .u8 0, .int .u8 0, .int .u8 0, .int .u8 0, .int .u8 0, .int .u8 0, .int .u8 0] 40)⟩ rows0) rfl (hp2_1 (w := w) (.cells (fps [a0, a1]) 40) (.cells #[.int .u8 0, .int .u8 0, .int .u8 0, .int .u8 0, .int .u8 0, .int .u8 0, .int .u8 0, .int .u8 0, .int .u8 0, .int .u8 0, .int .u8 0, .int .u8 0, .int .u8 0, .int .u8 0, .int .u8 0, .int .u8 0, .int .u8 0, .int .u8 0, .int .u8 0, .int .u8 0, .int .u8 0, .int .u8 0, .int .u8 0, .int .u8 0, .int .u8 0, .int .u8 0, .int .u8 0, .int .u8 0, .int .u8 0, .int .u8 0, .int .u8 0, .int .u8 0] 40))
  obtain ⟨W0, hW⟩ : ∃ W0 : World, W0 = ((w.alloc (.cells (fps [a0, a1]) 40)).alloc (.cells #[.int .u8 0, .int .u8 0, .int .u8 0, .int .u8 0, .int .u8 0, .int .u8 0, .int .u8 0, .int .u8 0, .int .u8 0, .int .u8 0, .int .u8 0, .int .u8 0, .int .u8 0, .int .u8 0, .int .u8 0, .int .u8 0, .int .u8 0, .int .u8 0, .int .u8 0, .int .u8 0, .int .u8 0, .int .u8 0, .int .u8 0, .int .u8 0, .int .u8 0, .int .u8 0, .int .u8 0, .int .u8 0, .int .u8 0, .int .u8 0, .int .u8 0, .int .u8 0] 40)) := ⟨_, rfl⟩
  rw [← hW] at K0 ⊢
  clear hW
  refine wp_seq_atS (opsAt Tryd.f24 1) ((true, 0) :: (false, 1) :: (false, 2) :: (false, 3) :: (false, 4) :: []) (Kept w [(w.heap.size, (fps [a0, a1]))] [(w.heap.size + 1, 32)]) (by kernel_rfl) (by kernel_rfl) K0 ?_
  refine k_row (by kernel_rfl) (d := (some 3)) (by kernel_rfl) (ty := 40) (x := (.tmp 1)) (by kernel_rfl) (b := w.heap.size) (by kernel_rfl) (cs := (fps [a0, a1])) (fun _ hs => hs.at 0 rfl) Tryd.underlying40 rfl (by kernel_rfl) ?_
  refine k_call (by kernel_rfl) (d := (some 4)) (by kernel_rfl) (f := 62) (args := #[.agg (fps [a0, a1])]) (v := .agg (fps [a0, a1])) (fun _ => by kernel_rfl) (both_c) (fun w1 hb1 => ⟨K0.go hb1, ?_⟩)
  have K1 := K0.go hb1
  refine k_callR (by kernel_rfl) (d := (some 5)) (by kernel_rfl) (f := 65) (args := #[.agg (fps [a0, a1])]) (fun _ => by kernel_rfl) (zzFqNeg (hm.nb K1.nb) ha0 ha1) (fun _ w2 ⟨u, v, he2, hu, hv, zu, zv, hb2⟩ => ⟨_, he2, K1.go hb2, ?_⟩)
  have K2 := K1.go hb2
  refine k_call (by kernel_rfl) (d := (some 6)) (by kernel_rfl) (f := 64) (args := #[.agg (fps [u, v])]) (v := .agg (fps [(-zp a0).val, (-zp a1).val])) (fun _ => by kernel_rfl) (lowsZ_c (hm.nb K2.nb) hu hv zu zv) (fun w3 hb3 => ⟨K2.go hb3, ?_⟩)
  have K3 := K2.go hb3
  obtain ⟨T, old, hold, hT⟩ := K3.room _ (List.mem_cons_self ..)
  have KF := K3.put (cs := (fps [(-zp a0).val, (-zp a1).val])) (by kernel_rfl) (by omega) (neC (by omega) ne0)
  refine k_store (by kernel_rfl) (d := none) (by kernel_rfl) (ty := 40) (x := (.tmp 2)) (y := (.tmp 6)) (by kernel_rfl) (g := w.heap.size + 1) (cells := (fps [(-zp a0).val, (-zp a1).val])) (by kernel_rfl) (by kernel_rfl) hT (by kernel_rfl) (hold.trans (by kernel_rfl)) (all_fps2 _ _) ⟨KF, ?_⟩
  have hR := setRow_heap _ _ _ (fps [(-zp a0).val, (-zp a1).val]) _ _ hT
  refine k_end ?_
  have KB := KF.nb
  go_simp
  go_wp2_with fail
  exact bodyPost_ret_by (results_cell_row rfl _ _ (w.heap.size + 1) _ (fps [(-zp a0).val, (-zp a1).val]) _ _ rfl hR Tryd.underlying40 rfl (by kernel_rfl)) rfl ⟨rfl, KB⟩

set_option maxRecDepth 100000 in
set_option maxHeartbeats 1000000 in
theorem implFqSqr {w : World} {a0 a1 : Nat} (hm : ModW w) (ha0 : LowB a0) (ha1 : LowB a1) :
    Calls Tryd.prog 43 #[.agg (fps [a0, a1])] w fun e w' => e = .returned (.agg (fps [(zp a0 * zp a0 - zp a1 * zp a1).val, (zp a0 * zp a1 + zp a0 * zp a1).val])) ∧ Below w.heap.size w w' := by
  go_enter Tryd.func43, Tryd.ntmps43
  go_upto_region 1 with (fail)
  have K0 : Kept w [(w.heap.size, (fps [a0, a1]))] [(w.heap.size + 1, 32)] ((w.alloc (.cells (fps [a0, a1]) 40)).alloc (.cells #[.int .u8 0, .int .u8 0, .int .u8 0, .int .u8 0, .int .u8 0, .int .u8 0, .int .u8 0, .int .u8 0, .int .u8 0, .int .u8 0, .int .u8 0, .int .u8 0, .int .u8 0, .int .u8 0, .int .u8 0, .int .u8 0, .int .u8 0, .int .u8 0, .int .u8 0, .int .u8 0, .int .u8 0, .int .u8 0, .int .u8 0, .int .u8 0, .int .u8 0, .int .u8 0, .int .u8 0, .int .u8 0, .int .u8 0, .int .u8 0, .int .u8 0, .int .u8 0] 40)) := Kept.one (nb_alloc (nb_alloc (Below.refl _ _) _) _) (rowsC ⟨_, hp2_0 (w := w) (.cells (fps [a0, a1]) 40) (.cells #[.int .u8 0, .int .u8 0, .int .u8 0, .int .u8 0, .int .u8 0, .int .u8 0, .int .u8 0, .int .u8 0, .int .u8 0, .int .u8 0, .int .u8 0, .int .u8 0, .int .u8 0, .int .u8 0, .int .u8 0, .int .u8 0, .int .u8 0, .int .u8 0, .int .u8 0, .int .u8 0, .int .u8 0, .int .u8 0, .int .u8 0, .int .u8 0, .int .u8 0, .int .u8 0, .int .u8 0, .int .u8 0, .int .u8 0, .int .u8 0, .int .u8 0, .int .u8 0] 40)⟩ rows0) rfl (hp2_1 (w := w) (.cells (fps [a0, a1]) 40) (.cells #[.int .u8 0, .int .u8 0, .int .u8 0, .int .u8 0, .int .u8 0, .int .u8 0, .int .u8 0, .int .u8 0, .int .u8 0, .int .u8 0, .int .u8 0, .int .u8 0, .int .u8 0, .int .u8 0, .int .u8 0, .int .u8 0, .int .u8 0, .int .u8 0, .int .u8 0, .int .u8 0, .int .u8 0, .int .u8 0, .int .u8 0, .int .u8 0, .int .u8 0, .int .u8 0, .int .u8 0, .int .u8 0, .int .u8 0, .int .u8 0, .int .u8 0, .int .u8 0] 40))
  obtain ⟨W0, hW⟩ : ∃ W0 : World, W0 = ((w.alloc (.cells (fps [a0, a1]) 40)).alloc (.cells #[.int .u8 0, .int .u8 0, .int .u8 0, .int .u8 0, .int .u8 0, .int .u8 0, .int .u8 0, .int .u8 0, .int .u8 0, .int .u8 0, .int .u8 0, .int .u8 0, .int .u8 0, .int .u8 0, .int .u8 0, .int .u8 0, .int .u8 0, .int .u8 0, .int .u8 0, .int .u8 0, .int .u8 0, .int .u8 0, .int .u8 0, .int .u8 0, .int .u8 0, .int .u8 0, .int .u8 0, .int .u8 0, .int .u8 0, .int .u8 0, .int .u8 0, .int .u8 0] 40)) := ⟨_, rfl⟩
  rw [← hW] at K0 ⊢
  clear hW
  refine wp_seq_atS (opsAt Tryd.f43 1) ((true, 0) :: (false, 1) :: (false, 2) :: (false, 3) :: (false, 4) :: []) (Kept w [(w.heap.size, (fps [a0, a1]))] [(w.heap.size + 1, 32)]) (by kernel_rfl) (by kernel_rfl) K0 ?_
  refine k_row (by kernel_rfl) (d := (some 3)) (by kernel_rfl) (ty := 40) (x := (.tmp 1)) (by kernel_rfl) (b := w.heap.size) (by kernel_rfl) (cs := (fps [a0, a1])) (fun _ hs => hs.at 0 rfl) Tryd.underlying40 rfl (by kernel_rfl) ?_
  refine k_call (by kernel_rfl) (d := (some 4)) (by kernel_rfl) (f := 62) (args := #[.agg (fps [a0, a1])]) (v := .agg (fps [a0, a1])) (fun _ => by kernel_rfl) (both_c) (fun w1 hb1 => ⟨K0.go hb1, ?_⟩)
  have K1 := K0.go hb1
  refine k_callR (by kernel_rfl) (d := (some 5)) (by kernel_rfl) (f := 77) (args := #[.agg (fps [a0, a1])]) (fun _ => by kernel_rfl) (zzFqSqr ha0 ha1) (fun _ w2 ⟨u, v, he2, hu, hv, zu, zv, hb2⟩ => ⟨_, he2, K1.go hb2, ?_⟩)
  have K2 := K1.go hb2
  refine k_call (by kernel_rfl) (d := (some 6)) (by kernel_rfl) (f := 64) (args := #[.agg (fps [u, v])]) (v := .agg (fps [(zp a0 * zp a0 - zp a1 * zp a1).val, (zp a0 * zp a1 + zp a0 * zp a1).val])) (fun _ => by kernel_rfl) (lowsZ_c (hm.nb K2.nb) hu hv zu zv) (fun w3 hb3 => ⟨K2.go hb3, ?_⟩)
  have K3 := K2.go hb3
  obtain ⟨T, old, hold, hT⟩ := K3.room _ (List.mem_cons_self ..)
  have KF := K3.put (cs := (fps [(zp a0 * zp a0 - zp a1 * zp a1).val, (zp a0 * zp a1 + zp a0 * zp a1).val])) (by kernel_rfl) (by omega) (neC (by omega) ne0)
  refine k_store (by kernel_rfl) (d := none) (by kernel_rfl) (ty := 40) (x := (.tmp 2)) (y := (.tmp 6)) (by kernel_rfl) (g := w.heap.size + 1) (cells := (fps [(zp a0 * zp a0 - zp a1 * zp a1).val, (zp a0 * zp a1 + zp a0 * zp a1).val])) (by kernel_rfl) (by kernel_rfl) hT (by kernel_rfl) (hold.trans (by kernel_rfl)) (all_fps2 _ _) ⟨KF, ?_⟩
  have hR := setRow_heap _ _ _ (fps [(zp a0 * zp a0 - zp a1 * zp a1).val, (zp a0 * zp a1 + zp a0 * zp a1).val]) _ _ hT
  refine k_end ?_
  have KB := KF.nb
  go_simp
  go_wp2_with fail
  exact bodyPost_ret_by (results_cell_row rfl _ _ (w.heap.size + 1) _ (fps [(zp a0 * zp a0 - zp a1 * zp a1).val, (zp a0 * zp a1 + zp a0 * zp a1).val]) _ _ rfl hR Tryd.underlying40 rfl (by kernel_rfl)) rfl ⟨rfl, KB⟩

end
end Go.Proofs.YtpogbljoohdehaaDoor
