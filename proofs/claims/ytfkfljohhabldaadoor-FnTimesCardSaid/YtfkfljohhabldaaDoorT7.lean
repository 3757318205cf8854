/- Part 7 of what the laws lean on: arithmetic, walks through the functions, the curve. -/
import Derived.Test.YtfkfljohhabldaaDoorT6
import Derived.LaidMore
import Derived.Lay
import Derived.Lib.LaidTab
import Derived.OpenShut
import Derived.OpenVars
import Derived.ProofKit
import Derived.SevenTiedAt
import Derived.Stop.Joined
import Derived.Test.YtfkfljohhabldaaDoorRows
namespace Go.FourQ
open Go.RowKit
theorem Sto.rebase {w wr : World} {s : List (Nat × List Zp)} (h : Sto w s wr) : Sto wr s wr := ⟨rfl, rfl, rfl, Nat.le_refl _, h.blk, h.ne, fun _ _ _ => rfl⟩
theorem Sto.goI {w wr w' : World} {s : List (Nat × List Zp)} {b : Nat} {l : List Int} (h : Sto w s wr) (u : UpdI wr w' b l) (hb : w.heap.size ≤ b) (hs : ∀ p ∈ s, p.1 ≠ b) : Sto w s w' :=
 ⟨u.os.trans h.os, u.tape.trans h.tape, u.output.trans h.output, Nat.le_trans h.size u.size, fun i c M hi => (h.blk i c M hi).of_heap (u.other _ (h.blk i c M hi).lt (hs _ (List.mem_of_getElem? hi))), h.ne, fun k hk hn => (u.other k (Nat.lt_of_lt_of_le hk h.size) (by omega)).trans (h.other k hk hn)⟩
theorem Is.sto {w wr : World} {s : List (Nat × List Zp)} {b : Nat} {l : List Int} (h : Is w b l) (g : Sto w s wr) (hs : ∀ p ∈ s, p.1 ≠ b) : Is wr b l := h.of_heap (g.other _ h.lt hs)
theorem Sto.final {w w2 w' : World} {b : Nat} {L M : List Zp} {t t' : List (Nat × List Zp)} (h : Sto w ((b, L) :: t) w2) (g : Sto w2 ((b, M) :: t') w') (ht : ∀ p ∈ t, w.heap.size ≤ p.1) (ht' : ∀ p ∈ t', w.heap.size ≤ p.1) : UpdZ w w' b M where
 os := g.os.trans h.os
 tape := g.tape.trans h.tape
 output := g.output.trans h.output
 size := Nat.le_trans h.size g.size
 blk := g.blk 0 b M rfl
 other := fun k hk hb => (g.other k (Nat.lt_of_lt_of_le hk h.size) (fun p hp => by
   rcases List.mem_cons.1 hp with rfl | hp
   · exact fun e => hb e.symm
   · have := ht' p hp; omega)).trans (h.other k hk (fun p hp => by
   rcases List.mem_cons.1 hp with rfl | hp
   · exact fun e => hb e.symm
   · have := ht p hp; omega))
theorem isNew {w : World} {b : Nat} {c : Array Value} {T : TypeId} {l : List Int} (hb : b = w.heap.size) (hc : c = isA l) : Is (w.alloc (.cells c T)) b l := by
 subst hb hc; exact ⟨T, heap_alloc_new _ _⟩
/-- The multiple that is told behind the digits on top of i. -/
def acc (K j : Nat) : Nat := if j = 65 then 0 else md K j
theorem acc_65 (K : Nat) : acc K 65 = 0 := rfl
theorem acc_lt {K j : Nat} (h : j < 65) : acc K j = md K j := if_neg (by omega)
theorem acc_p {K i n : Nat} (h : K % 2 = 1) (hK : K < 2 ^ 256 + 2 ^ 246) (hi : i < 65) (Q : Pt) (hn : dg65 K i = (n : Int)) : Pt.mul 16 (Pt.mul (acc K (i + 1)) Q) + Pt.mul n Q = Pt.mul (acc K i) Q := by
 rw [acc_lt hi]
 by_cases e : i = 64
 · subst e
   have : (n : Int) = 1 := by rw [← hn]; unfold dg65; rw [if_neg (by decide), md_last h hK]; rfl
   rw [acc_65, show n = 1 by omega, md_last h hK]
   rw [show Pt.mul 0 Q = Pt.zero from rfl, mul_zero_pt, pt_zero_add]
 · rw [acc_lt (by omega)]; exact md_tell h (by omega) Q hn
theorem acc_m {K i n : Nat} (h : K % 2 = 1) (hK : K < 2 ^ 256 + 2 ^ 246) (hi : i < 65) (Q : Pt) (hn : dg65 K i = -(n : Int)) : Pt.mul 16 (Pt.mul (acc K (i + 1)) Q) + (Pt.mul n Q).neg = Pt.mul (acc K i) Q := by
 rw [acc_lt hi]
 by_cases e : i = 64
 · subst e
   have : -(n : Int) = 1 := by rw [← hn]; unfold dg65; rw [if_neg (by decide), md_last h hK]; rfl
   omega
 · rw [acc_lt (by omega)]; exact md_tell' h (by omega) Q hn
theorem mul16 (p : Pt) : p + p + (p + p) + (p + p + (p + p)) + (p + p + (p + p) + (p + p + (p + p))) = Pt.mul 16 p := by
 rw [show (16 : Nat) = 2 * (2 * (2 * 2)) from rfl, mul_dbl_pt, mul_dbl_pt, mul_dbl_pt, mul_two_pt]
theorem dl_all {K i : Nat} {d : Int} (hi : i < 65) (hd : dg65 K i = d) : (dl K 65)[i]? = some d := by
 subst hd
 unfold dl
 rw [List.getElem?_append_left (by simp; omega), List.getElem?_map, List.getElem?_range hi]; rfl
/-- The absolute value, by the mask. -/
theorem abs_m : ∀ n : Nat, n < 16 → bits .xor .i8 (-(n : Int) - 1) (-1) = (n : Int) := by decide +kernel
theorem abs_p : ∀ n : Nat, n < 16 → bits .xor .i8 (n : Int) 0 = (n : Int) := by decide +kernel
theorem shr7m {P : Program} {w : World} {t : TypeId} (n : Nat) (h0 : 1 ≤ n) (h : n ≤ 15) : (binOp .shr t (.int .i8 (-(n : Int))) (.int .u64 7)).run P w = .ok (.int .i8 (-1)) w := by
 rw [binOp_shr, shift_shr .i8 .u64 _ 7 (by decide) (by decide), show (-(n : Int)) / 2 ^ (7 : Int).toNat = -1 from by
   show (-(n : Int)) / 128 = _
   omega]; rfl
theorem shr7p {P : Program} {w : World} {t : TypeId} (n : Nat) (h : n ≤ 15) : (binOp .shr t (.int .i8 (n : Int)) (.int .u64 7)).run P w = .ok (.int .i8 0) w := by
 rw [binOp_shr, shift_shr .i8 .u64 _ 7 (by decide) (by decide), show (n : Int) / 2 ^ (7 : Int).toNat = 0 from by
   show (n : Int) / 128 = _
   omega]; rfl
theorem shr1 {P : Program} {w : World} {t : TypeId} {n h : Nat} (e : n = 2 * h + 1) : (binOp .shr t (.int .i8 ((n : Int) - 1)) (.int .u64 1)).run P w = .ok (.int .i8 (h : Int)) w := by
 rw [binOp_shr, shift_shr .i8 .u64 _ 1 (by decide) (by decide), show ((n : Int) - 1) / 2 ^ (1 : Int).toNat = (h : Int) from by
   show ((n : Int) - 1) / 2 = _
   omega]; rfl
theorem add8 {P : Program} {w : World} {t : TypeId} {a b c : Int} (h : IntKind.i8.wrap (a + b) = c) : (binOp .add t (.int .i8 a) (.int .i8 b)).run P w = .ok (.int .i8 c) w := by subst h; rfl
theorem sub8 {P : Program} {w : World} {t : TypeId} {a b c : Int} (h : IntKind.i8.wrap (a - b) = c) : (binOp .sub t (.int .i8 a) (.int .i8 b)).run P w = .ok (.int .i8 c) w := by subst h; rfl
theorem xorK {P : Program} {w : World} {t : TypeId} {k : IntKind} {a b c : Int} (h : bits .xor k a b = c) : (binOp .xor t (.int k a) (.int k b)).run P w = .ok (.int k c) w := by rw [binOp_xor, intBits_xor, h]; rfl
theorem w8_p : ∀ n : Nat, n < 16 → IntKind.i8.wrap ((n : Int) + 0) = (n : Int) ∧ IntKind.i8.wrap ((n : Int) - 1) = (n : Int) - 1 ∧ IntKind.i8.wrap (-(n : Int) + (-1)) = -(n : Int) - 1 := by decide +kernel
theorem w64_s : ∀ n : Nat, n < 16 → IntKind.i64.wrap (n : Int) = (n : Int) := by decide +kernel
theorem xor_j : ∀ a : Nat, a < 8 → ∀ b : Nat, b < 8 → ∃ x : Nat, x < 8 ∧ (x = 0 ↔ a = b) ∧ bits .xor .i64 (a : Int) (b : Int) = (x : Int) := by
 intro a ha b hb
 refine ⟨a ^^^ b, ?_, ?_, ?_⟩
 · exact Nat.xor_lt_two_pow (n := 3) ha hb
 · constructor
   · intro h
     have := congrArg (· ^^^ b) h
     simpa [Nat.xor_assoc] using this
   · rintro rfl; exact Nat.xor_self a
 · revert a b
   decide +kernel
theorem u32_s : ∀ x : Nat, x < 8 → IntKind.u32.wrap (x : Int) = (x : Int) ∧ IntKind.u64.wrap (x : Int) = (x : Int) := by decide +kernel
theorem eqb1 : IntKind.u64.wrap ((0 : Nat) - 1 : Int) = 18446744073709551615 := by decide +kernel
theorem eqb0 : ∀ x : Nat, x < 8 → 1 ≤ x → IntKind.u64.wrap ((x : Int) - 1) = ((x - 1 : Nat) : Int) := by intro x h h1; rw [IntKind.wrap_u64]; omega
theorem shr63v {P : Program} {w : World} {t : TypeId} {z : Nat} (h : z < 8) : (binOp .shr t (.int .u64 (z : Int)) (.int .u64 63)).run P w = .ok (.int .u64 0) w := by
 rw [binOp_shr, shift_shr .u64 .u64 _ 63 (by decide) (by decide), show (z : Int) / 2 ^ (63 : Int).toNat = 0 from by
   show (z : Int) / 9223372036854775808 = _
   omega]; rfl
theorem sub64v {P : Program} {w : World} {t : TypeId} {a b c : Int} (h : IntKind.u64.wrap (a - b) = c) : (binOp .sub t (.int .u64 a) (.int .u64 b)).run P w = .ok (.int .u64 c) w := by subst h; rfl
end Go.FourQ
namespace Go.Proofs.YtfkfljohhabldaaDoor
open Go.RowKit Go.FourQ
theorem zfp (m : Nat) : fps (List.replicate m 0) = Array.replicate (16 * m) (.int .u8 0) := by
 induction m with
 | zero => rfl
 | succ m ih =>
   rw [List.replicate_succ, fps, ih, show fpC 0 = Array.replicate 16 (.int .u8 0) from rfl, Array.replicate_append_replicate, show 16 * (m + 1) = 16 + 16 * m by omega]
set_option maxRecDepth 100000 in
theorem zTab : Tryd.zeroCells133 = fps (List.replicate 64 0) := Eq.trans (b := Array.replicate (16 * 64) (.int .u8 0)) (by kernel_rfl) (zfp 64).symm
theorem zR2 : Tryd.zeroCells109 = fps (List.replicate 8 0) := Eq.trans (b := Array.replicate (16 * 8) (.int .u8 0)) (by kernel_rfl) (zfp 8).symm
set_option maxRecDepth 100000 in
theorem zDig (K : Nat) : Tryd.zeroCells135 = isA (dl K 0) := by kernel_rfl
theorem zFlat : (List.replicate 64 0).map zp = flat (List.replicate 32 0) := by kernel_rfl
theorem negR2 {p : Pt} {A B D W : Zq} (h : Rep2 p A B D W) : R2L p.neg [B, A, -D, W] := ⟨_, _, _, _, rfl, rep_neg2 h⟩
theorem atTab {w : World} {n j : Nat} {T : List Zq} {A B D W : Zq} (h : FpsZ w n (flat T)) (g0 : T[4 * j]? = some A) (g1 : T[4 * j + 1]? = some B) (g2 : T[4 * j + 2]? = some D) (g3 : T[4 * j + 3]? = some W) : AtL w n (128 * j) [A, B, D, W] := fun k x hk => by
 match k, hk with
 | 0, hk => obtain rfl := Option.some.inj hk; exact h.atz g0 (by omega)
 | 1, hk => obtain rfl := Option.some.inj hk; exact h.atz g1 (by omega)
 | 2, hk => obtain rfl := Option.some.inj hk; exact h.atz g2 (by omega)
 | 3, hk => obtain rfl := Option.some.inj hk; exact h.atz g3 (by omega)
 | k + 4, hk => simp at hk
set_option maxRecDepth 100000 in
set_option maxHeartbeats 1000000 in
theorem scalarMult {w : World} {b1 b2 b3 lo hi : Nat} {L L3 : List Zq} {q : Pt} (hm : ModW w) (hg : 5 ≤ b1 ∧ 5 ≤ w.heap.size) (hd : AtZ w 0 0 dd) (ho : Ds w 1 [3436901888089820391, 16122042576031152537, 17317351579400803557, 11764505149049458]) (hl : lo < 256 ^ 16) (hh : hi < 256 ^ 16) (h1 : FpsZ w b1 (flat L)) (hL : L.length = 5) (hk : Fps w b2 [lo, hi]) (hA : AtL w b3 0 L3) (hp : R1L q L3) (hne : b1 ≠ b2 ∧ b1 ≠ b3) :
   Calls Tryd.prog 95 #[.pointer (some ⟨b1, 0, none⟩), .pointer (some ⟨b2, 0, none⟩), .pointer (some ⟨b3, 0, none⟩)] w fun e w' => e = .returned (.tuple #[]) ∧ ∃ L', R1L (Pt.mul (oddK (lo + 340282366920938463463374607431768211456 * hi)) q) L' ∧ UpdZ w w' b1 (flat L') := by
 obtain ⟨K, hKK⟩ : ∃ K, oddK (lo + 340282366920938463463374607431768211456 * hi) = K := ⟨_, rfl⟩
 have hodd : K % 2 = 1 := by rw [← hKK]; exact oddK_odd _
 have hKb : K < 2 ^ 256 + 2 ^ 246 := by rw [← hKK]; exact oddK_lt (by omega)
 rw [hKK]
 have hb1 := h1.lt; have hb2 := hk.lt; have hb3 := AtL.lt5 hA hp; have hbo := ho.lt; have hbd := hd.q.fst.lt; have hbm := hm.lt
 have HKK := Lib.hid hKK; have ODD := Lib.hid hodd; have LTK := Lib.hid hKb; have HL := Lib.hid hl; have HH := Lib.hid hh; have HK := Lib.hid hk; have HA := Lib.hid hA; have HP := Lib.hid hp; have HO := Lib.hid ho; have HD := Lib.hid hd; have HM := Lib.hid hm; have H1 := Lib.hid h1; have HLL := Lib.hid hL; have HNE := Lib.hid hne
 clear hKK hodd hKb hl hh hk hA hp ho hd hm h1 hL
 go_enter Tryd.func95, Tryd.ntmps95
 go_upto_region 3 with (fail)
 refine wp_gen (fun WW => Sto w [(b1, flat L), (w.heap.size, flat (List.replicate 32 0)), (w.heap.size + 1, flat [0, 0, 0, 0])] WW ∧ Is WW (w.heap.size + 1 + 1) (dl K 0)) ⟨?_, ?_⟩ ?_
 · exact (((Sto.one H1.out).new (l := List.replicate 64 0) rfl zTab zeroL zFlat).new (l := List.replicate 8 0) (by simp) zR2 zeroL (by kernel_rfl)).go ((Below.refl _ _).alloc (Nat.le_refl _) _)
 · exact isNew (by simp) (zDig K)
 rintro W0 ⟨S0, I0⟩
 obtain ⟨n, hn⟩ : ∃ n, w.heap.size = n := ⟨_, rfl⟩
 rw [hn] at S0 I0 hb1 hb2 hb3 hbo hbd hbm ⊢
 have HN := Lib.hid hn
 have HNG : 5 ≤ n := by omega
 clear hn
 refine wsA (opsAt Tryd.f95 3) ((true, 0) :: (false, 1) :: []) (fun _ => True) trivial ?_
 refine kp (d := some 15) (v := .pointer (some ⟨b3, 0, none⟩)) ?_
 refine kd (d := some 16) (f := 120) (args := #[.pointer (some ⟨b3, 0, none⟩), .pointer (some ⟨n, 0, none⟩)]) (oddMul (by omega) (HD.out.sto S0 (ksC (by omega) (ksC (by omega) (ksC (by omega) ks0)))) (S0.blk 1 _ _ rfl) (by simp) (HA.out.sto S0 (ksC (by have := HNE.out; omega) (ksC (by have := HNE.out; omega) (ksC (by have := HNE.out; omega) ks0)))) HP.out (by omega)) (fun _ w1 ⟨he1, T, hT, hu⟩ => ⟨_, he1, trivial, ?_⟩)
 have HT := Lib.hid hT
 have I1 := I0.of_heap (hu.other _ I0.lt (by omega))
 have S1 := S0.upd (i := 1) rfl hu
 clear hu hT he1 S0 I0
 refine k_end ?_
 go_simp
 go_upto_region 4 with (fail)
 refine wsA (opsAt Tryd.f95 4) ((true, 0) :: (false, 1) :: []) (fun _ => True) trivial ?_
 refine kp (d := some 17) (v := .pointer (some ⟨b2, 0, none⟩)) ?_
 refine kd (d := some 18) (f := 121) (args := #[.pointer (some ⟨n + 1 + 1, 0, none⟩), .pointer (some ⟨b2, 0, none⟩)]) (recode HL.out HH.out (HK.out.of_heap (S1.other _ HK.out.lt (ksC (by have := HNE.out; omega) (ksC (by have := HNE.out; omega) (ksC (by have := HNE.out; omega) ks0))))) (by rw [HKK.out]; exact I1) (HO.out.of_heap (S1.other _ HO.out.lt (ksC (by omega) (ksC (by omega) (ksC (by omega) ks0))))) ⟨by omega, by omega⟩) (fun _ w2 ⟨he2, hu⟩ => ⟨_, he2, trivial, ?_⟩)
 rw [HKK.out] at hu
 have S2 := Sto.goI S1 hu (by have := HN.out; omega) (ksC (by omega) (ksC (by omega) (ksC (by omega) ks0)))
 have I2 := hu.blk
 clear hu he2 S1 I1
 refine k_end ?_
 go_simp
 go_upto_region 5 with (fail)
 refine wsA (opsAt Tryd.f95 5) ((true, 0) :: (false, 1) :: []) (fun _ => True) trivial ?_
 refine kp (d := some 19) (v := .pointer (some ⟨b1, 0, none⟩)) ?_
 refine kd (d := some 20) (f := 78) (args := #[.pointer (some ⟨b1, 0, none⟩)]) (ptSetId (S2.blk 0 _ _ rfl) HLL.out) (fun _ w3 ⟨he3, L1, hL1, hu⟩ => ⟨_, he3, trivial, ?_⟩)
 have I3 : Is w3 (n + 1 + 1) (dl K 65) := I2.of_heap (hu.other _ I2.lt (by omega))
 have S3 := S2.upd (i := 0) rfl hu
 clear he3 hu S2 I2
 generalize w3 = w2 at S3 I3 ⊢
 refine k_end ?_
 go_simp
 have SB := Lib.hid S3; have IB := Lib.hid I3; have HSZ := Lib.hid S3.size
 have HM2 := Lib.hid (HM.out.sto S3 (ksC (by omega) (ksC (by omega) (ksC (by omega) ks0)))); have HWN : n + 1 + 1 < w2.heap.size := I3.lt
 have J0 := Lib.hid (show ∃ LP LS, R1L (Pt.mul (acc K 65) q) LP ∧ LS.length = 4 ∧ Sto w2 [(b1, flat LP), (n, flat T), (n + 1, flat LS)] w2 from ⟨L1, [0, 0, 0, 0], hL1, rfl, S3.rebase⟩)
 clear S3 I3 hL1
 go_wp2_with fail
 go_loopw [9] (fun iv wr => ∃ (j : Nat) (v : Int), j ≤ 65 ∧ iv = .int .i64 v ∧ Hid (v = (j : Int) - 1) ∧ Hid (∃ LP LS, R1L (Pt.mul (acc K j) q) LP ∧ LS.length = 4 ∧ Sto w2 [(b1, flat LP), (n, flat T), (n + 1, flat LS)] wr)) (fun i _ => (intOf i + 1).toNat)
 case atStart => exact ⟨65, 64, by decide, rfl, Lib.hid (by decide), Lib.hid J0.out⟩
 case round =>
   clear J0
   obtain ⟨j, v, hj, rfl, hv, hJ⟩ := hrel
   rcases Nat.eq_zero_or_pos j with h0 | h0
   · have hv1 : v = -1 := by rw [hv.out, h0]; rfl
     subst h0
     subst hv1
     obtain ⟨LP, LS, hLP, hLS, hS⟩ := hJ.out
     have HF := Lib.hid (SB.out.final hS (tsC (by have := HN.out; omega) (tsC (by have := HN.out; omega) ts0)) (tsC (by have := HN.out; omega) (tsC (by have := HN.out; omega) ts0)))
     have HLP := Lib.hid (show R1L (Pt.mul K q) LP from hLP)
     clear hJ hLP hLS hS hv
     go_wp2_with fail
     go_end0
     exact ⟨rfl, LP, HLP.out, HF.out⟩
   · obtain ⟨i, rfl⟩ : ∃ i, j = i + 1 := ⟨j - 1, by omega⟩
     have hvi : v = (i : Int) := by rw [hv.out]; omega
     subst hvi
     have hi : i < 65 := by omega
     obtain ⟨LP, LS, hLP, hLS, hS⟩ := hJ.out
     have LT := Lib.hid hi
     have HLS := Lib.hid hLS
     have hi0 : (0 : Int) ≤ (i : Int) := by omega
     have X0 := Lib.hid (show R1L _ LP ∧ Sto w2 [(b1, flat LP), (n, flat T), (n + 1, flat LS)] wr from ⟨hLP, hS⟩)
     clear hJ hv h0 hj hLP hLS hS
     go_wp2_with fail
     refine (upE X0.out.2 (i := 0) rfl (ptDouble (X0.out.2.blk 0 _ _ rfl) X0.out.1)).mono ?_
     rintro e wd0 ⟨rfl, LD0, hR, hS⟩
     have X1 := Lib.hid (And.intro hR hS)
     clear hR hS X0
     go_wp2_with fail
     refine (upE X1.out.2 (i := 0) rfl (ptDouble (X1.out.2.blk 0 _ _ rfl) X1.out.1)).mono ?_
     rintro e wd1 ⟨rfl, LD1, hR, hS⟩
     have X2 := Lib.hid (And.intro hR hS)
     clear hR hS X1
     go_wp2_with fail
     refine (upE X2.out.2 (i := 0) rfl (ptDouble (X2.out.2.blk 0 _ _ rfl) X2.out.1)).mono ?_
     rintro e wd2 ⟨rfl, LD2, hR, hS⟩
     have X3 := Lib.hid (And.intro hR hS)
     clear hR hS X2
     go_wp2_with fail
     refine (upE X3.out.2 (i := 0) rfl (ptDouble (X3.out.2.blk 0 _ _ rfl) X3.out.1)).mono ?_
     rintro e wd3 ⟨rfl, LD3, hR, hS⟩
     have X4 := Lib.hid (And.intro hR hS)
     clear hR hS X3
     have Y := Lib.hid (show R1L (Pt.mul 16 (Pt.mul (acc K (i + 1)) q)) LD3 ∧ Sto w2 [(b1, flat LD3), (n, flat T), (n + 1, flat LS)] wd3 from ⟨by rw [← mul16]; exact X4.out.1, X4.out.2⟩)
     clear X4
     obtain ⟨m, hm1, hm15, hmD⟩ := dg_odd (i := i) ODD.out LTK.out
     obtain ⟨h, hh2⟩ : ∃ h, m = 2 * h + 1 := ⟨m / 2, by omega⟩
     have hI := IB.out.sto Y.out.2 (ksC (by omega) (ksC (by omega) (ksC (by omega) ks0)))
     have HMH := Lib.hid (show m = 2 * h + 1 ∧ m ≤ 15 ∧ h < 8 from ⟨hh2, hm15, by omega⟩)
     clear hm1 hm15 hh2
     rcases hmD with hD | hD
     · have HDD := Lib.hid hD
       have hcd := hI.cell (dl_all LT.out HDD.out)
       clear hI hD
       go_upto_region 13 with (fail)
       refine wsA (opsAt Tryd.f95 13) ((true, 0) :: (true, 1) :: (false, 2) :: (true, 3) :: (true, 4) :: []) (fun _ => True) trivial ?_
       refine kp (d := some 33) (v := .int .i64 (i : Int)) ?_
       refine k_pure (by kernel_rfl) (d := (some 34)) (by kernel_rfl) (v := .pointer (some ⟨n + 1 + 1, i, none⟩)) (fun _ => run_indexV (sz := 1) (t := 135) (x := (.tmp 8)) (y := (.tmp 33)) (b := n + 1 + 1) (off := 0) (i := i) (by kernel_rfl) (by kernel_rfl) (by kernel_rfl) Tryd.underlying135 (by kernel_rfl) (by have := LT.out; omega) (by omega)) ?_
       refine k_make (by kernel_rfl) (d := (some 35)) (by kernel_rfl) (v := .int .i8 (m : Int)) (run_loadB (ty := 134) (x := (.tmp 34)) (b := n + 1 + 1) (off := i) (by kernel_rfl) (by kernel_rfl) Tryd.underlying134 (hcd)) trivial ?_
       intro w102 hw102 _
       subst hw102
       refine k_pure (by kernel_rfl) (d := (some 36)) (by kernel_rfl) (v := .int .i8 0) (fun _ => run_binOpV (op := .shr) (x := .tmp 35) (y := .const (.int .u64 7)) (t := 134) (t' := 117) (by kernel_rfl) (by kernel_rfl) (by kernel_rfl) rfl (shr7p m HMH.out.2.1)) ?_
       refine kp (d := some 10) (v := .int .i8 0) ?_
       refine k_end ?_
       go_simp
       go_upto_region 14 with (fail)
       refine wsA (opsAt Tryd.f95 14) ((true, 0) :: (true, 1) :: (false, 2) :: (true, 3) :: (true, 4) :: (true, 5) :: (true, 6) :: (true, 7) :: []) (fun _ => True) trivial ?_
       refine kp (d := some 37) (v := .int .i64 (i : Int)) ?_
       refine k_pure (by kernel_rfl) (d := (some 38)) (by kernel_rfl) (v := .pointer (some ⟨n + 1 + 1, i, none⟩)) (fun _ => run_indexV (sz := 1) (t := 135) (x := (.tmp 8)) (y := (.tmp 37)) (b := n + 1 + 1) (off := 0) (i := i) (by kernel_rfl) (by kernel_rfl) (by kernel_rfl) Tryd.underlying135 (by kernel_rfl) (by have := LT.out; omega) (by omega)) ?_
       refine k_make (by kernel_rfl) (d := (some 39)) (by kernel_rfl) (v := .int .i8 (m : Int)) (run_loadB (ty := 134) (x := (.tmp 38)) (b := n + 1 + 1) (off := i) (by kernel_rfl) (by kernel_rfl) Tryd.underlying134 (hcd)) trivial ?_
       intro w104 hw104 _
       subst hw104
       refine kp (d := some 40) (v := .int .i8 0) ?_
       refine k_pure (by kernel_rfl) (d := (some 41)) (by kernel_rfl) (v := .int .i8 (m : Int)) (fun _ => run_binOpV (op := .add) (x := .tmp 39) (y := .tmp 40) (t := 134) (t' := 134) (by kernel_rfl) (by kernel_rfl) (by kernel_rfl) rfl (add8 (w8_p m (by have := HMH.out; omega)).1)) ?_
       refine kp (d := some 42) (v := .int .i8 0) ?_
       refine k_pure (by kernel_rfl) (d := (some 43)) (by kernel_rfl) (v := .int .i8 (m : Int)) (fun _ => run_binOpV (op := .xor) (x := .tmp 41) (y := .tmp 42) (t := 134) (t' := 134) (by kernel_rfl) (by kernel_rfl) (by kernel_rfl) rfl (xorK (abs_p m (by have := HMH.out; omega)))) ?_
       refine kp (d := some 11) (v := .int .i8 (m : Int)) ?_
       refine k_end ?_
       go_simp
       go_upto_region 15 with (fail)
       refine wsA (opsAt Tryd.f95 15) ((true, 0) :: (true, 1) :: (true, 2) :: (true, 3) :: (true, 4) :: []) (fun _ => True) trivial ?_
       refine kp (d := some 44) (v := .int .i8 (m : Int)) ?_
       refine k_pure (by kernel_rfl) (d := (some 45)) (by kernel_rfl) (v := .int .i8 ((m : Int) - 1)) (fun _ => run_binOpV (op := .sub) (x := .tmp 44) (y := .const (.int .i8 1)) (t := 134) (t' := 134) (by kernel_rfl) (by kernel_rfl) (by kernel_rfl) rfl (sub8 (w8_p m (by have := HMH.out; omega)).2.1)) ?_
       refine k_pure (by kernel_rfl) (d := (some 46)) (by kernel_rfl) (v := .int .i8 (h : Int)) (fun _ => run_binOpV (op := .shr) (x := .tmp 45) (y := .const (.int .u64 1)) (t := 134) (t' := 117) (by kernel_rfl) (by kernel_rfl) (by kernel_rfl) rfl (shr1 HMH.out.1)) ?_
       refine k_pure (by kernel_rfl) (d := (some 47)) (by kernel_rfl) (v := .int .i64 (h : Int)) (fun _ => run_convOpE (x := .tmp 46) (s := 134) (d := 3) (u := .int .i8 (h : Int)) (v := .int .i64 (IntKind.i64.wrap (h : Int))) (by kernel_rfl) (by kernel_rfl) (by kernel_rfl) (by rw [w64_s h (by have := HMH.out; omega)])) ?_
       refine kp (d := some 12) (v := .int .i64 (h : Int)) ?_
       refine k_end ?_
       go_simp
       go_upto_region 16 with (fail)
       refine wsA (opsAt Tryd.f95 16) ((true, 0) :: (true, 1) :: (false, 2) :: (true, 3) :: (true, 4) :: (true, 5) :: (true, 6) :: []) (fun _ => True) trivial ?_
       refine kp (d := some 48) (v := .int .i64 (i : Int)) ?_
       refine k_pure (by kernel_rfl) (d := (some 49)) (by kernel_rfl) (v := .pointer (some ⟨n + 1 + 1, i, none⟩)) (fun _ => run_indexV (sz := 1) (t := 135) (x := (.tmp 8)) (y := (.tmp 48)) (b := n + 1 + 1) (off := 0) (i := i) (by kernel_rfl) (by kernel_rfl) (by kernel_rfl) Tryd.underlying135 (by kernel_rfl) (by have := LT.out; omega) (by omega)) ?_
       refine k_make (by kernel_rfl) (d := (some 50)) (by kernel_rfl) (v := .int .i8 (m : Int)) (run_loadB (ty := 134) (x := (.tmp 49)) (b := n + 1 + 1) (off := i) (by kernel_rfl) (by kernel_rfl) Tryd.underlying134 (hcd)) trivial ?_
       intro w106 hw106 _
       subst hw106
       refine k_pure (by kernel_rfl) (d := (some 51)) (by kernel_rfl) (v := .int .i8 0) (fun _ => run_binOpV (op := .shr) (x := .tmp 50) (y := .const (.int .u64 7)) (t := 134) (t' := 117) (by kernel_rfl) (by kernel_rfl) (by kernel_rfl) rfl (shr7p m HMH.out.2.1)) ?_
       refine kp (d := some 52) (v := .int .i8 0) ?_
       refine kp (d := some 53) (v := .int .i64 0) ?_
       refine kp (d := some 13) (v := .int .i64 0) ?_
       refine k_end ?_
       go_simp
       clear hcd
       go_wp2_with fail
       go_loopw [54] (fun jv wr => ∃ j : Nat, j ≤ 8 ∧ jv = .int .i64 j ∧ Hid (∃ LS, LS.length = 4 ∧ (h < j → ∃ A B D W, LS = [A, B, D, W] ∧ Rep2 (Pt.mul m q) A B D W) ∧ Sto w2 [(b1, flat LD3), (n, flat T), (n + 1, flat LS)] wr)) (fun i _ => 8 - (intOf i).toNat)
       case atStart => exact ⟨0, by decide, rfl, Lib.hid ⟨LS, HLS.out, fun h0 => absurd h0 (Nat.not_lt_zero _), Y.out.2⟩⟩
       case round =>
         obtain ⟨j, hj, rfl, hJ⟩ := hrel
         obtain ⟨LS2, hl4, hsel, hS⟩ := hJ.out
         clear hJ
         by_cases hlt : j < 8
         · obtain ⟨a, b, c, d, rfl⟩ := len4 hl4
           obtain ⟨A, B, D, W, g0, g1, g2, g3, hr⟩ := HT.out.2 j hlt
           obtain ⟨x, hx8, hx0, hxor⟩ := xor_j h HMH.out.2.2 j hlt
           have hA : AtL wr n (128 * j) [A, B, D, W] := atTab (hS.blk 1 _ _ rfl) g0 g1 g2 g3
           have hjI : (j : Int) < 8 := by omega
           have HS := Lib.hid hS; have HSEL := Lib.hid hsel; have HAT := Lib.hid hA; have HR := Lib.hid hr; have HX := Lib.hid hxor; have HX8 := Lib.hid hx8; have LTJ := Lib.hid hlt
           clear hS hsel hA hr hxor g0 g1 g2 g3 hl4 hj hx8 hlt
           by_cases hxe : x = 0
           · have hhj : h = j := hx0.1 hxe
             subst hxe
             have HHJ := Lib.hid hhj
             clear hhj hx0
             go_upto_region 19 with (fail)
             refine wsA (opsAt Tryd.f95 19) ((true, 0) :: (true, 1) :: []) (fun _ => True) trivial ?_
             refine kp (d := some 56) (v := .int .i64 (j : Int)) ?_
             refine kp (d := some 14) (v := .int .i64 (j : Int)) ?_
             refine k_end ?_
             go_simp
             go_upto_region 20 with (fail)
             refine wsA (opsAt Tryd.f95 20) ((true, 0) :: (true, 1) :: (true, 2) :: (true, 3) :: (true, 4) :: (true, 5) :: (true, 6) :: (true, 7) :: (true, 8) :: (true, 9) :: (false, 10) :: []) (fun _ => True) trivial ?_
             refine kp (d := some 57) (v := .int .i64 (j : Int)) ?_
             refine k_pure (by kernel_rfl) (d := (some 58)) (by kernel_rfl) (v := .pointer (some ⟨n, 128 * j, none⟩)) (fun _ => run_indexV (sz := 128) (t := 133) (x := (.tmp 6)) (y := (.tmp 57)) (b := n) (off := 0) (i := j) (by kernel_rfl) (by kernel_rfl) (by kernel_rfl) Tryd.underlying133 (by kernel_rfl) (by have := LTJ.out; omega) (by omega)) ?_
             refine kp (d := some 59) (v := .int .i64 (h : Int)) ?_
             refine kp (d := some 60) (v := .int .i64 (j : Int)) ?_
             refine k_pure (by kernel_rfl) (d := (some 61)) (by kernel_rfl) (v := .int .i64 ((0 : Nat) : Int)) (fun _ => run_binOpV (op := .xor) (x := .tmp 59) (y := .tmp 60) (t := 3) (t' := 3) (by kernel_rfl) (by kernel_rfl) (by kernel_rfl) rfl (xorK HX.out)) ?_
             refine k_pure (by kernel_rfl) (d := (some 62)) (by kernel_rfl) (v := .int .u32 ((0 : Nat) : Int)) (fun _ => run_convOpE (x := .tmp 61) (s := 3) (d := 141) (u := .int .i64 ((0 : Nat) : Int)) (v := .int .u32 (IntKind.u32.wrap ((0 : Nat) : Int))) (by kernel_rfl) (by kernel_rfl) (by kernel_rfl) (by rw [(u32_s 0 (by decide)).1])) ?_
             refine k_pure (by kernel_rfl) (d := (some 63)) (by kernel_rfl) (v := .int .u64 ((0 : Nat) : Int)) (fun _ => run_convOpE (x := .tmp 62) (s := 141) (d := 24) (u := .int .u32 ((0 : Nat) : Int)) (v := .int .u64 (IntKind.u64.wrap ((0 : Nat) : Int))) (by kernel_rfl) (by kernel_rfl) (by kernel_rfl) (by rw [(u32_s 0 (by decide)).2])) ?_
             refine k_pure (by kernel_rfl) (d := (some 64)) (by kernel_rfl) (v := .int .u64 18446744073709551615) (fun _ => run_binOpV (op := .sub) (x := .tmp 63) (y := .const (.int .u64 1)) (t := 24) (t' := 24) (by kernel_rfl) (by kernel_rfl) (by kernel_rfl) rfl (sub64v eqb1)) ?_
             refine kp (d := some 65) (v := .int .u64 1) ?_
             refine kp (d := some 66) (v := .int .i64 1) ?_
             refine kd (d := some 67) (f := 122) (args := #[.pointer (some ⟨n + 1, 0, none⟩), .pointer (some ⟨n, 128 * j, none⟩), .int .i64 1]) (up1 HS.out (i := 2) rfl (cmov2_1 (HS.out.blk 2 _ _ rfl) HAT.out (by omega))) (fun _ w158 ⟨he158, hS2⟩ => ⟨_, he158, trivial, ?_⟩)
             have HJ := Lib.hid (show Hid (∃ LS, LS.length = 4 ∧ (h < j + 1 → ∃ A B D W, LS = [A, B, D, W] ∧ Rep2 (Pt.mul m q) A B D W) ∧ Sto w2 [(b1, flat LD3), (n, flat T), (n + 1, flat LS)] w158) from Lib.hid ⟨[A, B, D, W], rfl, fun _ => ⟨A, B, D, W, rfl, by have := HR.out; rwa [← HHJ.out, ← HMH.out.1] at this⟩, hS2⟩)
             clear hS2 he158 HS
             refine k_end ?_
             go_simp
             go_wp2_with fail
             exact ⟨⟨j + 1, by have := LTJ.out; omega, by go_num, HJ.out⟩, by have := LTJ.out; simp [intOf]; omega⟩
           · have hhj : h ≠ j := fun e => hxe (hx0.2 e)
             have hx1 := Lib.hid (show 1 ≤ x by omega)
             have HHJ := Lib.hid hhj
             clear hhj hx0 hxe
             go_upto_region 19 with (fail)
             refine wsA (opsAt Tryd.f95 19) ((true, 0) :: (true, 1) :: []) (fun _ => True) trivial ?_
             refine kp (d := some 56) (v := .int .i64 (j : Int)) ?_
             refine kp (d := some 14) (v := .int .i64 (j : Int)) ?_
             refine k_end ?_
             go_simp
             go_upto_region 20 with (fail)
             refine wsA (opsAt Tryd.f95 20) ((true, 0) :: (true, 1) :: (true, 2) :: (true, 3) :: (true, 4) :: (true, 5) :: (true, 6) :: (true, 7) :: (true, 8) :: (true, 9) :: (false, 10) :: []) (fun _ => True) trivial ?_
             refine kp (d := some 57) (v := .int .i64 (j : Int)) ?_
             refine k_pure (by kernel_rfl) (d := (some 58)) (by kernel_rfl) (v := .pointer (some ⟨n, 128 * j, none⟩)) (fun _ => run_indexV (sz := 128) (t := 133) (x := (.tmp 6)) (y := (.tmp 57)) (b := n) (off := 0) (i := j) (by kernel_rfl) (by kernel_rfl) (by kernel_rfl) Tryd.underlying133 (by kernel_rfl) (by have := LTJ.out; omega) (by omega)) ?_
             refine kp (d := some 59) (v := .int .i64 (h : Int)) ?_
             refine kp (d := some 60) (v := .int .i64 (j : Int)) ?_
             refine k_pure (by kernel_rfl) (d := (some 61)) (by kernel_rfl) (v := .int .i64 (x : Int)) (fun _ => run_binOpV (op := .xor) (x := .tmp 59) (y := .tmp 60) (t := 3) (t' := 3) (by kernel_rfl) (by kernel_rfl) (by kernel_rfl) rfl (xorK HX.out)) ?_
             refine k_pure (by kernel_rfl) (d := (some 62)) (by kernel_rfl) (v := .int .u32 (x : Int)) (fun _ => run_convOpE (x := .tmp 61) (s := 3) (d := 141) (u := .int .i64 (x : Int)) (v := .int .u32 (IntKind.u32.wrap (x : Int))) (by kernel_rfl) (by kernel_rfl) (by kernel_rfl) (by rw [(u32_s x HX8.out).1])) ?_
             refine k_pure (by kernel_rfl) (d := (some 63)) (by kernel_rfl) (v := .int .u64 (x : Int)) (fun _ => run_convOpE (x := .tmp 62) (s := 141) (d := 24) (u := .int .u32 (x : Int)) (v := .int .u64 (IntKind.u64.wrap (x : Int))) (by kernel_rfl) (by kernel_rfl) (by kernel_rfl) (by rw [(u32_s x HX8.out).2])) ?_
             refine k_pure (by kernel_rfl) (d := (some 64)) (by kernel_rfl) (v := .int .u64 ((x - 1 : Nat) : Int)) (fun _ => run_binOpV (op := .sub) (x := .tmp 63) (y := .const (.int .u64 1)) (t := 24) (t' := 24) (by kernel_rfl) (by kernel_rfl) (by kernel_rfl) rfl (sub64v (eqb0 x HX8.out hx1.out))) ?_
             refine k_pure (by kernel_rfl) (d := (some 65)) (by kernel_rfl) (v := .int .u64 0) (fun _ => run_binOpV (op := .shr) (x := .tmp 64) (y := .const (.int .u64 63)) (t := 24) (t' := 117) (by kernel_rfl) (by kernel_rfl) (by kernel_rfl) rfl (shr63v (z := x - 1) (by have := HX8.out; omega))) ?_
             refine kp (d := some 66) (v := .int .i64 0) ?_
             refine kd (d := some 67) (f := 122) (args := #[.pointer (some ⟨n + 1, 0, none⟩), .pointer (some ⟨n, 128 * j, none⟩), .int .i64 0]) (up1 HS.out (i := 2) rfl (cmov2_0 (HS.out.blk 2 _ _ rfl) HAT.out (by omega))) (fun _ w188 ⟨he188, hS2⟩ => ⟨_, he188, trivial, ?_⟩)
             have HJ := Lib.hid (show Hid (∃ LS, LS.length = 4 ∧ (h < j + 1 → ∃ A B D W, LS = [A, B, D, W] ∧ Rep2 (Pt.mul m q) A B D W) ∧ Sto w2 [(b1, flat LD3), (n, flat T), (n + 1, flat LS)] w188) from Lib.hid ⟨[a, b, c, d], rfl, fun hlt => HSEL.out (by have := HHJ.out; omega), hS2⟩)
             clear hS2 he188 HS
             refine k_end ?_
             go_simp
             go_wp2_with fail
             exact ⟨⟨j + 1, by have := LTJ.out; omega, by go_num, HJ.out⟩, by have := LTJ.out; simp [intOf]; omega⟩
         · have hj8 : ¬ (j : Int) < 8 := by omega
           obtain ⟨A, B, D, W, rfl, hr⟩ := hsel (by have := HMH.out; omega)
           have HS := Lib.hid hS; have HR := Lib.hid hr
           clear hS hr hsel hl4 hj hlt
           go_upto_region 22 with (fail)
           refine wsA (opsAt Tryd.f95 22) ((true, 0) :: (true, 1) :: (false, 2) :: []) (fun _ => True) trivial ?_
           refine kp (d := some 69) (v := .pointer (some ⟨n + 1, 0, none⟩)) ?_
           refine kp (d := some 70) (v := .int .i64 0) ?_
           refine kd (d := some 71) (f := 123) (args := #[.pointer (some ⟨n + 1, 0, none⟩), .int .i64 0]) (up1 HS.out (i := 2) rfl (cneg_0 (HM2.out.sto HS.out (ksC (by omega) (ksC (by omega) (ksC (by omega) ks0)))) (by omega) (HS.out.blk 2 _ _ rfl))) (fun _ w227 ⟨he227, hS2⟩ => ⟨_, he227, trivial, ?_⟩)
           have HS2 := Lib.hid hS2
           clear hS2 he227 HS
           refine k_end ?_
           go_simp
           go_upto_region 23 with (fail)
           refine wsA (opsAt Tryd.f95 23) ((true, 0) :: (false, 1) :: []) (fun _ => True) trivial ?_
           refine kp (d := some 72) (v := .pointer (some ⟨b1, 0, none⟩)) ?_
           refine kd (d := some 73) (f := 81) (args := #[.pointer (some ⟨b1, 0, none⟩), .pointer (some ⟨n + 1, 0, none⟩)]) (upE HS2.out (i := 0) rfl (ptAdd (HS2.out.blk 0 _ _ rfl) Y.out.1 (HS2.out.blk 2 _ _ rfl).atL ⟨_, _, _, _, rfl, HR.out⟩ (HS2.out.ne 2 0 _ _ _ _ rfl rfl (by decide)))) (fun _ w228 ⟨he228, L5, hL5, hS3⟩ => ⟨_, he228, trivial, ?_⟩)
           have HJ := Lib.hid (show Hid (∃ LP LS, R1L (Pt.mul (acc K i) q) LP ∧ LS.length = 4 ∧ Sto w2 [(b1, flat LP), (n, flat T), (n + 1, flat LS)] w228) from Lib.hid ⟨L5, [A, B, D, W], by have := acc_p ODD.out LTK.out LT.out q HDD.out; rw [← this]; exact hL5, rfl, hS3⟩)
           clear hL5 hS3 he228 HS2
           refine k_end ?_
           go_simp
           go_wp2_with fail
           exact ⟨⟨i, (i : Int) - 1, by have := LT.out; omega, by go_num, Lib.hid rfl, HJ.out⟩, by have := LT.out; simp [intOf]⟩
     · have HDD := Lib.hid hD
       have hcd := hI.cell (dl_all LT.out HDD.out)
       clear hI hD
       go_upto_region 13 with (fail)
       refine wsA (opsAt Tryd.f95 13) ((true, 0) :: (true, 1) :: (false, 2) :: (true, 3) :: (true, 4) :: []) (fun _ => True) trivial ?_
       refine kp (d := some 33) (v := .int .i64 (i : Int)) ?_
       refine k_pure (by kernel_rfl) (d := (some 34)) (by kernel_rfl) (v := .pointer (some ⟨n + 1 + 1, i, none⟩)) (fun _ => run_indexV (sz := 1) (t := 135) (x := (.tmp 8)) (y := (.tmp 33)) (b := n + 1 + 1) (off := 0) (i := i) (by kernel_rfl) (by kernel_rfl) (by kernel_rfl) Tryd.underlying135 (by kernel_rfl) (by have := LT.out; omega) (by omega)) ?_
       refine k_make (by kernel_rfl) (d := (some 35)) (by kernel_rfl) (v := .int .i8 (-(m : Int))) (run_loadB (ty := 134) (x := (.tmp 34)) (b := n + 1 + 1) (off := i) (by kernel_rfl) (by kernel_rfl) Tryd.underlying134 (hcd)) trivial ?_
       intro w302 hw302 _
       subst hw302
       refine k_pure (by kernel_rfl) (d := (some 36)) (by kernel_rfl) (v := .int .i8 (-1)) (fun _ => run_binOpV (op := .shr) (x := .tmp 35) (y := .const (.int .u64 7)) (t := 134) (t' := 117) (by kernel_rfl) (by kernel_rfl) (by kernel_rfl) rfl (shr7m m (by have := HMH.out; omega) HMH.out.2.1)) ?_
       refine kp (d := some 10) (v := .int .i8 (-1)) ?_
       refine k_end ?_
       go_simp
       go_upto_region 14 with (fail)
       refine wsA (opsAt Tryd.f95 14) ((true, 0) :: (true, 1) :: (false, 2) :: (true, 3) :: (true, 4) :: (true, 5) :: (true, 6) :: (true, 7) :: []) (fun _ => True) trivial ?_
       refine kp (d := some 37) (v := .int .i64 (i : Int)) ?_
       refine k_pure (by kernel_rfl) (d := (some 38)) (by kernel_rfl) (v := .pointer (some ⟨n + 1 + 1, i, none⟩)) (fun _ => run_indexV (sz := 1) (t := 135) (x := (.tmp 8)) (y := (.tmp 37)) (b := n + 1 + 1) (off := 0) (i := i) (by kernel_rfl) (by kernel_rfl) (by kernel_rfl) Tryd.underlying135 (by kernel_rfl) (by have := LT.out; omega) (by omega)) ?_
       refine k_make (by kernel_rfl) (d := (some 39)) (by kernel_rfl) (v := .int .i8 (-(m : Int))) (run_loadB (ty := 134) (x := (.tmp 38)) (b := n + 1 + 1) (off := i) (by kernel_rfl) (by kernel_rfl) Tryd.underlying134 (hcd)) trivial ?_
       intro w304 hw304 _
       subst hw304
       refine kp (d := some 40) (v := .int .i8 (-1)) ?_
       refine k_pure (by kernel_rfl) (d := (some 41)) (by kernel_rfl) (v := .int .i8 (-(m : Int) - 1)) (fun _ => run_binOpV (op := .add) (x := .tmp 39) (y := .tmp 40) (t := 134) (t' := 134) (by kernel_rfl) (by kernel_rfl) (by kernel_rfl) rfl (add8 (w8_p m (by have := HMH.out; omega)).2.2)) ?_
       refine kp (d := some 42) (v := .int .i8 (-1)) ?_
       refine k_pure (by kernel_rfl) (d := (some 43)) (by kernel_rfl) (v := .int .i8 (m : Int)) (fun _ => run_binOpV (op := .xor) (x := .tmp 41) (y := .tmp 42) (t := 134) (t' := 134) (by kernel_rfl) (by kernel_rfl) (by kernel_rfl) rfl (xorK (abs_m m (by have := HMH.out; omega)))) ?_
       refine kp (d := some 11) (v := .int .i8 (m : Int)) ?_
       refine k_end ?_
       go_simp
       go_upto_region 15 with (fail)
       refine wsA (opsAt Tryd.f95 15) ((true, 0) :: (true, 1) :: (true, 2) :: (true, 3) :: (true, 4) :: []) (fun _ => True) trivial ?_
       refine kp (d := some 44) (v := .int .i8 (m : Int)) ?_
       refine k_pure (by kernel_rfl) (d := (some 45)) (by kernel_rfl) (v := .int .i8 ((m : Int) - 1)) (fun _ => run_binOpV (op := .sub) (x := .tmp 44) (y := .const (.int .i8 1)) (t := 134) (t' := 134) (by kernel_rfl) (by kernel_rfl) (by kernel_rfl) rfl (sub8 (w8_p m (by have := HMH.out; omega)).2.1)) ?_
       refine k_pure (by kernel_rfl) (d := (some 46)) (by kernel_rfl) (v := .int .i8 (h : Int)) (fun _ => run_binOpV (op := .shr) (x := .tmp 45) (y := .const (.int .u64 1)) (t := 134) (t' := 117) (by kernel_rfl) (by kernel_rfl) (by kernel_rfl) rfl (shr1 HMH.out.1)) ?_
       refine k_pure (by kernel_rfl) (d := (some 47)) (by kernel_rfl) (v := .int .i64 (h : Int)) (fun _ => run_convOpE (x := .tmp 46) (s := 134) (d := 3) (u := .int .i8 (h : Int)) (v := .int .i64 (IntKind.i64.wrap (h : Int))) (by kernel_rfl) (by kernel_rfl) (by kernel_rfl) (by rw [w64_s h (by have := HMH.out; omega)])) ?_
       refine kp (d := some 12) (v := .int .i64 (h : Int)) ?_
       refine k_end ?_
       go_simp
       go_upto_region 16 with (fail)
       refine wsA (opsAt Tryd.f95 16) ((true, 0) :: (true, 1) :: (false, 2) :: (true, 3) :: (true, 4) :: (true, 5) :: (true, 6) :: []) (fun _ => True) trivial ?_
       refine kp (d := some 48) (v := .int .i64 (i : Int)) ?_
       refine k_pure (by kernel_rfl) (d := (some 49)) (by kernel_rfl) (v := .pointer (some ⟨n + 1 + 1, i, none⟩)) (fun _ => run_indexV (sz := 1) (t := 135) (x := (.tmp 8)) (y := (.tmp 48)) (b := n + 1 + 1) (off := 0) (i := i) (by kernel_rfl) (by kernel_rfl) (by kernel_rfl) Tryd.underlying135 (by kernel_rfl) (by have := LT.out; omega) (by omega)) ?_
       refine k_make (by kernel_rfl) (d := (some 50)) (by kernel_rfl) (v := .int .i8 (-(m : Int))) (run_loadB (ty := 134) (x := (.tmp 49)) (b := n + 1 + 1) (off := i) (by kernel_rfl) (by kernel_rfl) Tryd.underlying134 (hcd)) trivial ?_
       intro w306 hw306 _
       subst hw306
       refine k_pure (by kernel_rfl) (d := (some 51)) (by kernel_rfl) (v := .int .i8 (-1)) (fun _ => run_binOpV (op := .shr) (x := .tmp 50) (y := .const (.int .u64 7)) (t := 134) (t' := 117) (by kernel_rfl) (by kernel_rfl) (by kernel_rfl) rfl (shr7m m (by have := HMH.out; omega) HMH.out.2.1)) ?_
       refine kp (d := some 52) (v := .int .i8 1) ?_
       refine kp (d := some 53) (v := .int .i64 1) ?_
       refine kp (d := some 13) (v := .int .i64 1) ?_
       refine k_end ?_
       go_simp
       clear hcd
       go_wp2_with fail
       go_loopw [54] (fun jv wr => ∃ j : Nat, j ≤ 8 ∧ jv = .int .i64 j ∧ Hid (∃ LS, LS.length = 4 ∧ (h < j → ∃ A B D W, LS = [A, B, D, W] ∧ Rep2 (Pt.mul m q) A B D W) ∧ Sto w2 [(b1, flat LD3), (n, flat T), (n + 1, flat LS)] wr)) (fun i _ => 8 - (intOf i).toNat)
       case atStart => exact ⟨0, by decide, rfl, Lib.hid ⟨LS, HLS.out, fun h0 => absurd h0 (Nat.not_lt_zero _), Y.out.2⟩⟩
       case round =>
         obtain ⟨j, hj, rfl, hJ⟩ := hrel
         obtain ⟨LS2, hl4, hsel, hS⟩ := hJ.out
         clear hJ
         by_cases hlt : j < 8
         · obtain ⟨a, b, c, d, rfl⟩ := len4 hl4
           obtain ⟨A, B, D, W, g0, g1, g2, g3, hr⟩ := HT.out.2 j hlt
           obtain ⟨x, hx8, hx0, hxor⟩ := xor_j h HMH.out.2.2 j hlt
           have hA : AtL wr n (128 * j) [A, B, D, W] := atTab (hS.blk 1 _ _ rfl) g0 g1 g2 g3
           have hjI : (j : Int) < 8 := by omega
           have HS := Lib.hid hS; have HSEL := Lib.hid hsel; have HAT := Lib.hid hA; have HR := Lib.hid hr; have HX := Lib.hid hxor; have HX8 := Lib.hid hx8; have LTJ := Lib.hid hlt
           clear hS hsel hA hr hxor g0 g1 g2 g3 hl4 hj hx8 hlt
           by_cases hxe : x = 0
           · have hhj : h = j := hx0.1 hxe
             subst hxe
             have HHJ := Lib.hid hhj
             clear hhj hx0
             go_upto_region 19 with (fail)
             refine wsA (opsAt Tryd.f95 19) ((true, 0) :: (true, 1) :: []) (fun _ => True) trivial ?_
             refine kp (d := some 56) (v := .int .i64 (j : Int)) ?_
             refine kp (d := some 14) (v := .int .i64 (j : Int)) ?_
             refine k_end ?_
             go_simp
             go_upto_region 20 with (fail)
             refine wsA (opsAt Tryd.f95 20) ((true, 0) :: (true, 1) :: (true, 2) :: (true, 3) :: (true, 4) :: (true, 5) :: (true, 6) :: (true, 7) :: (true, 8) :: (true, 9) :: (false, 10) :: []) (fun _ => True) trivial ?_
             refine kp (d := some 57) (v := .int .i64 (j : Int)) ?_
             refine k_pure (by kernel_rfl) (d := (some 58)) (by kernel_rfl) (v := .pointer (some ⟨n, 128 * j, none⟩)) (fun _ => run_indexV (sz := 128) (t := 133) (x := (.tmp 6)) (y := (.tmp 57)) (b := n) (off := 0) (i := j) (by kernel_rfl) (by kernel_rfl) (by kernel_rfl) Tryd.underlying133 (by kernel_rfl) (by have := LTJ.out; omega) (by omega)) ?_
             refine kp (d := some 59) (v := .int .i64 (h : Int)) ?_
             refine kp (d := some 60) (v := .int .i64 (j : Int)) ?_
             refine k_pure (by kernel_rfl) (d := (some 61)) (by kernel_rfl) (v := .int .i64 ((0 : Nat) : Int)) (fun _ => run_binOpV (op := .xor) (x := .tmp 59) (y := .tmp 60) (t := 3) (t' := 3) (by kernel_rfl) (by kernel_rfl) (by kernel_rfl) rfl (xorK HX.out)) ?_
             refine k_pure (by kernel_rfl) (d := (some 62)) (by kernel_rfl) (v := .int .u32 ((0 : Nat) : Int)) (fun _ => run_convOpE (x := .tmp 61) (s := 3) (d := 141) (u := .int .i64 ((0 : Nat) : Int)) (v := .int .u32 (IntKind.u32.wrap ((0 : Nat) : Int))) (by kernel_rfl) (by kernel_rfl) (by kernel_rfl) (by rw [(u32_s 0 (by decide)).1])) ?_
             refine k_pure (by kernel_rfl) (d := (some 63)) (by kernel_rfl) (v := .int .u64 ((0 : Nat) : Int)) (fun _ => run_convOpE (x := .tmp 62) (s := 141) (d := 24) (u := .int .u32 ((0 : Nat) : Int)) (v := .int .u64 (IntKind.u64.wrap ((0 : Nat) : Int))) (by kernel_rfl) (by kernel_rfl) (by kernel_rfl) (by rw [(u32_s 0 (by decide)).2])) ?_
             refine k_pure (by kernel_rfl) (d := (some 64)) (by kernel_rfl) (v := .int .u64 18446744073709551615) (fun _ => run_binOpV (op := .sub) (x := .tmp 63) (y := .const (.int .u64 1)) (t := 24) (t' := 24) (by kernel_rfl) (by kernel_rfl) (by kernel_rfl) rfl (sub64v eqb1)) ?_
             refine kp (d := some 65) (v := .int .u64 1) ?_
             refine kp (d := some 66) (v := .int .i64 1) ?_
             refine kd (d := some 67) (f := 122) (args := #[.pointer (some ⟨n + 1, 0, none⟩), .pointer (some ⟨n, 128 * j, none⟩), .int .i64 1]) (up1 HS.out (i := 2) rfl (cmov2_1 (HS.out.blk 2 _ _ rfl) HAT.out (by omega))) (fun _ w358 ⟨he358, hS2⟩ => ⟨_, he358, trivial, ?_⟩)
             have HJ := Lib.hid (show Hid (∃ LS, LS.length = 4 ∧ (h < j + 1 → ∃ A B D W, LS = [A, B, D, W] ∧ Rep2 (Pt.mul m q) A B D W) ∧ Sto w2 [(b1, flat LD3), (n, flat T), (n + 1, flat LS)] w358) from Lib.hid ⟨[A, B, D, W], rfl, fun _ => ⟨A, B, D, W, rfl, by have := HR.out; rwa [← HHJ.out, ← HMH.out.1] at this⟩, hS2⟩)
             clear hS2 he358 HS
             refine k_end ?_
             go_simp
             go_wp2_with fail
             exact ⟨⟨j + 1, by have := LTJ.out; omega, by go_num, HJ.out⟩, by have := LTJ.out; simp [intOf]; omega⟩
           · have hhj : h ≠ j := fun e => hxe (hx0.2 e)
             have hx1 := Lib.hid (show 1 ≤ x by omega)
             have HHJ := Lib.hid hhj
             clear hhj hx0 hxe
             go_upto_region 19 with (fail)
             refine wsA (opsAt Tryd.f95 19) ((true, 0) :: (true, 1) :: []) (fun _ => True) trivial ?_
             refine kp (d := some 56) (v := .int .i64 (j : Int)) ?_
             refine kp (d := some 14) (v := .int .i64 (j : Int)) ?_
             refine k_end ?_
             go_simp
             go_upto_region 20 with (fail)
             refine wsA (opsAt Tryd.f95 20) ((true, 0) :: (true, 1) :: (true, 2) :: (true, 3) :: (true, 4) :: (true, 5) :: (true, 6) :: (true, 7) :: (true, 8) :: (true, 9) :: (false, 10) :: []) (fun _ => True) trivial ?_
             refine kp (d := some 57) (v := .int .i64 (j : Int)) ?_
             refine k_pure (by kernel_rfl) (d := (some 58)) (by kernel_rfl) (v := .pointer (some ⟨n, 128 * j, none⟩)) (fun _ => run_indexV (sz := 128) (t := 133) (x := (.tmp 6)) (y := (.tmp 57)) (b := n) (off := 0) (i := j) (by kernel_rfl) (by kernel_rfl) (by kernel_rfl) Tryd.underlying133 (by kernel_rfl) (by have := LTJ.out; omega) (by omega)) ?_
             refine kp (d := some 59) (v := .int .i64 (h : Int)) ?_
             refine kp (d := some 60) (v := .int .i64 (j : Int)) ?_
             refine k_pure (by kernel_rfl) (d := (some 61)) (by kernel_rfl) (v := .int .i64 (x : Int)) (fun _ => run_binOpV (op := .xor) (x := .tmp 59) (y := .tmp 60) (t := 3) (t' := 3) (by kernel_rfl) (by kernel_rfl) (by kernel_rfl) rfl (xorK HX.out)) ?_
             refine k_pure (by kernel_rfl) (d := (some 62)) (by kernel_rfl) (v := .int .u32 (x : Int)) (fun _ => run_convOpE (x := .tmp 61) (s := 3) (d := 141) (u := .int .i64 (x : Int)) (v := .int .u32 (IntKind.u32.wrap (x : Int))) (by kernel_rfl) (by kernel_rfl) (by kernel_rfl) (by rw [(u32_s x HX8.out).1])) ?_
             refine k_pure (by kernel_rfl) (d := (some 63)) (by kernel_rfl) (v := .int .u64 (x : Int)) (fun _ => run_convOpE (x := .tmp 62) (s := 141) (d := 24) (u := .int .u32 (x : Int)) (v := .int .u64 (IntKind.u64.wrap (x : Int))) (by kernel_rfl) (by kernel_rfl) (by kernel_rfl) (by rw [(u32_s x HX8.out).2])) ?_
             refine k_pure (by kernel_rfl) (d := (some 64)) (by kernel_rfl) (v := .int .u64 ((x - 1 : Nat) : Int)) (fun _ => run_binOpV (op := .sub) (x := .tmp 63) (y := .const (.int .u64 1)) (t := 24) (t' := 24) (by kernel_rfl) (by kernel_rfl) (by kernel_rfl) rfl (sub64v (eqb0 x HX8.out hx1.out))) ?_
             refine k_pure (by kernel_rfl) (d := (some 65)) (by kernel_rfl) (v := .int .u64 0) (fun _ => run_binOpV (op := .shr) (x := .tmp 64) (y := .const (.int .u64 63)) (t := 24) (t' := 117) (by kernel_rfl) (by kernel_rfl) (by kernel_rfl) rfl (shr63v (z := x - 1) (by have := HX8.out; omega))) ?_
             refine kp (d := some 66) (v := .int .i64 0) ?_
             refine kd (d := some 67) (f := 122) (args := #[.pointer (some ⟨n + 1, 0, none⟩), .pointer (some ⟨n, 128 * j, none⟩), .int .i64 0]) (up1 HS.out (i := 2) rfl (cmov2_0 (HS.out.blk 2 _ _ rfl) HAT.out (by omega))) (fun _ w388 ⟨he388, hS2⟩ => ⟨_, he388, trivial, ?_⟩)
             have HJ := Lib.hid (show Hid (∃ LS, LS.length = 4 ∧ (h < j + 1 → ∃ A B D W, LS = [A, B, D, W] ∧ Rep2 (Pt.mul m q) A B D W) ∧ Sto w2 [(b1, flat LD3), (n, flat T), (n + 1, flat LS)] w388) from Lib.hid ⟨[a, b, c, d], rfl, fun hlt => HSEL.out (by have := HHJ.out; omega), hS2⟩)
             clear hS2 he388 HS
             refine k_end ?_
             go_simp
             go_wp2_with fail
             exact ⟨⟨j + 1, by have := LTJ.out; omega, by go_num, HJ.out⟩, by have := LTJ.out; simp [intOf]; omega⟩
         · have hj8 : ¬ (j : Int) < 8 := by omega
           obtain ⟨A, B, D, W, rfl, hr⟩ := hsel (by have := HMH.out; omega)
           have HS := Lib.hid hS; have HR := Lib.hid hr
           clear hS hr hsel hl4 hj hlt
           go_upto_region 22 with (fail)
           refine wsA (opsAt Tryd.f95 22) ((true, 0) :: (true, 1) :: (false, 2) :: []) (fun _ => True) trivial ?_
           refine kp (d := some 69) (v := .pointer (some ⟨n + 1, 0, none⟩)) ?_
           refine kp (d := some 70) (v := .int .i64 1) ?_
           refine kd (d := some 71) (f := 123) (args := #[.pointer (some ⟨n + 1, 0, none⟩), .int .i64 1]) (up1 HS.out (i := 2) rfl (cneg_1 (HM2.out.sto HS.out (ksC (by omega) (ksC (by omega) (ksC (by omega) ks0)))) (by omega) (HS.out.blk 2 _ _ rfl))) (fun _ w427 ⟨he427, hS2⟩ => ⟨_, he427, trivial, ?_⟩)
           have HS2 := Lib.hid hS2
           clear hS2 he427 HS
           refine k_end ?_
           go_simp
           go_upto_region 23 with (fail)
           refine wsA (opsAt Tryd.f95 23) ((true, 0) :: (false, 1) :: []) (fun _ => True) trivial ?_
           refine kp (d := some 72) (v := .pointer (some ⟨b1, 0, none⟩)) ?_
           refine kd (d := some 73) (f := 81) (args := #[.pointer (some ⟨b1, 0, none⟩), .pointer (some ⟨n + 1, 0, none⟩)]) (upE HS2.out (i := 0) rfl (ptAdd (HS2.out.blk 0 _ _ rfl) Y.out.1 (HS2.out.blk 2 _ _ rfl).atL (negR2 HR.out) (HS2.out.ne 2 0 _ _ _ _ rfl rfl (by decide)))) (fun _ w428 ⟨he428, L5, hL5, hS3⟩ => ⟨_, he428, trivial, ?_⟩)
           have HJ := Lib.hid (show Hid (∃ LP LS, R1L (Pt.mul (acc K i) q) LP ∧ LS.length = 4 ∧ Sto w2 [(b1, flat LP), (n, flat T), (n + 1, flat LS)] w428) from Lib.hid ⟨L5, [B, A, -D, W], by have := acc_m ODD.out LTK.out LT.out q HDD.out; rw [← this]; exact hL5, rfl, hS3⟩)
           clear hL5 hS3 he428 HS2
           refine k_end ?_
           go_simp
           go_wp2_with fail
           exact ⟨⟨i, (i : Int) - 1, by have := LT.out; omega, by go_num, Lib.hid rfl, HJ.out⟩, by have := LT.out; simp [intOf]⟩
end Go.Proofs.YtfkfljohhabldaaDoor
namespace Go.Proofs.YtfkfljohhabldaaDoor
open Go.RowKit Go.FourQ
theorem times392 {w : World} {X Y Z : Zq} {p : Pt} (hp : Rep3 p X Y Z) :
   Calls Tryd.prog 44 #[.agg (dgL [X.re.val, X.im.val, Y.re.val, Y.im.val, Z.re.val, Z.im.val]), .agg (fps [392, 0])] w fun e w' => ∃ A B C : Zq, Rep3 (Pt.mul 392 p) A B C ∧ e = .returned (.agg (dgL [A.re.val, A.im.val, B.re.val, B.im.val, C.re.val, C.im.val])) ∧ Below w.heap.size w w' := by
 have h := timesP (w := w) (lo := 392) (hi := 0) (by decide +kernel) (by decide +kernel) hp
 simpa only [Nat.mul_zero, Nat.add_zero] using h
set_option maxRecDepth 100000 in
set_option maxHeartbeats 1000000 in
theorem cleared_c {w : World} {X Y Z : Zq} {p : Pt} (hp : Rep3 p X Y Z) :
   Calls Tryd.prog 43 #[.agg (dgL [X.re.val, X.im.val, Y.re.val, Y.im.val, Z.re.val, Z.im.val])] w fun e w' => ∃ A B C : Zq, Rep3 (Pt.mul 392 p) A B C ∧ e = .returned (.agg (dgL [A.re.val, A.im.val, B.re.val, B.im.val, C.re.val, C.im.val])) ∧ Below w.heap.size w w' := by
 have HP := Lib.hid hp
 clear hp
 go_enter Tryd.func43, Tryd.ntmps43
 go_upto_region 1 with (fail)
 refine wp_gen (fun WW => Kept w [(w.heap.size, (dgL [X.re.val, X.im.val, Y.re.val, Y.im.val, Z.re.val, Z.im.val])), (w.heap.size + 1, (dgL [0, 0, 0, 0, 0, 0]))] [] WW) (Kept.zero (nb_alloc (nb_alloc (Below.refl _ _) _) _) (rowsC (row_as (hp2_0 (w := w) _ _) (by kernel_rfl)) (rowsC (row_as (hp2_1 (w := w) _ _) (by kernel_rfl)) rows0))) ?_
 intro W0 K0
 have O1K1 := K0.at 1 rfl
 obtain ⟨T1K1, O1K1⟩ := O1K1
 have K1 : Kept w [(w.heap.size, (dgL [X.re.val, X.im.val, Y.re.val, Y.im.val, Z.re.val, Z.im.val]))] [(w.heap.size + 1, 48)] W0 := Kept.mks K0.nb (rowsC (K0.at 0 rfl) rows0) (roomsC (by kernel_rfl) O1K1 rooms0)
 refine wsA (opsAt Tryd.f43 1) ((true, 0) :: (true, 1) :: (false, 2) :: (false, 3) :: []) (Kept w [(w.heap.size, (dgL [X.re.val, X.im.val, Y.re.val, Y.im.val, Z.re.val, Z.im.val]))] [(w.heap.size + 1, 48)]) K1 ?_
 refine k_row (by kernel_rfl) (d := (some 3)) (by kernel_rfl) (ty := 41) (x := (.tmp 1)) (by kernel_rfl) (b := w.heap.size) (by kernel_rfl) (cs := (dgL [X.re.val, X.im.val, Y.re.val, Y.im.val, Z.re.val, Z.im.val])) (fun _ hs => hs.at 0 rfl) Tryd.underlying41 rfl (by kernel_rfl) ?_
 refine kp (d := some 4) (v := .agg (fps [392, 0])) ?_
 refine kd (d := some 5) (f := 44) (args := #[.agg (dgL [X.re.val, X.im.val, Y.re.val, Y.im.val, Z.re.val, Z.im.val]), .agg (fps [392, 0])]) (times392 HP.out) (fun _ w2 ⟨X2, Y2, Z2, hr2, he2, hb2⟩ => ⟨_, he2, K1.go hb2, ?_⟩)
 have K2 := K1.go hb2
 have G2_10 := nb_heap O1K1 _ hb2
 have L2 := hb2.size
 refine k_put (by kernel_rfl) (d := none) (by kernel_rfl) (ty := 41) (x := (.tmp 2)) (y := (.tmp 5)) (by kernel_rfl) (g := w.heap.size + 1) (cells := (dgL [X2.re.val, X2.im.val, Y2.re.val, Y2.im.val, Z2.re.val, Z2.im.val])) (by kernel_rfl) (by kernel_rfl) G2_10 (by kernel_rfl) (by kernel_rfl) (all_dgA _) (K2.puti (n := 48) (by kernel_rfl) (by omega) (neC (by omega) ne0) (nsE ns0)) ?_
 intro w3 hw3 K3
 have G3_s : w3.heap[w.heap.size + 1]? = some (.cells (dgL [X2.re.val, X2.im.val, Y2.re.val, Y2.im.val, Z2.re.val, Z2.im.val]) _ (0, 0)) := hw3 ▸ setRow_heap _ _ _ _ _ _ G2_10
 have L3 : w2.heap.size ≤ w3.heap.size := by rw [hw3]; exact Nat.le_of_eq (size_setRow _ _ _).symm
 clear hw3
 have K4 : Kept w [(w.heap.size, (dgL [X.re.val, X.im.val, Y.re.val, Y.im.val, Z.re.val, Z.im.val])), (w.heap.size + 1, (dgL [X2.re.val, X2.im.val, Y2.re.val, Y2.im.val, Z2.re.val, Z2.im.val]))] [] w3 := Kept.zero K3.nb (rowsC (K3.at 0 rfl) (rowsC ⟨_, G3_s⟩ rows0))
 clear O1K1 G3_s G2_10
 refine k_end ?_
 go_simp
 go_wp2_with fail
 obtain ⟨TR, hRR⟩ := K4.at 1 rfl
 exact bodyPost_ret_by (results_cell_row rfl _ _ (w.heap.size + 1) _ (dgL [X2.re.val, X2.im.val, Y2.re.val, Y2.im.val, Z2.re.val, Z2.im.val]) _ _ rfl hRR Tryd.underlying41 rfl (by kernel_rfl)) rfl ⟨X2, Y2, Z2, hr2, rfl, K4.nb⟩
section
variable {w : World} {b1 b2 b3 lo hi : Nat} {q S : Pt}
set_option maxRecDepth 100000 in
set_option maxHeartbeats 1000000 in
theorem ptSm {v0 v1 : Zq} (hs : Pt.mul (lo + 340282366920938463463374607431768211456 * hi) (Pt.mul 392 q) = S) (hm : ModW w) (hg : 5 ≤ b1) (ho : Ds w 1 [3436901888089820391, 16122042576031152537, 17317351579400803557, 11764505149049458]) (hd : AtZ w 0 0 dd) (hl : lo < 256 ^ 16) (hh : hi < 256 ^ 16) (h1 : FpsZ w b1 (flat [v0, v1])) (hk : Fps w b2 [lo, hi]) (ha : AtL w b3 0 [q.x, q.y]) (hne2 : b2 ≠ b1) (hne3 : b3 ≠ b1) :
   Calls Tryd.prog 73 #[.pointer (some ⟨b1, 0, none⟩), .pointer (some ⟨b2, 0, none⟩), .pointer (some ⟨b3, 0, none⟩)] w fun e w' => e = .returned (.tuple #[]) ∧ UpdZ w w' b1 (flat [S.x, S.y]) := by
 have HK := Lib.hid hk
 have HA := Lib.hid ha
 have HS := Lib.hid hs
 have HL := Lib.hid hl
 have HH := Lib.hid hh
 clear hk ha hs hl hh
 go_enter Tryd.func73, Tryd.ntmps73
 go_upto_region 1 with (fail)
 have HB2 := HK.out.lt
 have HB3 := HA.out.lt
 have HG0 := hd.q.fst.lt
 have HGO := ho.lt
 have HB1 := h1.lt
 have HGM := hm.lt
 refine wp_gen (fun W => Sto w [(b1, flat [v0, v1]), (w.heap.size, flat [0, 0, 0, 0, 0]), (w.heap.size + 1, flat [0, 0, 0, 0, 0])] W) (((Sto.one h1).new (l := List.replicate 10 0) rfl (by rfl) zeroL rfl).new (l := List.replicate 10 0) (by simp) (by rfl) zeroL rfl) ?_
 intro W0 H0
 obtain ⟨n, hn⟩ : ∃ n, w.heap.size = n := ⟨_, rfl⟩
 rw [hn] at H0 ⊢
 have HN : Hid (w.heap.size = n) := Lib.hid hn
 have HNL : w.heap.size ≤ n := Nat.le_of_eq hn
 clear hn
 have H0 : Sto w [(b1, flat [v0, v1]), (n, flat [0, 0, 0, 0, 0]), (n + 1, flat [0, 0, 0, 0, 0])] W0 := H0
 refine wsA (opsAt Tryd.f73 1) ((true, 0) :: (false, 1) :: []) (fun _ => True) trivial ?_
 refine kp (d := some 8) (v := .pointer (some ⟨b3, 0, none⟩)) ?_
 refine kd (d := some 9) (f := 76) (args := #[.pointer (some ⟨b3, 0, none⟩), .pointer (some ⟨n + 1, 0, none⟩)]) (upE H0 (i := 2) rfl (ptToR1 (p := q) (H0.blk 2 _ _ rfl) rfl ((HA.out).sto H0 (ksC (Ne.symm hne3) (ksC (by omega) (ksC (by omega) ks0)))) (Ne.symm (by omega)))) (fun _ w1 q1 => ⟨.tuple #[], q1.1, trivial, ?_⟩)
 obtain ⟨L1, hL1, u1⟩ := q1.2
 clear q1
 have H1 : Sto w [(b1, flat [v0, v1]), (n, flat [0, 0, 0, 0, 0]), (n + 1, flat L1)] w1 := u1
 clear u1 H0
 refine k_end ?_
 go_simp
 go_upto_region 2 with (fail)
 refine wsA (opsAt Tryd.f73 2) ((false, 0) :: []) (fun _ => True) trivial ?_
 refine kd (d := some 10) (f := 94) (args := #[.pointer (some ⟨n + 1, 0, none⟩)]) (upE H1 (i := 2) rfl (ptClear (by omega) (hd.sto H1 (ksC (Nat.ne_of_gt (Nat.lt_of_lt_of_le (by decide) hg)) (ksC (by omega) (ksC (by omega) ks0)))) (H1.blk 2 _ _ rfl) hL1)) (fun _ w2 q2 => ⟨.tuple #[], q2.1, trivial, ?_⟩)
 obtain ⟨L2, hL2, u2⟩ := q2.2
 clear q2
 have H2 : Sto w [(b1, flat [v0, v1]), (n, flat [0, 0, 0, 0, 0]), (n + 1, flat L2)] w2 := u2
 clear u2 H1
 refine k_end ?_
 go_simp
 go_upto_region 3 with (fail)
 refine wsA (opsAt Tryd.f73 3) ((true, 0) :: (false, 1) :: []) (fun _ => True) trivial ?_
 refine kp (d := some 11) (v := .pointer (some ⟨b2, 0, none⟩)) ?_
 refine kd (d := some 12) (f := 95) (args := #[.pointer (some ⟨n, 0, none⟩), .pointer (some ⟨b2, 0, none⟩), .pointer (some ⟨n + 1, 0, none⟩)]) (upE H2 (i := 1) rfl (scalarMult (hm.sto H2 (ksC (Nat.ne_of_gt (Nat.lt_of_lt_of_le (by decide) hg)) (ksC (Nat.ne_of_gt (by omega)) (ksC (Nat.ne_of_gt (by omega)) ks0)))) ⟨by omega, Nat.le_trans (by omega) H2.size⟩ (hd.sto H2 (ksC (Nat.ne_of_gt (Nat.lt_of_lt_of_le (by decide) hg)) (ksC (by omega) (ksC (by omega) ks0)))) (ho.of_heap (H2.other _ ho.lt (ksC (Nat.ne_of_gt (Nat.lt_of_lt_of_le (by decide) hg)) (ksC (by omega) (ksC (by omega) ks0))))) HL.out HH.out (H2.blk 1 _ _ rfl) rfl (HK.out.of_heap (H2.other _ HK.out.lt (ksC (Ne.symm hne2) (ksC (by omega) (ksC (by omega) ks0))))) (H2.blk 2 _ _ rfl).atL hL2 ⟨by omega, (H2.ne 1 2 _ _ _ _ rfl rfl (by decide))⟩)) (fun _ w3 q3 => ⟨.tuple #[], q3.1, trivial, ?_⟩)
 obtain ⟨L3, hL3, u3⟩ := q3.2
 clear q3
 rw [oddK_mul, HS.out] at hL3
 have H3 : Sto w [(b1, flat [v0, v1]), (n, flat L3), (n + 1, flat L2)] w3 := u3
 clear u3 H2
 refine k_end ?_
 go_simp
 go_upto_region 4 with (fail)
 refine wsA (opsAt Tryd.f73 4) ((true, 0) :: (false, 1) :: []) (fun _ => True) trivial ?_
 refine kp (d := some 13) (v := .pointer (some ⟨b1, 0, none⟩)) ?_
 refine kd (d := some 14) (f := 79) (args := #[.pointer (some ⟨b1, 0, none⟩), .pointer (some ⟨n, 0, none⟩)]) (up2E H3 (i := 0) (j := 1) rfl rfl (by decide) (ptFromR1 (hm.sto H3 (ksC (Nat.ne_of_gt (Nat.lt_of_lt_of_le (by decide) hg)) (ksC (Nat.ne_of_gt (by omega)) (ksC (Nat.ne_of_gt (by omega)) ks0)))) hg (by omega) (H3.ne 0 1 _ _ _ _ rfl rfl (by decide)) (H3.blk 0 _ _ rfl) (H3.blk 1 _ _ rfl) hL3)) (fun _ w4 q4 => ⟨.tuple #[], q4.1, trivial, ?_⟩)
 obtain ⟨L4, hL4, u4⟩ := q4.2
 clear q4
 have H4 : Sto w [(b1, flat [S.x, S.y]), (n, flat L4), (n + 1, flat L2)] w4 := u4
 clear u4 H3
 refine k_end ?_
 go_simp
 have HF := Lib.hid H4
 clear H4
 go_wp2_with fail
 go_end0
 exact ⟨rfl, HF.out.end1 (tsC (by omega) (tsC (by omega) ts0))⟩
theorem smP_u (hs : Pt.mul (lo + 340282366920938463463374607431768211456 * hi) (Pt.mul 392 q) = S) (hm : ModW w) (hg : 5 ≤ b1) (ho : Ds w 1 [3436901888089820391, 16122042576031152537, 17317351579400803557, 11764505149049458]) (hd : AtZ w 0 0 dd) (hl : lo < 256 ^ 16) (hh : hi < 256 ^ 16) (h1 : FpsZ w b1 (flat [0, 0])) (hk : Fps w b2 [lo, hi]) (ha : AtL w b3 0 [q.x, q.y]) (hne2 : b2 ≠ b1) (hne3 : b3 ≠ b1) :
   Calls Tryd.prog 73 #[.pointer (some ⟨b1, 0, none⟩), .pointer (some ⟨b2, 0, none⟩), .pointer (some ⟨b3, 0, none⟩)] w fun e w' => ∃ a b c d, e = .returned (.tuple #[]) ∧ (LowB a ∧ LowB b ∧ LowB c ∧ LowB d) ∧ (zp a = S.x.re ∧ zp b = S.x.im ∧ zp c = S.y.re ∧ zp d = S.y.im) ∧ Upd w w' b1 [a, b, c, d] :=
 (ptSm hs hm hg ho hd hl hh h1 hk ha hne2 hne3).mono fun _ _ q => by obtain ⟨a, b, c, d, h1, h2, h3⟩ := q.2.four; exact ⟨a, b, c, d, q.1, h1, h2, h3⟩
end
set_option maxRecDepth 100000 in
set_option maxHeartbeats 1000000 in
theorem implTimes {w : World} {lo hi : Nat} {q S : Pt} (hs : Pt.mul (lo + 340282366920938463463374607431768211456 * hi) (Pt.mul 392 q) = S) (hm : ModW w) (hg : 5 ≤ w.heap.size) (ho : Ds w 1 [3436901888089820391, 16122042576031152537, 17317351579400803557, 11764505149049458]) (hd : AtZ w 0 0 dd) (hl : lo < 256 ^ 16) (hh : hi < 256 ^ 16) :
   Calls Tryd.prog 42 #[.agg (fps [lo, hi]), .agg (fps [(q.x).re.val, (q.x).im.val, (q.y).re.val, (q.y).im.val])] w fun e w' => e = .returned (.agg (fps [(S.x).re.val, (S.x).im.val, (S.y).re.val, (S.y).im.val])) ∧ Below w.heap.size w w' := by
 have HS := Lib.hid hs; have HL := Lib.hid hl; have HH := Lib.hid hh
 clear hs hl hh
 go_enter Tryd.func42, Tryd.ntmps42
 go_upto_region 2 with (fail)
 refine wp_gen (fun WW => Kept w [(w.heap.size, (fps [lo, hi])), (w.heap.size + 1, (fps [(q.x).re.val, (q.x).im.val, (q.y).re.val, (q.y).im.val])), (w.heap.size + 1 + 1, (fps [0, 0, 0, 0])), (w.heap.size + 1 + 1 + 1, (fps [0, 0, 0, 0]))] [] WW) (Kept.zero (nb_alloc (nb_alloc (nb_alloc (nb_alloc (Below.refl _ _) _) _) _) _) (rowsC (row_as (hp4_0 (w := w) _ _ _ _) (by kernel_rfl)) (rowsC (row_as (hp4_1 (w := w) _ _ _ _) (by kernel_rfl)) (rowsC (row_as (hp4_2 (w := w) _ _ _ _) (by kernel_rfl)) (rowsC (row_as (hp4_3 (w := w) _ _ _ _) (by kernel_rfl)) rows0))))) ?_
 intro W0 K0
 have O3K1 := K0.at 3 rfl
 obtain ⟨T3K1, O3K1⟩ := O3K1
 have K1 : Kept w [(w.heap.size, (fps [lo, hi])), (w.heap.size + 1, (fps [(q.x).re.val, (q.x).im.val, (q.y).re.val, (q.y).im.val])), (w.heap.size + 1 + 1, (fps [0, 0, 0, 0]))] [(w.heap.size + 1 + 1 + 1, 64)] W0 := Kept.mks K0.nb (rowsC (K0.at 0 rfl) (rowsC (K0.at 1 rfl) (rowsC (K0.at 2 rfl) rows0))) (roomsC (by kernel_rfl) O3K1 rooms0)
 refine wsA (opsAt Tryd.f42 2) ((true, 0) :: (false, 1) :: (false, 2) :: []) (Kept w [(w.heap.size, (fps [lo, hi])), (w.heap.size + 1, (fps [(q.x).re.val, (q.x).im.val, (q.y).re.val, (q.y).im.val])), (w.heap.size + 1 + 1, (fps [0, 0, 0, 0]))] [(w.heap.size + 1 + 1 + 1, 64)]) K1 ?_
 refine k_row (by kernel_rfl) (d := (some 6)) (by kernel_rfl) (ty := 35) (x := (.tmp 3)) (by kernel_rfl) (b := w.heap.size + 1) (by kernel_rfl) (cs := (fps [(q.x).re.val, (q.x).im.val, (q.y).re.val, (q.y).im.val])) (fun _ hs => hs.at 1 rfl) Tryd.underlying35 rfl (by kernel_rfl) ?_
 refine kd (d := some 7) (f := 50) (args := #[.agg (fps [(q.x).re.val, (q.x).im.val, (q.y).re.val, (q.y).im.val])]) (made_c) (fun _ w2 ⟨n2, he2, hge2, ⟨T2, F2⟩, hb2⟩ => ⟨_, he2, K1.go hb2, ?_⟩)
 have K2 := K1.go hb2
 have M2_0 := lt_of_heap O3K1
 have R2_0 : w.heap.size < W0.heap.size := (by obtain ⟨T, h⟩ := K1.at 0 rfl; exact lt_of_heap h)
 have R2_1 : w.heap.size + 1 < W0.heap.size := (by obtain ⟨T, h⟩ := K1.at 1 rfl; exact lt_of_heap h)
 have R2_2 : w.heap.size + 1 + 1 < W0.heap.size := (by obtain ⟨T, h⟩ := K1.at 2 rfl; exact lt_of_heap h)
 have Z2 : w.heap.size ≤ W0.heap.size := K1.nb.size
 have G2_10 := nb_heap O3K1 _ hb2
 have L2 := hb2.size
 have S2 := lt_of_heap F2
 refine kd (d := some 8) (f := 73) (args := #[.pointer (some ⟨w.heap.size + 1 + 1 + 1, 0, none⟩), .pointer (some ⟨w.heap.size, 0, none⟩), .pointer (some ⟨n2, 0, none⟩)]) (smP_u HS.out (hm.nb K2.nb) (by omega) (by obtain ⟨T, h⟩ := ho; exact ⟨T, nb_heap h _ K2.nb⟩) (hd.nb K2.nb) HL.out HH.out (row_zero G2_10) (K2.at 0 rfl) (row_fps F2).atL (by omega) (by omega)) (fun _ w3 ⟨p3, q3, r3, s3, he3, hl3, hz3, hb3⟩ => ⟨_, he3, K2.updz (n := 64) hb3 rfl (by omega) (neC (by omega) (neC (by omega) (neC (by omega) ne0))) (nsE ns0), ?_⟩)
 have K3 := K2.updz (n := 64) hb3 rfl (by omega) (neC (by omega) (neC (by omega) (neC (by omega) ne0))) (nsE ns0)
 have V3_1 : w3.heap[n2]? = some (.cells (fps [(q.x).re.val, (q.x).im.val, (q.y).re.val, (q.y).im.val]) _ (0, 0)) := (hb3.other _ (lt_of_heap F2) (by omega)).trans F2
 replace hz3 := Lib.hid hz3
 obtain ⟨TU3, V3_u⟩ := hb3.blk
 have L3 := hb3.size
 have K4 : Kept w [(w.heap.size, (fps [lo, hi])), (w.heap.size + 1, (fps [(q.x).re.val, (q.x).im.val, (q.y).re.val, (q.y).im.val])), (w.heap.size + 1 + 1, (fps [0, 0, 0, 0])), (w.heap.size + 1 + 1 + 1, (fps [p3, q3, r3, s3])), (n2, (fps [(q.x).re.val, (q.x).im.val, (q.y).re.val, (q.y).im.val]))] [] w3 := Kept.zero K3.nb (rowsC (K3.at 0 rfl) (rowsC (K3.at 1 rfl) (rowsC (K3.at 2 rfl) (rowsC ⟨_, V3_u⟩ (rowsC ⟨_, V3_1⟩ rows0)))))
 clear O3K1 F2 V3_u V3_1 G2_10
 refine k_end ?_
 go_simp
 go_upto_region 3 with (fail)
 have O2K5 := K4.at 2 rfl
 obtain ⟨T2K5, O2K5⟩ := O2K5
 have K5 : Kept w [(w.heap.size, (fps [lo, hi])), (w.heap.size + 1, (fps [(q.x).re.val, (q.x).im.val, (q.y).re.val, (q.y).im.val])), (w.heap.size + 1 + 1 + 1, (fps [p3, q3, r3, s3])), (n2, (fps [(q.x).re.val, (q.x).im.val, (q.y).re.val, (q.y).im.val]))] [(w.heap.size + 1 + 1, 64)] w3 := Kept.mks K4.nb (rowsC (K4.at 0 rfl) (rowsC (K4.at 1 rfl) (rowsC (K4.at 3 rfl) (rowsC (K4.at 4 rfl) rows0)))) (roomsC (by kernel_rfl) O2K5 rooms0)
 refine wsA (opsAt Tryd.f42 3) ((false, 0) :: (false, 1) :: []) (Kept w [(w.heap.size, (fps [lo, hi])), (w.heap.size + 1, (fps [(q.x).re.val, (q.x).im.val, (q.y).re.val, (q.y).im.val])), (w.heap.size + 1 + 1 + 1, (fps [p3, q3, r3, s3])), (n2, (fps [(q.x).re.val, (q.x).im.val, (q.y).re.val, (q.y).im.val]))] [(w.heap.size + 1 + 1, 64)]) K5 ?_
 refine kc (d := some 9) (f := 55) (args := #[.pointer (some ⟨w.heap.size + 1 + 1 + 1, 0, none⟩)]) (v := .agg (fps [(S.x).re.val, (S.x).im.val, (S.y).re.val, (S.y).im.val])) (plain_c (hm.nb K5.nb) (K5.at 2 rfl) hl3 hz3.out) (fun w6 hb6 => ⟨K5.go hb6, ?_⟩)
 have K6 := K5.go hb6
 have G6_10 := nb_heap O2K5 _ hb6
 have L6 := hb6.size
 refine k_put (by kernel_rfl) (d := none) (by kernel_rfl) (ty := 35) (x := (.tmp 4)) (y := (.tmp 9)) (by kernel_rfl) (g := w.heap.size + 1 + 1) (cells := (fps [(S.x).re.val, (S.x).im.val, (S.y).re.val, (S.y).im.val])) (by kernel_rfl) (by kernel_rfl) G6_10 (by kernel_rfl) (by kernel_rfl) (all_fps _) (K6.puti (n := 64) (by kernel_rfl) (by omega) (neC (by omega) (neC (by omega) (neC (by omega) (neC (by omega) ne0)))) (nsE ns0)) ?_
 intro w7 hw7 K7
 have G7_s : w7.heap[w.heap.size + 1 + 1]? = some (.cells (fps [(S.x).re.val, (S.x).im.val, (S.y).re.val, (S.y).im.val]) _ (0, 0)) := hw7 ▸ setRow_heap _ _ _ _ _ _ G6_10
 have L7 : w6.heap.size ≤ w7.heap.size := by rw [hw7]; exact Nat.le_of_eq (size_setRow _ _ _).symm
 clear hw7
 have K8 : Kept w [(w.heap.size, (fps [lo, hi])), (w.heap.size + 1, (fps [(q.x).re.val, (q.x).im.val, (q.y).re.val, (q.y).im.val])), (w.heap.size + 1 + 1, (fps [(S.x).re.val, (S.x).im.val, (S.y).re.val, (S.y).im.val])), (w.heap.size + 1 + 1 + 1, (fps [p3, q3, r3, s3])), (n2, (fps [(q.x).re.val, (q.x).im.val, (q.y).re.val, (q.y).im.val]))] [] w7 := Kept.zero K7.nb (rowsC (K7.at 0 rfl) (rowsC (K7.at 1 rfl) (rowsC ⟨_, G7_s⟩ (rowsC (K7.at 2 rfl) (rowsC (K7.at 3 rfl) rows0)))))
 clear O2K5 G7_s G6_10
 refine k_end ?_
 go_simp
 go_wp2_with fail
 obtain ⟨TR, hR⟩ := K8.at 2 rfl
 exact bodyPost_ret_by (results_cell_row rfl _ _ (w.heap.size + 1 + 1) _ (fps [(S.x).re.val, (S.x).im.val, (S.y).re.val, (S.y).im.val]) _ _ rfl hR Tryd.underlying35 rfl (by kernel_rfl)) rfl ⟨rfl, K8.nb⟩
end Go.Proofs.YtfkfljohhabldaaDoor
namespace Go.FourQ
open Go.ChangeShapes Go.WideShapes Go.ChangeAt Go.RowKit
section
variable {H : Type} {enc : TypeId × Value → H} {P : Program}
def rowed (P : Program) (ts : List TypeId) : Bool := ts.all fun t => P.readableRec t && decide (t < P.types.size)
theorem trodAll_nb (hl : laidOutB P = true) {W W' : World} (hb : Below W.heap.size W W') :
   ∀ {ts : List TypeId} {vs : List Value} {ds : List (DataW H)} {ps : List MemPlace}, rowed P ts = true → (∀ x ∈ ps, x.block < W.heap.size) → DataW.TrodAll enc P W 0 (fun _ => true) true ts vs ds ps →
     DataW.TrodAll enc P W' 0 (fun b => decide (b < W.heap.size)) true ts vs ds ps
 | [], [], [], _, _, _, h => h
 | [], [], _ :: _, _, _, _, h => h.elim
 | [], _ :: _, _, _, _, _, h => h.elim
 | _ :: _, [], _, _, _, _, h => h.elim
 | _ :: _, _ :: _, [], _, _, _, h => h.elim
 | t :: ts, v :: vs, d :: ds, ps, hr, hlt, h => by
   obtain ⟨p, q, h1, h2, e⟩ := h
   simp only [rowed, List.all_cons, Bool.and_eq_true, decide_eq_true_eq] at hr
   exact ⟨p, q, Below.trod hl hr.1.1 hr.1.2 h1 hb (fun x hx => hlt x (by rw [e]; simp [hx])),
     trodAll_nb hl hb (by simpa [rowed] using hr.2) (fun x hx => hlt x (by rw [e]; simp [hx])) h2, e⟩
theorem post_true {f : Func} {s : ChangeSpec} {apart : Bool} {W W' : World} {args : Array Value} {ds gs : List (DataW H)} {before : List MemPlace} {tb : TypeId}
   (hl : laidOutB P = true) (hv : varsRowed P s.vars = true) (hp : rowed P f.params.toList = true) (hrt : f.resultTypes = #[tb]) (htb : P.underlying tb = some .bool)
   (hW : DataW.Whole enc P f.params.toList s.vars apart W args.toList ds gs before)
   (hs : s.fn H (ds ++ gs) = { results := [.lit (.bool true)], args := ds, vars := gs }) (hb : Below W.heap.size W W') :
   s.post enc P f apart true false false W args (.bool true) W' := by
 have hW' := hW
 have hlt := hW.lt
 obtain ⟨p, q, hA, hV, rfl, hfz, hnd⟩ := hW
 refine ⟨ds, gs, p ++ q, [], p, q, hW', ?_, ?_, ?_, hb.frame _, fun h => by cases h⟩
 · rw [hs, hrt]; exact trodAll_mk1 (shut_bool htb true)
 · rw [hs]; exact trodAll_nb hl hb hp (fun x hx => hlt x (by simp [hx])) hA
 · rw [hs]; exact Below.trodVars hl hb hv hV
end
def ofBytes : List Nat → Nat
 | [] => 0
 | b :: l => b + 256 * ofBytes l
theorem ofBytes_lt : ∀ (l : List Nat), (∀ b ∈ l, b < 256) → ofBytes l < 256 ^ l.length
 | [], _ => by simp [ofBytes]
 | b :: l, h => by
   have h1 := ofBytes_lt l fun c hc => h c (by simp [hc])
   have h2 := h b (by simp)
   simp only [ofBytes, List.length_cons, Nat.pow_succ]
   omega
theorem ofBytes_get : ∀ (l : List Nat), (∀ b ∈ l, b < 256) → ∀ i, i < l.length → ofBytes l / 256 ^ i % 256 = l.getD i 0
 | [], _, i, h => by simp at h
 | b :: l, hl, 0, _ => by
   have h2 := hl b (by simp)
   simp only [ofBytes, Nat.pow_zero, Nat.div_one, List.getD_cons_zero]
   omega
 | b :: l, hl, i + 1, h => by
   have h2 := hl b (by simp)
   have e : ofBytes (b :: l) / 256 ^ (i + 1) = ofBytes l / 256 ^ i := by
     rw [Nat.pow_succ', ← Nat.div_div_eq_div_mul]
     congr 1
     simp only [ofBytes]
     omega
   rw [e, List.getD_cons_succ]
   exact ofBytes_get l (fun c hc => hl c (by simp [hc])) i (by simpa using h)
theorem bytes_fpC (cs : List Value) (hlen : cs.length = 16) (h : ∀ i, i < 16 → ∃ n : Int, cs[i]? = some (.int .u8 n) ∧ (Lit.int .u8 n).wf = true) : ∃ x, x < 256 ^ 16 ∧ cs = (fpC x).toList := by
 let f : Value → Nat := fun v => match v with | .int .u8 n => n.toNat | _ => 0
 have hb : ∀ i, i < 16 → cs[i]? = some (.int .u8 (((cs.map f).getD i 0 : Nat) : Int)) ∧ (cs.map f).getD i 0 < 256 := fun i hi => by
   obtain ⟨n, hn, hw⟩ := h i hi
   have hw := bounds_u8 hw
   have e : (cs.map f).getD i 0 = n.toNat := by
     rw [List.getD, List.getElem?_map, hn]; rfl
   rw [e]
   refine ⟨?_, by omega⟩
   rw [hn]
   congr 2
   omega
 have hlt : ∀ b ∈ cs.map f, b < 256 := fun b hm => by
   obtain ⟨i, hi, rfl⟩ := List.getElem_of_mem hm
   have := (hb i (by simpa [hlen] using hi)).2
   rwa [List.getD_eq_getElem?_getD, List.getElem?_eq_getElem hi] at this
 refine ⟨ofBytes (cs.map f), ?_, ?_⟩
 · have := ofBytes_lt _ hlt
   rwa [List.length_map, hlen] at this
 · refine List.ext_getElem? fun i => ?_
   rcases Nat.lt_or_ge i 16 with hi | hi
   · rw [(hb i hi).1, Array.getElem?_toList, fpC_get _ _ hi, byteV, ofBytes_get _ hlt i (by simpa [hlen] using hi)]
   · rw [List.getElem?_eq_none (by omega), List.getElem?_eq_none (by simpa [size_fpC] using hi)]
section
variable {H : Type} {enc : TypeId × Value → H} {P : Program} {w : World}
theorem trod_fp {base : Nat} {spare : Nat → Bool} {held : Bool} {fuel : Nat} {t e : TypeId} {cs : List Value} {x : DataW H × List MemPlace} (ht : P.underlying t = some (.array 16 e)) (he : P.underlying e = some (.int .u8)) (c : P.cellsOf e = 1) (ct : P.cellsOf t = 16)
   (h : DataW.trod enc P w base spare held fuel t cs = some x) : ∃ y, y < 256 ^ 16 ∧ cs = (fpC y).toList := by
 obtain ⟨xs, m, _, _, hl, hxl, hel⟩ := DataW.trod_array ht h
 rw [ct] at hl
 refine bytes_fpC cs hl fun i hi => ?_
 have hE := hel i hi
 rw [c, Nat.mul_one, List.getElem?_eq_getElem (by omega)] at hE
 obtain ⟨n, e1, _, hw⟩ := DataW.trod_int he hE
 refine ⟨n, ?_, hw⟩
 have h0 : ((cs.drop i).take 1)[0]? = some (.int .u8 n) := by rw [e1]; rfl
 simpa using h0
end
end Go.FourQ
namespace Go.Proofs.YtfkfljohhabldaaDoor
open Go.RowKit Go.FourQ Go.ChangeAt
theorem own : ownKnob Tryd.prog.godebug = none := by kernel_rfl
theorem gMod : Tryd.prog.globalNamed "loop.example/pub-g03039/pub/circl/fourq.modulusP" = some 4 := by kernel_rfl
theorem gModType : (Tryd.prog.globals[4]?).map (·.type) = some 73 := by kernel_rfl
theorem cellsFp : Tryd.prog.cellsOf 73 = 16 := by kernel_rfl
theorem cellsU8 : Tryd.prog.cellsOf 5 = 1 := by kernel_rfl
theorem cellsA16 : Tryd.prog.cellsOf 22 = 16 := by kernel_rfl
theorem laidOut : laidOutB Tryd.prog = true := by kernel_rfl
theorem modW_of {W : World} {rest : List (String × DataW Unit)} (h : laidMet Tryd.prog (("loop.example/pub-g03039/pub/circl/fourq.modulusP", Rows.laid_loop_example_pub_g03039_pub_circl_fourq_modulusP) :: rest) W) : ModW W := by
 have t : Lib.TabIs Tryd.prog W "loop.example/pub-g03039/pub/circl/fourq.modulusP" .u8 [255, 255, 255, 255, 255, 255, 255, 255, 255, 255, 255, 255, 255, 255, 255, 127] :=
   Lib.tabIs_of_head gMod gModType Tryd.underlying73 Tryd.underlying5 cellsU8 cellsFp h
 unfold Lib.TabIs World.var? at t
 rw [gMod] at t
 simp only [Option.bind_some] at t
 split at t
 · rename_i cs T fr hc
   have e : cs = fpC pp := (Option.some.inj t).trans (by kernel_rfl)
   exact ⟨T, fr, by rw [hc, e]⟩
 · cases t
end Go.Proofs.YtfkfljohhabldaaDoor
namespace Go.FourQ
open Go.RowKit Go.ChangeAt
theorem laid_tail {P : Program} {W : World} {a : String × DataW Unit} {rest : List (String × DataW Unit)} (h : laidMet P (a :: rest) W) : laidMet P rest W := by
 obtain ⟨n, d⟩ := a
 obtain ⟨ps, ⟨g, t, cs, fuel, p, q, _, _, _, _, hr, rfl⟩, hn, hc⟩ := h
 exact ⟨q, hr, (List.nodup_append.1 hn).2.1, fun b off hb => hc b off (by simp [hb])⟩
theorem take_drop_full {α : Type} (l : List α) (n : Nat) (h : l.length = n + n) : l.take n ++ (l.drop n).take n = l := by
 rw [List.take_of_length_le (l := l.drop n) (by rw [List.length_drop]; omega), List.take_append_drop]
theorem cells_of_pair {H : Type} {enc : TypeId × Value → H} {P : Program} {w : World} {base : Nat} {sp : Nat → Bool} {held : Bool} {fuel : Nat} {t u e : TypeId} {cs : List Value} {z0 z1 : List Int} {p : List MemPlace}
   (ht : P.underlying t = some (.array 2 u)) (hu : P.underlying u = some (.array 16 e)) (he : P.underlying e = some (.int .u8)) (ce : P.cellsOf e = 1) (cu : P.cellsOf u = 16) (ct : P.cellsOf t = 32)
   (h : DataW.trod enc P w base sp held fuel t cs = some (.agg [Lib.tabData .u8 z0, Lib.tabData .u8 z1], p)) : cs = (z0 ++ z1).map fun z => Value.int .u8 z := by
 obtain ⟨xs, m, _, hx, hl, hxl, hel⟩ := DataW.trod_array ht h
 have e0 := hel 0 (by omega)
 have e1 := hel 1 (by omega)
 rw [cu, Nat.zero_mul, List.drop_zero] at e0
 rw [cu, Nat.one_mul] at e1
 match xs, hxl with
 | [x0, x1], _ =>
   simp only [Prod.mk.injEq, DataW.agg.injEq, List.map, List.cons.injEq, and_true] at hx
   obtain ⟨⟨h0, h1⟩, _⟩ := hx
   obtain ⟨y0, p0⟩ := x0
   obtain ⟨y1, p1⟩ := x1
   subst h0 h1
   have c0 := Lib.cells_of_tab hu he ce cu (e0.trans rfl)
   have c1 := Lib.cells_of_tab hu he ce cu (e1.trans rfl)
   rw [List.map_append, ← c0, ← c1]
   exact (take_drop_full cs 16 (by rw [hl, ct])).symm
theorem gv_of_laid {P : Program} {W : World} {name : String} {z0 z1 : List Int} {rest : List (String × DataW Unit)} {g : Nat} {t u e : TypeId}
   (hg : P.globalNamed name = some g) (hty : (P.globals[g]?).map (·.type) = some t) (ht : P.underlying t = some (.array 2 u)) (hu : P.underlying u = some (.array 16 e)) (he : P.underlying e = some (.int .u8)) (ce : P.cellsOf e = 1) (cu : P.cellsOf u = 16) (ct : P.cellsOf t = 32)
   (h : laidMet P ((name, .agg [Lib.tabData .u8 z0, Lib.tabData .u8 z1]) :: rest) W) : GV W g ((z0 ++ z1).map fun z => Value.int .u8 z).toArray := by
 obtain ⟨ps, ⟨g', t', cs, fuel, p, q, hg', ht', hvar, hd, _, rfl⟩, _, hc⟩ := h
 obtain rfl := Option.some.inj (hg.symm.trans hg')
 obtain rfl := Option.some.inj (hty.symm.trans ht')
 have hcs := cells_of_pair ht hu he ce cu ct hd
 obtain ⟨xs, m, _, hx, hl, hxl, hel⟩ := DataW.trod_array ht hd
 have hsz : cs.size = 32 := by rw [← ct, ← hl]; simp
 obtain ⟨⟨c, T, hT⟩, _⟩ := hc g 0 (List.mem_append.2 (.inl (List.mem_append.2 (.inl (List.mem_map.2 ⟨0, List.mem_range.2 (by omega), rfl⟩)))))
 refine ⟨T, ?_⟩
 unfold World.var? at hvar
 rw [hg] at hvar
 simp only [Option.bind_some, hT] at hvar
 rw [hT, ← hcs, Option.some.inj hvar]
/-- A variable that is one array of 64-bit words. -/
theorem gv_of_tab {P : Program} {W : World} {name : String} {k : IntKind} {zs : List Int} {rest : List (String × DataW Unit)} {g n : Nat} {t e : TypeId}
   (hg : P.globalNamed name = some g) (hty : (P.globals[g]?).map (·.type) = some t) (ht : P.underlying t = some (.array n e)) (he : P.underlying e = some (.int k)) (ce : P.cellsOf e = 1) (ct : P.cellsOf t = n) (hn : 0 < n)
   (h : laidMet P ((name, Lib.tabData k zs) :: rest) W) : GV W g (zs.map fun z => Value.int k z).toArray := by
 obtain ⟨ps, ⟨g', t', cs, fuel, p, q, hg', ht', hvar, hd, _, rfl⟩, _, hc⟩ := h
 obtain rfl := Option.some.inj (hg.symm.trans hg')
 obtain rfl := Option.some.inj (hty.symm.trans ht')
 have hcs := Lib.cells_of_tab ht he ce ct hd
 obtain ⟨xs, m, _, hx, hl, hxl, hel⟩ := DataW.trod_array ht hd
 have hsz : cs.size = n := by rw [← ct, ← hl]; simp
 obtain ⟨⟨c, T, hT⟩, _⟩ := hc g 0 (List.mem_append.2 (.inl (List.mem_append.2 (.inl (List.mem_map.2 ⟨0, List.mem_range.2 (by omega), rfl⟩)))))
 refine ⟨T, ?_⟩
 unfold World.var? at hvar
 rw [hg] at hvar
 simp only [Option.bind_some, hT] at hvar
 rw [hT, ← hcs, Option.some.inj hvar]
theorem atz_of {w : World} {b a c : Nat} (ha : LowB a) (hc : LowB c) (h : GV w b (fps [a, c])) : AtZ w b 0 ⟨zp a, zp c⟩ :=
 FpsZ.atz (L := [⟨zp a, zp c⟩]) (k := 0) (FpsZ.ofFps (l := [a, c]) h (fun v hv => by
   rcases List.mem_cons.1 hv with rfl | hv
   · exact ha
   · rw [List.mem_singleton.1 hv]; exact hc)) rfl rfl
end Go.FourQ
namespace Go.FourQ
open Go.ChangeShapes Go.WideShapes Go.RowKit Go.ChangeAt
section
variable {H : Type} {enc : TypeId × Value → H} {P : Program} {w : World}
theorem fps_toList (x : Nat) (l : List Nat) : (fps (x :: l)).toList = (fpC x).toList ++ (fps l).toList := by simp [fps]
theorem arr_of_list {cs : Array Value} {l : List Nat} (h : cs.toList = (fps l).toList) : cs = fps l := by cases cs; cases hq : fps l; simp_all
theorem trod_fq {base : Nat} {spare : Nat → Bool} {held : Bool} {fuel : Nat} {t u e : TypeId} {cs : List Value} {x : DataW H × List MemPlace} (ht : P.underlying t = some (.array 2 u)) (hu : P.underlying u = some (.array 16 e)) (he : P.underlying e = some (.int .u8)) (c : P.cellsOf e = 1) (cu : P.cellsOf u = 16)
   (ct : P.cellsOf t = 32) (h : DataW.trod enc P w base spare held fuel t cs = some x) : ∃ x y, x < 256 ^ 16 ∧ y < 256 ^ 16 ∧ cs = (fps [x, y]).toList := by
 obtain ⟨xs, m, _, _, hl, hxl, hel⟩ := DataW.trod_array ht h
 have h0 := hel 0 (by omega)
 have h1 := hel 1 (by omega)
 rw [cu, List.getElem?_eq_getElem (by omega)] at h0 h1
 obtain ⟨x, hx, ex⟩ := trod_fp hu he c cu h0
 obtain ⟨y, hy, ey⟩ := trod_fp hu he c cu h1
 refine ⟨x, y, hx, hy, ?_⟩
 rw [ct] at hl
 rw [fps_toList, fps_toList, ← ex, ← ey]
 simp only [Nat.zero_mul, Nat.one_mul, List.drop_zero]
 rw [show (fps []).toList = [] from rfl, List.append_nil, List.take_of_length_le (l := List.drop 16 _) (by rw [List.length_drop]; omega)]
 exact (List.take_append_drop 16 cs).symm
/-- A point: four elements. -/
theorem open_pt {r : Reach} {b0 base : Nat} {spare : Nat → Bool} {held : Bool} {t tq u e : TypeId} {n0 n1 : Field} {v : Value} {d : DataW H} {p : List MemPlace} (hs : P.underlying t = some (.struct #[n0, n1])) (t0 : n0.type = tq) (t1 : n1.type = tq) (o0 : n0.offset = 0) (o1 : n1.offset = 32)
   (ht : P.underlying tq = some (.array 2 u)) (hu : P.underlying u = some (.array 16 e)) (he : P.underlying e = some (.int .u8)) (c : P.cellsOf e = 1) (cu : P.cellsOf u = 16) (ct : P.cellsOf tq = 32) (cs' : P.cellsOf t = 64)
   (hv : Value.okWide P w r b0 t v) (h : DataW.Trod enc P w base spare held t v d p) : ∃ a b c d, a < 256 ^ 16 ∧ b < 256 ^ 16 ∧ c < 256 ^ 16 ∧ d < 256 ^ 16 ∧ v = .agg (fps [a, b, c, d]) := by
 simp only [Value.okWide, hs] at hv
 obtain ⟨cs, rfl, _, _⟩ := hv
 obtain ⟨fuel, hf⟩ := h
 obtain ⟨y0, y1, n, _, hl, h0, h1⟩ := trod_struct2 hs hf
 rw [t0, o0, ct] at h0
 rw [t1, o1, ct] at h1
 obtain ⟨a, b, ha, hb, e0⟩ := trod_fq ht hu he c cu ct h0
 obtain ⟨a', b', ha', hb', e1⟩ := trod_fq ht hu he c cu ct h1
 refine ⟨a, b, a', b', ha, hb, ha', hb', congrArg Value.agg (arr_of_list ?_)⟩
 rw [cs'] at hl
 have hl' : cs.toList.length = 64 := hl
 rw [fps_toList, fps_toList, ← List.append_assoc, ← e1.symm.symm, show (fpC a).toList ++ (fpC b).toList = (fps [a, b]).toList by rw [fps_toList, fps_toList]; simp [fps], ← e0]
 change cs.toList = List.take 32 (List.drop 0 cs.toList) ++ List.take 32 (List.drop 32 cs.toList)
 rw [List.drop_zero, List.take_of_length_le (l := List.drop 32 _) (by rw [List.length_drop]; omega)]
 exact (List.take_append_drop 32 cs.toList).symm
/-- Thirty-two bytes: two halves of sixteen. -/
theorem open_b32 {r : Reach} {b0 base : Nat} {spare : Nat → Bool} {held : Bool} {t e : TypeId} {v : Value} {d : DataW H} {p : List MemPlace} (ht : P.underlying t = some (.array 32 e)) (he : P.underlying e = some (.int .u8)) (c : P.cellsOf e = 1)
   (ct : P.cellsOf t = 32) (hv : Value.okWide P w r b0 t v) (h : DataW.Trod enc P w base spare held t v d p) : ∃ x y, x < 256 ^ 16 ∧ y < 256 ^ 16 ∧ v = .agg (fps [x, y]) := by
 simp only [Value.okWide, ht] at hv
 obtain ⟨cs, rfl, _, _⟩ := hv
 obtain ⟨fuel, hf⟩ := h
 obtain ⟨xs, m, _, _, hl, hxl, hel⟩ := DataW.trod_array ht hf
 rw [ct] at hl
 have hl' : cs.toList.length = 32 := hl
 have hb : ∀ i, i < 32 → ∃ n : Int, cs.toList[i]? = some (.int .u8 n) ∧ (Lit.int .u8 n).wf = true := fun i hi => by
   have hE := hel i hi
   rw [c, Nat.mul_one, List.getElem?_eq_getElem (by omega)] at hE
   obtain ⟨n, e1, _, hw⟩ := DataW.trod_int he hE
   refine ⟨n, ?_, hw⟩
   have h0 : ((cs.toList.drop i).take 1)[0]? = some (.int .u8 n) := by
     change ((List.drop i cs.toList).take 1) = _ at e1
     rw [e1]; rfl
   simpa using h0
 obtain ⟨x, hx, ex⟩ := bytes_fpC (cs.toList.take 16) (by rw [List.length_take, hl']; rfl) (fun i hi => by rw [List.getElem?_take_of_lt hi]; exact hb i (by omega))
 obtain ⟨y, hy, ey⟩ := bytes_fpC (cs.toList.drop 16) (by rw [List.length_drop, hl']) (fun i hi => by rw [List.getElem?_drop]; exact hb _ (by omega))
 refine ⟨x, y, hx, hy, congrArg Value.agg (arr_of_list ?_)⟩
 rw [fps_toList, fps_toList, ← ex, ← ey]
 change cs.toList = List.take 16 cs.toList ++ (List.drop 16 cs.toList ++ [])
 rw [List.append_nil]
 exact (List.take_append_drop 16 cs.toList).symm
end
end Go.FourQ
namespace Go.Proofs.YtfkfljohhabldaaDoor
open Go.ChangeShapes Go.WideShapes Go.RowKit Go.FourQ Go.ChangeAt
def holdIn (w : World) (g : Nat) (v : Array Value) : World :=
 { w with heap := w.heap.modify g fun
     | .cells _ t frozen => .cells v t frozen
     | o => o }
section
variable {H : Type} {enc : TypeId × Value → H} {P : Program} {w : World} {spare : Nat → Bool}
theorem trodVars_len : ∀ {ns : List String} {gs : List (DataW H)} {ps : List MemPlace}, DataW.TrodVars enc P w spare ns gs ps → gs.length = ns.length
 | [], [], _, _ => rfl
 | [], _ :: _, _, h => h.elim
 | _ :: _, [], _, h => h.elim
 | _ :: _, _ :: _, _, h => by
   obtain ⟨_, _, _, _, _, _, _, _, _, _, hs, _⟩ := h
   exact congrArg (· + 1) (trodVars_len hs)
theorem gs3 {l : List (DataW H)} (h : l.length = 3) : ∃ a b c, l = [a, b, c] := match l, h with | [a, b, c], _ => ⟨a, b, c, rfl⟩
end
theorem cellsFq : Tryd.prog.cellsOf 83 = 32 := by kernel_rfl
/-- paramD. -/
def ddC : Array Value := fps [4205857648805777768770, 125317048443780598345676279555970305165]
theorem dd_of {W : World} {rest : List (String × DataW Unit)} (h : laidMet Tryd.prog (("loop.example/pub-g03039/pub/circl/fourq.paramD", Rows.laid_loop_example_pub_g03039_pub_circl_fourq_paramD) :: rest) W) : AtZ W 0 0 dd := by
 have t := gv_of_laid (g := 0) (t := 83) (z0 := [66, 1, 0, 0, 0, 0, 0, 0, 228, 0, 0, 0, 0, 0, 0, 0]) (z1 := [141, 12, 252, 241, 136, 20, 130, 179, 252, 224, 87, 102, 132, 47, 71, 94]) (by kernel_rfl) (by kernel_rfl) Tryd.underlying83 Tryd.underlying73 Tryd.underlying5 cellsU8 cellsFp cellsFq h
 have e : ((([66, 1, 0, 0, 0, 0, 0, 0, 228, 0, 0, 0, 0, 0, 0, 0] : List Int) ++ [141, 12, 252, 241, 136, 20, 130, 179, 252, 224, 87, 102, 132, 47, 71, 94]).map (fun z => Value.int IntKind.u8 z)).toArray = fps [4205857648805777768770, 125317048443780598345676279555970305165] := by kernel_rfl
 rw [e] at t
 exact atz_of (a := 4205857648805777768770) (c := 125317048443780598345676279555970305165) (by unfold LowB; decide) (by unfold LowB; decide) t
/-- The order's words. -/
def ordC : Array Value := #[.int .u64 3436901888089820391, .int .u64 16122042576031152537, .int .u64 17317351579400803557, .int .u64 11764505149049458]
theorem ord_of {W : World} {rest : List (String × DataW Unit)} (h : laidMet Tryd.prog (("loop.example/pub-g03039/pub/circl/fourq.orderGenerator", Rows.laid_loop_example_pub_g03039_pub_circl_fourq_orderGenerator) :: rest) W) : GV W 1 ordC := by
 have t := gv_of_tab (g := 1) (t := 60) (k := .u64) (zs := [3436901888089820391, 16122042576031152537, 17317351579400803557, 11764505149049458]) (by kernel_rfl) (by kernel_rfl) Tryd.underlying60 Tryd.underlying24 (by kernel_rfl) (by kernel_rfl) (by decide) h
 exact t
end Go.Proofs.YtfkfljohhabldaaDoor
