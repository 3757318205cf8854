/- fqSqrt: what it reckons is a root of the quotient, or its conjugate is; its sign is the one that was asked for. Elements below 2^127; modulusP holds the prime. -/
import Derived.Test.YtfkfljohhabldaaDoorSqrt
namespace Go.FourQ
theorem sq_10 (z0 z1 v0 v1 b : Zp) : (b * ((((z0 * z0) - (z1 * z1)) * v0) - (((z0 * z1) + (z1 * z0)) * v1))) = (((b * ((z0 * z0) - (z1 * z1))) * v0) - ((b * ((z0 * z1) + (z0 * z1))) * v1)) := ring_eq zpR (fun i => [z0, z1, v0, v1, b].getD i 0) (.mul (.v 4) (.sub (.mul (.sub (.mul (.v 0) (.v 0)) (.mul (.v 1) (.v 1))) (.v 2)) (.mul (.add (.mul (.v 0) (.v 1)) (.mul (.v 1) (.v 0))) (.v 3)))) (.sub (.mul (.mul (.v 4) (.sub (.mul (.v 0) (.v 0)) (.mul (.v 1) (.v 1)))) (.v 2)) (.mul (.mul (.v 4) (.add (.mul (.v 0) (.v 1)) (.mul (.v 0) (.v 1)))) (.v 3))) (by kernel_rfl)
theorem sq_11 (z0 z1 v0 v1 b : Zp) : (b * ((((z0 * z0) - (z1 * z1)) * v1) + (((z0 * z1) + (z1 * z0)) * v0))) = (((b * ((z0 * z0) - (z1 * z1))) * v1) + ((b * ((z0 * z1) + (z0 * z1))) * v0)) := ring_eq zpR (fun i => [z0, z1, v0, v1, b].getD i 0) (.mul (.v 4) (.add (.mul (.sub (.mul (.v 0) (.v 0)) (.mul (.v 1) (.v 1))) (.v 3)) (.mul (.add (.mul (.v 0) (.v 1)) (.mul (.v 1) (.v 0))) (.v 2)))) (.add (.mul (.mul (.v 4) (.sub (.mul (.v 0) (.v 0)) (.mul (.v 1) (.v 1)))) (.v 3)) (.mul (.mul (.v 4) (.add (.mul (.v 0) (.v 1)) (.mul (.v 0) (.v 1)))) (.v 2))) (by kernel_rfl)
theorem sq_12 (b z0 z1 : Zp) : (b * ((z0 * z0) - (z1 * z1))) = (-(b * ((z1 * z1) - (z0 * z0)))) := ring_eq zpR (fun i => [b, z0, z1].getD i 0) (.mul (.v 0) (.sub (.mul (.v 1) (.v 1)) (.mul (.v 2) (.v 2)))) (.neg (.mul (.v 0) (.sub (.mul (.v 2) (.v 2)) (.mul (.v 1) (.v 1))))) (by kernel_rfl)
theorem sq_13 (b z0 z1 : Zp) : (b * ((z0 * (-z1)) + (z0 * (-z1)))) = (-(b * ((z1 * z0) + (z1 * z0)))) := ring_eq zpR (fun i => [b, z0, z1].getD i 0) (.mul (.v 0) (.add (.mul (.v 1) (.neg (.v 2))) (.mul (.v 1) (.neg (.v 2))))) (.neg (.mul (.v 0) (.add (.mul (.v 2) (.v 1)) (.mul (.v 2) (.v 1))))) (by kernel_rfl)

def conj (a : Zq) : Zq := ⟨a.re, -a.im⟩

/-- From what the code reckons to a root. -/
theorem root_of {u v z : Zq} (hb : v.re * v.re + v.im * v.im ≠ 0) (h0 : (v.re * v.re + v.im * v.im) * (z.re * z.re - z.im * z.im) = u.re * v.re + u.im * v.im)
    (h1 : (v.re * v.re + v.im * v.im) * (z.re * z.im + z.re * z.im) = u.im * v.re - u.re * v.im) : z * z * v = u := by
  refine Zq.ext ?_ ?_
  · refine zmul_cancel hb ?_
    refine Eq.trans (sq_10 z.re z.im v.re v.im _) ?_
    rw [h0, h1, sq_8]
    exact zmul_comm _ _
  · refine zmul_cancel hb ?_
    refine Eq.trans (sq_11 z.re z.im v.re v.im _) ?_
    rw [h0, h1, sq_9]
    exact zmul_comm _ _

theorem pow_2127 {m : Zp} {e F : Nat} (hF : m.pow F = 1) (he : 2 * (e + e) = F + 2) : (m * m).pow e * (m * m).pow e = m * m := by
  have sq : ∀ t : Zp, t * t = t.pow 2 := fun t => by rw [show 2 = 1 + 1 from rfl, zpow_add, zpow_one]
  have h1 : (m * m).pow e * (m * m).pow e = m.pow (F + 2) := by rw [← zpow_add, sq m, zpow_mul, he]
  rw [h1, zpow_add, hF, zone_mul, ← sq]
theorem pow_rr {P r : Zp} {E : Nat} (hr : P.pow E = r) : r * r * P = P.pow (2 * E + 1) := by
  rw [← hr, ← zpow_add, show 2 * E + 1 = E + E + 1 by omega, zpow_add _ (E + E) 1, zpow_one]
theorem zneg_ne {t : Zp} (h : t ≠ 0) : -t ≠ 0 := fun e => h (by rw [← zneg_neg t, e, zneg_zero])
theorem ztwo_ne {t : Zp} (h : t ≠ 0) : t + t ≠ 0 := fun e => h (by rw [← two_half t, ← zmul_comm half, ← zmul_add, e, zmul_zero])
end Go.FourQ
namespace Go.Proofs.YtfkfljohhabldaaDoor
open Go.RowKit Go.FourQ

/-- What fqSqrt reckons. -/
def SqV (u v : Zq) (sg : Int) (f : Zq) : Prop := ∃ a b g X S t T r q c0 c1 K d0 d1 : Zp,
  u.re * v.re + u.im * v.im = a ∧ v.re * v.re + v.im * v.im = b ∧ u.im * v.re - u.re * v.im = g ∧ a * a + g * g = X ∧ X.pow (1 * 2 ^ 125) = S ∧
  (if isz (a + S).val = 1 then a - S else a + S) = t ∧ t + t = T ∧ (b * b * b * T).pow 42535295865117307932921825928971026431 = r ∧ r * b = q ∧ q * T * half = c0 ∧ q * g = c1 ∧
  (c0 + c0) * (c0 + c0) * b - T = K ∧ (if nz K.val = 1 then c1 else c0) = d0 ∧ (if nz K.val = 1 then c0 else c1) = d1 ∧
  (if df (sgnQ d0 d1) sg = 1 then -d0 else d0) = f.re ∧ (if df (sgnQ d0 d1) sg = 1 then -d1 else d1) = f.im

theorem SqV.ex (u v : Zq) (sg : Int) : ∃ f, SqV u v sg f := by
  obtain ⟨a, ha⟩ : ∃ z : Zp, u.re * v.re + u.im * v.im = z := ⟨_, rfl⟩
  obtain ⟨b, hb⟩ : ∃ z : Zp, v.re * v.re + v.im * v.im = z := ⟨_, rfl⟩
  obtain ⟨g, hg⟩ : ∃ z : Zp, u.im * v.re - u.re * v.im = z := ⟨_, rfl⟩
  obtain ⟨X, hX⟩ : ∃ z : Zp, a * a + g * g = z := ⟨_, rfl⟩
  obtain ⟨S, hS⟩ : ∃ z : Zp, X.pow (1 * 2 ^ 125) = z := ⟨_, rfl⟩
  obtain ⟨t, ht⟩ : ∃ z : Zp, (if isz (a + S).val = 1 then a - S else a + S) = z := ⟨_, rfl⟩
  obtain ⟨T, hT⟩ : ∃ z : Zp, t + t = z := ⟨_, rfl⟩
  obtain ⟨r, hr⟩ : ∃ z : Zp, (b * b * b * T).pow 42535295865117307932921825928971026431 = z := ⟨_, rfl⟩
  obtain ⟨q, hq⟩ : ∃ z : Zp, r * b = z := ⟨_, rfl⟩
  obtain ⟨c0, hc0⟩ : ∃ z : Zp, q * T * half = z := ⟨_, rfl⟩
  obtain ⟨c1, hc1⟩ : ∃ z : Zp, q * g = z := ⟨_, rfl⟩
  obtain ⟨K, hK⟩ : ∃ z : Zp, (c0 + c0) * (c0 + c0) * b - T = z := ⟨_, rfl⟩
  obtain ⟨d0, hd0⟩ : ∃ z : Zp, (if nz K.val = 1 then c1 else c0) = z := ⟨_, rfl⟩
  obtain ⟨d1, hd1⟩ : ∃ z : Zp, (if nz K.val = 1 then c0 else c1) = z := ⟨_, rfl⟩
  obtain ⟨f0, hf0⟩ : ∃ z : Zp, (if df (sgnQ d0 d1) sg = 1 then -d0 else d0) = z := ⟨_, rfl⟩
  obtain ⟨f1, hf1⟩ : ∃ z : Zp, (if df (sgnQ d0 d1) sg = 1 then -d1 else d1) = z := ⟨_, rfl⟩
  exact ⟨⟨f0, f1⟩, a, b, g, X, S, t, T, r, q, c0, c1, K, d0, d1, ha, hb, hg, hX, hS, ht, hT, hr, hq, hc0, hc1, hK, hd0, hd1, hf0, hf1⟩

theorem fqSqrt {w : World} {b1 b2 b3 o1 o2 o3 k1 : Nat} {L1 : List Zp} {u v f : Zq} {sg : Int} (hf : SqV u v sg f) (hm : ModW w) (hg : 4 < b1) (h1 : FpsZ w b1 L1) (hU : AtQ w b2 o2 u.re u.im) (hV : AtQ w b3 o3 v.re v.im) (e1 : o1 = 16 * k1) (i1 : k1 + 1 < L1.length) (dU : b2 ≠ b1) (dV : b3 ≠ b1) :
    Calls Tryd.prog 83 #[.pointer (some ⟨b1, o1, none⟩), .pointer (some ⟨b2, o2, none⟩), .pointer (some ⟨b3, o3, none⟩), .int .i64 sg] w fun e w' => e = .returned (.tuple #[]) ∧ UpdZ w w' b1 ((L1.set k1 f.re).set (k1 + 1) f.im) := by
  obtain ⟨a, b, g, X, S, t, T, r, q, c0, c1, K, d0, d1, ha, hb, hgg, hx, hS, ht, htt, hr, hq, hc0, hc1, hk, hd0, hd1, hf0, hf1⟩ := hf
  have p0 := List.getElem?_eq_getElem (Nat.lt_of_succ_lt i1)
  have p1 := List.getElem?_eq_getElem i1
  exact fqSqrtW hm hg h1 hU hV e1 i1 dU dV ha hb hgg hx hS ht htt hr hq hc0 hc1 hk hd0 hd1 hf0 hf1 (cl_self p0 p1)

theorem isz_one {x : Nat} : isz x = 1 ↔ x = 0 := by
  unfold isz
  by_cases h : x = 0
  · rw [if_pos h]; exact ⟨fun _ => h, fun _ => rfl⟩
  · rw [if_neg h]; exact ⟨fun e => absurd e (by decide), fun e => absurd e h⟩
theorem nz_one {x : Nat} : nz x = 1 ↔ x ≠ 0 := by
  rw [nz_eq]
  by_cases h : x = 0
  · rw [if_pos h]; exact ⟨fun e => absurd e (by decide), fun e => absurd h e⟩
  · rw [if_neg h]; exact ⟨fun _ => h, fun _ => rfl⟩

theorem sq_sign {f d0 : Zp} {v : Int} (h : (if v = 1 then -d0 else d0) = f) : f = d0 ∧ v ≠ 1 ∨ f = -d0 ∧ v = 1 := by
  by_cases hv : v = 1
  · rw [if_pos hv] at h; exact .inr ⟨h.symm, hv⟩
  · rw [if_neg hv] at h; exact .inl ⟨h.symm, hv⟩

/-- The root of a square's quotient. -/
theorem SqV.law {u v w f : Zq} {sg : Int} (h : SqV u v sg f) (hv : v ≠ 0) (hw : w ≠ 0) (hu : u = w * w * v) : f * f * v = u ∨ conj f * conj f * v = u := by
  obtain ⟨a, b, g, X, S, t, T, r, q, c0, c1, K, d0, d1, ha, hb, hgg, hx, hS, ht, htt, hr, hq, hc0, hc1, hk, hd0, hd1, hf0, hf1⟩ := h
  have hb0 : b ≠ 0 := hb ▸ norm_ne hv
  have hb0' : v.re * v.re + v.im * v.im ≠ 0 := norm_ne hv
  have hw0 : w.norm ≠ 0 := norm_ne hw
  have hm : w.norm * b ≠ 0 := zmul_ne hw0 hb0
  have hX : X = (w.norm * b) * (w.norm * b) := by
    rw [← hx, ← ha, ← hgg, sq_6, show u.re * u.re + u.im * u.im = u.norm from rfl, hu, norm_mul, norm_mul, show v.norm = b from hb, hb]
    exact ring_eq zpR (fun i => [w.norm, b].getD i 0) (.mul (.mul (.mul (.v 0) (.v 0)) (.v 1)) (.v 1)) (.mul (.mul (.v 0) (.v 1)) (.mul (.v 0) (.v 1))) (by kernel_rfl)
  have hX0 : X ≠ 0 := hX ▸ zmul_ne hm hm
  have hSS : S * S = X := by rw [← hS, hX]; exact pow_2127 (zfermat hm) (by decide +kernel)
  -- t = a + s
  obtain ⟨s, hs, hts, ht0⟩ : ∃ s : Zp, s * s = a * a + g * g ∧ t = a + s ∧ t ≠ 0 := by
    by_cases h0 : a + S = 0
    · rw [if_pos (isz_one.2 (by rw [h0]; rfl))] at ht
      refine ⟨-S, by rw [zneg_mul, zmul_neg, zneg_neg, hSS, hx], ht.symm, fun e => ?_⟩
      rw [← ht] at e
      have haS : a = S := zeq_of_sub e
      rw [haS] at h0
      have : S = 0 := Classical.byContradiction fun hne => ztwo_ne hne h0
      exact hX0 (by rw [← hSS, this, zmul_zero])
    · rw [if_neg (fun e => h0 (Zp.ext (isz_one.1 e)))] at ht
      exact ⟨S, by rw [hSS, hx], ht.symm, fun e => h0 (ht.trans e)⟩
  have hT0 : T ≠ 0 := htt ▸ ztwo_ne ht0
  have hP0 : b * b * b * T ≠ 0 := zmul_ne (zmul_ne (zmul_ne hb0 hb0) hb0) hT0
  obtain ⟨e, he, hre⟩ : ∃ e : Zp, (e = 1 ∨ e = -1) ∧ r * r * ((t + t) * (b * b * b)) = e := by
    refine ⟨_, sign_pow hP0, ?_⟩
    rw [htt, zmul_comm T]
    exact pow_rr hr
  subst hts
  have core := sqrt_core hs hre
  obtain ⟨k1, k2, k3⟩ := core
  have hc0' : c0 = r * b * (a + s) := by
    rw [← hc0, ← hq, ← htt]
    exact (zmul_assoc _ _ _).trans (congrArg (fun t => r * b * t) (zhalf _))
  have hc1' : c1 = r * b * g := by rw [← hc1, ← hq]
  have hcc : c0 + c0 = r * b * ((a + s) + (a + s)) := by rw [hc0']; exact (zmul_add _ _ _).symm
  have hK : K = e * T - T := by rw [← hk, hcc, zmul_comm _ b, k3, htt]
  rw [← hc0', ← hc1'] at k1 k2
  have base : b * (d0 * d0 - d1 * d1) = a ∧ b * (d0 * d1 + d0 * d1) = g ∨ b * (d0 * d0 - -d1 * -d1) = a ∧ b * (d0 * -d1 + d0 * -d1) = g := by
    rcases he with rfl | rfl
    · have hK0 : K = 0 := by rw [hK, zone_mul, zsub_self]
      have hn : nz K.val ≠ 1 := fun e => nz_one.1 e (by rw [hK0]; rfl)
      rw [if_neg hn] at hd0 hd1
      subst hd0 hd1
      rw [zone_mul] at k1 k2
      exact .inl ⟨k1, k2⟩
    · have hK0 : K ≠ 0 := by
        rw [hK, zneg_mul, zone_mul]
        intro e
        have e' : -(T + T) = 0 := by rw [← e]; exact zpR.neg_add_rev T T
        exact zneg_ne (ztwo_ne hT0) e'
      have hn : nz K.val = 1 := nz_one.2 (zval_ne hK0)
      rw [if_pos hn] at hd0 hd1
      subst hd0 hd1
      rw [zneg_mul, zone_mul] at k1 k2
      refine .inr ⟨?_, ?_⟩
      · rw [zneg_mul, zmul_neg, zneg_neg, sq_12, k1, zneg_neg]
      · rw [sq_13, k2, zneg_neg]
  rw [← hb, ← ha, ← hgg] at base
  rcases sq_sign hf0 with ⟨e0, hd⟩ | ⟨e0, hd⟩
  · rw [if_neg hd] at hf1
    rcases base with ⟨b0, b1⟩ | ⟨b0, b1⟩
    · exact .inl (root_of hb0' (by rw [e0, ← hf1]; exact b0) (by rw [e0, ← hf1]; exact b1))
    · exact .inr (root_of hb0' (by show _ * (f.re * f.re - -f.im * -f.im) = _; rw [e0, ← hf1]; exact b0) (by show _ * (f.re * -f.im + f.re * -f.im) = _; rw [e0, ← hf1]; exact b1))
  · rw [if_pos hd] at hf1
    rcases base with ⟨b0, b1⟩ | ⟨b0, b1⟩
    · exact .inl (root_of hb0' (by rw [e0, ← hf1, zneg_mul, zmul_neg, zneg_neg, zneg_mul, zmul_neg, zneg_neg]; exact b0) (by rw [e0, ← hf1, zneg_mul, zmul_neg, zneg_neg]; exact b1))
    · refine .inr (root_of hb0' ?_ ?_)
      · show _ * (f.re * f.re - -f.im * -f.im) = _
        rw [e0, ← hf1, zneg_neg, zneg_mul, zmul_neg, zneg_neg]
        rw [zneg_mul, zmul_neg, zneg_neg] at b0
        exact b0
      · show _ * (f.re * -f.im + f.re * -f.im) = _
        rw [e0, ← hf1, zneg_neg, zneg_mul]
        rw [zmul_neg] at b1
        exact b1

/-- Nothing of nothing. -/
theorem SqV.zero {v f : Zq} {sg : Int} (h : SqV 0 v sg f) : f = 0 := by
  obtain ⟨a, b, g, X, S, t, T, r, q, c0, c1, K, d0, d1, ha, hb, hgg, hx, hS, ht, htt, hr, hq, hc0, hc1, hk, hd0, hd1, hf0, hf1⟩ := h
  have ha0 : a = 0 := by rw [← ha]; show 0 * v.re + 0 * v.im = 0; rw [zzero_mul, zzero_mul, zadd_zero]
  have hg0 : g = 0 := by rw [← hgg]; show 0 * v.re - 0 * v.im = 0; rw [zzero_mul, zzero_mul, zsub_self]
  have hX0 : X = 0 := by rw [← hx, ha0, hg0, zmul_zero, zadd_zero]
  have hS0 : S = 0 := by rw [← hS, hX0]; exact zero_pow (by decide)
  have ht0 : t = 0 := by
    rw [← ht, ha0, hS0]
    split
    · exact zsub_self 0
    · exact zadd_zero 0
  have hT0 : T = 0 := by rw [← htt, ht0, zadd_zero]
  have hc00 : c0 = 0 := by rw [← hc0, hT0, zmul_zero, zzero_mul]
  have hc10 : c1 = 0 := by rw [← hc1, hg0, zmul_zero]
  subst hc00 hc10
  have hd00 : d0 = 0 := by rw [← hd0]; split <;> rfl
  have hd10 : d1 = 0 := by rw [← hd1]; split <;> rfl
  subst hd00 hd10
  refine Zq.ext ?_ ?_
  · rw [← hf0]; split
    · exact zneg_zero
    · rfl
  · rw [← hf1]; split
    · exact zneg_zero
    · rfl
end Go.Proofs.YtfkfljohhabldaaDoor
