/- The square field as a type. No condition. -/
import Derived.Test.YtfkfljohhabldaaDoorSumSq
namespace Go.FourQ

theorem qz_assoc_0 (a0 a1 b0 b1 c0 c1 : Zp) : ((((a0 * b0) - (a1 * b1)) * c0) - (((a0 * b1) + (a1 * b0)) * c1)) = ((a0 * ((b0 * c0) - (b1 * c1))) - (a1 * ((b0 * c1) + (b1 * c0)))) := ring_eq zpR (fun i => [a0, a1, b0, b1, c0, c1].getD i 0) (.sub (.mul (.sub (.mul (.v 0) (.v 2)) (.mul (.v 1) (.v 3))) (.v 4)) (.mul (.add (.mul (.v 0) (.v 3)) (.mul (.v 1) (.v 2))) (.v 5))) (.sub (.mul (.v 0) (.sub (.mul (.v 2) (.v 4)) (.mul (.v 3) (.v 5)))) (.mul (.v 1) (.add (.mul (.v 2) (.v 5)) (.mul (.v 3) (.v 4))))) (by kernel_rfl)
theorem qz_assoc_1 (a0 a1 b0 b1 c0 c1 : Zp) : ((((a0 * b0) - (a1 * b1)) * c1) + (((a0 * b1) + (a1 * b0)) * c0)) = ((a0 * ((b0 * c1) + (b1 * c0))) + (a1 * ((b0 * c0) - (b1 * c1)))) := ring_eq zpR (fun i => [a0, a1, b0, b1, c0, c1].getD i 0) (.add (.mul (.sub (.mul (.v 0) (.v 2)) (.mul (.v 1) (.v 3))) (.v 5)) (.mul (.add (.mul (.v 0) (.v 3)) (.mul (.v 1) (.v 2))) (.v 4))) (.add (.mul (.v 0) (.add (.mul (.v 2) (.v 5)) (.mul (.v 3) (.v 4)))) (.mul (.v 1) (.sub (.mul (.v 2) (.v 4)) (.mul (.v 3) (.v 5))))) (by kernel_rfl)
theorem qz_comm_0 (a0 a1 b0 b1 : Zp) : ((a0 * b0) - (a1 * b1)) = ((b0 * a0) - (b1 * a1)) := ring_eq zpR (fun i => [a0, a1, b0, b1].getD i 0) (.sub (.mul (.v 0) (.v 2)) (.mul (.v 1) (.v 3))) (.sub (.mul (.v 2) (.v 0)) (.mul (.v 3) (.v 1))) (by kernel_rfl)
theorem qz_comm_1 (a0 a1 b0 b1 : Zp) : ((a0 * b1) + (a1 * b0)) = ((b0 * a1) + (b1 * a0)) := ring_eq zpR (fun i => [a0, a1, b0, b1].getD i 0) (.add (.mul (.v 0) (.v 3)) (.mul (.v 1) (.v 2))) (.add (.mul (.v 2) (.v 1)) (.mul (.v 3) (.v 0))) (by kernel_rfl)
theorem qz_dist_0 (a0 a1 b0 b1 c0 c1 : Zp) : ((a0 * (b0 + c0)) - (a1 * (b1 + c1))) = (((a0 * b0) - (a1 * b1)) + ((a0 * c0) - (a1 * c1))) := ring_eq zpR (fun i => [a0, a1, b0, b1, c0, c1].getD i 0) (.sub (.mul (.v 0) (.add (.v 2) (.v 4))) (.mul (.v 1) (.add (.v 3) (.v 5)))) (.add (.sub (.mul (.v 0) (.v 2)) (.mul (.v 1) (.v 3))) (.sub (.mul (.v 0) (.v 4)) (.mul (.v 1) (.v 5)))) (by kernel_rfl)
theorem qz_dist_1 (a0 a1 b0 b1 c0 c1 : Zp) : ((a0 * (b1 + c1)) + (a1 * (b0 + c0))) = (((a0 * b1) + (a1 * b0)) + ((a0 * c1) + (a1 * c0))) := ring_eq zpR (fun i => [a0, a1, b0, b1, c0, c1].getD i 0) (.add (.mul (.v 0) (.add (.v 3) (.v 5))) (.mul (.v 1) (.add (.v 2) (.v 4)))) (.add (.add (.mul (.v 0) (.v 3)) (.mul (.v 1) (.v 2))) (.add (.mul (.v 0) (.v 5)) (.mul (.v 1) (.v 4)))) (by kernel_rfl)
theorem qz_norm (a0 a1 b0 b1 : Zp) : ((((a0 * b0) - (a1 * b1)) * ((a0 * b0) - (a1 * b1))) + (((a0 * b1) + (a1 * b0)) * ((a0 * b1) + (a1 * b0)))) = (((a0 * a0) + (a1 * a1)) * ((b0 * b0) + (b1 * b1))) := ring_eq zpR (fun i => [a0, a1, b0, b1].getD i 0) (.add (.mul (.sub (.mul (.v 0) (.v 2)) (.mul (.v 1) (.v 3))) (.sub (.mul (.v 0) (.v 2)) (.mul (.v 1) (.v 3)))) (.mul (.add (.mul (.v 0) (.v 3)) (.mul (.v 1) (.v 2))) (.add (.mul (.v 0) (.v 3)) (.mul (.v 1) (.v 2))))) (.mul (.add (.mul (.v 0) (.v 0)) (.mul (.v 1) (.v 1))) (.add (.mul (.v 2) (.v 2)) (.mul (.v 3) (.v 3)))) (by kernel_rfl)

structure Zq where
  re : Zp
  im : Zp

theorem Zq.ext {a b : Zq} (h : a.re = b.re) (g : a.im = b.im) : a = b := by
  obtain ⟨x, y⟩ := a
  obtain ⟨u, v⟩ := b
  obtain rfl : x = u := h
  obtain rfl : y = v := g
  rfl

instance : DecidableEq Zq := fun a b => if h : a.re = b.re ∧ a.im = b.im then isTrue (Zq.ext h.1 h.2) else isFalse fun e => h ⟨congrArg Zq.re e, congrArg Zq.im e⟩

instance : Add Zq := ⟨fun a b => ⟨a.re + b.re, a.im + b.im⟩⟩
instance : Mul Zq := ⟨fun a b => ⟨a.re * b.re - a.im * b.im, a.re * b.im + a.im * b.re⟩⟩
instance : Neg Zq := ⟨fun a => ⟨-a.re, -a.im⟩⟩
instance : Sub Zq := ⟨fun a b => a + -b⟩
namespace Zq
protected def zero : Zq := ⟨0, 0⟩
protected def one : Zq := ⟨1, 0⟩
end Zq
instance : OfNat Zq 0 := ⟨Zq.zero⟩
instance : OfNat Zq 1 := ⟨Zq.one⟩

theorem q_add_re (a b : Zq) : (a + b).re = a.re + b.re := rfl
theorem q_add_im (a b : Zq) : (a + b).im = a.im + b.im := rfl
theorem q_mul_re (a b : Zq) : (a * b).re = a.re * b.re - a.im * b.im := rfl
theorem q_mul_im (a b : Zq) : (a * b).im = a.re * b.im + a.im * b.re := rfl
theorem q_neg_re (a : Zq) : (-a).re = -a.re := rfl
theorem q_neg_im (a : Zq) : (-a).im = -a.im := rfl
theorem q_sub_re (a b : Zq) : (a - b).re = a.re - b.re := rfl
theorem q_sub_im (a b : Zq) : (a - b).im = a.im - b.im := rfl

/-- The square field, as a ring. -/
def zqR : CR Zq := {
  zero := 0
  one := 1
  add := fun a b => a + b
  mul := fun a b => a * b
  neg := fun a => -a
  add_comm := fun a b => Zq.ext (zadd_comm _ _) (zadd_comm _ _)
  add_assoc := fun a b c => Zq.ext (zadd_assoc _ _ _) (zadd_assoc _ _ _)
  add_zero := fun a => Zq.ext (zadd_zero _) (zadd_zero _)
  add_neg := fun a => Zq.ext (zadd_neg _) (zadd_neg _)
  mul_comm := fun a b => Zq.ext (qz_comm_0 _ _ _ _) (qz_comm_1 _ _ _ _)
  mul_assoc := fun a b c => Zq.ext (qz_assoc_0 _ _ _ _ _ _) (qz_assoc_1 _ _ _ _ _ _)
  mul_one := fun a => Zq.ext
    (by show a.re * 1 + -(a.im * 0) = a.re; rw [zmul_one, zmul_zero, zneg_zero, zadd_zero])
    (by show a.re * 0 + a.im * 1 = a.im; rw [zmul_one, zmul_zero, zzero_add])
  mul_add := fun a b c => Zq.ext (qz_dist_0 _ _ _ _ _ _) (qz_dist_1 _ _ _ _ _ _) }

theorem qadd_comm (a b : Zq) : a + b = b + a := zqR.add_comm a b
theorem qadd_assoc (a b c : Zq) : a + b + c = a + (b + c) := zqR.add_assoc a b c
theorem qadd_zero (a : Zq) : a + 0 = a := zqR.add_zero a
theorem qzero_add (a : Zq) : 0 + a = a := zqR.zero_add a
theorem qadd_neg (a : Zq) : a + -a = 0 := zqR.add_neg a
theorem qmul_comm (a b : Zq) : a * b = b * a := zqR.mul_comm a b
theorem qmul_assoc (a b c : Zq) : a * b * c = a * (b * c) := zqR.mul_assoc a b c
theorem qmul_one (a : Zq) : a * 1 = a := zqR.mul_one a
theorem qone_mul (a : Zq) : 1 * a = a := zqR.one_mul a
theorem qmul_add (a b c : Zq) : a * (b + c) = a * b + a * c := zqR.mul_add a b c
theorem qadd_mul (a b c : Zq) : (a + b) * c = a * c + b * c := zqR.add_mul a b c
theorem qmul_zero (a : Zq) : a * 0 = 0 := zqR.mul_zero a
theorem qzero_mul (a : Zq) : 0 * a = 0 := zqR.zero_mul a
theorem qneg_mul (a b : Zq) : -a * b = -(a * b) := zqR.neg_mul a b
theorem qmul_neg (a b : Zq) : a * -b = -(a * b) := zqR.mul_neg a b
theorem qneg_neg (a : Zq) : - -a = a := zqR.neg_neg a
theorem qneg_zero : -(0 : Zq) = 0 := zqR.neg_zero
theorem qeq_of_sub {a b : Zq} (h : a - b = 0) : a = b := zqR.eq_of_sub h
theorem qsub_self (a : Zq) : a - a = 0 := qadd_neg a
theorem qone_ne_zero : (1 : Zq) ≠ 0 := fun h => one_ne_zero (congrArg Zq.re h)

/-- The norm. -/
def Zq.norm (a : Zq) : Zp := a.re * a.re + a.im * a.im
theorem norm_mul (a b : Zq) : (a * b).norm = a.norm * b.norm := qz_norm _ _ _ _
theorem norm_zero {a : Zq} (h : a.norm = 0) : a = 0 := Zq.ext (sum_sq h).1 (sum_sq h).2
theorem norm_ne {a : Zq} (h : a ≠ 0) : a.norm ≠ 0 := fun e => h (norm_zero e)
theorem zero_norm : (0 : Zq).norm = 0 := by show (0 : Zp) * 0 + 0 * 0 = 0; rw [zmul_zero, zadd_zero]

/-- The inverse; of 0 it is 0. -/
def Zq.inv (a : Zq) : Zq := ⟨a.re * a.norm.inv, a.im * -a.norm.inv⟩
theorem qmul_inv {a : Zq} (h : a ≠ 0) : a * a.inv = 1 := Zq.ext (inv_pair (norm_ne h)).1 (inv_pair (norm_ne h)).2
theorem qmul_cancel {a b c : Zq} (h : a ≠ 0) (e : a * b = a * c) : b = c := by
  have := congrArg (fun t => a.inv * t) e
  simp only [← qmul_assoc, qmul_comm a.inv a, qmul_inv h, qone_mul] at this
  exact this
theorem qmul_ne {a b : Zq} (ha : a ≠ 0) (hb : b ≠ 0) : a * b ≠ 0 := fun e => hb (qmul_cancel ha (e.trans (qmul_zero a).symm))
theorem qmul_eq_zero {a b : Zq} (h : a * b = 0) : a = 0 ∨ b = 0 := by
  by_cases ha : a = 0
  · exact .inl ha
  · exact .inr (qmul_cancel ha (h.trans (qmul_zero a).symm))
/-- A quotient. -/
theorem q_of_mul {a b c : Zq} (h : a ≠ 0) (e : a * b = c) : b = c * a.inv := by
  rw [← e, qmul_comm a b, qmul_assoc, qmul_inv h, qmul_one]
theorem q_mul_of {a c : Zq} (h : a ≠ 0) : a * (c * a.inv) = c := by
  rw [qmul_comm c, ← qmul_assoc, qmul_inv h, qone_mul]

/-- An element whose norm is no square has no root. -/
theorem q_nonsq {a : Zq} {E : Nat} (hE : 2 * E = pp - 1) (h0 : 0 < E) (h : a.norm.pow E = -1) (s : Zq) : s * s ≠ a := fun e => by
  subst e
  rw [norm_mul] at h
  by_cases hs : s.norm = 0
  · rw [hs, zmul_zero, zero_pow h0] at h
    exact absurd h (by decide +kernel)
  · rw [show ∀ t : Zp, t * t = t.pow 2 from fun t => by rw [show 2 = 1 + 1 from rfl, zpow_add, zpow_one], zpow_mul, hE, zfermat hs] at h
    exact absurd h (by decide +kernel)

/-- Powers, reckoned. -/
theorem zp_pwm (f n e : Nat) (h : e < 2 ^ f) : (zp n).pow e = zp (pwm pp f n e) := by
  rw [pwm_eq pp f n e h, ← zp_pow, zp_mod]

end Go.FourQ
