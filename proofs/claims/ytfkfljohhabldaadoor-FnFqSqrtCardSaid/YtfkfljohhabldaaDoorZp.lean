/- The field of 2^127 - 1 elements as a type. No condition. -/
import Derived.Test.YtfkfljohhabldaaDoorRing
import Derived.Test.YtfkfljohhabldaaDoorArith
namespace Go.FourQ

theorem pp_pos : 0 < pp := by decide +kernel
theorem one_lt_pp : 1 < pp := by decide +kernel

structure Zp where
  val : Nat
  lt : val < pp

theorem Zp.ext {a b : Zp} (h : a.val = b.val) : a = b := by
  obtain ⟨x, hx⟩ := a
  obtain ⟨y, hy⟩ := b
  obtain rfl : x = y := h
  rfl

instance : DecidableEq Zp := fun a b => if h : a.val = b.val then isTrue (Zp.ext h) else isFalse fun e => h (congrArg Zp.val e)

/-- The element that a number stands for. -/
def zp (n : Nat) : Zp := ⟨n % pp, Nat.mod_lt _ pp_pos⟩

instance : Add Zp := ⟨fun a b => zp (a.val + b.val)⟩
instance : Mul Zp := ⟨fun a b => zp (a.val * b.val)⟩
instance : Neg Zp := ⟨fun a => zp (pp - a.val)⟩
instance : Sub Zp := ⟨fun a b => a + -b⟩

namespace Zp
protected def zero : Zp := zp 0
protected def one : Zp := zp 1
end Zp
instance : OfNat Zp 0 := ⟨Zp.zero⟩
instance : OfNat Zp 1 := ⟨Zp.one⟩

theorem zp_val (a : Zp) : zp a.val = a := Zp.ext (Nat.mod_eq_of_lt a.lt)
theorem val_zp (n : Nat) : (zp n).val = n % pp := rfl
theorem zp_eq {a b : Nat} (h : a % pp = b % pp) : zp a = zp b := Zp.ext h
theorem eq_of_zp {a b : Nat} (h : zp a = zp b) : a % pp = b % pp := congrArg Zp.val h
theorem zp_mod (a : Nat) : zp (a % pp) = zp a := zp_eq (Nat.mod_mod _ _)
theorem zp_add (a b : Nat) : zp (a + b) = zp a + zp b := zp_eq (by rw [val_zp, val_zp, ← Nat.add_mod])
theorem zp_mul (a b : Nat) : zp (a * b) = zp a * zp b := zp_eq (by rw [val_zp, val_zp, ← Nat.mul_mod])
theorem zp_zero : zp 0 = 0 := rfl
theorem zp_one : zp 1 = 1 := rfl
theorem val_zero : (0 : Zp).val = 0 := rfl
theorem val_one : (1 : Zp).val = 1 := Nat.mod_eq_of_lt one_lt_pp
theorem zp_pp : zp pp = 0 := zp_eq (by rw [Nat.mod_self, Nat.zero_mod])
theorem one_ne_zero : (1 : Zp) ≠ 0 := fun h => by have := congrArg Zp.val h; rw [val_one, val_zero] at this; cases this

theorem zadd_comm (a b : Zp) : a + b = b + a := by show zp _ = zp _; rw [Nat.add_comm]
theorem zadd_assoc (a b c : Zp) : a + b + c = a + (b + c) := by
  rw [← zp_val a, ← zp_val b, ← zp_val c, ← zp_add, ← zp_add, ← zp_add, ← zp_add, Nat.add_assoc]
theorem zadd_zero (a : Zp) : a + 0 = a := by rw [← zp_val a, ← zp_zero, ← zp_add, Nat.add_zero]
theorem zadd_neg (a : Zp) : a + -a = 0 := by
  exact zp_eq (by show (a.val + (pp - a.val) % pp) % pp = 0 % pp; rw [Nat.add_mod_mod, Nat.add_sub_cancel' (Nat.le_of_lt a.lt), Nat.mod_self, Nat.zero_mod])
theorem zmul_comm (a b : Zp) : a * b = b * a := by show zp _ = zp _; rw [Nat.mul_comm]
theorem zmul_assoc (a b c : Zp) : a * b * c = a * (b * c) := by
  rw [← zp_val a, ← zp_val b, ← zp_val c, ← zp_mul, ← zp_mul, ← zp_mul, ← zp_mul, Nat.mul_assoc]
theorem zmul_one (a : Zp) : a * 1 = a := by rw [← zp_val a, ← zp_one, ← zp_mul, Nat.mul_one]
theorem zmul_add (a b c : Zp) : a * (b + c) = a * b + a * c := by
  rw [← zp_val a, ← zp_val b, ← zp_val c, ← zp_add, ← zp_mul, ← zp_mul, ← zp_mul, ← zp_add, Nat.mul_add]

/-- The field, as a ring. -/
def zpR : CR Zp := {
  zero := 0
  one := 1
  add := fun a b => a + b
  mul := fun a b => a * b
  neg := fun a => -a
  add_comm := zadd_comm
  add_assoc := zadd_assoc
  add_zero := zadd_zero
  add_neg := zadd_neg
  mul_comm := zmul_comm
  mul_assoc := zmul_assoc
  mul_one := zmul_one
  mul_add := zmul_add }

theorem zmul_zero (a : Zp) : a * 0 = 0 := zpR.mul_zero a
theorem zzero_mul (a : Zp) : 0 * a = 0 := zpR.zero_mul a
theorem zone_mul (a : Zp) : 1 * a = a := zpR.one_mul a
theorem zzero_add (a : Zp) : 0 + a = a := zpR.zero_add a
theorem zneg_zero : -(0 : Zp) = 0 := zpR.neg_zero
theorem zneg_neg (a : Zp) : - -a = a := zpR.neg_neg a
theorem zeq_of_sub {a b : Zp} (h : a - b = 0) : a = b := zpR.eq_of_sub h
theorem zsub_self (a : Zp) : a - a = 0 := zadd_neg a
theorem zneg_mul (a b : Zp) : -a * b = -(a * b) := zpR.neg_mul a b
theorem zmul_neg (a b : Zp) : a * -b = -(a * b) := zpR.mul_neg a b

/-- Powers. -/
def Zp.pow (a : Zp) (n : Nat) : Zp := zpR.pow a n
theorem zp_pow (a n : Nat) : zp (a ^ n) = (zp a).pow n := by
  induction n with
  | zero => rfl
  | succ n ih => rw [Nat.pow_succ, zp_mul, ih]; rfl
theorem zpow_add (a : Zp) (m n : Nat) : a.pow (m + n) = a.pow m * a.pow n := zpR.pow_add a m n
theorem zpow_mul (a : Zp) (m n : Nat) : (a.pow m).pow n = a.pow (m * n) := zpR.pow_mul a m n
theorem zmul_pow (a b : Zp) (n : Nat) : (a * b).pow n = a.pow n * b.pow n := zpR.mul_pow a b n
theorem zone_pow (n : Nat) : (1 : Zp).pow n = 1 := zpR.one_pow n
theorem zpow_one (a : Zp) : a.pow 1 = a := zone_mul a
theorem zpow_zero (a : Zp) : a.pow 0 = 1 := rfl

theorem zval_ne {a : Zp} (h : a ≠ 0) : a.val ≠ 0 := fun e => h (Zp.ext e)
theorem not_dvd {a : Zp} (h : a ≠ 0) : ¬ pp ∣ a.val := fun hd => by
  have := Nat.le_of_dvd (Nat.pos_of_ne_zero (zval_ne h)) hd
  have := a.lt
  omega

theorem zfermat {a : Zp} (h : a ≠ 0) : a.pow (pp - 1) = 1 := by
  have := fermat prim_pp (not_dvd h)
  have e := zp_pow a.val (pp - 1)
  rw [zp_val] at e
  rw [← e]
  exact zp_eq (this.trans (Nat.mod_eq_of_lt one_lt_pp).symm)

/-- The inverse; of 0 it is 0. -/
def Zp.inv (a : Zp) : Zp := a.pow (pp - 2)
theorem zmul_inv {a : Zp} (h : a ≠ 0) : a * a.inv = 1 := by
  have e : pp - 1 = (pp - 2) + 1 := by decide +kernel
  have := zfermat h
  rw [e, zpow_add, zpow_one, zmul_comm] at this
  exact this
theorem zmul_cancel {a b c : Zp} (h : a ≠ 0) (e : a * b = a * c) : b = c := by
  have := congrArg (fun t => a.inv * t) e
  simp only [← zmul_assoc, zmul_comm a.inv a, zmul_inv h, zone_mul] at this
  exact this
theorem zmul_ne {a b : Zp} (ha : a ≠ 0) (hb : b ≠ 0) : a * b ≠ 0 := fun e => hb (zmul_cancel ha (e.trans (zmul_zero a).symm))
theorem zmul_eq_zero {a b : Zp} (h : a * b = 0) : a = 0 ∨ b = 0 := by
  by_cases ha : a = 0
  · exact .inl ha
  · exact .inr (zmul_cancel ha (h.trans (zmul_zero a).symm))
theorem zpow_ne {a : Zp} (h : a ≠ 0) : ∀ n, a.pow n ≠ 0
  | 0 => one_ne_zero
  | n + 1 => zmul_ne (zpow_ne h n) h
theorem zero_pow {n : Nat} (h : 0 < n) : (0 : Zp).pow n = 0 := by
  obtain ⟨m, rfl⟩ : ∃ m, n = m + 1 := ⟨n - 1, by omega⟩
  exact zmul_zero _

/-- Half of 1. -/
def half : Zp := zp 85070591730234615865843651857942052864
theorem half_add : half + half = 1 := by decide +kernel
theorem two_half (a : Zp) : a * half + a * half = a := by rw [← zmul_add, half_add, zmul_one]

/-! What the code computes. -/
theorem zp_addN (x y : Nat) : zp (addN x y) = zp x + zp y := by rw [← zp_add]; exact zp_eq (addN_mod x y)
theorem zp_mulN (x y : Nat) : zp (mulN x y) = zp x * zp y := by rw [← zp_mul]; exact zp_eq (mulN_mod x y)
theorem zp_subN {x y : Nat} (hy : LowB y) : zp (subN x y) = zp x - zp y := by
  have e : zp (subN x y) + zp y = zp x := by rw [← zp_add]; exact zp_eq (subN_mod hy)
  rw [← e]
  show _ = (_ + _) + -_
  rw [zadd_assoc, zadd_neg, zadd_zero]
theorem zp_negN {x : Nat} (hx : LowB x) : zp (subN pp x) = -zp x := by rw [zp_subN hx, zp_pp]; exact zzero_add _
theorem zp_hlfN (x : Nat) : zp (hlfN x) = zp x * half := by
  have e : zp (hlfN x) + zp (hlfN x) = zp x := by rw [← zp_add]; exact zp_eq (by have := hlfN_mod x; rwa [Nat.two_mul] at this)
  rw [← e, zmul_comm, zmul_add, zmul_comm half, two_half]

end Go.FourQ
