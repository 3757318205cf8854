/- -1 is no square modulo 2^127 - 1; the inverse of a pair. No condition. -/
import Derived.Test.YtfkfljohhabldaaDoorZp
namespace Go.FourQ

theorem neg_one_pow (j : Nat) : (-(1 : Zp)).pow (2 * j + 1) = -1 := by
  have h2 : (-(1 : Zp)).pow 2 = 1 := by decide +kernel
  rw [zpow_add, ← zpow_mul, h2, zone_pow, zpow_one, zone_mul]
theorem zneg_pow (a : Zp) (j : Nat) : (-a).pow (2 * j + 1) = -(a.pow (2 * j + 1)) := by
  have : -a = -1 * a := by rw [zneg_mul, zone_mul]
  rw [this, zmul_pow, neg_one_pow, zneg_mul, zone_mul]

/-- -1 is no square: a sum of two squares is 0 just where both are. -/
theorem sum_sq {x y : Zp} (h : x * x + y * y = 0) : x = 0 ∧ y = 0 := by
  have hx : x * x = -(y * y) := by
    have := zpR.eq_neg (a := y * y) (b := x * x) (by show y * y + x * x = 0; rw [zadd_comm]; exact h)
    exact this
  by_cases hy : y = 0
  · subst hy
    rw [zmul_zero, zneg_zero] at hx
    exact ⟨(zmul_eq_zero hx).elim id id, rfl⟩
  · exfalso
    have hx0 : x ≠ 0 := fun e => by
      subst e
      rw [zmul_zero] at hx
      have : y * y = 0 := by rw [← zneg_neg (y * y), ← hx, zneg_zero]
      exact zmul_ne hy hy this
    have e := congrArg (fun t : Zp => t.pow (2 * 42535295865117307932921825928971026431 + 1)) hx
    replace e : (x * x).pow (2 * 42535295865117307932921825928971026431 + 1) = (-(y * y)).pow (2 * 42535295865117307932921825928971026431 + 1) := e
    have sq : ∀ t : Zp, t * t = t.pow 2 := fun t => by rw [show 2 = 1 + 1 from rfl, zpow_add, zpow_one]
    rw [zneg_pow, sq, sq, zpow_mul, zpow_mul, show 2 * (2 * 42535295865117307932921825928971026431 + 1) = pp - 1 by decide +kernel, zfermat hx0, zfermat hy] at e
    exact absurd e (by decide +kernel)

theorem inv_pair {x y : Zp} (h : x * x + y * y ≠ 0) :
    x * (x * (x * x + y * y).inv) - y * (y * -(x * x + y * y).inv) = 1 ∧ x * (y * -(x * x + y * y).inv) + y * (x * (x * x + y * y).inv) = 0 := by
  have hi := zmul_inv h
  generalize (x * x + y * y).inv = t at *
  constructor
  · rw [← hi]
    exact ring_eq zpR (fun i => [x, y, t].getD i 0) (.sub (.mul (.v 0) (.mul (.v 0) (.v 2))) (.mul (.v 1) (.mul (.v 1) (.neg (.v 2))))) (.mul (.add (.mul (.v 0) (.v 0)) (.mul (.v 1) (.v 1))) (.v 2)) (by kernel_rfl)
  · exact ring_eq zpR (fun i => [x, y, t].getD i 0) (.add (.mul (.v 0) (.mul (.v 1) (.neg (.v 2)))) (.mul (.v 1) (.mul (.v 0) (.v 2)))) (.n 0) (by kernel_rfl)
end Go.FourQ
