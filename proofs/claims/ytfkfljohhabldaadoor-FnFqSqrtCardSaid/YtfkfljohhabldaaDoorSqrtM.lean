/- The plain law of a root in the square field. No condition. -/
import Derived.Test.YtfkfljohhabldaaDoorZq
namespace Go.FourQ

theorem sq_1 (a g s : Zp) : ((((a + s) * (a + s)) - (g * g)) - (a * ((a + s) + (a + s)))) = ((s * s) - ((a * a) + (g * g))) := ring_eq zpR (fun i => [a, g, s].getD i 0) (.sub (.sub (.mul (.add (.v 0) (.v 2)) (.add (.v 0) (.v 2))) (.mul (.v 1) (.v 1))) (.mul (.v 0) (.add (.add (.v 0) (.v 2)) (.add (.v 0) (.v 2))))) (.sub (.mul (.v 2) (.v 2)) (.add (.mul (.v 0) (.v 0)) (.mul (.v 1) (.v 1)))) (by kernel_rfl)
theorem sq_2 (b g m r : Zp) : (b * ((((r * b) * m) * ((r * b) * m)) - (((r * b) * g) * ((r * b) * g)))) = (((r * r) * ((b * b) * b)) * ((m * m) - (g * g))) := ring_eq zpR (fun i => [b, g, m, r].getD i 0) (.mul (.v 0) (.sub (.mul (.mul (.mul (.v 3) (.v 0)) (.v 2)) (.mul (.mul (.v 3) (.v 0)) (.v 2))) (.mul (.mul (.mul (.v 3) (.v 0)) (.v 1)) (.mul (.mul (.v 3) (.v 0)) (.v 1))))) (.mul (.mul (.mul (.v 3) (.v 3)) (.mul (.mul (.v 0) (.v 0)) (.v 0))) (.sub (.mul (.v 2) (.v 2)) (.mul (.v 1) (.v 1)))) (by kernel_rfl)
theorem sq_3 (a b m r : Zp) : (((r * r) * ((b * b) * b)) * (a * (m + m))) = (((r * r) * ((m + m) * ((b * b) * b))) * a) := ring_eq zpR (fun i => [a, b, m, r].getD i 0) (.mul (.mul (.mul (.v 3) (.v 3)) (.mul (.mul (.v 1) (.v 1)) (.v 1))) (.mul (.v 0) (.add (.v 2) (.v 2)))) (.mul (.mul (.mul (.v 3) (.v 3)) (.mul (.add (.v 2) (.v 2)) (.mul (.mul (.v 1) (.v 1)) (.v 1)))) (.v 0)) (by kernel_rfl)
theorem sq_4 (b g m r : Zp) : (b * ((((r * b) * m) * ((r * b) * g)) + (((r * b) * m) * ((r * b) * g)))) = (((r * r) * ((m + m) * ((b * b) * b))) * g) := ring_eq zpR (fun i => [b, g, m, r].getD i 0) (.mul (.v 0) (.add (.mul (.mul (.mul (.v 3) (.v 0)) (.v 2)) (.mul (.mul (.v 3) (.v 0)) (.v 1))) (.mul (.mul (.mul (.v 3) (.v 0)) (.v 2)) (.mul (.mul (.v 3) (.v 0)) (.v 1))))) (.mul (.mul (.mul (.v 3) (.v 3)) (.mul (.add (.v 2) (.v 2)) (.mul (.mul (.v 0) (.v 0)) (.v 0)))) (.v 1)) (by kernel_rfl)
theorem sq_5 (b m r : Zp) : (b * (((r * b) * (m + m)) * ((r * b) * (m + m)))) = (((r * r) * ((m + m) * ((b * b) * b))) * (m + m)) := ring_eq zpR (fun i => [b, m, r].getD i 0) (.mul (.v 0) (.mul (.mul (.mul (.v 2) (.v 0)) (.add (.v 1) (.v 1))) (.mul (.mul (.v 2) (.v 0)) (.add (.v 1) (.v 1))))) (.mul (.mul (.mul (.v 2) (.v 2)) (.mul (.add (.v 1) (.v 1)) (.mul (.mul (.v 0) (.v 0)) (.v 0)))) (.add (.v 1) (.v 1))) (by kernel_rfl)
theorem sq_6 (u0 u1 v0 v1 : Zp) : ((((u0 * v0) + (u1 * v1)) * ((u0 * v0) + (u1 * v1))) + (((u1 * v0) - (u0 * v1)) * ((u1 * v0) - (u0 * v1)))) = (((u0 * u0) + (u1 * u1)) * ((v0 * v0) + (v1 * v1))) := ring_eq zpR (fun i => [u0, u1, v0, v1].getD i 0) (.add (.mul (.add (.mul (.v 0) (.v 2)) (.mul (.v 1) (.v 3))) (.add (.mul (.v 0) (.v 2)) (.mul (.v 1) (.v 3)))) (.mul (.sub (.mul (.v 1) (.v 2)) (.mul (.v 0) (.v 3))) (.sub (.mul (.v 1) (.v 2)) (.mul (.v 0) (.v 3))))) (.mul (.add (.mul (.v 0) (.v 0)) (.mul (.v 1) (.v 1))) (.add (.mul (.v 2) (.v 2)) (.mul (.v 3) (.v 3)))) (by kernel_rfl)
theorem sq_7 (w0 w1 v0 v1 : Zp) : ((((((w0 * w0) - (w1 * w1)) * v0) - (((w0 * w1) + (w1 * w0)) * v1)) * ((((w0 * w0) - (w1 * w1)) * v0) - (((w0 * w1) + (w1 * w0)) * v1))) + (((((w0 * w0) - (w1 * w1)) * v1) + (((w0 * w1) + (w1 * w0)) * v0)) * ((((w0 * w0) - (w1 * w1)) * v1) + (((w0 * w1) + (w1 * w0)) * v0)))) = ((((w0 * w0) + (w1 * w1)) * ((w0 * w0) + (w1 * w1))) * ((v0 * v0) + (v1 * v1))) := ring_eq zpR (fun i => [w0, w1, v0, v1].getD i 0) (.add (.mul (.sub (.mul (.sub (.mul (.v 0) (.v 0)) (.mul (.v 1) (.v 1))) (.v 2)) (.mul (.add (.mul (.v 0) (.v 1)) (.mul (.v 1) (.v 0))) (.v 3))) (.sub (.mul (.sub (.mul (.v 0) (.v 0)) (.mul (.v 1) (.v 1))) (.v 2)) (.mul (.add (.mul (.v 0) (.v 1)) (.mul (.v 1) (.v 0))) (.v 3)))) (.mul (.add (.mul (.sub (.mul (.v 0) (.v 0)) (.mul (.v 1) (.v 1))) (.v 3)) (.mul (.add (.mul (.v 0) (.v 1)) (.mul (.v 1) (.v 0))) (.v 2))) (.add (.mul (.sub (.mul (.v 0) (.v 0)) (.mul (.v 1) (.v 1))) (.v 3)) (.mul (.add (.mul (.v 0) (.v 1)) (.mul (.v 1) (.v 0))) (.v 2))))) (.mul (.mul (.add (.mul (.v 0) (.v 0)) (.mul (.v 1) (.v 1))) (.add (.mul (.v 0) (.v 0)) (.mul (.v 1) (.v 1)))) (.add (.mul (.v 2) (.v 2)) (.mul (.v 3) (.v 3)))) (by kernel_rfl)
theorem sq_d (y : Zp) : (y - 1) * (y + 1) = y * y - 1 := ring_eq zpR (fun i => [y, 1].getD i 0) (.mul (.sub (.v 0) (.n 1)) (.add (.v 0) (.n 1))) (.sub (.mul (.v 0) (.v 0)) (.n 1)) (by kernel_rfl)
theorem sq_8 (u0 u1 v0 v1 : Zp) : ((((u0 * v0) + (u1 * v1)) * v0) - (((u1 * v0) - (u0 * v1)) * v1)) = (u0 * ((v0 * v0) + (v1 * v1))) := ring_eq zpR (fun i => [u0, u1, v0, v1].getD i 0) (.sub (.mul (.add (.mul (.v 0) (.v 2)) (.mul (.v 1) (.v 3))) (.v 2)) (.mul (.sub (.mul (.v 1) (.v 2)) (.mul (.v 0) (.v 3))) (.v 3))) (.mul (.v 0) (.add (.mul (.v 2) (.v 2)) (.mul (.v 3) (.v 3)))) (by kernel_rfl)
theorem sq_9 (u0 u1 v0 v1 : Zp) : ((((u0 * v0) + (u1 * v1)) * v1) + (((u1 * v0) - (u0 * v1)) * v0)) = (u1 * ((v0 * v0) + (v1 * v1))) := ring_eq zpR (fun i => [u0, u1, v0, v1].getD i 0) (.add (.mul (.add (.mul (.v 0) (.v 2)) (.mul (.v 1) (.v 3))) (.v 3)) (.mul (.sub (.mul (.v 1) (.v 2)) (.mul (.v 0) (.v 3))) (.v 2))) (.mul (.v 1) (.add (.mul (.v 2) (.v 2)) (.mul (.v 3) (.v 3)))) (by kernel_rfl)

/-- What the code reckons, by the sign e of its power. -/
theorem sqrt_core {a b g s r e : Zp} (hs : s * s = a * a + g * g) (hr : r * r * (((a + s) + (a + s)) * (b * b * b)) = e) :
    b * ((r * b * (a + s)) * (r * b * (a + s)) - (r * b * g) * (r * b * g)) = e * a ∧
    b * ((r * b * (a + s)) * (r * b * g) + (r * b * (a + s)) * (r * b * g)) = e * g ∧
    b * ((r * b * ((a + s) + (a + s))) * (r * b * ((a + s) + (a + s)))) = e * ((a + s) + (a + s)) := by
  have h1 : (a + s) * (a + s) - g * g = a * ((a + s) + (a + s)) := by
    refine zeq_of_sub ?_
    have := sq_1 a g s
    rw [hs, zsub_self] at this
    exact this
  refine ⟨?_, ?_, ?_⟩
  · rw [sq_2, h1, sq_3, hr]
  · rw [sq_4, hr]
  · rw [sq_5, hr]

/-- The sign of a power: 1 or -1. -/
theorem sign_pow {x : Zp} (h : x ≠ 0) : x.pow (2 * 42535295865117307932921825928971026431 + 1) = 1 ∨ x.pow (2 * 42535295865117307932921825928971026431 + 1) = -1 := by
  have e : x.pow (2 * 42535295865117307932921825928971026431 + 1) * x.pow (2 * 42535295865117307932921825928971026431 + 1) = 1 := by
    rw [← zpow_add, show 2 * 42535295865117307932921825928971026431 + 1 + (2 * 42535295865117307932921825928971026431 + 1) = pp - 1 by decide +kernel, zfermat h]
  generalize x.pow (2 * 42535295865117307932921825928971026431 + 1) = y at *
  have h2 : (y - 1) * (y + 1) = 0 := by
    have := sq_d y
    rw [e, zsub_self] at this
    exact this
  rcases zmul_eq_zero h2 with h3 | h3
  · exact .inl (zeq_of_sub h3)
  · right
    refine zeq_of_sub ?_
    rw [← h3]
    show y + - -1 = y + 1
    rw [zneg_neg]

theorem zhalf (t : Zp) : (t + t) * half = t := by rw [zmul_comm, zmul_add, zmul_comm half, two_half]
end Go.FourQ
