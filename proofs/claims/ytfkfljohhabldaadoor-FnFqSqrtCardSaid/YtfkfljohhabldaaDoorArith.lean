/- Plain arithmetic of the code's elements: what sums, differences, products and halves come to, and that modulo 2^127 - 1 they are those of the field. Elements below 2^127. -/
import Derived.Test.YtfkfljohhabldaaDoorNum
namespace Go.FourQ

/-- What lies beyond 2^127 counts once. -/
def fold (t : Nat) : Nat := t % 170141183460469231731687303715884105728 + t / 170141183460469231731687303715884105728

/-- 2^127, under a name. -/
def LowB (x : Nat) : Prop := x < 170141183460469231731687303715884105728

theorem fold_mod (t : Nat) : fold t % pp = t % pp := by
  unfold fold pp
  omega

def addN (x y : Nat) : Nat := fold (x + y)

def subN (x y : Nat) : Nat := if x < y then x + pp - y else x - y

def mulT (a0 a1 b0 b1 : Nat) : Nat :=
  a0 * b0 + (2 * (a0 * b1 / 18446744073709551616) + 18446744073709551616 * (a0 * b1 % 18446744073709551616)) +
    (2 * (a1 * b0 / 18446744073709551616) + 18446744073709551616 * (a1 * b0 % 18446744073709551616)) + 2 * (a1 * b1)

def mulN (x y : Nat) : Nat :=
  fold (fold (mulT (x % 18446744073709551616) (x / 18446744073709551616) (y % 18446744073709551616) (y / 18446744073709551616)))

def hlfN (x : Nat) : Nat := x / 2 + 85070591730234615865843651857942052864 * (x % 2)

theorem addN_low {x y : Nat} (hx : LowB x) (hy : LowB y) : LowB (addN x y) := by
  unfold LowB addN fold at *
  omega

theorem addN_mod (x y : Nat) : addN x y % pp = (x + y) % pp := fold_mod _

theorem subN_low {x y : Nat} (hx : LowB x) (hy : LowB y) : LowB (subN x y) := by
  unfold LowB subN pp at *
  split <;> omega

theorem subN_mod {x y : Nat} (hy : LowB y) : (subN x y + y) % pp = x % pp := by
  unfold LowB subN pp at *
  split <;> omega

theorem hlfN_low {x : Nat} (hx : LowB x) : LowB (hlfN x) := by
  unfold LowB hlfN at *
  omega

theorem hlfN_mod (x : Nat) : 2 * hlfN x % pp = x % pp := by
  unfold hlfN pp
  omega

theorem mul_le_of {a b m n : Nat} (ha : a ≤ m) (hb : b ≤ n) : a * b ≤ m * n := Nat.mul_le_mul ha hb

/-- The products of the words. -/
theorem words_bound {a0 a1 b0 b1 : Nat} (h0 : a0 < 18446744073709551616) (h1 : a1 < 9223372036854775808) (g0 : b0 < 18446744073709551616) (g1 : b1 < 9223372036854775808) :
    a0 * b0 ≤ 340282366920938463426481119284349108225 ∧ a0 * b1 ≤ 170141183460469231704017187605319778305 ∧ a1 * b0 ≤ 170141183460469231704017187605319778305 ∧ a1 * b1 ≤ 85070591730234615847396907784232501249 :=
  ⟨Nat.le_trans (Nat.mul_le_mul (Nat.le_of_lt_succ h0) (Nat.le_of_lt_succ g0)) (by decide +kernel), Nat.le_trans (Nat.mul_le_mul (Nat.le_of_lt_succ h0) (Nat.le_of_lt_succ g1)) (by decide +kernel),
    Nat.le_trans (Nat.mul_le_mul (Nat.le_of_lt_succ h1) (Nat.le_of_lt_succ g0)) (by decide +kernel), Nat.le_trans (Nat.mul_le_mul (Nat.le_of_lt_succ h1) (Nat.le_of_lt_succ g1)) (by decide +kernel)⟩

theorem mul_words (a0 a1 b0 b1 : Nat) : (a0 + 18446744073709551616 * a1) * (b0 + 18446744073709551616 * b1) =
    a0 * b0 + 18446744073709551616 * (a0 * b1) + 18446744073709551616 * (a1 * b0) + 340282366920938463463374607431768211456 * (a1 * b1) := by
  rw [Nat.add_mul, Nat.mul_add, Nat.mul_add]
  have e1 : a0 * (18446744073709551616 * b1) = 18446744073709551616 * (a0 * b1) := Nat.mul_left_comm _ _ _
  have e2 : 18446744073709551616 * a1 * b0 = 18446744073709551616 * (a1 * b0) := Nat.mul_assoc _ _ _
  have e3 : 18446744073709551616 * a1 * (18446744073709551616 * b1) = 340282366920938463463374607431768211456 * (a1 * b1) := by
    rw [Nat.mul_assoc, Nat.mul_left_comm a1, ← Nat.mul_assoc]
  rw [e1, e2, e3]
  omega

theorem mulT_mod (a0 a1 b0 b1 : Nat) : mulT a0 a1 b0 b1 % pp = (a0 + 18446744073709551616 * a1) * (b0 + 18446744073709551616 * b1) % pp := by
  rw [mul_words]
  unfold mulT pp
  generalize a0 * b0 = p; generalize a0 * b1 = q; generalize a1 * b0 = r; generalize a1 * b1 = s
  omega

theorem mulN_mod (x y : Nat) : mulN x y % pp = x * y % pp := by
  unfold mulN
  rw [fold_mod, fold_mod, mulT_mod]
  have e1 : x % 18446744073709551616 + 18446744073709551616 * (x / 18446744073709551616) = x := by omega
  have e2 : y % 18446744073709551616 + 18446744073709551616 * (y / 18446744073709551616) = y := by omega
  rw [e1, e2]

theorem mulT_bound {a0 a1 b0 b1 : Nat} (h0 : a0 < 18446744073709551616) (h1 : a1 < 9223372036854775808) (g0 : b0 < 18446744073709551616) (g1 : b1 < 9223372036854775808) :
    mulT a0 a1 b0 b1 < 1361129467683753853853498429727072845824 := by
  obtain ⟨w0, w1, w2, w3⟩ := words_bound h0 h1 g0 g1
  unfold mulT
  generalize a0 * b0 = p at *; generalize a0 * b1 = q at *; generalize a1 * b0 = r at *; generalize a1 * b1 = s at *
  omega

theorem mulN_low {x y : Nat} (hx : LowB x) (hy : LowB y) : LowB (mulN x y) := by
  have hb := mulT_bound (a0 := x % 18446744073709551616) (a1 := x / 18446744073709551616) (b0 := y % 18446744073709551616) (b1 := y / 18446744073709551616)
    (by omega) (by unfold LowB at hx; omega) (by omega) (by unfold LowB at hy; omega)
  unfold mulN LowB
  generalize mulT _ _ _ _ = t at *
  unfold fold
  omega

theorem subN_pp {x : Nat} (hx : LowB x) : subN x pp = x % pp := by
  unfold LowB subN pp at *
  split <;> omega

theorem low_mod (x : Nat) : LowB (x % pp) := by unfold LowB pp; omega
theorem low_pp : LowB pp := by unfold LowB pp; omega

/-! ### The words of a sum, of a difference, of a product -/

theorem add_words {x y s0 k0 s1 k1 d1 h c0 k2 c1 k3 : Nat} (hx : LowB x) (hy : LowB y)
    (e1 : s0 + 18446744073709551616 * k0 = x % 18446744073709551616 + y % 18446744073709551616) (b1 : s0 < 18446744073709551616)
    (e2 : s1 + 18446744073709551616 * k1 = x / 18446744073709551616 + y / 18446744073709551616 + k0) (b2 : s1 < 18446744073709551616)
    (e3 : d1 + 18446744073709551616 * h = s1 + s1) (b3 : d1 < 18446744073709551616)
    (e4 : c0 + 18446744073709551616 * k2 = s0 + h) (b4 : c0 < 18446744073709551616)
    (e5 : c1 + 18446744073709551616 * k3 = d1 / 2 + k2) (b5 : c1 < 18446744073709551616) :
    c0 + 18446744073709551616 * c1 = addN x y := by
  unfold LowB addN fold at *
  have q1 : k1 = 0 := by omega
  subst q1
  have q2 : s0 + 18446744073709551616 * s1 = x + y := by omega
  have q3 : d1 / 2 + 9223372036854775808 * h = s1 := by omega
  have q4 : h ≤ 1 := by omega
  have q5 : (x + y) / 170141183460469231731687303715884105728 = h := by omega
  have q6 : (x + y) % 170141183460469231731687303715884105728 = s0 + 18446744073709551616 * (d1 / 2) := by omega
  rw [q5, q6]
  clear q5 q6 e3 b3
  generalize d1 / 2 = d at *
  have q7 : k3 = 0 := by omega
  omega

theorem sub_words {x y s0 k0 s1 k1 d1 h c0 k2 c1 k3 : Nat} (hx : LowB x) (hy : LowB y)
    (e1 : s0 + y % 18446744073709551616 = 18446744073709551616 * k0 + x % 18446744073709551616) (b1 : s0 < 18446744073709551616)
    (e2 : s1 + y / 18446744073709551616 + k0 = 18446744073709551616 * k1 + x / 18446744073709551616) (b2 : s1 < 18446744073709551616)
    (e3 : d1 + 18446744073709551616 * h = s1 + s1) (b3 : d1 < 18446744073709551616)
    (e4 : c0 + h = 18446744073709551616 * k2 + s0) (b4 : c0 < 18446744073709551616)
    (e5 : c1 + k2 = 18446744073709551616 * k3 + d1 / 2) (b5 : c1 < 18446744073709551616) :
    c0 + 18446744073709551616 * c1 = subN x y := by
  unfold LowB subN pp at *
  have q3 : d1 / 2 + 9223372036854775808 * h = s1 := by omega
  have q4 : h ≤ 1 := by omega
  have q2 : s0 + 18446744073709551616 * s1 + y = x + 340282366920938463463374607431768211456 * k1 := by omega
  have q5 : h = k1 := by omega
  subst q5
  clear e1 e2 e3 b3
  generalize d1 / 2 = d at *
  have q6 : k2 ≤ 1 := by omega
  have q7 : k3 = 0 := by
    rcases (by omega : h = 0 ∨ h = 1) with rfl | rfl <;> rcases (by omega : k2 = 0 ∨ k2 = 1) with rfl | rfl <;> omega
  subst q7
  rcases (by omega : h = 0 ∨ h = 1) with rfl | rfl <;> split <;> omega

theorem fold_words {c0 c1 c2 d1 h e0 k e1 k' : Nat} (b0 : c0 < 18446744073709551616) (b1 : c1 < 18446744073709551616) (b2 : c2 ≤ 8)
    (q1 : d1 + 18446744073709551616 * h = c1 + c1) (r1 : d1 < 18446744073709551616)
    (q2 : e0 + 18446744073709551616 * k = c0 + 2 * c2 + h) (r2 : e0 < 18446744073709551616)
    (q3 : e1 + 18446744073709551616 * k' = d1 / 2 + k) (r3 : e1 < 18446744073709551616) :
    e0 + 18446744073709551616 * e1 = fold (c0 + 18446744073709551616 * c1 + 340282366920938463463374607431768211456 * c2) := by
  have q4 : d1 / 2 + 9223372036854775808 * h = c1 := by omega
  have q5 : (c0 + 18446744073709551616 * c1 + 340282366920938463463374607431768211456 * c2) / 170141183460469231731687303715884105728 = 2 * c2 + h := by omega
  have q6 : (c0 + 18446744073709551616 * c1 + 340282366920938463463374607431768211456 * c2) % 170141183460469231731687303715884105728 = c0 + 18446744073709551616 * (d1 / 2) := by omega
  unfold fold
  rw [q5, q6]
  have q7 : h ≤ 1 := by omega
  have q8 : d1 / 2 < 9223372036854775808 := by omega
  clear q5 q6 q4 q1 r1
  generalize d1 / 2 = d at *
  have q9 : k' = 0 := by omega
  omega

theorem two_steps {u v x y a b c : Nat} (q1 : u + 18446744073709551616 * x = a) (q2 : v + 18446744073709551616 * y = b + x) (q3 : c = y) :
    u + 18446744073709551616 * v + 340282366920938463463374607431768211456 * c = a + 18446744073709551616 * b := by omega

theorem mul_words_sum {p00 p01 p10 p11 l0 h0 l1 h1 l2 h2 l3 h3 u1 x1 v1 x2 u2 x3 v2 x4 m3 x5 n3 x5' u3 x6 v3 x7 c2 : Nat}
    (w3 : p11 ≤ 85070591730234615847396907784232501249)
    (e0 : l0 = p00 % 18446744073709551616) (g0 : h0 = p00 / 18446744073709551616) (e1 : l1 = p01 % 18446744073709551616) (g1 : h1 = p01 / 18446744073709551616)
    (e2 : l2 = p10 % 18446744073709551616) (g2 : h2 = p10 / 18446744073709551616) (e3 : l3 = p11 % 18446744073709551616) (g3 : h3 = p11 / 18446744073709551616)
    (q1 : u1 + 18446744073709551616 * x1 = l0 + 2 * h1) (q2 : v1 + 18446744073709551616 * x2 = h0 + l1 + x1)
    (q3 : u2 + 18446744073709551616 * x3 = u1 + 2 * h2) (q4 : v2 + 18446744073709551616 * x4 = v1 + l2 + x3)
    (q5 : m3 + 18446744073709551616 * x5 = l3 + l3) (q6 : n3 + 18446744073709551616 * x5' = h3 + h3 + x5)
    (q7 : u3 + 18446744073709551616 * x6 = u2 + m3) (q8 : v3 + 18446744073709551616 * x7 = v2 + n3 + x6) (q9 : c2 = x2 + x4 + x7) :
    u3 + 18446744073709551616 * v3 + 340282366920938463463374607431768211456 * c2 =
      p00 + (2 * (p01 / 18446744073709551616) + 18446744073709551616 * (p01 % 18446744073709551616)) +
        (2 * (p10 / 18446744073709551616) + 18446744073709551616 * (p10 % 18446744073709551616)) + 2 * p11 := by
  rw [← e1, ← g1, ← e2, ← g2]
  have f0 : p00 = l0 + 18446744073709551616 * h0 := by clear q1 q2 q3 q4 q5 q6 q7 q8 q9; omega
  have f3 : p11 = l3 + 18446744073709551616 * h3 := by clear q1 q2 q3 q4 q5 q6 q7 q8 q9; omega
  have f4 : h3 < 4611686018427387904 := by clear q1 q2 q3 q4 q5 q6 q7 q8 q9; omega
  have f5 : l3 < 18446744073709551616 := by clear q1 q2 q3 q4 q5 q6 q7 q8 q9; omega
  rw [f0, f3]
  clear e0 g0 e1 g1 e2 g2 e3 g3 f0 f3 w3
  have f6 : x5' = 0 := by clear q1 q2 q3 q4 q7 q8 q9; omega
  have s1 := two_steps q1 q2 rfl
  have s2 := two_steps q3 q4 rfl
  have s3 := two_steps q5 q6 rfl
  have s4 := two_steps q7 q8 rfl
  subst f6 q9
  clear q1 q2 q3 q4 q5 q6 q7 q8 f4 f5
  omega

theorem cast2 (n : Nat) : (n : Int) * 2 = ((2 * n : Nat) : Int) := by omega
theorem castHalf (n : Nat) : (n : Int) / 2 = ((n / 2 : Nat) : Int) := by omega
theorem lt2 {n : Nat} (h : n < 9223372036854775808) : 2 * n < 18446744073709551616 := by omega
theorem half_lt {n : Nat} (h : n < 18446744073709551616) : n / 2 < 18446744073709551616 := by omega
theorem zlt : 0 < 18446744073709551616 := by decide
theorem le1_lt {n : Nat} (h : n ≤ 1) : n < 18446744073709551616 := by omega
theorem le8_lt {n : Nat} (h : n ≤ 3) : 2 * n < 18446744073709551616 := by omega
theorem small_sum {s k a : Nat} (h : s + 18446744073709551616 * k = a) (ha : a < 18446744073709551616) : s = a := by omega
theorem three_sum {c2a c2b c2c z1 z2 z3 x2 x4 x7 : Nat} (q1 : c2a + 18446744073709551616 * z1 = 0 + 0 + x2) (q2 : c2b + 18446744073709551616 * z2 = c2a + 0 + x4) (q3 : c2c + 18446744073709551616 * z3 = c2b + 0 + x7)
    (t2 : x2 ≤ 1) (t4 : x4 ≤ 1) (t7 : x7 ≤ 1) : c2c = x2 + x4 + x7 ∧ c2c ≤ 3 := by
  have h1 := small_sum q1 (by omega)
  have h2 := small_sum q2 (by omega)
  have h3 := small_sum q3 (by omega)
  omega
theorem mod_lt64 {a b : Nat} (h : a % 18446744073709551616 = b) : b < 18446744073709551616 := by omega
theorem div_lt64 {a b : Nat} (h : a / 18446744073709551616 = b) (ha : a ≤ 340282366920938463426481119284349108225) : b < 18446744073709551616 := by omega
theorem div_lt63 {a b : Nat} (h : a / 18446744073709551616 = b) (ha : a ≤ 170141183460469231704017187605319778305) : b < 9223372036854775808 := by omega
theorem div_lt62 {a b : Nat} (h : a / 18446744073709551616 = b) (ha : a ≤ 85070591730234615847396907784232501249) : b < 18446744073709551616 := by omega
theorem low_hi {x : Nat} (h : LowB x) : x / 18446744073709551616 < 9223372036854775808 ∧ x / 18446744073709551616 % 18446744073709551616 = x / 18446744073709551616 := by unfold LowB at h; omega

end Go.FourQ
