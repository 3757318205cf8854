/- Commutative rings by their laws; identities by normal forms of polynomials. No condition. -/
import Derived.KernelRfl
namespace Go.FourQ

/-- A commutative ring. -/
structure CR (K : Type) where
  zero : K
  one : K
  add : K → K → K
  mul : K → K → K
  neg : K → K
  add_comm : ∀ a b, add a b = add b a
  add_assoc : ∀ a b c, add (add a b) c = add a (add b c)
  add_zero : ∀ a, add a zero = a
  add_neg : ∀ a, add a (neg a) = zero
  mul_comm : ∀ a b, mul a b = mul b a
  mul_assoc : ∀ a b c, mul (mul a b) c = mul a (mul b c)
  mul_one : ∀ a, mul a one = a
  mul_add : ∀ a b c, mul a (add b c) = add (mul a b) (mul a c)

namespace CR
variable {K : Type} (R : CR K)

theorem zero_add (a : K) : R.add R.zero a = a := by rw [R.add_comm, R.add_zero]
theorem one_mul (a : K) : R.mul R.one a = a := by rw [R.mul_comm, R.mul_one]
theorem add_mul (a b c : K) : R.mul (R.add a b) c = R.add (R.mul a c) (R.mul b c) := by rw [R.mul_comm, R.mul_add, R.mul_comm c a, R.mul_comm c b]
theorem neg_add (a : K) : R.add (R.neg a) a = R.zero := by rw [R.add_comm, R.add_neg]
theorem add_left_cancel {a b c : K} (h : R.add a b = R.add a c) : b = c := by
  have := congrArg (R.add (R.neg a)) h
  rwa [← R.add_assoc, ← R.add_assoc, R.neg_add, R.zero_add, R.zero_add] at this
theorem mul_zero (a : K) : R.mul a R.zero = R.zero := by
  refine R.add_left_cancel (a := R.mul a R.zero) ?_
  rw [← R.mul_add, R.add_zero, R.add_zero]
theorem zero_mul (a : K) : R.mul R.zero a = R.zero := by rw [R.mul_comm, R.mul_zero]
theorem eq_neg {a b : K} (h : R.add a b = R.zero) : b = R.neg a := R.add_left_cancel (h.trans (R.add_neg a).symm)
theorem neg_neg (a : K) : R.neg (R.neg a) = a := (R.eq_neg (R.neg_add a)).symm
theorem neg_zero : R.neg R.zero = R.zero := (R.eq_neg (R.add_zero R.zero)).symm
theorem neg_mul (a b : K) : R.mul (R.neg a) b = R.neg (R.mul a b) := R.eq_neg (by rw [← R.add_mul, R.add_neg, R.zero_mul])
theorem mul_neg (a b : K) : R.mul a (R.neg b) = R.neg (R.mul a b) := by rw [R.mul_comm, R.neg_mul, R.mul_comm]
theorem add_add_add_comm (a b c d : K) : R.add (R.add a b) (R.add c d) = R.add (R.add a c) (R.add b d) := by
  rw [R.add_assoc, R.add_assoc, ← R.add_assoc b, R.add_comm b c, R.add_assoc c]
theorem neg_add_rev (a b : K) : R.neg (R.add a b) = R.add (R.neg a) (R.neg b) :=
  (R.eq_neg (by rw [R.add_add_add_comm, R.add_neg, R.add_neg, R.add_zero])).symm
theorem eq_of_sub {a b : K} (h : R.add a (R.neg b) = R.zero) : a = b := by
  rw [R.add_comm] at h
  rw [R.eq_neg h, R.neg_neg]

def nat : Nat → K
  | 0 => R.zero
  | n + 1 => R.add (nat n) R.one

theorem nat_add (a b : Nat) : R.nat (a + b) = R.add (R.nat a) (R.nat b) := by
  induction b with
  | zero => rw [Nat.add_zero, nat, R.add_zero]
  | succ b ih => rw [← Nat.add_assoc, nat, ih, nat, R.add_assoc]

theorem nat_mul (a b : Nat) : R.nat (a * b) = R.mul (R.nat a) (R.nat b) := by
  induction b with
  | zero => rw [Nat.mul_zero, nat, R.mul_zero]
  | succ b ih => rw [Nat.mul_succ, R.nat_add, ih, nat, R.mul_add, R.mul_one]

def int : Int → K
  | .ofNat n => R.nat n
  | .negSucc n => R.neg (R.nat (n + 1))

theorem int_sub (a b : Nat) : R.int ((a : Int) - (b : Int)) = R.add (R.nat a) (R.neg (R.nat b)) := by
  rcases Nat.le_total b a with h | h
  · obtain ⟨c, rfl⟩ := Nat.exists_eq_add_of_le h
    rw [show ((b + c : Nat) : Int) - (b : Int) = (c : Int) by omega, R.nat_add, R.add_comm (R.nat b), R.add_assoc, R.add_neg, R.add_zero]
    rfl
  · obtain ⟨c, rfl⟩ := Nat.exists_eq_add_of_le h
    rw [show (a : Int) - ((a + c : Nat) : Int) = -(c : Int) by omega, R.nat_add, R.neg_add_rev, ← R.add_assoc, R.add_neg, R.zero_add]
    cases c with
    | zero => exact R.neg_zero.symm
    | succ c => rfl

theorem int_as (a : Int) : ∃ m n : Nat, a = (m : Int) - (n : Int) ∧ R.int a = R.add (R.nat m) (R.neg (R.nat n)) := by
  obtain ⟨m, n, h⟩ : ∃ m n : Nat, a = (m : Int) - (n : Int) := ⟨a.toNat, (-a).toNat, by omega⟩
  exact ⟨m, n, h, by rw [h, R.int_sub]⟩

theorem int_add (a b : Int) : R.int (a + b) = R.add (R.int a) (R.int b) := by
  obtain ⟨m, n, rfl, h1⟩ := R.int_as a
  obtain ⟨k, l, rfl, h2⟩ := R.int_as b
  rw [show (m : Int) - n + ((k : Int) - l) = ((m + k : Nat) : Int) - ((n + l : Nat) : Int) by omega, R.int_sub, h1, h2, R.nat_add, R.nat_add, R.neg_add_rev, R.add_add_add_comm]

theorem int_neg (a : Int) : R.int (-a) = R.neg (R.int a) := by
  obtain ⟨m, n, rfl, h1⟩ := R.int_as a
  rw [show -((m : Int) - n) = (n : Int) - (m : Int) by omega, R.int_sub, h1, R.neg_add_rev, R.neg_neg, R.add_comm]

theorem int_mul (a b : Int) : R.int (a * b) = R.mul (R.int a) (R.int b) := by
  obtain ⟨m, n, rfl, h1⟩ := R.int_as a
  obtain ⟨k, l, rfl, h2⟩ := R.int_as b
  have e : ((m : Int) - n) * ((k : Int) - l) = ((m * k + n * l : Nat) : Int) - ((m * l + n * k : Nat) : Int) := by
    simp only [Int.sub_mul, Int.mul_sub, Int.natCast_add, Int.natCast_mul]; omega
  rw [e, R.int_sub, h1, h2, R.nat_add, R.nat_add, R.nat_mul, R.nat_mul, R.nat_mul, R.nat_mul, R.mul_add, R.add_mul, R.add_mul, R.neg_add_rev, R.mul_neg, R.mul_neg, R.neg_mul, R.neg_mul, R.neg_neg]
  rw [R.add_assoc, R.add_assoc]
  congr 1
  rw [R.add_comm (R.neg (R.mul (R.nat n) (R.nat k))), R.add_comm (R.neg (R.mul (R.nat m) (R.nat l))), R.add_assoc, R.add_comm (R.neg (R.mul (R.nat m) (R.nat l)))]
  exact (R.add_assoc _ _ _).symm

theorem int_zero : R.int 0 = R.zero := rfl
theorem int_one : R.int 1 = R.one := R.zero_add R.one

def pow (a : K) : Nat → K
  | 0 => R.one
  | n + 1 => R.mul (pow a n) a

theorem pow_add (a : K) (m n : Nat) : R.pow a (m + n) = R.mul (R.pow a m) (R.pow a n) := by
  induction n with
  | zero => rw [Nat.add_zero, pow, R.mul_one]
  | succ n ih => rw [← Nat.add_assoc, pow, ih, pow, R.mul_assoc]

theorem mul_mul_mul_comm (a b c d : K) : R.mul (R.mul a b) (R.mul c d) = R.mul (R.mul a c) (R.mul b d) := by
  rw [R.mul_assoc, R.mul_assoc, ← R.mul_assoc b, R.mul_comm b c, R.mul_assoc c]

theorem mul_pow (a b : K) (n : Nat) : R.pow (R.mul a b) n = R.mul (R.pow a n) (R.pow b n) := by
  induction n with
  | zero => rw [pow, pow, pow, R.mul_one]
  | succ n ih => rw [pow, ih, pow, pow, R.mul_mul_mul_comm]

theorem pow_mul (a : K) (m n : Nat) : R.pow (R.pow a m) n = R.pow a (m * n) := by
  induction n with
  | zero => rfl
  | succ n ih =>
    show R.mul (R.pow (R.pow a m) n) (R.pow a m) = _
    rw [ih, ← R.pow_add, Nat.mul_succ]

theorem one_pow (n : Nat) : R.pow R.one n = R.one := by
  induction n with
  | zero => rfl
  | succ n ih => rw [pow, ih, R.mul_one]
end CR

/-! ### Normal forms -/

/-- An expression. -/
inductive Ex where
  | v (i : Nat)
  | n (k : Int)
  | add (a b : Ex)
  | mul (a b : Ex)
  | neg (a : Ex)
  | sub (a b : Ex)

abbrev Mono := List Nat
abbrev Poly := List (Int × Mono)

/-- 0: the same; 1: the first is greater; 2: the second. -/
def cmpM : Mono → Mono → Nat
  | [], [] => 0
  | [], _ :: _ => 2
  | _ :: _, [] => 1
  | a :: l, b :: m => if Nat.beq a b then cmpM l m else if Nat.ble a b then 2 else 1

def mulM : Mono → Mono → Mono
  | [], m => m
  | l, [] => l
  | a :: l, b :: m => Nat.add a b :: mulM l m

def addP : Nat → Poly → Poly → Poly
  | 0, p, q => p ++ q
  | _ + 1, [], q => q
  | _ + 1, p, [] => p
  | f + 1, (c, m) :: p, (d, k) :: q =>
    match cmpM m k with
    | 0 => if c + d = 0 then addP f p q else (c + d, m) :: addP f p q
    | 1 => (c, m) :: addP f p ((d, k) :: q)
    | _ => (d, k) :: addP f ((c, m) :: p) q

def scaleP (c : Int) (m : Mono) : Poly → Poly
  | [] => []
  | (d, k) :: q => (c * d, mulM m k) :: scaleP c m q

def mulP : Poly → Poly → Poly
  | [], _ => []
  | (c, m) :: p, q => addP 100000 (scaleP c m q) (mulP p q)

def negP : Poly → Poly
  | [] => []
  | (c, m) :: p => (-c, m) :: negP p

def varM : Nat → Mono
  | 0 => [1]
  | i + 1 => 0 :: varM i

def Ex.norm : Ex → Poly
  | .v i => [(1, varM i)]
  | .n k => if k = 0 then [] else [(k, [])]
  | .add a b => addP 100000 a.norm b.norm
  | .mul a b => mulP a.norm b.norm
  | .neg a => negP a.norm
  | .sub a b => addP 100000 a.norm (negP b.norm)

section
variable {K : Type} (R : CR K) (ρ : Nat → K)

def Ex.den : Ex → K
  | .v i => ρ i
  | .n k => R.int k
  | .add a b => R.add a.den b.den
  | .mul a b => R.mul a.den b.den
  | .neg a => R.neg a.den
  | .sub a b => R.add a.den (R.neg b.den)

def denM : Nat → Mono → K
  | _, [] => R.one
  | i, a :: l => R.mul (R.pow (ρ i) a) (denM (i + 1) l)

def denP : Poly → K
  | [] => R.zero
  | (c, m) :: p => R.add (R.mul (R.int c) (denM R ρ 0 m)) (denP p)

theorem cmpM_eq : ∀ (l m : Mono), cmpM l m = 0 → l = m
  | [], [], _ => rfl
  | [], _ :: _, h => by simp [cmpM] at h
  | _ :: _, [], h => by simp [cmpM] at h
  | a :: l, b :: m, h => by
    unfold cmpM at h
    cases hab : Nat.beq a b with
    | true => rw [hab, if_pos rfl] at h; rw [Nat.eq_of_beq_eq_true hab, cmpM_eq l m h]
    | false =>
      rw [hab, if_neg (by decide)] at h
      split at h <;> cases h

theorem den_append (p q : Poly) : denP R ρ (p ++ q) = R.add (denP R ρ p) (denP R ρ q) := by
  induction p with
  | nil => exact (R.zero_add _).symm
  | cons t p ih => obtain ⟨c, m⟩ := t; rw [List.cons_append, denP, ih, denP, R.add_assoc]

theorem den_addP : ∀ (f : Nat) (p q : Poly), denP R ρ (addP f p q) = R.add (denP R ρ p) (denP R ρ q)
  | 0, p, q => den_append R ρ p q
  | f + 1, [], q => (R.zero_add _).symm
  | f + 1, (c, m) :: p, [] => (R.add_zero _).symm
  | f + 1, (c, m) :: p, (d, k) :: q => by
    unfold addP
    split
    · rename_i h
      obtain rfl := cmpM_eq m k h
      have e : R.add (denP R ρ ((c, m) :: p)) (denP R ρ ((d, m) :: q)) = R.add (R.mul (R.int (c + d)) (denM R ρ 0 m)) (R.add (denP R ρ p) (denP R ρ q)) := by
        rw [denP, denP, R.add_add_add_comm, ← R.add_mul, R.int_add]
      split
      · rename_i h0
        rw [e, h0, R.int_zero, R.zero_mul, R.zero_add, den_addP f p q]
      · rw [e, denP, den_addP f p q]
    · show R.add (R.mul (R.int c) (denM R ρ 0 m)) (denP R ρ (addP f p ((d, k) :: q))) = R.add (R.add (R.mul (R.int c) (denM R ρ 0 m)) (denP R ρ p)) (denP R ρ ((d, k) :: q))
      rw [den_addP f p, R.add_assoc]
    · show R.add (R.mul (R.int d) (denM R ρ 0 k)) (denP R ρ (addP f ((c, m) :: p) q)) = R.add (denP R ρ ((c, m) :: p)) (R.add (R.mul (R.int d) (denM R ρ 0 k)) (denP R ρ q))
      rw [den_addP f _ q, ← R.add_assoc, ← R.add_assoc, R.add_comm (R.mul (R.int d) _)]

theorem den_mulM : ∀ (l m : Mono) (i : Nat), denM R ρ i (mulM l m) = R.mul (denM R ρ i l) (denM R ρ i m)
  | [], m, i => by rw [mulM, denM, R.one_mul]
  | a :: l, [], i => by rw [mulM, denM, denM, R.mul_one]; simp
  | a :: l, b :: m, i => by
    rw [mulM, denM, den_mulM l m, denM, denM, R.mul_mul_mul_comm, ← R.pow_add]; rfl

theorem den_scaleP (c : Int) (m : Mono) : ∀ q : Poly, denP R ρ (scaleP c m q) = R.mul (R.mul (R.int c) (denM R ρ 0 m)) (denP R ρ q)
  | [] => (R.mul_zero _).symm
  | (d, k) :: q => by rw [scaleP, denP, den_scaleP c m q, denP, R.mul_add, R.int_mul, den_mulM, R.mul_mul_mul_comm]

theorem den_mulP : ∀ p q : Poly, denP R ρ (mulP p q) = R.mul (denP R ρ p) (denP R ρ q)
  | [], q => (R.zero_mul _).symm
  | (c, m) :: p, q => by rw [mulP, den_addP, den_scaleP, den_mulP p q, denP, R.add_mul]

theorem den_negP : ∀ p : Poly, denP R ρ (negP p) = R.neg (denP R ρ p)
  | [] => R.neg_zero.symm
  | (c, m) :: p => by rw [negP, denP, den_negP p, denP, R.neg_add_rev, R.int_neg, R.neg_mul]

theorem den_varM : ∀ (i j : Nat), denM R ρ j (varM i) = ρ (j + i)
  | 0, j => by rw [varM, denM, denM, R.mul_one, CR.pow, CR.pow, R.one_mul]; rfl
  | i + 1, j => by rw [varM, denM, den_varM i (j + 1), CR.pow, R.one_mul, Nat.add_assoc, Nat.add_comm 1 i]

theorem den_norm : ∀ e : Ex, denP R ρ e.norm = e.den R ρ
  | .v i => by rw [Ex.norm, denP, denP, den_varM, R.int_one, R.one_mul, R.add_zero, Nat.zero_add, Ex.den]
  | .n k => by
    unfold Ex.norm
    split
    · rename_i h; subst h; rfl
    · rw [denP, denP, denM, R.mul_one, R.add_zero, Ex.den]
  | .add a b => by rw [Ex.norm, den_addP, den_norm a, den_norm b, Ex.den]
  | .mul a b => by rw [Ex.norm, den_mulP, den_norm a, den_norm b, Ex.den]
  | .neg a => by rw [Ex.norm, den_negP, den_norm a, Ex.den]
  | .sub a b => by rw [Ex.norm, den_addP, den_negP, den_norm a, den_norm b, Ex.den]

/-- Two expressions with one normal form are the same. -/
theorem ring_eq (a b : Ex) (h : (Ex.sub a b).norm = []) : a.den R ρ = b.den R ρ := by
  have := den_norm R ρ (Ex.sub a b)
  rw [h] at this
  exact R.eq_of_sub this.symm
end
end Go.FourQ
