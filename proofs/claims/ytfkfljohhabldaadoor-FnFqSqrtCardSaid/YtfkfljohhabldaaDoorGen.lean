/- What the words of an element are, and what math/bits.Add64 and Sub64 give. No condition beyond a carry of 0 or 1. -/
import Derived.Test.YtfkfljohhabldaaDoorMem
import Derived.Test.YtfkfljohhabldaaDoorShelf
import Derived.Shelf.Spec.BitsCarry
import Derived.StillTailTactics
namespace Go.Proofs.YtfkfljohhabldaaDoor
open Go.RowKit Go.FourQ

theorem u8_nat (x i : Nat) : ((UInt8.ofNat (x / 256 ^ i % 256)).toNat : Int) = ((x / 256 ^ i % 256 : Nat) : Int) := by
  congr 1
  rw [UInt8.toNat_ofNat']
  exact Nat.mod_eq_of_lt (Nat.mod_lt _ (by decide))

theorem leNat_bytes (x : Nat) : Lib.leNat [UInt8.ofNat (x / 256 ^ 0 % 256), UInt8.ofNat (x / 256 ^ 1 % 256), UInt8.ofNat (x / 256 ^ 2 % 256), UInt8.ofNat (x / 256 ^ 3 % 256), UInt8.ofNat (x / 256 ^ 4 % 256), UInt8.ofNat (x / 256 ^ 5 % 256), UInt8.ofNat (x / 256 ^ 6 % 256), UInt8.ofNat (x / 256 ^ 7 % 256)] = x % 18446744073709551616 := by
  have e : ∀ i, (UInt8.ofNat (x / 256 ^ i % 256)).toNat = x / 256 ^ i % 256 := fun i => by
    rw [UInt8.toNat_ofNat']; exact Nat.mod_eq_of_lt (Nat.mod_lt _ (by decide))
  simp only [Lib.leNat, e]
  simp only [Nat.reducePow]
  omega

/-- The lower word of an element is read. -/
theorem uint64_lo {w : World} {b : Nat} {l : List Nat} {k x o c v : Nat} (h : Fps w b l) (hk : l[k]? = some x) (ho : o = 16 * k) (hv : x % 18446744073709551616 = v) :
    Calls Tryd.prog 138 #[.agg #[], .slice (some ⟨b, o, none⟩) 8 c] w fun e w' => e = .returned (.int .u64 (v : Int)) ∧ Below w.heap.size w w' := by
  subst hv
  have g : ∀ i, i < 16 → w.cell? ⟨b, o + i, none⟩ = some (.int .u8 ((UInt8.ofNat (x / 256 ^ i % 256)).toNat : Int)) := fun i hi => by
    rw [h.cell hk ho i hi, byteV, u8_nat]
  have r := Tryd.binary_LE_Uint64 b o 8 c _ _ _ _ _ _ _ _ w (Nat.le_refl 8) (g 0 (by omega)) (g 1 (by omega)) (g 2 (by omega)) (g 3 (by omega)) (g 4 (by omega)) (g 5 (by omega)) (g 6 (by omega)) (g 7 (by omega))
  rw [leNat_bytes] at r
  exact r

/-- The higher word of an element is read. -/
theorem uint64_hi {w : World} {b : Nat} {l : List Nat} {k x o c v : Nat} (h : Fps w b l) (hk : l[k]? = some x) (ho : o = 16 * k + 8) (hv : x / 18446744073709551616 % 18446744073709551616 = v) :
    Calls Tryd.prog 138 #[.agg #[], .slice (some ⟨b, o, none⟩) 8 c] w fun e w' => e = .returned (.int .u64 (v : Int)) ∧ Below w.heap.size w w' := by
  subst hv
  have g : ∀ i, i < 8 → w.cell? ⟨b, o + i, none⟩ = some (.int .u8 ((UInt8.ofNat (x / 18446744073709551616 / 256 ^ i % 256)).toNat : Int)) := fun i hi => by
    have e : o + i = 16 * k + (8 + i) := by omega
    rw [e, h.cell hk rfl (8 + i) (by omega), byteV_word1 x i hi, byteV, u8_nat]
  have r := Tryd.binary_LE_Uint64 b o 8 c _ _ _ _ _ _ _ _ w (Nat.le_refl 8) (g 0 (by omega)) (g 1 (by omega)) (g 2 (by omega)) (g 3 (by omega)) (g 4 (by omega)) (g 5 (by omega)) (g 6 (by omega)) (g 7 (by omega))
  rw [leNat_bytes] at r
  exact r

/-- The lower word of an element is written. -/
theorem put_lo {w : World} {b : Nat} {l : List Nat} {k x o c v : Nat} (h : Fps w b l) (hk : l[k]? = some x) (ho : o = 16 * k) (hv : v < 18446744073709551616) :
    Calls Tryd.prog 146 #[.agg #[], .slice (some ⟨b, o, none⟩) 8 c, .int .u64 v] w fun e w' => e = .returned (.tuple #[]) ∧ Upd w w' b (l.set k (v + 18446744073709551616 * (x / 18446744073709551616))) := by
  have g : ∀ i, i < 8 → w.cell? ⟨b, o + i, none⟩ = some (byteV x i) := fun i hi => h.cell hk ho i (by omega)
  refine (Tryd.binary_LE_PutUint64 b o 8 c v hv _ _ _ _ _ _ _ _ w (Nat.le_refl 8) (g 0 (by omega)) (g 1 (by omega)) (g 2 (by omega)) (g 3 (by omega)) (g 4 (by omega)) (g 5 (by omega)) (g 6 (by omega)) (g 7 (by omega))
    (h.free _) (h.free _) (h.free _) (h.free _) (h.free _) (h.free _) (h.free _) (h.free _)).mono ?_
  rintro e w' ⟨he, rfl⟩
  exact ⟨he, Upd.ahead ((Below.refl _ _).alloc (Nat.le_refl _) _) (upd_low (h.alloc _) hk ho hv)⟩

/-- The higher word of an element is written. -/
theorem put_hi {w : World} {b : Nat} {l : List Nat} {k x o c v : Nat} (h : Fps w b l) (hk : l[k]? = some x) (ho : o = 16 * k + 8) (hv : v < 18446744073709551616) :
    Calls Tryd.prog 146 #[.agg #[], .slice (some ⟨b, o, none⟩) 8 c, .int .u64 v] w fun e w' => e = .returned (.tuple #[]) ∧ Upd w w' b (l.set k (x % 18446744073709551616 + 18446744073709551616 * v)) := by
  have g : ∀ i, i < 8 → w.cell? ⟨b, o + i, none⟩ = some (byteV x (8 + i)) := fun i hi => by
    have e : o + i = 16 * k + (8 + i) := by omega
    rw [e, h.cell hk rfl (8 + i) (by omega)]
  refine (Tryd.binary_LE_PutUint64 b o 8 c v hv _ _ _ _ _ _ _ _ w (Nat.le_refl 8) (g 0 (by omega)) (g 1 (by omega)) (g 2 (by omega)) (g 3 (by omega)) (g 4 (by omega)) (g 5 (by omega)) (g 6 (by omega)) (g 7 (by omega))
    (h.free _) (h.free _) (h.free _) (h.free _) (h.free _) (h.free _) (h.free _) (h.free _)).mono ?_
  rintro e w' ⟨he, rfl⟩
  exact ⟨he, Upd.ahead ((Below.refl _ _).alloc (Nat.le_refl _) _) (upd_high (h.alloc _) hk ho hv)⟩

/-- math/bits.Add64: the sum and the carry, as two numbers of which nothing is known but what they stand for. -/
theorem add64_ex (x y c : Nat) (hx : x < 18446744073709551616) (hy : y < 18446744073709551616) (hc : c ≤ 1) : ∃ s k : Nat, s + 18446744073709551616 * k = x + y + c ∧ s < 18446744073709551616 ∧ k ≤ 1 ∧
    ∀ w : World, (callFunc 145 #[.int .u64 x, .int .u64 y, .int .u64 c]).run Tryd.prog w = .ok (.value (.tuple #[.int .u64 s, .int .u64 k])) w := by
  refine ⟨(x + y + c) % 18446744073709551616, (x + y + c) / 18446744073709551616, by omega, by omega, by omega, fun w => ?_⟩
  rw [run_callFunc_extern Tryd.func145 (by kernel_rfl) (by kernel_rfl) (by kernel_rfl) (e := add64Entry) (by kernel_rfl), run_add64 x y c (by omega) (by omega) (by omega) (by omega)]
  simp only [Result.andThen]
  congr 5 <;> omega

/-- math/bits.Sub64. -/
theorem sub64_ex (x y c : Nat) (hx : x < 18446744073709551616) (hy : y < 18446744073709551616) (hc : c ≤ 1) : ∃ s k : Nat, s + y + c = 18446744073709551616 * k + x ∧ s < 18446744073709551616 ∧ k ≤ 1 ∧
    ∀ w : World, (callFunc 147 #[.int .u64 x, .int .u64 y, .int .u64 c]).run Tryd.prog w = .ok (.value (.tuple #[.int .u64 s, .int .u64 k])) w := by
  refine ⟨(x + 18446744073709551616 - y - c) % 18446744073709551616, if x < y + c then 1 else 0, by split <;> omega, by omega, by split <;> omega, fun w => ?_⟩
  rw [run_callFunc_extern Tryd.func147 (by kernel_rfl) (by kernel_rfl) (by kernel_rfl) (e := sub64Entry) (by kernel_rfl), run_sub64 x y c hc]
  rfl

/-- The same, the operands spelled as the walk spells them. -/
theorem add64_as (X Y C : Int) (x y c : Nat) (eX : X = x) (eY : Y = y) (eC : C = c) (hx : x < 18446744073709551616) (hy : y < 18446744073709551616) (hc : c ≤ 1) : ∃ s k : Nat, s + 18446744073709551616 * k = x + y + c ∧ s < 18446744073709551616 ∧ k ≤ 1 ∧
    ∀ w : World, (callFunc 145 #[.int .u64 X, .int .u64 Y, .int .u64 C]).run Tryd.prog w = .ok (.value (.tuple #[.int .u64 s, .int .u64 k])) w := by
  subst eX eY eC; exact add64_ex x y c hx hy hc

theorem sub64_as (X Y C : Int) (x y c : Nat) (eX : X = x) (eY : Y = y) (eC : C = c) (hx : x < 18446744073709551616) (hy : y < 18446744073709551616) (hc : c ≤ 1) : ∃ s k : Nat, s + y + c = 18446744073709551616 * k + x ∧ s < 18446744073709551616 ∧ k ≤ 1 ∧
    ∀ w : World, (callFunc 147 #[.int .u64 X, .int .u64 Y, .int .u64 C]).run Tryd.prog w = .ok (.value (.tuple #[.int .u64 s, .int .u64 k])) w := by
  subst eX eY eC; exact sub64_ex x y c hx hy hc

/-- math/bits.Mul64. -/
theorem mul64_ex {x y hi lo : Nat} (hx : x < 18446744073709551616) (hy : y < 18446744073709551616) (eh : x * y / 18446744073709551616 = hi) (el : x * y % 18446744073709551616 = lo) (w : World) :
    Calls Tryd.prog 144 #[.int .u64 x, .int .u64 y] w fun e w' => e = .returned (.tuple #[.int .u64 hi, .int .u64 lo]) ∧ w = w' := by
  subst eh el
  exact (Tryd.bits_Mul64 x y hx hy w).mono fun _ _ h => ⟨h.1, h.2.symm⟩

end Go.Proofs.YtfkfljohhabldaaDoor
