/- The reference's square field by elements as a type. No condition. -/
import Derived.Test.YtfkfljohhabldaaDoorW2
import Derived.Test.YtfkfljohhabldaaDoorFqImpl
import Derived.Test.YtfkfljohhabldaaDoorZq
namespace Go.Proofs.YtfkfljohhabldaaDoor
open Go.RowKit Go.FourQ

section
variable {w : World} {x y : Zq}
/-- A number of the square field, as the reference holds it; as bytes. -/
def dQ (x : Zq) : Value := .agg (dgQ x.re.val x.im.val)
def bQ (x : Zq) : Value := .agg (fps [x.re.val, x.im.val])

theorem mulQ_q : Calls Tryd.prog 25 #[.agg (dgQ x.re.val x.im.val), .agg (dgQ y.re.val y.im.val)] w fun e w' => e = .returned (.agg (dgQ (x * y).re.val (x * y).im.val)) ∧ Below w.heap.size w w' := mulQ_c
theorem addQ_q : Calls Tryd.prog 58 #[.agg (dgQ x.re.val x.im.val), .agg (dgQ y.re.val y.im.val)] w fun e w' => e = .returned (.agg (dgQ (x + y).re.val (x + y).im.val)) ∧ Below w.heap.size w w' := addQ_c
theorem subQ_q : Calls Tryd.prog 57 #[.agg (dgQ x.re.val x.im.val), .agg (dgQ y.re.val y.im.val)] w fun e w' => e = .returned (.agg (dgQ (x - y).re.val (x - y).im.val)) ∧ Below w.heap.size w w' := subQ_c
theorem negQ_q : Calls Tryd.prog 41 #[.agg (dgQ x.re.val x.im.val)] w fun e w' => e = .returned (.agg (dgQ (-x).re.val (-x).im.val)) ∧ Below w.heap.size w w' := negQ_c
theorem bytesQ_q : Calls Tryd.prog 27 #[.agg (dgQ x.re.val x.im.val)] w fun e w' => e = .returned (.agg (fps [x.re.val, x.im.val])) ∧ Below w.heap.size w w' := bytesQ_c
theorem ofQ_q : Calls Tryd.prog 19 #[.agg (fps [x.re.val, x.im.val])] w fun e w' => e = .returned (.agg (dgQ x.re.val x.im.val)) ∧ Below w.heap.size w w' := by
  have := ofQ_c (w := w) (lt16 x.re) (lt16 x.im)
  rwa [zp_val, zp_val] at this
theorem ofQ_b {a b : Nat} (ha : a < 256 ^ 16) (hb : b < 256 ^ 16) (hx : x = ⟨zp a, zp b⟩) : Calls Tryd.prog 19 #[.agg (fps [a, b])] w fun e w' => e = .returned (.agg (dgQ x.re.val x.im.val)) ∧ Below w.heap.size w w' := by
  subst hx; exact ofQ_c ha hb
end
theorem low_val (x : Zp) : LowB x.val := Nat.lt_trans x.lt (by decide +kernel)
theorem val8 (x : Zp) : x.val < 65536 ^ 8 := Nat.lt_trans x.lt (by decide +kernel)
theorem eqQ (x y : Zq) (w : World) : (binOp .eql 39 (.agg (dgQ x.re.val x.im.val)) (.agg (dgQ y.re.val y.im.val))).run Tryd.prog w = .ok (.bool (decide (x = y))) w := by
  rw [eql_dgQ (P := Tryd.prog) Tryd.underlying39 Tryd.underlying26 (by kernel_rfl) (by kernel_rfl) Tryd.underlying24 (val8 _) (val8 _) (val8 _) (val8 _) w]
  congr 2
  rw [Bool.eq_iff_iff, Bool.and_eq_true, decide_eq_true_eq, decide_eq_true_eq, decide_eq_true_eq]
  exact ⟨fun h => Zq.ext (Zp.ext h.1) (Zp.ext h.2), fun h => by rw [h]; exact ⟨rfl, rfl⟩⟩
theorem eqQ_t {x y : Zq} (h : x = y) (w : World) : (binOp .eql 39 (.agg (dgQ x.re.val x.im.val)) (.agg (dgQ y.re.val y.im.val))).run Tryd.prog w = .ok (.bool true) w := by rw [eqQ, decide_eq_true h]
theorem eqQ_f {x y : Zq} (h : x ≠ y) (w : World) : (binOp .eql 39 (.agg (dgQ x.re.val x.im.val)) (.agg (dgQ y.re.val y.im.val))).run Tryd.prog w = .ok (.bool false) w := by rw [eqQ, decide_eq_false h]
end Go.Proofs.YtfkfljohhabldaaDoor
