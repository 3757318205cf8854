/- What a law's walk by a plan needs besides: new memory in a region; the words of a law. No condition. -/
import Derived.Test.YtfkfljohhabldaaDoorPlan
import Derived.Test.YtfkfljohhabldaaDoorZz
import Derived.Great.BuildSlice
namespace Go.FourQ
open Go.RowKit

theorem nb_alloc {w w' : World} (h : Below w.heap.size w w') (o : Obj) : Below w.heap.size w (w'.alloc o) := h.trans ((Below.refl _ _).alloc h.size o)

theorem sizeNb {w w' : World} (h : Below w.heap.size w w') : w.heap.size ≤ w'.heap.size := h.size


theorem all1 {p : Nat → Prop} {a : Nat} (ha : p a) : ∀ x ∈ [a], p x := by simp [ha]
theorem all2 {p : Nat → Prop} {a b : Nat} (ha : p a) (hb : p b) : ∀ x ∈ [a, b], p x := by simp [ha, hb]
theorem all3 {p : Nat → Prop} {a b c : Nat} (ha : p a) (hb : p b) (hc : p c) : ∀ x ∈ [a, b, c], p x := by simp [ha, hb, hc]
theorem all4 {p : Nat → Prop} {a b c d : Nat} (ha : p a) (hb : p b) (hc : p c) (hd : p d) : ∀ x ∈ [a, b, c, d], p x := by simp [ha, hb, hc, hd]

end Go.FourQ
namespace Go.Proofs.YtfkfljohhabldaaDoor
open Go.RowKit Go.FourQ

theorem lowAll_of {l : List Nat} (h : ∀ x ∈ l, LowB x) : lowAll l = true := by
  simp only [lowAll, List.all_eq_true, decide_eq_true_eq]
  exact h
theorem lowAll_iff {l : List Nat} : lowAll l = true ↔ ∀ x ∈ l, LowB x := by
  simp only [lowAll, List.all_eq_true, decide_eq_true_eq]
  exact Iff.rfl
theorem low_one : LowB 1 := by show 1 < 2 ^ 127; decide +kernel
theorem low_mod' (x : Nat) : LowB (x % pp) := Nat.lt_trans (Nat.mod_lt _ (by decide +kernel)) (by decide +kernel)

end Go.Proofs.YtfkfljohhabldaaDoor
