/- The exported functions of the square field, over values: sums, differences, products, squares, opposites. Elements below 2^127; the package's variable modulusP holds the prime. -/
import Derived.Test.YtfkfljohhabldaaDoorFqG
import Derived.Test.YtfkfljohhabldaaDoorSpecQ
namespace Go.FourQ
open Go.RowKit
/-- A pair is handed back, by some bytes of it. -/
def RetQ (x y : Zp) (w : World) (e : Ending) (w' : World) : Prop := ∃ u v, e = .returned (.agg (fps [u, v])) ∧ LowB u ∧ LowB v ∧ zp u = x ∧ zp v = y ∧ Below w.heap.size w w'
theorem two_list {l : List Nat} {x y : Zp} (h : l.map zp = [x, y]) : ∃ u v, l = [u, v] ∧ zp u = x ∧ zp v = y := by
  cases l with
  | nil => cases h
  | cons u l =>
    cases l with
    | nil => simp at h
    | cons v l =>
      cases l with
      | nil => simp at h; exact ⟨u, v, rfl, h⟩
      | cons _ _ => simp at h
theorem all2L {a b : Nat} (ha : LowB a) (hb : LowB b) : ∀ v ∈ [a, b], LowB v := fun v hv => by
  simp only [List.mem_cons, List.not_mem_nil, or_false] at hv
  rcases hv with rfl | rfl
  · exact ha
  · exact hb
theorem FpsZ.pair {w : World} {b : Nat} {x y : Zp} (h : FpsZ w b [x, y]) : AtQ w b 0 x y := ⟨h.atK (k := 0) rfl rfl, h.atK (k := 1) rfl rfl⟩
theorem FpsZ.two {w : World} {b u v : Nat} (h : Fps w b [u, v]) (hu : LowB u) (hv : LowB v) : FpsZ w b [zp u, zp v] := FpsZ.ofFps h (all2L hu hv)
theorem zero_fps2 : fps [0, 0] = #[.int .u8 0, .int .u8 0, .int .u8 0, .int .u8 0, .int .u8 0, .int .u8 0, .int .u8 0, .int .u8 0, .int .u8 0, .int .u8 0, .int .u8 0, .int .u8 0, .int .u8 0, .int .u8 0, .int .u8 0, .int .u8 0, .int .u8 0, .int .u8 0, .int .u8 0, .int .u8 0, .int .u8 0, .int .u8 0, .int .u8 0, .int .u8 0, .int .u8 0, .int .u8 0, .int .u8 0, .int .u8 0, .int .u8 0, .int .u8 0, .int .u8 0, .int .u8 0] := by rfl
end Go.FourQ
namespace Go.Proofs.YtfkfljohhabldaaDoor
open Go.RowKit Go.FourQ

theorem lowsZ_c {w : World} {u v : Nat} {x y : Zp} (hm : ModW w) (hu : LowB u) (hv : LowB v) (hx : zp u = x) (hy : zp v = y) :
    Calls Tryd.prog 62 #[.agg (fps [u, v])] w fun e w' => e = .returned (.agg (fps [x.val, y.val])) ∧ Below w.heap.size w w' := by
  subst hx hy
  exact lows_c hm hu hv

section
variable {w : World} {a0 a1 c0 c1 : Nat}

end
end Go.Proofs.YtfkfljohhabldaaDoor
