/- What a digest holds of the bytes seen: whole blocks taken in, the rest in a buffer. -/
import Derived.Test.YtkmofjefjbhbhaaDoorOwn
namespace Go.Sha
/-- The state h, the buffer x and its filled part, of the bytes s. -/
def Dg (s : List Int) (h : St) (x : List Int) (nx : Nat) : Prop := h = cs H0 s (s.length / 64) ∧ x.length = 64 ∧ nx = s.length % 64 ∧ x.take nx = s.drop (64 * (s.length / 64))
theorem dg_new {x : List Int} (h : x.length = 64) : Dg [] H0 x 0 := ⟨rfl, h, rfl, rfl⟩
theorem dg_part {s p x x' : List Int} {h : St} {r : Nat} (d : Dg s h x r) (hl : r + p.length < 64) (hx : x'.length = 64) (hx' : x'.take (r + p.length) = x.take r ++ p) : Dg (s ++ p) h x' (r + p.length) := by
  obtain ⟨rfl, hx0, rfl, ht⟩ := d
  have e : (s ++ p).length / 64 = s.length / 64 := by rw [List.length_append]; omega
  refine ⟨?_, hx, by rw [List.length_append]; omega, ?_⟩
  · rw [e, cs_left (by omega)]
  · rw [e, hx', ht, List.drop_append_of_le_length (by omega)]
theorem dg_fill {s p x x' : List Int} {h : St} {r : Nat} (d : Dg s h x r) (hr : r < 64) (hl : p.length = 64 - r) (hx : x'.length = 64) : Dg (s ++ p) (comp h (x.take r ++ p)) x' 0 := by
  obtain ⟨rfl, hx0, hr', ht⟩ := d
  have e : (s ++ p).length = 64 * (s.length / 64 + 1) := by rw [List.length_append, hl]; omega
  have e2 : (s ++ p).length / 64 = s.length / 64 + 1 := by omega
  refine ⟨?_, hx, by omega, ?_⟩
  · rw [e2, cs, cs_left (by omega)]
    congr 1
    unfold blk
    rw [List.drop_append_of_le_length (by omega), ← ht]
    exact (List.take_of_length_le (by rw [List.length_append, List.length_take]; omega)).symm
  · rw [e2, List.take_zero, ← e, List.drop_length]
theorem dg_blocks {s p x : List Int} {h : St} {j : Nat} (d : Dg s h x 0) (hj : p.length = 64 * j) : Dg (s ++ p) (cs h p j) x 0 := by
  obtain ⟨rfl, hx0, hr', ht⟩ := d
  have e0 : s.length = 64 * (s.length / 64) := by omega
  have e : (s ++ p).length = 64 * (s.length / 64 + j) := by rw [List.length_append, hj]; omega
  have e2 : (s ++ p).length / 64 = s.length / 64 + j := by omega
  refine ⟨?_, hx0, by omega, ?_⟩
  · rw [e2, ← cs_add, cs_left (by omega), ← e0, List.drop_left]
  · rw [e2, List.take_zero, ← e, List.drop_length]
/-- The buffer's cells when n bytes are put in from the r-th on. -/
def fill (x p : List Int) (r : Nat) : List Int := x.take r ++ p ++ x.drop (r + p.length)
theorem fill_length {x p : List Int} {r : Nat} (hx : x.length = 64) (h : r + p.length ≤ 64) : (fill x p r).length = 64 := by
  unfold fill; simp only [List.length_append, List.length_take, List.length_drop]; omega
theorem fill_take {x p : List Int} {r : Nat} (hx : x.length = 64) (h : r + p.length ≤ 64) : (fill x p r).take (r + p.length) = x.take r ++ p := by
  unfold fill; rw [List.take_append_of_le_length (by simp only [List.length_append, List.length_take]; omega), List.take_of_length_le (by simp only [List.length_append, List.length_take]; omega)]
theorem pad_whole (n : Nat) : (n + (zs n + 9)) % 64 = 0 := by have := zs_mod n; omega
theorem sha_dg {l x : List Int} {h : St} {nx : Nat} (d : Dg (l ++ pad l.length) h x nx) : nx = 0 ∧ sha l = out32 h := by
  obtain ⟨rfl, _, rfl, _⟩ := d
  have e : (l ++ pad l.length).length = l.length + (zs l.length + 9) := by rw [List.length_append, pad_length]
  refine ⟨by rw [e]; exact pad_whole _, ?_⟩
  unfold sha
  rw [e]
end Go.Sha
