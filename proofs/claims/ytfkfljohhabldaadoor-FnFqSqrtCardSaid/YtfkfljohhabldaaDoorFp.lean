/- The field's functions over pointers: sums, differences, products, squares, halves, opposites, and what is below the prime. Elements below 2^127. -/
import Derived.Test.YtfkfljohhabldaaDoorGenAdd
import Derived.Test.YtfkfljohhabldaaDoorGenMul
import Derived.Test.YtfkfljohhabldaaDoorGenHlf
namespace Go.Proofs.YtfkfljohhabldaaDoor
open Go.RowKit Go.FourQ

/-- The package's variable modulusP holds the prime. -/
def ModW (w : World) : Prop := ∃ T fr, w.heap[4]? = some (.cells (fpC pp) T fr)

theorem ModW.lt {w : World} (h : ModW w) : 4 < w.heap.size := by
  obtain ⟨T, fr, hT⟩ := h
  rcases Nat.lt_or_ge 4 w.heap.size with h' | h'
  · exact h'
  · simp [Array.getElem?_eq_none h'] at hT

theorem ModW.of_heap {w w' : World} (h : ModW w) (e : w'.heap[4]? = w.heap[4]?) : ModW w' := by
  obtain ⟨T, fr, hT⟩ := h
  exact ⟨T, fr, e.trans hT⟩

theorem ModW.nb {w w' : World} (h : ModW w) (v : Below w.heap.size w w') : ModW w' := h.of_heap (v.block _ h.lt)
theorem ModW.alloc {w : World} (h : ModW w) (o : Obj) : ModW (w.alloc o) := h.of_heap (Below.heap_alloc _ _ _ h.lt)
theorem ModW.upd {w w' : World} {b : Nat} {l : List Nat} (h : ModW w) (u : Upd w w' b l) (hb : 4 < b) : ModW w' := h.of_heap (u.other _ h.lt (Nat.ne_of_lt hb))

section
variable {w : World} {b1 b2 b3 o1 o2 o3 k1 k2 k3 : Nat} {l1 l2 l3 : List Nat} {x y : Nat}

set_option maxRecDepth 100000 in
theorem fpAdd (h1 : Fps w b1 l1) (h2 : Fps w b2 l2) (h3 : Fps w b3 l3)
    (e1 : o1 = 16 * k1) (e2 : o2 = 16 * k2) (e3 : o3 = 16 * k3) (i1 : k1 < l1.length) (i2 : l2[k2]? = some x) (i3 : l3[k3]? = some y) (hx : LowB x) (hy : LowB y) :
    Calls Tryd.prog 103 #[.pointer (some ⟨b1, o1, none⟩), .pointer (some ⟨b2, o2, none⟩), .pointer (some ⟨b3, o3, none⟩)] w fun e w' => e = .returned (.tuple #[]) ∧ Upd w w' b1 (l1.set k1 (addN x y)) := by
  have C := fpAddG h1 h2 h3 e1 e2 e3 i1 i2 i3 hx hy
  have HC := Lib.hid C
  clear C h1 h2 h3 e1 e2 e3 i1 i2 i3 hx hy
  go_enter Tryd.func103, Tryd.ntmps103
  go_wp2_with fail
  refine HC.out.mono ?_
  rintro e w' ⟨rfl, u⟩
  go_wp2_with fail
  go_end0
  exact ⟨rfl, u⟩

set_option maxRecDepth 100000 in
theorem fpSub (h1 : Fps w b1 l1) (h2 : Fps w b2 l2) (h3 : Fps w b3 l3)
    (e1 : o1 = 16 * k1) (e2 : o2 = 16 * k2) (e3 : o3 = 16 * k3) (i1 : k1 < l1.length) (i2 : l2[k2]? = some x) (i3 : l3[k3]? = some y) (hx : LowB x) (hy : LowB y) :
    Calls Tryd.prog 105 #[.pointer (some ⟨b1, o1, none⟩), .pointer (some ⟨b2, o2, none⟩), .pointer (some ⟨b3, o3, none⟩)] w fun e w' => e = .returned (.tuple #[]) ∧ Upd w w' b1 (l1.set k1 (subN x y)) := by
  have C := fpSubG h1 h2 h3 e1 e2 e3 i1 i2 i3 hx hy
  have HC := Lib.hid C
  clear C h1 h2 h3 e1 e2 e3 i1 i2 i3 hx hy
  go_enter Tryd.func105, Tryd.ntmps105
  go_wp2_with fail
  refine HC.out.mono ?_
  rintro e w' ⟨rfl, u⟩
  go_wp2_with fail
  go_end0
  exact ⟨rfl, u⟩

set_option maxRecDepth 100000 in
theorem fpMul (h1 : Fps w b1 l1) (h2 : Fps w b2 l2) (h3 : Fps w b3 l3)
    (e1 : o1 = 16 * k1) (e2 : o2 = 16 * k2) (e3 : o3 = 16 * k3) (i1 : k1 < l1.length) (i2 : l2[k2]? = some x) (i3 : l3[k3]? = some y) (hx : LowB x) (hy : LowB y) :
    Calls Tryd.prog 102 #[.pointer (some ⟨b1, o1, none⟩), .pointer (some ⟨b2, o2, none⟩), .pointer (some ⟨b3, o3, none⟩)] w fun e w' => e = .returned (.tuple #[]) ∧ Upd w w' b1 (l1.set k1 (mulN x y)) := by
  have C := fpMulG h1 h2 h3 e1 e2 e3 i1 i2 i3 hx hy
  have HC := Lib.hid C
  clear C h1 h2 h3 e1 e2 e3 i1 i2 i3 hx hy
  go_enter Tryd.func102, Tryd.ntmps102
  go_wp2_with fail
  refine HC.out.mono ?_
  rintro e w' ⟨rfl, u⟩
  go_wp2_with fail
  go_end0
  exact ⟨rfl, u⟩

set_option maxRecDepth 100000 in
theorem fpSqrG (h1 : Fps w b1 l1) (h2 : Fps w b2 l2)
    (e1 : o1 = 16 * k1) (e2 : o2 = 16 * k2) (i1 : k1 < l1.length) (i2 : l2[k2]? = some x) (hx : LowB x) :
    Calls Tryd.prog 129 #[.pointer (some ⟨b1, o1, none⟩), .pointer (some ⟨b2, o2, none⟩)] w fun e w' => e = .returned (.tuple #[]) ∧ Upd w w' b1 (l1.set k1 (mulN x x)) := by
  have C := fpMulG h1 h2 h2 e1 e2 e2 i1 i2 i2 hx hx
  have HC := Lib.hid C
  clear C h1 h2 e1 e2 i1 i2 hx
  go_enter Tryd.func129, Tryd.ntmps129
  go_wp2_with fail
  refine HC.out.mono ?_
  rintro e w' ⟨rfl, u⟩
  go_wp2_with fail
  go_end0
  exact ⟨rfl, u⟩

set_option maxRecDepth 100000 in
theorem fpSqr (h1 : Fps w b1 l1) (h2 : Fps w b2 l2)
    (e1 : o1 = 16 * k1) (e2 : o2 = 16 * k2) (i1 : k1 < l1.length) (i2 : l2[k2]? = some x) (hx : LowB x) :
    Calls Tryd.prog 104 #[.pointer (some ⟨b1, o1, none⟩), .pointer (some ⟨b2, o2, none⟩)] w fun e w' => e = .returned (.tuple #[]) ∧ Upd w w' b1 (l1.set k1 (mulN x x)) := by
  have C := fpSqrG h1 h2 e1 e2 i1 i2 hx
  have HC := Lib.hid C
  clear C h1 h2 e1 e2 i1 i2 hx
  go_enter Tryd.func104, Tryd.ntmps104
  go_wp2_with fail
  refine HC.out.mono ?_
  rintro e w' ⟨rfl, u⟩
  go_wp2_with fail
  go_end0
  exact ⟨rfl, u⟩

set_option maxRecDepth 100000 in
theorem fpHlf (h1 : Fps w b1 l1) (h2 : Fps w b2 l2)
    (e1 : o1 = 16 * k1) (e2 : o2 = 16 * k2) (i1 : k1 < l1.length) (i2 : l2[k2]? = some x) (hx : LowB x) :
    Calls Tryd.prog 109 #[.pointer (some ⟨b1, o1, none⟩), .pointer (some ⟨b2, o2, none⟩)] w fun e w' => e = .returned (.tuple #[]) ∧ Upd w w' b1 (l1.set k1 (hlfN x)) := by
  have C := fpHlfG h1 h2 e1 e2 i1 i2 hx
  have HC := Lib.hid C
  clear C h1 h2 e1 e2 i1 i2 hx
  go_enter Tryd.func109, Tryd.ntmps109
  go_wp2_with fail
  refine HC.out.mono ?_
  rintro e w' ⟨rfl, u⟩
  go_wp2_with fail
  go_end0
  exact ⟨rfl, u⟩

set_option maxRecDepth 100000 in
set_option maxHeartbeats 400000 in
theorem fpModG (hm : ModW w) (h1 : Fps w b1 l1) (e1 : o1 = 16 * k1) (i1 : l1[k1]? = some x) (hx : LowB x) :
    Calls Tryd.prog 124 #[.pointer (some ⟨b1, o1, none⟩)] w fun e w' => e = .returned (.tuple #[]) ∧ Upd w w' b1 (l1.set k1 (x % pp)) := by
  obtain ⟨T, fr, hT⟩ := hm
  have HT := Lib.hid hT
  have E1 := Lib.hid e1; have I1 := Lib.hid i1; have HX := Lib.hid hx
  clear e1 i1 hx hT
  go_enter Tryd.func124, Tryd.ntmps124
  go_wp2_with (first | (refine wpList_load_row rfl 73 _ rfl 4 rfl T _ fr _ HT.out Tryd.underlying73 rfl (by kernel_rfl) ?_) | (refine wpList_store_row rfl 73 _ _ rfl _ (fpC pp) rfl rfl _ _ (heap_alloc_new _ _) (by kernel_rfl) rfl (all_fpC _) ?_; rw [setRow_alloc_new]) | fail)
  have n := Fps.new w [pp] (fpC pp) 73 _ rfl (fps_one pp).symm
  refine (fpSubG (h1.alloc _) (h1.alloc _) n E1.out E1.out (k3 := 0) rfl (List.getElem?_eq_some_iff.1 I1.out).1 I1.out rfl HX.out low_pp).mono ?_
  rintro e w' ⟨rfl, u⟩
  go_wp2_with fail
  go_end0
  rw [subN_pp HX.out] at u
  exact ⟨rfl, Upd.ahead ((Below.refl _ _).alloc (Nat.le_refl _) _) u⟩
end
end Go.Proofs.YtfkfljohhabldaaDoor
