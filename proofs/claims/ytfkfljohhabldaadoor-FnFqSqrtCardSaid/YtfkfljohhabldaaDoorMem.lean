/- Memory that holds elements of 16 bytes: what is read of it, and how it is written. No condition. -/
import Derived.WalkKit
import Derived.WalkSpells
import Derived.WalkLawsBesides
import Derived.Lib.Hide
import Derived.Lib.Endian
import Derived.Lib.EndianBits
import Derived.Lib.EndianMore
import Derived.Test.YtfkfljohhabldaaDoorArith
namespace Go.FourQ
open Go.RowKit

/-- Byte i of a number. -/
def byteV (x i : Nat) : Value := .int .u8 ((x / 256 ^ i % 256 : Nat) : Int)

/-- The sixteen cells of an element. -/
def fpC (x : Nat) : Array Value := #[byteV x 0, byteV x 1, byteV x 2, byteV x 3, byteV x 4, byteV x 5, byteV x 6, byteV x 7, byteV x 8, byteV x 9, byteV x 10, byteV x 11, byteV x 12, byteV x 13, byteV x 14, byteV x 15]

theorem size_fpC (x : Nat) : (fpC x).size = 16 := rfl

theorem fpC_get (x i : Nat) (h : i < 16) : (fpC x)[i]? = some (byteV x i) := by
  rcases (by omega : i = 0 ∨ i = 1 ∨ i = 2 ∨ i = 3 ∨ i = 4 ∨ i = 5 ∨ i = 6 ∨ i = 7 ∨ i = 8 ∨ i = 9 ∨ i = 10 ∨ i = 11 ∨ i = 12 ∨ i = 13 ∨ i = 14 ∨ i = 15) with
    rfl | rfl | rfl | rfl | rfl | rfl | rfl | rfl | rfl | rfl | rfl | rfl | rfl | rfl | rfl | rfl <;> rfl

/-- The cells of some elements, one behind the other. -/
def fps : List Nat → Array Value
  | [] => #[]
  | x :: l => fpC x ++ fps l

theorem size_fps (l : List Nat) : (fps l).size = 16 * l.length := by
  induction l with
  | nil => rfl
  | cons x l ih => simp [fps, size_fpC, ih]; omega

theorem fps_one (x : Nat) : fps [x] = fpC x := by simp [fps]

theorem fps_get : ∀ (l : List Nat) (k x i : Nat), l[k]? = some x → i < 16 → (fps l)[16 * k + i]? = some (byteV x i)
  | [], k, x, i, h, _ => by simp at h
  | y :: l, 0, x, i, h, hi => by
    obtain rfl : y = x := by simpa using h
    rw [fps, Array.getElem?_append_left (by rw [size_fpC]; omega)]
    rw [Nat.mul_zero, Nat.zero_add]
    exact fpC_get y i hi
  | y :: l, k + 1, x, i, h, hi => by
    rw [fps, Array.getElem?_append_right (by rw [size_fpC]; omega), size_fpC]
    have e : 16 * (k + 1) + i - 16 = 16 * k + i := by omega
    rw [e]
    exact fps_get l k x i (by simpa using h) hi

/-- Block b holds these elements and nothing else. -/
def Fps (w : World) (b : Nat) (l : List Nat) : Prop := ∃ T, w.heap[b]? = some (.cells (fps l) T (0, 0))

/-- w' is w, but that block b holds other elements; there may be new blocks. -/
structure Upd (w w' : World) (b : Nat) (l : List Nat) : Prop where
  os : w'.os = w.os
  tape : w'.tape = w.tape
  output : w'.output = w.output
  size : w.heap.size ≤ w'.heap.size
  blk : Fps w' b l
  other : ∀ k, k < w.heap.size → k ≠ b → w'.heap[k]? = w.heap[k]?

theorem Fps.lt {w : World} {c : Nat} {m : List Nat} (h : Fps w c m) : c < w.heap.size := by
  obtain ⟨T, hT⟩ := h
  rcases Nat.lt_or_ge c w.heap.size with h' | h'
  · exact h'
  · simp [Array.getElem?_eq_none h'] at hT

theorem Fps.of_heap {w w' : World} {c : Nat} {m : List Nat} (h : Fps w c m) (e : w'.heap[c]? = w.heap[c]?) : Fps w' c m := by
  obtain ⟨T, hT⟩ := h
  exact ⟨T, e.trans hT⟩

theorem Fps.inj {w : World} {c : Nat} {l m : List Nat} (h : Fps w c l) (g : Fps w c m) : fps l = fps m := by
  obtain ⟨T, hT⟩ := h
  obtain ⟨T', hT'⟩ := g
  rw [hT] at hT'
  simp at hT'
  exact hT'.1

theorem Upd.keep {w w' : World} {b c : Nat} {l m : List Nat} (u : Upd w w' b l) (h : Fps w c m) (hc : c ≠ b) : Fps w' c m :=
  h.of_heap (u.other c h.lt hc)

theorem Upd.below {B : Nat} {w w' : World} {b : Nat} {l : List Nat} (u : Upd w w' b l) (hb : B ≤ b) (hB : B ≤ w.heap.size) : Below B w w' :=
  ⟨u.os, u.tape, u.output, u.size, fun k hk => u.other k (by omega) (by omega)⟩

theorem Upd.trans {w w' w'' : World} {b : Nat} {l m : List Nat} (u : Upd w w' b l) (v : Upd w' w'' b m) : Upd w w'' b m :=
  ⟨v.os.trans u.os, v.tape.trans u.tape, v.output.trans u.output, Nat.le_trans u.size v.size, v.blk,
    fun k hk hb => (v.other k (Nat.lt_of_lt_of_le hk u.size) hb).trans (u.other k hk hb)⟩

/-- New blocks (or draws) ahead of a writing, or behind it. -/
theorem Upd.after {w w' w'' : World} {b : Nat} {l : List Nat} (u : Upd w w' b l) (v : Below w'.heap.size w' w'') : Upd w w'' b l :=
  ⟨v.os.trans u.os, v.tape.trans u.tape, v.output.trans u.output, Nat.le_trans u.size v.size, u.blk.of_heap (v.block b u.blk.lt),
    fun k hk hb => (v.block k (Nat.lt_of_lt_of_le hk u.size)).trans (u.other k hk hb)⟩

theorem Upd.ahead {w w' w'' : World} {b : Nat} {l : List Nat} (v : Below w.heap.size w w') (u : Upd w' w'' b l) : Upd w w'' b l :=
  ⟨u.os.trans v.os, u.tape.trans v.tape, u.output.trans v.output, Nat.le_trans v.size u.size, u.blk,
    fun k hk hb => (u.other k (Nat.lt_of_lt_of_le hk v.size) hb).trans (v.block k hk)⟩

theorem Upd.same {w w' : World} {b : Nat} {l : List Nat} (h : Fps w b l) (v : Below w.heap.size w w') : Upd w w' b l :=
  ⟨v.os, v.tape, v.output, v.size, h.of_heap (v.block b h.lt), fun k hk _ => v.block k hk⟩

theorem nb_trans {a b c : World} (h : Below a.heap.size a b) (k : Below b.heap.size b c) : Below a.heap.size a c := h.trans (k.mono h.size)

theorem nb_drew {a b : World} (h : Below a.drew.heap.size a.drew b) : Below a.heap.size a b := ⟨h.os, h.tape, h.output, h.size, h.block⟩

theorem Upd.ofDrew {a b : World} {c : Nat} {l : List Nat} (h : Upd a.drew b c l) : Upd a b c l := ⟨h.os, h.tape, h.output, h.size, h.blk, h.other⟩

theorem Fps.below {B : Nat} {w w' : World} {c : Nat} {m : List Nat} (h : Fps w c m) (v : Below B w w') (hc : c < B) : Fps w' c m := h.of_heap (v.block c hc)

theorem Fps.drew {w : World} {c : Nat} {m : List Nat} (h : Fps w c m) : Fps w.drew c m := h

theorem Fps.alloc {w : World} {c : Nat} {m : List Nat} (h : Fps w c m) (o : Obj) : Fps (w.alloc o) c m :=
  h.of_heap (Below.heap_alloc _ _ _ h.lt)

/-- A new block that holds elements. -/
theorem Fps.new (w : World) (l : List Nat) (c : Array Value) (T : TypeId) (n : Nat) (hn : n = w.heap.size) (hc : c = fps l) : Fps (w.alloc (.cells c T)) n l := by
  subst hn hc
  exact ⟨T, heap_alloc_new _ _⟩

theorem Fps.cell {w : World} {b : Nat} {l : List Nat} (h : Fps w b l) {k x : Nat} (hk : l[k]? = some x) {o : Nat} (ho : o = 16 * k) (i : Nat) (hi : i < 16) :
    w.cell? ⟨b, o + i, none⟩ = some (byteV x i) := by
  obtain ⟨T, hT⟩ := h
  rw [cell_of_row w b (o + i) _ T (0, 0) hT, ho]
  exact fps_get l k x i hk hi

theorem Fps.cell_any {w : World} {b : Nat} {l : List Nat} (h : Fps w b l) {k : Nat} (hk : k < l.length) {o : Nat} (ho : o = 16 * k) (i : Nat) (hi : i < 16) :
    w.cell? ⟨b, o + i, none⟩ = some (byteV l[k] i) := h.cell (List.getElem?_eq_getElem hk) ho i hi

theorem Fps.free {w : World} {b : Nat} {l : List Nat} (h : Fps w b l) (o : Nat) : w.frozen? ⟨b, o, none⟩ = false := by
  obtain ⟨T, hT⟩ := h
  exact frozen_of_row w b o _ T hT

/-! ### Writing eight bytes -/

/-- Some cells of a row, one behind the other, written anew. -/
def setsA : Array Value → Nat → List Value → Array Value
  | c, _, [] => c
  | c, o, v :: vs => setsA (c.setIfInBounds o v) (o + 1) vs

theorem size_setsA : ∀ (vs : List Value) (c : Array Value) (o : Nat), (setsA c o vs).size = c.size
  | [], _, _ => rfl
  | v :: vs, c, o => by rw [setsA, size_setsA vs]; simp

theorem setsA_get : ∀ (vs : List Value) (c : Array Value) (o j : Nat), o + vs.length ≤ c.size →
    (setsA c o vs)[j]? = if o ≤ j ∧ j < o + vs.length then vs[j - o]? else c[j]?
  | [], c, o, j, _ => by rw [setsA, if_neg (by simp only [List.length_nil]; omega)]
  | v :: vs, c, o, j, h => by
    simp only [List.length_cons] at h ⊢
    rw [setsA, setsA_get vs _ _ _ (by simp; omega)]
    by_cases h1 : j = o
    · subst h1
      rw [if_neg (by omega), if_pos (by omega), Nat.sub_self, List.getElem?_cons_zero, Array.getElem?_setIfInBounds_self_of_lt (by omega)]
    · by_cases h2 : o + 1 ≤ j ∧ j < o + 1 + vs.length
      · rw [if_pos h2, if_pos (by omega)]
        have : j - o = (j - (o + 1)) + 1 := by omega
        rw [this, List.getElem?_cons_succ]
      · rw [if_neg h2, if_neg (by omega), Array.getElem?_setIfInBounds_ne (by omega)]

theorem setCells_row : ∀ (vs : List Value) (w : World) (b o : Nat) (c : Array Value) (T : TypeId), w.heap[b]? = some (.cells c T (0, 0)) →
    (w.setCells b o vs).heap[b]? = some (.cells (setsA c o vs) T (0, 0))
  | [], _, _, _, _, _, h => h
  | v :: vs, w, b, o, c, T, h => setCells_row vs _ b (o + 1) _ T (heap_setCell_same w b o c T v h)

theorem setCells_other : ∀ (vs : List Value) (w : World) (b o k : Nat), k ≠ b → (w.setCells b o vs).heap[k]? = w.heap[k]?
  | [], _, _, _, _, _ => rfl
  | v :: vs, w, b, o, k, h => (setCells_other vs _ b (o + 1) k h).trans (heap_setCell_other w ⟨b, o, none⟩ k v h)

theorem setCells_size : ∀ (vs : List Value) (w : World) (b o : Nat), (w.setCells b o vs).heap.size = w.heap.size
  | [], _, _, _ => rfl
  | v :: vs, w, b, o => (setCells_size vs _ b (o + 1)).trans (by simp)

theorem setCells_os : ∀ (vs : List Value) (w : World) (b o : Nat), (w.setCells b o vs).os = w.os ∧ (w.setCells b o vs).tape = w.tape ∧ (w.setCells b o vs).output = w.output
  | [], _, _, _ => ⟨rfl, rfl, rfl⟩
  | _ :: vs, _, b, o => setCells_os vs _ b (o + 1)

theorem fps_ext {l m : List Nat} (hl : l.length = m.length) (h : ∀ k x y : Nat, l[k]? = some x → m[k]? = some y → ∀ i, i < 16 → byteV x i = byteV y i) : fps l = fps m := by
  apply Array.ext_getElem?
  intro j
  rcases Nat.lt_or_ge j (16 * l.length) with hj | hj
  · have hk : j / 16 < l.length := by omega
    have e : j = 16 * (j / 16) + j % 16 := by omega
    have hi : j % 16 < 16 := Nat.mod_lt _ (by omega)
    have h1 : l[j / 16]? = some l[j / 16] := List.getElem?_eq_getElem hk
    have h2 : m[j / 16]? = some m[j / 16] := List.getElem?_eq_getElem (by omega)
    rw [e, fps_get l _ _ _ h1 hi, fps_get m _ _ _ h2 hi, h _ _ _ h1 h2 _ hi]
  · rw [Array.getElem?_eq_none (by rw [size_fps]; exact hj), Array.getElem?_eq_none (by rw [size_fps, ← hl]; exact hj)]

theorem bytes8 (v : Nat) : Lib.byteCells (Lib.leBytes 8 v) = [byteV v 0, byteV v 1, byteV v 2, byteV v 3, byteV v 4, byteV v 5, byteV v 6, byteV v 7] := by
  simp only [Lib.byteCells, Lib.leBytes, List.map, Lib.toUInt8_mod, byteV, Nat.div_div_eq_div_mul, Nat.reducePow, Nat.reduceMul, Nat.div_one]

theorem byteV_low (v q i : Nat) (hi : i < 8) : byteV (v + 18446744073709551616 * q) i = byteV v i := by
  unfold byteV
  congr 2
  rcases (by omega : i = 0 ∨ i = 1 ∨ i = 2 ∨ i = 3 ∨ i = 4 ∨ i = 5 ∨ i = 6 ∨ i = 7) with rfl | rfl | rfl | rfl | rfl | rfl | rfl | rfl <;>
    simp only [Nat.reducePow] <;> omega

theorem byteV_high (v q i : Nat) (hv : v < 18446744073709551616) (hi : i < 8) : byteV (v + 18446744073709551616 * q) (8 + i) = byteV q i := by
  unfold byteV
  congr 2
  rcases (by omega : i = 0 ∨ i = 1 ∨ i = 2 ∨ i = 3 ∨ i = 4 ∨ i = 5 ∨ i = 6 ∨ i = 7) with rfl | rfl | rfl | rfl | rfl | rfl | rfl | rfl <;>
    simp only [Nat.reducePow, Nat.reduceAdd] <;> omega

theorem words_eq (x : Nat) : x % 18446744073709551616 + 18446744073709551616 * (x / 18446744073709551616) = x := by omega

theorem list8 (v i : Nat) (h : i < 8) : [byteV v 0, byteV v 1, byteV v 2, byteV v 3, byteV v 4, byteV v 5, byteV v 6, byteV v 7][i]? = some (byteV v i) := by
  rcases (by omega : i = 0 ∨ i = 1 ∨ i = 2 ∨ i = 3 ∨ i = 4 ∨ i = 5 ∨ i = 6 ∨ i = 7) with rfl | rfl | rfl | rfl | rfl | rfl | rfl | rfl <;> rfl

/-- What stands in a list at a place that is written anew, and elsewhere. -/
theorem get_set {l : List Nat} {k z j : Nat} (hj : j < l.length) : (l.set k z)[j]? = some (if j = k then z else l[j]) := by
  by_cases h : j = k
  · subst h; rw [if_pos rfl, List.getElem?_set_self hj]
  · rw [if_neg h, List.getElem?_set_ne (fun e => h e.symm), List.getElem?_eq_getElem hj]

theorem sets_fps (l : List Nat) (k z o : Nat) (hk : k < l.length) (vs : List Value) (s : Nat) (ho : o = 16 * k + s) (hs : s + vs.length ≤ 16)
    (hin : ∀ i, s ≤ i → i < s + vs.length → vs[i - s]? = some (byteV z i)) (hout : ∀ i, i < 16 → ¬ (s ≤ i ∧ i < s + vs.length) → byteV l[k] i = byteV z i) :
    setsA (fps l) o vs = fps (l.set k z) := by
  apply Array.ext_getElem?
  intro j
  rw [setsA_get _ _ _ _ (by rw [size_fps]; omega)]
  rcases Nat.lt_or_ge j (16 * l.length) with hj | hj
  · have hq : j / 16 < l.length := by omega
    have e : j = 16 * (j / 16) + j % 16 := by omega
    have hi : j % 16 < 16 := Nat.mod_lt _ (by omega)
    have h2 := get_set (z := z) (k := k) hq
    have r2 : (fps (l.set k z))[j]? = some (byteV (if j / 16 = k then z else l[j / 16]) (j % 16)) := by
      conv => lhs; rw [e]
      exact fps_get _ _ _ _ h2 hi
    have r1 : (fps l)[j]? = some (byteV l[j / 16] (j % 16)) := by
      conv => lhs; rw [e]
      exact fps_get _ _ _ _ (List.getElem?_eq_getElem hq) hi
    rw [r2, r1]
    by_cases hjk : j / 16 = k
    · subst hjk
      rw [if_pos rfl]
      by_cases hin' : o ≤ j ∧ j < o + vs.length
      · rw [if_pos hin']
        have := hin (j % 16) (by omega) (by omega)
        rw [← this]
        congr 1
        omega
      · rw [if_neg hin']
        congr 1
        exact hout _ hi (by omega)
    · rw [if_neg (by omega), if_neg hjk]
  · rw [if_neg (by omega), Array.getElem?_eq_none (by rw [size_fps]; exact hj), Array.getElem?_eq_none (by rw [size_fps, List.length_set]; exact hj)]

theorem upd_setCells {w : World} {b : Nat} {l : List Nat} (h : Fps w b l) {k z o s : Nat} (vs : List Value) (hk : k < l.length) (ho : o = 16 * k + s) (hs : s + vs.length ≤ 16)
    (hin : ∀ i, s ≤ i → i < s + vs.length → vs[i - s]? = some (byteV z i)) (hout : ∀ i, i < 16 → ¬ (s ≤ i ∧ i < s + vs.length) → byteV l[k] i = byteV z i) :
    Upd w (w.setCells b o vs) b (l.set k z) := by
  obtain ⟨T, hT⟩ := h
  obtain ⟨e1, e2, e3⟩ := setCells_os vs w b o
  refine ⟨e1, e2, e3, by rw [setCells_size]; exact Nat.le_refl _, ⟨T, ?_⟩, fun j _ hj => setCells_other vs w b o j hj⟩
  rw [setCells_row vs w b o _ T hT, sets_fps l k z o hk vs s ho hs hin hout]

theorem byteV_word1 (x i : Nat) (hi : i < 8) : byteV x (8 + i) = byteV (x / 18446744073709551616) i := by
  conv => lhs; rw [← words_eq x]
  exact byteV_high _ _ _ (Nat.mod_lt _ (by decide)) hi

theorem byteV_word0 (x i : Nat) (hi : i < 8) : byteV x i = byteV (x % 18446744073709551616) i := by
  conv => lhs; rw [← words_eq x]
  exact byteV_low _ _ _ hi

/-- The lower word of an element is written. -/
theorem upd_low {w : World} {b : Nat} {l : List Nat} (h : Fps w b l) {k o v x : Nat} (hk : l[k]? = some x) (ho : o = 16 * k) (hv : v < 18446744073709551616) :
    Upd w (w.setCells b o (Lib.byteCells (Lib.leBytes 8 v))) b (l.set k (v + 18446744073709551616 * (x / 18446744073709551616))) := by
  obtain ⟨hk', hx⟩ := List.getElem?_eq_some_iff.1 hk
  rw [bytes8]
  refine upd_setCells h (s := 0) _ hk' (by omega) (by simp) (fun i _ hi => ?_) (fun i hi hn => ?_)
  · simp at hi
    rw [byteV_low v _ i hi, Nat.sub_zero]
    exact list8 v i hi
  · simp at hn
    obtain ⟨i', rfl⟩ : ∃ i', i = 8 + i' := ⟨i - 8, by omega⟩
    rw [hx, byteV_high _ _ _ hv (by omega), byteV_word1 _ _ (by omega)]

/-- The higher word of an element is written. -/
theorem upd_high {w : World} {b : Nat} {l : List Nat} (h : Fps w b l) {k o v x : Nat} (hk : l[k]? = some x) (ho : o = 16 * k + 8) (_hv : v < 18446744073709551616) :
    Upd w (w.setCells b o (Lib.byteCells (Lib.leBytes 8 v))) b (l.set k (x % 18446744073709551616 + 18446744073709551616 * v)) := by
  obtain ⟨hk', hx⟩ := List.getElem?_eq_some_iff.1 hk
  rw [bytes8]
  refine upd_setCells h (s := 8) _ hk' ho (by simp) (fun i h8 hi => ?_) (fun i hi hn => ?_)
  · simp at hi
    obtain ⟨i', rfl⟩ : ∃ i', i = 8 + i' := ⟨i - 8, by omega⟩
    rw [byteV_high _ _ _ (Nat.mod_lt _ (by decide)) (by omega), Nat.add_sub_cancel_left]
    exact list8 v i' (by omega)
  · simp at hn
    rw [hx, byteV_low _ _ _ (by omega), byteV_word0 _ _ (by omega)]

theorem setRow_alloc_new (w : World) (c d : Array Value) (T : TypeId) : (w.alloc (.cells c T)).setRow w.heap.size d = w.alloc (.cells d T) := by
  unfold World.setRow World.alloc
  congr 1
  apply Array.ext_getElem?
  intro k
  simp only [Array.getElem?_modify, Array.getElem?_push]
  by_cases hk : k = w.heap.size
  · subst hk; simp
  · rw [if_neg (fun e => hk e.symm), if_neg hk, if_neg hk]

theorem all_fpC (x : Nat) : (fpC x).all (·.oneCell') = true := by
  simp [fpC, byteV, Value.oneCell']

theorem word_join {v q z : Nat} (hv : v < 18446744073709551616) : (v + 18446744073709551616 * q) % 18446744073709551616 + 18446744073709551616 * z = v + 18446744073709551616 * z := by omega

end Go.FourQ
