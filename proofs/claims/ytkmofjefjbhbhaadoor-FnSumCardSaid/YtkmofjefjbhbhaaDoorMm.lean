/- Memory of several blocks of cells that a function writes or makes: what was elsewhere is as it was. -/
import Derived.Test.YtkmofjefjbhbhaaDoorKitS
import Derived.Test.YtkmofjefjbhbhaaDoorSl
namespace Go.Sl
open Go.RowKit Go.FourQ
/-- A block's cells. -/
def Bl (w : World) (b : Nat) (L : List Value) : Prop := ∃ T, w.heap[b]? = some (.cells L.toArray T (0, 0))
section
variable {w w' wr : World} {b c i j : Nat} {L M : List Value} {v : Value} {T : TypeId} {s : List (Nat × List Value)}
theorem Bl.lt (h : Bl w b L) : b < w.heap.size := by obtain ⟨T, h⟩ := h; exact lt_of_heap h
theorem Bl.of_heap (h : Bl w b L) (e : w'.heap[b]? = w.heap[b]?) : Bl w' b L := by obtain ⟨T, h⟩ := h; exact ⟨T, e.trans h⟩
theorem Bl.nb (h : Bl w b L) (v : Below w.heap.size w w') : Bl w' b L := h.of_heap (v.block b h.lt)
theorem Bl.cell (h : Bl w b L) (hj : L[j]? = some v) : w.cell? ⟨b, j, none⟩ = some v := by
  obtain ⟨T, h⟩ := h
  rw [cell_of_row w b j _ T (0, 0) h]
  simpa using hj
theorem Bl.free (h : Bl w b L) : w.frozen? ⟨b, j, none⟩ = false := by obtain ⟨T, h⟩ := h; exact frozen_of_row w b j _ T h
theorem Bl.put (h : Bl w b L) : Bl (w.setCell ⟨b, j, none⟩ v) b (L.set j v) := by
  obtain ⟨T, h⟩ := h
  exact ⟨T, by rw [heap_setCell_same w b j _ T _ h, List.setIfInBounds_toArray]⟩
theorem Bl.row (h : Bl w b L) : Bl (w.setRow b M.toArray) b M := by
  obtain ⟨T, h⟩ := h
  exact ⟨T, setRow_heap _ _ _ _ _ _ h⟩
theorem Bl.new (hb : b = w.heap.size) {A : Array Value} (hc : A = L.toArray) : Bl (w.alloc (.cells A T)) b L := by subst hb hc; exact ⟨T, heap_alloc_new _ _⟩
theorem Bl.drew (h : Bl w b L) : Bl w.drew b L := h
/-- wr is w, but that these blocks hold these cells; there may be new blocks. -/
structure Mm (w : World) (s : List (Nat × List Value)) (wr : World) : Prop where
  os : wr.os = w.os
  tape : wr.tape = w.tape
  output : wr.output = w.output
  size : w.heap.size ≤ wr.heap.size
  blk : ∀ (i b : Nat) (L : List Value), s[i]? = some (b, L) → Bl wr b L
  ne : ∀ (i j b c : Nat) (L M : List Value), s[i]? = some (b, L) → s[j]? = some (c, M) → i ≠ j → b ≠ c
  other : ∀ k, k < w.heap.size → (∀ p ∈ s, p.1 ≠ k) → wr.heap[k]? = w.heap[k]?
theorem Mm.zero (w : World) : Mm w [] w := ⟨rfl, rfl, rfl, Nat.le_refl _, fun i c M hi => by simp at hi, fun i j c d M N hi => by simp at hi, fun _ _ _ => rfl⟩
theorem Mm.one (h : Bl w b L) : Mm w [(b, L)] w where
  os := rfl
  tape := rfl
  output := rfl
  size := Nat.le_refl _
  blk := fun i c M hi => by
    rcases i with _ | i
    · obtain ⟨rfl, rfl⟩ : b = c ∧ L = M := by simpa using hi
      exact h
    · simp at hi
  ne := fun i j c d M N hi hj hij => by
    rcases i with _ | i
    · rcases j with _ | j
      · exact absurd rfl hij
      · simp at hj
    · simp at hi
  other := fun _ _ _ => rfl
theorem Mm.at (h : Mm w s wr) (i : Nat) {b : Nat} {L : List Value} (hi : s[i]? = some (b, L)) : Bl wr b L := h.blk i b L hi
/-- A block is written. -/
theorem Mm.upd (h : Mm w s wr) (hi : s[i]? = some (b, L)) (u : Mm wr [(b, M)] w') : Mm w (s.set i (b, M)) w' where
  os := u.os.trans h.os
  tape := u.tape.trans h.tape
  output := u.output.trans h.output
  size := Nat.le_trans h.size u.size
  blk := fun j c N hj => by
    have hl := (List.getElem?_eq_some_iff.1 hi).1
    by_cases hji : j = i
    · subst hji
      rw [List.getElem?_set_self hl] at hj
      obtain ⟨rfl, rfl⟩ : b = c ∧ M = N := by simpa using hj
      exact u.blk 0 b M rfl
    · rw [List.getElem?_set_ne (Ne.symm hji)] at hj
      have hb := h.blk j c N hj
      have hne := h.ne j i c b N L hj hi hji
      exact hb.of_heap (u.other c hb.lt fun p hp => by obtain rfl := List.mem_singleton.1 hp; exact Ne.symm hne)
  ne := fun j k c d N O hj hk hjk => by
    have key : ∀ (m e : Nat) (Q : List Value), (s.set i (b, M))[m]? = some (e, Q) → ∃ Q', s[m]? = some (e, Q') := fun m e Q hm => by
      have hl := (List.getElem?_eq_some_iff.1 hi).1
      by_cases hmi : m = i
      · subst hmi
        rw [List.getElem?_set_self hl] at hm
        obtain ⟨rfl, rfl⟩ : b = e ∧ M = Q := by simpa using hm
        exact ⟨L, hi⟩
      · rw [List.getElem?_set_ne (Ne.symm hmi)] at hm
        exact ⟨Q, hm⟩
    obtain ⟨N', hj'⟩ := key j c N hj
    obtain ⟨O', hk'⟩ := key k d O hk
    exact h.ne j k c d N' O' hj' hk' hjk
  other := fun k hk hp => by
    have hl := (List.getElem?_eq_some_iff.1 hi).1
    have hkb : k ≠ b := fun e => hp (b, M) (List.mem_of_getElem? (List.getElem?_set_self hl)) e.symm
    refine (u.other k (Nat.lt_of_lt_of_le hk h.size) fun p hm => by obtain rfl := List.mem_singleton.1 hm; exact Ne.symm hkb).trans (h.other k hk fun p hm => ?_)
    obtain ⟨m, hm'⟩ := List.getElem?_of_mem hm
    by_cases hmi : m = i
    · subst hmi
      obtain rfl : (b, L) = p := Option.some.inj (hi.symm.trans hm')
      exact Ne.symm hkb
    · exact hp p (List.mem_of_getElem? (by rw [List.getElem?_set_ne (Ne.symm hmi)]; exact hm'))
theorem Bl.mm (h : Bl w' b M) (os : w'.os = w.os) (tape : w'.tape = w.tape) (output : w'.output = w.output) (size : w.heap.size ≤ w'.heap.size) (other : ∀ k, k ≠ b → w'.heap[k]? = w.heap[k]?) : Mm w [(b, M)] w' where
  os := os
  tape := tape
  output := output
  size := size
  blk := (Mm.one h).blk
  ne := (Mm.one h).ne
  other := fun k _ hp => other k fun e => hp (b, M) (List.mem_singleton.2 rfl) e.symm
/-- A cell is written. -/
theorem Mm.put (h : Mm w s wr) (i : Nat) (hi : s[i]? = some (b, L)) (j : Nat) (v : Value) : Mm w (s.set i (b, L.set j v)) (wr.setCell ⟨b, j, none⟩ v) :=
  h.upd hi ((h.blk i b L hi).put.mm rfl rfl rfl (by simp) fun k hk => heap_setCell_other wr ⟨b, j, none⟩ k v hk)
/-- A whole block is written. -/
theorem Mm.row (h : Mm w s wr) (i : Nat) (hi : s[i]? = some (b, L)) (M : List Value) : Mm w (s.set i (b, M)) (wr.setRow b M.toArray) :=
  h.upd hi ((h.blk i b L hi).row.mm rfl rfl rfl (by simp) fun k hk => setRow_other _ _ _ _ hk)
/-- New memory of others. -/
theorem Mm.go (h : Mm w s wr) (v : Below wr.heap.size wr w') : Mm w s w' where
  os := v.os.trans h.os
  tape := v.tape.trans h.tape
  output := v.output.trans h.output
  size := Nat.le_trans h.size v.size
  blk := fun j c N hj => (h.blk j c N hj).nb v
  ne := h.ne
  other := fun k hk hp => (v.block k (Nat.lt_of_lt_of_le hk h.size)).trans (h.other k hk hp)
theorem Mm.drew (h : Mm w s wr) : Mm w s wr.drew := h.go (Below.refl _ _).drew
/-- A new block. -/
theorem Mm.new (h : Mm w s wr) {A : Array Value} (hb : b = wr.heap.size) (hc : A = L.toArray) : Mm w (s ++ [(b, L)]) (wr.alloc (.cells A T)) where
  os := h.os
  tape := h.tape
  output := h.output
  size := Nat.le_trans h.size (by simp)
  blk := fun j d N hj => by
    rcases Nat.lt_or_ge j s.length with hl' | hl'
    · rw [List.getElem?_append_left hl'] at hj
      exact (h.blk j d N hj).nb ((Below.refl _ _).alloc (Nat.le_refl _) _)
    · rw [List.getElem?_append_right hl'] at hj
      obtain ⟨h0, rfl, rfl⟩ : j - s.length = 0 ∧ b = d ∧ L = N := by
        rcases Nat.eq_zero_or_pos (j - s.length) with h0 | h0
        · rw [h0] at hj; exact ⟨h0, by simpa using hj⟩
        · rw [List.getElem?_eq_none (by simp only [List.length_cons, List.length_nil]; omega)] at hj; cases hj
      exact Bl.new hb hc
  ne := fun j k d e N O hj hk hjk => by
    have old : ∀ (m f : Nat) (Q : List Value), m < s.length → (s ++ [(b, L)])[m]? = some (f, Q) → s[m]? = some (f, Q) ∧ f < wr.heap.size := fun m f Q hm hq => by
      rw [List.getElem?_append_left hm] at hq
      exact ⟨hq, (h.blk m f Q hq).lt⟩
    have new : ∀ (m f : Nat) (Q : List Value), ¬ m < s.length → (s ++ [(b, L)])[m]? = some (f, Q) → m = s.length ∧ f = wr.heap.size := fun m f Q hm hq => by
      rw [List.getElem?_append_right (by omega)] at hq
      rcases Nat.eq_zero_or_pos (m - s.length) with h0 | h0
      · rw [h0] at hq
        obtain ⟨rfl, rfl⟩ : b = f ∧ L = Q := by simpa using hq
        exact ⟨by omega, hb⟩
      · rw [List.getElem?_eq_none (by simp only [List.length_cons, List.length_nil]; omega)] at hq; cases hq
    by_cases hj' : j < s.length
    · obtain ⟨qj, lj⟩ := old j d N hj' hj
      by_cases hk' : k < s.length
      · exact h.ne j k d e N O qj (old k e O hk' hk).1 hjk
      · have := (new k e O hk' hk).2; omega
    · have nj := new j d N hj' hj
      by_cases hk' : k < s.length
      · have := (old k e O hk' hk).2; omega
      · have := (new k e O hk' hk).1; omega
  other := fun k hk hp => (Below.heap_alloc _ _ _ (Nat.lt_of_lt_of_le hk h.size)).trans (h.other k hk fun p hm => hp p (List.mem_append_left _ hm))
/-- None of the blocks is of before. -/
theorem Mm.below (h : Mm w s wr) (hs : ∀ p ∈ s, w.heap.size ≤ p.1) : Below w.heap.size w wr :=
  ⟨h.os, h.tape, h.output, h.size, fun k hk => h.other k hk fun p hp e => by have := hs p hp; omega⟩
/-- The first block alone is of before. -/
theorem Mm.end1 {t : List (Nat × List Value)} (h : Mm w ((b, L) :: t) wr) (ht : ∀ p ∈ t, w.heap.size ≤ p.1) : Mm w [(b, L)] wr where
  os := h.os
  tape := h.tape
  output := h.output
  size := h.size
  blk := fun i c M hi => by
    rcases i with _ | i
    · obtain ⟨rfl, rfl⟩ : b = c ∧ L = M := by simpa using hi
      exact h.blk 0 b L rfl
    · simp at hi
  ne := (Mm.one (h.blk 0 b L rfl)).ne
  other := fun k hk hb => h.other k hk fun p hp => by
    rcases List.mem_cons.1 hp with rfl | hp
    · exact hb _ (List.mem_singleton.2 rfl)
    · have := ht p hp; omega
/-- A slice that lies in none of the blocks. -/
theorem Rd.mm {k : IntKind} {l : List Int} (h : Rd w k v l) (g : Mm w s wr) (hs : ∀ p ∈ s, v.ownBlock ≠ some p.1) : Rd wr k v l :=
  h.of_block fun a ha hv => g.other a ha fun p hp e => hs p hp (by rw [hv, e])
theorem bs0 {p : (Nat × List Value) → Prop} : ∀ q ∈ ([] : List (Nat × List Value)), p q := fun _ h => by simp at h
theorem bsC {p : (Nat × List Value) → Prop} {q : Nat × List Value} {t : List (Nat × List Value)} (h : p q) (r : ∀ q ∈ t, p q) : ∀ x ∈ q :: t, p x := fun x hx => by
  rcases List.mem_cons.1 hx with rfl | hx
  · exact h
  · exact r x hx
/-- A part of a block that holds numbers, as a slice. -/
theorem Bl.rd {k : IntKind} {l : List Int} {o n c : Nat} (h : Bl w b L) (hn : n = l.length) (hc : n ≤ c) (hl : ∀ j x, l[j]? = some x → L[o + j]? = some (.int k x)) : Rd w k (.slice (some ⟨b, o, none⟩) n c) l := by
  subst hn
  refine ⟨_, c, rfl, hc, (fun h => by cases h), fun ad had j x hj => ?_⟩
  obtain rfl := Option.some.inj had
  rw [addr_add]
  exact h.cell (hl j x hj)
end
end Go.Sl
