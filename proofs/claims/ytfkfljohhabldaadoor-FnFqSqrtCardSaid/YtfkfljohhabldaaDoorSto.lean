/- Memory of several blocks of elements that a function writes: what was elsewhere is as it was. No condition. -/
import Derived.Test.YtfkfljohhabldaaDoorFqT
namespace Go.FourQ
open Go.RowKit

/-- wr is w, but that these blocks hold these elements; there may be new blocks. -/
structure Sto (w : World) (s : List (Nat × List Zp)) (wr : World) : Prop where
  os : wr.os = w.os
  tape : wr.tape = w.tape
  output : wr.output = w.output
  size : w.heap.size ≤ wr.heap.size
  blk : ∀ (i b : Nat) (L : List Zp), s[i]? = some (b, L) → FpsZ wr b L
  ne : ∀ (i j b c : Nat) (L M : List Zp), s[i]? = some (b, L) → s[j]? = some (c, M) → i ≠ j → b ≠ c
  other : ∀ k, k < w.heap.size → (∀ p ∈ s, p.1 ≠ k) → wr.heap[k]? = w.heap[k]?

variable {w wr w' : World} {s : List (Nat × List Zp)} {i b : Nat} {L M : List Zp}

theorem Sto.one (h : FpsZ w b L) : Sto w [(b, L)] w where
  os := rfl
  tape := rfl
  output := rfl
  size := Nat.le_refl _
  blk := fun i c M hi => by
    rcases i with _ | i
    · obtain ⟨rfl, rfl⟩ : b = c ∧ L = M := by simpa using hi
      exact h
    · simp at hi
  ne := fun i j c d M N hi hj hij => by
    rcases i with _ | i
    · rcases j with _ | j
      · exact absurd rfl hij
      · simp at hj
    · simp at hi
  other := fun _ _ _ => rfl

theorem Sto.zero (w : World) : Sto w [] w where
  os := rfl
  tape := rfl
  output := rfl
  size := Nat.le_refl _
  blk := fun i c M hi => by simp at hi
  ne := fun i j c d M N hi => by simp at hi
  other := fun _ _ _ => rfl

theorem Sto.at (h : Sto w s wr) (i k : Nat) {o : Nat} {x : Zp} (hi : s[i]? = some (b, L)) (hk : L[k]? = some x) (ho : o = 16 * k) : At wr b o x := (h.blk i b L hi).atK ho hk

/-- A block is written. -/
theorem Sto.upd (h : Sto w s wr) (hi : s[i]? = some (b, L)) (u : UpdZ wr w' b M) : Sto w (s.set i (b, M)) w' where
  os := u.os.trans h.os
  tape := u.tape.trans h.tape
  output := u.output.trans h.output
  size := Nat.le_trans h.size u.size
  blk := fun j c N hj => by
    have hl := (List.getElem?_eq_some_iff.1 hi).1
    by_cases hji : j = i
    · subst hji
      rw [List.getElem?_set_self hl] at hj
      obtain ⟨rfl, rfl⟩ : b = c ∧ M = N := by simpa using hj
      exact u.blk
    · rw [List.getElem?_set_ne (Ne.symm hji)] at hj
      exact u.keep (h.blk j c N hj) (h.ne j i c b N L hj hi hji)
  ne := fun j k c d N O hj hk hjk => by
    have key : ∀ (m e : Nat) (Q : List Zp), (s.set i (b, M))[m]? = some (e, Q) → ∃ Q', s[m]? = some (e, Q') := fun m e Q hm => by
      have hl := (List.getElem?_eq_some_iff.1 hi).1
      by_cases hmi : m = i
      · subst hmi
        rw [List.getElem?_set_self hl] at hm
        obtain ⟨rfl, rfl⟩ : b = e ∧ M = Q := by simpa using hm
        exact ⟨L, hi⟩
      · rw [List.getElem?_set_ne (Ne.symm hmi)] at hm
        exact ⟨Q, hm⟩
    obtain ⟨N', hj'⟩ := key j c N hj
    obtain ⟨O', hk'⟩ := key k d O hk
    exact h.ne j k c d N' O' hj' hk' hjk
  other := fun k hk hp => by
    have hl := (List.getElem?_eq_some_iff.1 hi).1
    have hkb : k ≠ b := fun e => hp (b, M) (List.mem_of_getElem? (List.getElem?_set_self hl)) e.symm
    refine (u.other k (Nat.lt_of_lt_of_le hk h.size) hkb).trans (h.other k hk fun p hm => ?_)
    obtain ⟨m, hm'⟩ := List.getElem?_of_mem hm
    by_cases hmi : m = i
    · subst hmi
      obtain rfl : (b, L) = p := Option.some.inj (hi.symm.trans hm')
      exact Ne.symm hkb
    · exact hp p (List.mem_of_getElem? (by rw [List.getElem?_set_ne (Ne.symm hmi)]; exact hm'))

/-- New memory of others. -/
theorem Sto.go (h : Sto w s wr) (v : Below wr.heap.size wr w') : Sto w s w' where
  os := v.os.trans h.os
  tape := v.tape.trans h.tape
  output := v.output.trans h.output
  size := Nat.le_trans h.size v.size
  blk := fun j c N hj => (h.blk j c N hj).nb v
  ne := h.ne
  other := fun k hk hp => (v.block k (Nat.lt_of_lt_of_le hk h.size)).trans (h.other k hk hp)

theorem Sto.drew (h : Sto w s wr) : Sto w s wr.drew := h.go (Below.refl _ _).drew

/-- A new block. -/
theorem Sto.new (h : Sto w s wr) {c : Array Value} {T : TypeId} {l : List Nat} (hb : b = wr.heap.size) (hc : c = fps l) (hl : ∀ v ∈ l, LowB v) (hL : l.map zp = L) : Sto w (s ++ [(b, L)]) (wr.alloc (.cells c T)) where
  os := h.os
  tape := h.tape
  output := h.output
  size := Nat.le_trans h.size (by simp)
  blk := fun j d N hj => by
    rcases Nat.lt_or_ge j s.length with hl' | hl'
    · rw [List.getElem?_append_left hl'] at hj
      exact (h.blk j d N hj).alloc _
    · rw [List.getElem?_append_right hl'] at hj
      obtain ⟨h0, rfl, rfl⟩ : j - s.length = 0 ∧ b = d ∧ L = N := by
        rcases Nat.eq_zero_or_pos (j - s.length) with h0 | h0
        · rw [h0] at hj; exact ⟨h0, by simpa using hj⟩
        · rw [List.getElem?_eq_none (by simp only [List.length_cons, List.length_nil]; omega)] at hj; cases hj
      rw [← hL]
      exact FpsZ.ofFps (Fps.new wr l c T b hb hc) hl
  ne := fun j k d e N O hj hk hjk => by
    have old : ∀ (m f : Nat) (Q : List Zp), m < s.length → (s ++ [(b, L)])[m]? = some (f, Q) → s[m]? = some (f, Q) ∧ f < wr.heap.size := fun m f Q hm hq => by
      rw [List.getElem?_append_left hm] at hq
      exact ⟨hq, (h.blk m f Q hq).lt⟩
    have new : ∀ (m f : Nat) (Q : List Zp), ¬ m < s.length → (s ++ [(b, L)])[m]? = some (f, Q) → m = s.length ∧ f = wr.heap.size := fun m f Q hm hq => by
      rw [List.getElem?_append_right (by omega)] at hq
      rcases Nat.eq_zero_or_pos (m - s.length) with h0 | h0
      · rw [h0] at hq
        obtain ⟨rfl, rfl⟩ : b = f ∧ L = Q := by simpa using hq
        exact ⟨by omega, hb⟩
      · rw [List.getElem?_eq_none (by simp only [List.length_cons, List.length_nil]; omega)] at hq; cases hq
    by_cases hj' : j < s.length
    · obtain ⟨qj, lj⟩ := old j d N hj' hj
      by_cases hk' : k < s.length
      · exact h.ne j k d e N O qj (old k e O hk' hk).1 hjk
      · have := (new k e O hk' hk).2; omega
    · have nj := new j d N hj' hj
      by_cases hk' : k < s.length
      · have := (old k e O hk' hk).2; omega
      · have := (new k e O hk' hk).1; omega
  other := fun k hk hp => (Below.heap_alloc _ _ _ (Nat.lt_of_lt_of_le hk h.size)).trans (h.other k hk fun p hm => hp p (List.mem_append_left _ hm))

/-- A place that nobody writes. -/
theorem At.sto {c o : Nat} {x : Zp} (h : At w c o x) (g : Sto w s wr) (hc : ∀ p ∈ s, p.1 ≠ c) : At wr c o x := by
  obtain ⟨N, k, f, r⟩ := h
  exact ⟨N, k, f.of_heap (g.other c f.lt hc), r⟩

/-- The first block alone is of before. -/
theorem Sto.end1 {t : List (Nat × List Zp)} (h : Sto w ((b, L) :: t) wr) (ht : ∀ p ∈ t, w.heap.size ≤ p.1) : UpdZ w wr b L :=
  ⟨h.os, h.tape, h.output, h.size, h.blk 0 b L rfl, fun k hk hb => h.other k hk fun p hp => by
    rcases List.mem_cons.1 hp with rfl | hp
    · exact Ne.symm hb
    · have := ht p hp; omega⟩

end Go.FourQ

namespace Go.Proofs.YtfkfljohhabldaaDoor
open Go.RowKit Go.FourQ

section
variable {w wr : World} {s : List (Nat × List Zp)} {i b1 b2 b3 o1 o2 o3 k1 : Nat} {L1 : List Zp} {x y z : Zp}

theorem stMul (h : Sto w s wr) (hi : s[i]? = some (b1, L1)) (e1 : o1 = 16 * k1) (i1 : k1 < L1.length) (h2 : At wr b2 o2 x) (h3 : At wr b3 o3 y) (hz : x * y = z) :
    Calls Tryd.prog 102 #[.pointer (some ⟨b1, o1, none⟩), .pointer (some ⟨b2, o2, none⟩), .pointer (some ⟨b3, o3, none⟩)] wr fun e w' => e = .returned (.tuple #[]) ∧ Sto w (s.set i (b1, L1.set k1 z)) w' :=
  (atMul (h.blk i b1 L1 hi) h2 h3 e1 i1 hz).mono fun _ _ q => ⟨q.1, h.upd hi q.2⟩

theorem stAdd (h : Sto w s wr) (hi : s[i]? = some (b1, L1)) (e1 : o1 = 16 * k1) (i1 : k1 < L1.length) (h2 : At wr b2 o2 x) (h3 : At wr b3 o3 y) (hz : x + y = z) :
    Calls Tryd.prog 103 #[.pointer (some ⟨b1, o1, none⟩), .pointer (some ⟨b2, o2, none⟩), .pointer (some ⟨b3, o3, none⟩)] wr fun e w' => e = .returned (.tuple #[]) ∧ Sto w (s.set i (b1, L1.set k1 z)) w' :=
  (atAdd (h.blk i b1 L1 hi) h2 h3 e1 i1 hz).mono fun _ _ q => ⟨q.1, h.upd hi q.2⟩

theorem stSub (h : Sto w s wr) (hi : s[i]? = some (b1, L1)) (e1 : o1 = 16 * k1) (i1 : k1 < L1.length) (h2 : At wr b2 o2 x) (h3 : At wr b3 o3 y) (hz : x - y = z) :
    Calls Tryd.prog 105 #[.pointer (some ⟨b1, o1, none⟩), .pointer (some ⟨b2, o2, none⟩), .pointer (some ⟨b3, o3, none⟩)] wr fun e w' => e = .returned (.tuple #[]) ∧ Sto w (s.set i (b1, L1.set k1 z)) w' :=
  (atSub (h.blk i b1 L1 hi) h2 h3 e1 i1 hz).mono fun _ _ q => ⟨q.1, h.upd hi q.2⟩

theorem stSqr (h : Sto w s wr) (hi : s[i]? = some (b1, L1)) (e1 : o1 = 16 * k1) (i1 : k1 < L1.length) (h2 : At wr b2 o2 x) (hz : x * x = z) :
    Calls Tryd.prog 104 #[.pointer (some ⟨b1, o1, none⟩), .pointer (some ⟨b2, o2, none⟩)] wr fun e w' => e = .returned (.tuple #[]) ∧ Sto w (s.set i (b1, L1.set k1 z)) w' :=
  (atSqr (h.blk i b1 L1 hi) h2 e1 i1 hz).mono fun _ _ q => ⟨q.1, h.upd hi q.2⟩

theorem stHlf (h : Sto w s wr) (hi : s[i]? = some (b1, L1)) (e1 : o1 = 16 * k1) (i1 : k1 < L1.length) (h2 : At wr b2 o2 x) (hz : x * half = z) :
    Calls Tryd.prog 109 #[.pointer (some ⟨b1, o1, none⟩), .pointer (some ⟨b2, o2, none⟩)] wr fun e w' => e = .returned (.tuple #[]) ∧ Sto w (s.set i (b1, L1.set k1 z)) w' := by
  obtain ⟨L2, k2, f2, e2, g2⟩ := h2
  exact (zHlf (h.blk i b1 L1 hi) f2 e1 e2 i1 g2 hz).mono fun _ _ q => ⟨q.1, h.upd hi q.2⟩

theorem stTwo (h : Sto w s wr) (hi : s[i]? = some (b1, L1)) (e1 : o1 = 16 * k1) (i1 : k1 < L1.length) (h2 : At wr b2 o2 x) (hz : x.pow 42535295865117307932921825928971026431 = z) :
    Calls Tryd.prog 108 #[.pointer (some ⟨b1, o1, none⟩), .pointer (some ⟨b2, o2, none⟩)] wr fun e w' => e = .returned (.tuple #[]) ∧ Sto w (s.set i (b1, L1.set k1 z)) w' :=
  (zTwo (h.blk i b1 L1 hi) h2 e1 i1).mono fun _ _ q => ⟨q.1, hz ▸ h.upd hi q.2⟩

theorem stZeroCT (hm : ModW wr) (h : Sto w s wr) (hi : s[i]? = some (b1, L1)) (e1 : o1 = 16 * k1) (i1 : L1[k1]? = some x) :
    Calls Tryd.prog 107 #[.pointer (some ⟨b1, o1, none⟩)] wr fun e w' => e = .returned (.int .i64 (isz x.val)) ∧ Sto w (s.set i (b1, L1)) w' :=
  (zIsZeroCT hm (h.blk i b1 L1 hi) e1 i1).mono fun _ _ q => ⟨q.1, h.upd hi q.2⟩

end
end Go.Proofs.YtfkfljohhabldaaDoor
