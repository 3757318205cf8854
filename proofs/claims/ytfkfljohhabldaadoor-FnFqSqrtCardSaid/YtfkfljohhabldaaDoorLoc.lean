/- New blocks of one element each, and what the field's functions do with them. No condition. -/
import Derived.Test.YtfkfljohhabldaaDoorElt
namespace Go.FourQ
open Go.RowKit

/-- At this place stands this element. -/
def At (w : World) (b o : Nat) (x : Zp) : Prop := ∃ L k, FpsZ w b L ∧ o = 16 * k ∧ L[k]? = some x

theorem FpsZ.atK {w : World} {b o k : Nat} {L : List Zp} {x : Zp} (h : FpsZ w b L) (ho : o = 16 * k) (hk : L[k]? = some x) : At w b o x := ⟨L, k, h, ho, hk⟩
theorem At.lt {w : World} {b o : Nat} {x : Zp} (h : At w b o x) : b < w.heap.size := by obtain ⟨L, k, h, _⟩ := h; exact h.lt
theorem At.below {w w' : World} {b o n : Nat} {x : Zp} (h : At w b o x) (v : Below n w w') (hb : b < n) : At w' b o x := by
  obtain ⟨L, k, h, r⟩ := h; exact ⟨L, k, h.of_heap (v.block _ hb), r⟩
theorem At.upd {w w' : World} {b c o : Nat} {x : Zp} {L : List Zp} (h : At w b o x) (u : UpdZ w w' c L) (hb : b ≠ c) : At w' b o x := by
  obtain ⟨M, k, h, r⟩ := h; exact ⟨M, k, u.keep h hb, r⟩

/-- From block n on, one element each; what was there is as it was. -/
structure Boxes (n : Nat) (w : World) (zs : List Zp) (wr : World) : Prop where
  nb : Below n w wr
  size : n ≤ wr.heap.size
  blk : ∀ i z, zs[i]? = some z → FpsZ wr (n + i) [z]

theorem Boxes.at {n : Nat} {w wr : World} {zs : List Zp} (h : Boxes n w zs wr) (i : Nat) {p : Nat} {z : Zp} (hp : p = n + i) (hi : zs[i]? = some z) : At wr p 0 z :=
  hp ▸ (h.blk i z hi).atK (k := 0) rfl rfl

theorem Boxes.upd {n : Nat} {w wr w' : World} {zs : List Zp} {i : Nat} {z y : Zp} (h : Boxes n w zs wr) (u : UpdZ wr w' (n + i) ([y].set 0 z)) : Boxes n w (zs.set i z) w' where
  nb := h.nb.trans (u.below (by omega) h.size)
  size := Nat.le_trans h.size u.size
  blk := fun j x hj => by
    by_cases hji : j = i
    · subst hji
      have hl : j < (zs.set j z).length := (List.getElem?_eq_some_iff.1 hj).1
      rw [List.length_set] at hl
      rw [List.getElem?_set_self hl] at hj
      obtain rfl : z = x := by simpa using hj
      exact u.blk
    · rw [List.getElem?_set_ne (Ne.symm hji)] at hj
      exact u.keep (h.blk j x hj) (by omega)

/-- Some element changed its bytes alone. -/
theorem Boxes.same {n : Nat} {w wr w' : World} {zs : List Zp} {i : Nat} {z : Zp} (h : Boxes n w zs wr) (hi : zs[i]? = some z) (u : UpdZ wr w' (n + i) [z]) : Boxes n w zs w' where
  nb := h.nb.trans (u.below (by omega) h.size)
  size := Nat.le_trans h.size u.size
  blk := fun j x hj => by
    by_cases hji : j = i
    · subst hji
      obtain rfl : z = x := Option.some.inj (hi.symm.trans hj)
      exact u.blk
    · exact u.keep (h.blk j x hj) (by omega)

theorem Boxes.go {n : Nat} {w wr w' : World} {zs : List Zp} (h : Boxes n w zs wr) (v : Below wr.heap.size wr w') : Boxes n w zs w' where
  nb := h.nb.trans (v.mono h.size)
  size := Nat.le_trans h.size v.size
  blk := fun j x hj => (h.blk j x hj).nb v

/-- One new block more. -/
theorem Boxes.new {n : Nat} {w wr : World} {zs : List Zp} (h : Boxes n w zs wr) (hn : wr.heap.size = n + zs.length) {T : TypeId} {c : Array Value} {x : Nat} {z : Zp} (hc : c = fps [x]) (hx : LowB x) (hz : zp x = z) : Boxes n w (zs ++ [z]) (wr.alloc (.cells c T)) where
  nb := h.nb.alloc h.size _
  size := by simp only [World.size_alloc]; exact Nat.le_succ_of_le h.size
  blk := fun j y hj => by
    rcases Nat.lt_or_ge j zs.length with hl | hl
    · rw [List.getElem?_append_left hl] at hj
      exact (h.blk j y hj).alloc _
    · rw [List.getElem?_append_right hl] at hj
      obtain ⟨hj0, rfl⟩ : j - zs.length = 0 ∧ z = y := by
        rcases Nat.eq_zero_or_pos (j - zs.length) with h0 | h0
        · rw [h0] at hj; exact ⟨h0, by simpa using hj⟩
        · rw [List.getElem?_eq_none (by simp only [List.length_cons, List.length_nil]; omega)] at hj; cases hj
      obtain rfl : j = zs.length := by omega
      have := FpsZ.ofFps (Fps.new wr [x] c T (n + zs.length) hn.symm hc) (fun v hv => by rw [show v = x by simpa using hv]; exact hx)
      rw [← hz]; exact this

theorem Boxes.start (w : World) : Boxes w.heap.size w [] w := ⟨Below.refl _ _, Nat.le_refl _, fun _ _ h => by simp at h⟩

end Go.FourQ

namespace Go.Proofs.YtfkfljohhabldaaDoor
open Go.RowKit Go.FourQ

section
variable {w wr : World} {n i p b1 b2 b3 o1 o2 o3 k1 : Nat} {L1 zs : List Zp} {x y z y0 : Zp}

theorem atMul (h1 : FpsZ w b1 L1) (h2 : At w b2 o2 x) (h3 : At w b3 o3 y) (e1 : o1 = 16 * k1) (i1 : k1 < L1.length) (hz : x * y = z) :
    Calls Tryd.prog 102 #[.pointer (some ⟨b1, o1, none⟩), .pointer (some ⟨b2, o2, none⟩), .pointer (some ⟨b3, o3, none⟩)] w fun e w' => e = .returned (.tuple #[]) ∧ UpdZ w w' b1 (L1.set k1 z) := by
  obtain ⟨L2, k2, f2, e2, g2⟩ := h2
  obtain ⟨L3, k3, f3, e3, g3⟩ := h3
  exact zMul h1 f2 f3 e1 e2 e3 i1 g2 g3 hz
theorem atAdd (h1 : FpsZ w b1 L1) (h2 : At w b2 o2 x) (h3 : At w b3 o3 y) (e1 : o1 = 16 * k1) (i1 : k1 < L1.length) (hz : x + y = z) :
    Calls Tryd.prog 103 #[.pointer (some ⟨b1, o1, none⟩), .pointer (some ⟨b2, o2, none⟩), .pointer (some ⟨b3, o3, none⟩)] w fun e w' => e = .returned (.tuple #[]) ∧ UpdZ w w' b1 (L1.set k1 z) := by
  obtain ⟨L2, k2, f2, e2, g2⟩ := h2
  obtain ⟨L3, k3, f3, e3, g3⟩ := h3
  exact zAdd h1 f2 f3 e1 e2 e3 i1 g2 g3 hz
theorem atSub (h1 : FpsZ w b1 L1) (h2 : At w b2 o2 x) (h3 : At w b3 o3 y) (e1 : o1 = 16 * k1) (i1 : k1 < L1.length) (hz : x - y = z) :
    Calls Tryd.prog 105 #[.pointer (some ⟨b1, o1, none⟩), .pointer (some ⟨b2, o2, none⟩), .pointer (some ⟨b3, o3, none⟩)] w fun e w' => e = .returned (.tuple #[]) ∧ UpdZ w w' b1 (L1.set k1 z) := by
  obtain ⟨L2, k2, f2, e2, g2⟩ := h2
  obtain ⟨L3, k3, f3, e3, g3⟩ := h3
  exact zSub h1 f2 f3 e1 e2 e3 i1 g2 g3 hz
theorem atSqr (h1 : FpsZ w b1 L1) (h2 : At w b2 o2 x) (e1 : o1 = 16 * k1) (i1 : k1 < L1.length) (hz : x * x = z) :
    Calls Tryd.prog 104 #[.pointer (some ⟨b1, o1, none⟩), .pointer (some ⟨b2, o2, none⟩)] w fun e w' => e = .returned (.tuple #[]) ∧ UpdZ w w' b1 (L1.set k1 z) := by
  obtain ⟨L2, k2, f2, e2, g2⟩ := h2
  exact zSqr h1 f2 e1 e2 i1 g2 hz
theorem atNeg (hm : ModW w) (h1 : FpsZ w b1 L1) (h2 : At w b2 o2 x) (e1 : o1 = 16 * k1) (i1 : k1 < L1.length) (hz : -x = z) :
    Calls Tryd.prog 93 #[.pointer (some ⟨b1, o1, none⟩), .pointer (some ⟨b2, o2, none⟩)] w fun e w' => e = .returned (.tuple #[]) ∧ UpdZ w w' b1 (L1.set k1 z) := by
  obtain ⟨L2, k2, f2, e2, g2⟩ := h2
  exact zNeg hm h1 f2 e1 e2 i1 g2 hz

theorem locMul (h : Boxes n w zs wr) (hp : p = n + i) (hi : zs[i]? = some y0) (h2 : At wr b2 o2 x) (h3 : At wr b3 o3 y) (hz : x * y = z) :
    Calls Tryd.prog 102 #[.pointer (some ⟨p, 0, none⟩), .pointer (some ⟨b2, o2, none⟩), .pointer (some ⟨b3, o3, none⟩)] wr fun e w' => e = .returned (.tuple #[]) ∧ Boxes n w (zs.set i z) w' := by
  subst hp
  exact (atMul (h.blk i y0 hi) h2 h3 (k1 := 0) rfl (by simp) hz).mono fun _ _ q => ⟨q.1, h.upd q.2⟩
theorem locAdd (h : Boxes n w zs wr) (hp : p = n + i) (hi : zs[i]? = some y0) (h2 : At wr b2 o2 x) (h3 : At wr b3 o3 y) (hz : x + y = z) :
    Calls Tryd.prog 103 #[.pointer (some ⟨p, 0, none⟩), .pointer (some ⟨b2, o2, none⟩), .pointer (some ⟨b3, o3, none⟩)] wr fun e w' => e = .returned (.tuple #[]) ∧ Boxes n w (zs.set i z) w' := by
  subst hp
  exact (atAdd (h.blk i y0 hi) h2 h3 (k1 := 0) rfl (by simp) hz).mono fun _ _ q => ⟨q.1, h.upd q.2⟩
theorem locSub (h : Boxes n w zs wr) (hp : p = n + i) (hi : zs[i]? = some y0) (h2 : At wr b2 o2 x) (h3 : At wr b3 o3 y) (hz : x - y = z) :
    Calls Tryd.prog 105 #[.pointer (some ⟨p, 0, none⟩), .pointer (some ⟨b2, o2, none⟩), .pointer (some ⟨b3, o3, none⟩)] wr fun e w' => e = .returned (.tuple #[]) ∧ Boxes n w (zs.set i z) w' := by
  subst hp
  exact (atSub (h.blk i y0 hi) h2 h3 (k1 := 0) rfl (by simp) hz).mono fun _ _ q => ⟨q.1, h.upd q.2⟩
theorem locSqr (h : Boxes n w zs wr) (hp : p = n + i) (hi : zs[i]? = some y0) (h2 : At wr b2 o2 x) (hz : x * x = z) :
    Calls Tryd.prog 104 #[.pointer (some ⟨p, 0, none⟩), .pointer (some ⟨b2, o2, none⟩)] wr fun e w' => e = .returned (.tuple #[]) ∧ Boxes n w (zs.set i z) w' := by
  subst hp
  exact (atSqr (h.blk i y0 hi) h2 (k1 := 0) rfl (by simp) hz).mono fun _ _ q => ⟨q.1, h.upd q.2⟩
theorem locNeg (hm : ModW wr) (h : Boxes n w zs wr) (hp : p = n + i) (hi : zs[i]? = some y0) (h2 : At wr b2 o2 x) (hz : -x = z) :
    Calls Tryd.prog 93 #[.pointer (some ⟨p, 0, none⟩), .pointer (some ⟨b2, o2, none⟩)] wr fun e w' => e = .returned (.tuple #[]) ∧ Boxes n w (zs.set i z) w' := by
  subst hp
  exact (atNeg hm (h.blk i y0 hi) h2 (k1 := 0) rfl (by simp) hz).mono fun _ _ q => ⟨q.1, h.upd q.2⟩
end
end Go.Proofs.YtfkfljohhabldaaDoor
