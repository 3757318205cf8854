/- The sign of an element. -/
import Derived.Test.YtfkfljohhabldaaDoorFp2
namespace Go.Proofs.YtfkfljohhabldaaDoor
open Go.RowKit Go.FourQ

/-- A sign: 1, 0 or -1. -/
def Sg (s : Int) : Prop := s = 1 ∨ s = 0 ∨ s = -1

set_option maxHeartbeats 2000000 in
theorem ctSelect {v x y : Int} (hv : v = 1 ∨ v = 0) (hx : Sg x) (hy : Sg y) (w : World) :
    Calls Tryd.prog 114 #[.int .i64 v, .int .i64 x, .int .i64 y] w fun e w' => e = .returned (.int .i64 (if v = 1 then x else y)) ∧ w = w' := by
  have c1 := boolU8 true
  have c2 := boolU8 false
  simp only [if_true, Bool.false_eq_true, if_false] at c1 c2
  rcases hv with rfl | rfl
  · rw [if_pos rfl]
    rcases hx with rfl | rfl | rfl <;> rcases hy with rfl | rfl | rfl <;>
    · go_enter Tryd.func114, Tryd.ntmps114
      go_wp2
      go_ret
      exact ⟨rfl, rfl⟩
  · rw [if_neg (by decide)]
    rcases hx with rfl | rfl | rfl <;> rcases hy with rfl | rfl | rfl <;>
    · go_enter Tryd.func114, Tryd.ntmps114
      go_wp2
      go_ret
      exact ⟨rfl, rfl⟩

theorem natDiv_lit {t u : Nat} (h : t / 64 = u) : (t : Int) / 64 = (u : Int) := by omega

/-- The sign of a number below the prime: by its highest bit. -/
def sgnN (z : Nat) : Int := if z = 0 then 0 else 1 - 2 * ((z / 85070591730234615865843651857942052864 % 2 : Nat) : Int)

theorem sgnN_sg (z : Nat) : Sg (sgnN z) := by
  unfold Sg sgnN
  split <;> omega

section
variable {w : World} {b1 o1 k1 : Nat} {l1 : List Nat} {x : Nat}

set_option maxRecDepth 100000 in
set_option maxHeartbeats 1000000 in
theorem fpSgn (hm : ModW w) (h1 : Fps w b1 l1) (e1 : o1 = 16 * k1) (i1 : l1[k1]? = some x) (hx : LowB x) :
    Calls Tryd.prog 113 #[.pointer (some ⟨b1, o1, none⟩)] w fun e w' => e = .returned (.int .i64 (sgnN (x % pp))) ∧ Upd w w' b1 (l1.set k1 (x % pp)) := by
  have HC := Lib.hid (isZeroCT hm h1 e1 i1 hx)
  have E1 := Lib.hid e1; have I1 := Lib.hid (List.getElem?_eq_some_iff.1 i1).1
  clear hm h1 e1 i1 hx
  generalize x % pp = z at *
  obtain ⟨t, ht, htb⟩ : ∃ t, z / 256 ^ 15 % 256 = t ∧ t < 256 := ⟨_, rfl, Nat.mod_lt _ (by decide)⟩
  have hbit : t / 64 % 2 = z / 85070591730234615865843651857942052864 % 2 := by rw [← ht]; simp only [Nat.reducePow]; omega
  obtain ⟨u, hu⟩ : ∃ u, t / 64 = u := ⟨_, rfl⟩
  rw [hu] at hbit
  by_cases h0 : z = 0
  · have hs : sgnN z = 0 := if_pos h0
    rw [isz_pos h0] at HC
    rw [hs]
    have ht0 : t = 0 := by rw [← ht, h0, Nat.zero_div, Nat.zero_mod]
    subst ht0
    have HT := Lib.hid ht
    clear hs ht hbit hu htb h0
    have hA : bits .and .i64 0 1 = 0 := by rfl
    go_enter Tryd.func113, Tryd.ntmps113
    go_wp2_with fail
    refine HC.out.mono ?_
    rintro e w' ⟨rfl, uu⟩
    have hcell : w'.cell? ⟨b1, o1 + 15, none⟩ = some (.int .u8 0) := by rw [uu.blk.cell (List.getElem?_set_self I1.out) E1.out 15 (by decide), byteV, HT.out]; rfl
    have HU := Lib.hid uu
    clear uu
    go_wp2_with fail
    refine (ctSelect (.inr rfl) (.inl rfl) (.inr (.inl rfl)) _).mono ?_
    rintro e w2 ⟨rfl, rfl⟩
    go_wp2_with fail
    go_ret
    exact ⟨rfl, HU.out⟩
  · have hs : sgnN z = 1 - 2 * ((u % 2 : Nat) : Int) := by rw [hbit]; exact if_neg h0
    rw [isz_neg h0] at HC
    rw [hs]
    have HT := Lib.hid ht
    clear hs ht hbit h0
    rcases (by omega : u = 0 ∨ u = 1 ∨ u = 2 ∨ u = 3) with rfl | rfl | rfl | rfl
    all_goals
      have hA : bits .and .i64 0 1 = 0 := by rfl
      have hA1 : bits .and .i64 1 1 = 1 := by rfl
      have hA2 : bits .and .i64 2 1 = 0 := by rfl
      have hA3 : bits .and .i64 3 1 = 1 := by rfl
      have hu' := natDiv_lit hu
      clear hu
      simp only [Nat.reduceMod, Int.cast_ofNat_Int] at hu' ⊢
      go_enter Tryd.func113, Tryd.ntmps113
      go_wp2_with fail
      refine HC.out.mono ?_
      rintro e w' ⟨rfl, uu⟩
      have hcell : w'.cell? ⟨b1, o1 + 15, none⟩ = some (.int .u8 (t : Int)) := by rw [uu.blk.cell (List.getElem?_set_self I1.out) E1.out 15 (by decide), byteV, HT.out]
      have HU := Lib.hid uu
      clear uu
      go_wp2_with fail
      refine (ctSelect (.inl rfl) (by unfold Sg; decide) (.inr (.inl rfl)) _).mono ?_
      rintro e w2 ⟨rfl, rfl⟩
      go_wp2_with fail
      go_ret
      exact ⟨rfl, HU.out⟩

end
end Go.Proofs.YtfkfljohhabldaaDoor
