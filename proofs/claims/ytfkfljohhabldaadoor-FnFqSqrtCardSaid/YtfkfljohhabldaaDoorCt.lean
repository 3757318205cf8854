/- crypto/subtle's ConstantTimeCopy on elements: taken over, or left. Two elements at different places. -/
import Derived.Test.YtfkfljohhabldaaDoorFqImpl
namespace Go.FourQ
open Go.RowKit

theorem fps_set_byte {l : List Nat} {k i x x' : Nat} (hk : l[k]? = some x) (hi : i < 16) (hx : ∀ j, j < 16 → j ≠ i → byteV x' j = byteV x j) : (fps l).setIfInBounds (16 * k + i) (byteV x' i) = fps (l.set k x') := by
  have hkl := (List.getElem?_eq_some_iff.1 hk).1
  refine Array.ext_getElem? fun p => ?_
  by_cases hp : p = 16 * k + i
  · subst hp
    rw [Array.getElem?_setIfInBounds_self_of_lt (by rw [size_fps]; omega), fps_get _ k x' i (List.getElem?_set_self hkl) hi]
  · rw [Array.getElem?_setIfInBounds_ne (Ne.symm hp)]
    rcases Nat.lt_or_ge p (16 * l.length) with hl | hl
    · have hq : p / 16 < l.length := by omega
      have e : p = 16 * (p / 16) + p % 16 := by omega
      have hr : p % 16 < 16 := by omega
      rw [e, fps_get l _ _ _ (List.getElem?_eq_getElem hq) hr]
      by_cases hpk : p / 16 = k
      · have hri : p % 16 ≠ i := by omega
        have hx0 : l[p / 16] = x := by
          have := List.getElem?_eq_getElem hq
          rw [show l[p / 16]? = some x by rw [hpk]; exact hk] at this
          exact (Option.some.inj this).symm
        rw [hx0, fps_get (l.set k x') _ x' _ (by rw [hpk]; exact List.getElem?_set_self hkl) hr, hx _ hr hri]
      · rw [fps_get (l.set k x') _ l[p / 16] _ (by rw [List.getElem?_set_ne (Ne.symm hpk)]; exact List.getElem?_eq_getElem hq) hr]
    · rw [Array.getElem?_eq_none (by rw [size_fps]; exact hl), Array.getElem?_eq_none (by rw [size_fps, List.length_set]; exact hl)]

/-- The first i bytes of y, the others of x. -/
def mixB (x y i : Nat) : Nat := y % 256 ^ i + 256 ^ i * (x / 256 ^ i)
theorem mix_byte (x y i j : Nat) : mixB x y i / 256 ^ j % 256 = if j < i then y / 256 ^ j % 256 else x / 256 ^ j % 256 := by
  unfold mixB
  by_cases h : j < i
  · rw [if_pos h]
    obtain ⟨d, rfl⟩ : ∃ d, i = j + (d + 1) := ⟨i - j - 1, by omega⟩
    rw [Nat.pow_add, Nat.mod_mul, Nat.mul_assoc, Nat.add_assoc, ← Nat.mul_add]
    rw [Nat.add_mul_div_left _ _ (Nat.pow_pos (by decide)), Nat.div_eq_of_lt (Nat.mod_lt _ (Nat.pow_pos (by decide))), Nat.zero_add, Nat.pow_succ', Nat.mod_mul, Nat.mul_assoc, Nat.add_assoc, ← Nat.mul_add, Nat.add_mul_mod_self_left, Nat.mod_mod]
  · rw [if_neg h]
    obtain ⟨d, rfl⟩ : ∃ d, j = i + d := ⟨j - i, by omega⟩
    rw [Nat.pow_add, ← Nat.div_div_eq_div_mul, ← Nat.div_div_eq_div_mul, Nat.add_mul_div_left _ _ (Nat.pow_pos (by decide)), Nat.div_eq_of_lt (Nat.mod_lt _ (Nat.pow_pos (by decide))), Nat.zero_add]
theorem mix_step {l : List Nat} {k x y i : Nat} (hk : k < l.length) (hi : i < 16) : (fps (l.set k (mixB x y i))).setIfInBounds (16 * k + i) (byteV y i) = fps (l.set k (mixB x y (i + 1))) := by
  have e := fps_set_byte (l := l.set k (mixB x y i)) (k := k) (i := i) (x := mixB x y i) (x' := mixB x y (i + 1)) (List.getElem?_set_self hk) hi (fun j hj hne => by
    unfold byteV
    rw [mix_byte, mix_byte]
    by_cases h : j < i
    · rw [if_pos h, if_pos (by omega)]
    · rw [if_neg h, if_neg (by omega)])
  have hb : byteV (mixB x y (i + 1)) i = byteV y i := by unfold byteV; rw [mix_byte, if_pos (Nat.lt_succ_self i)]
  rwa [hb, List.set_set] at e
theorem mix_zero (x y : Nat) : mixB x y 0 = x := by simp [mixB, Nat.mod_one]
theorem mix_full {x y : Nat} (hx : x < 256 ^ 16) (hy : y < 256 ^ 16) : mixB x y 16 = y := by
  unfold mixB
  rw [Nat.div_eq_of_lt hx, Nat.mod_eq_of_lt hy]; simp

theorem and255 : ∀ n : Nat, n < 256 → bits .and .u8 (n : Int) 255 = (n : Int) := by decide +kernel
theorem and0 : ∀ n : Nat, n < 256 → bits .and .u8 (n : Int) 0 = 0 := by decide +kernel
theorem or0l : ∀ n : Nat, n < 256 → bits .or .u8 0 (n : Int) = (n : Int) := by decide +kernel
theorem or0r : ∀ n : Nat, n < 256 → bits .or .u8 (n : Int) 0 = (n : Int) := by decide +kernel
end Go.FourQ
namespace Go.Proofs.YtfkfljohhabldaaDoor
open Go.RowKit Go.FourQ

theorem updPut {w wr : World} {b k : Nat} {l m : List Nat} {v : Value} (u : Upd w wr b l) (e : (fps l).setIfInBounds k v = fps m) : Upd w (wr.setCell ⟨b, k, none⟩ v).drew b m where
  os := u.os
  tape := u.tape
  output := u.output
  size := by have := u.size; simpa using this
  blk := setCell_fps u.blk e
  other := fun j hj hb => (heap_setCell_other wr ⟨b, k, none⟩ j v hb).trans (u.other j hj hb)

section
variable {w : World} {b1 b2 o1 o2 k1 k2 c1 c2 x y : Nat} {l1 l2 : List Nat}

set_option maxRecDepth 100000 in
set_option maxHeartbeats 2000000 in
theorem ctCopy1 (h1 : Fps w b1 l1) (h2 : Fps w b2 l2) (e1 : o1 = 16 * k1) (e2 : o2 = 16 * k2) (i1 : l1[k1]? = some x) (i2 : l2[k2]? = some y) (hx : x < 256 ^ 16) (hy : y < 256 ^ 16) (hne : b2 ≠ b1 ∨ k2 ≠ k1) :
    Calls Tryd.prog 131 #[.int .i64 1, .slice (some ⟨b1, o1, none⟩) 16 c1, .slice (some ⟨b2, o2, none⟩) 16 c2] w fun e w' => e = .returned (.tuple #[]) ∧ Upd w w' b1 (l1.set k1 y) := by
  have hk1 := (List.getElem?_eq_some_iff.1 i1).1
  have hyc : ∀ i, i < 16 → w.cell? ⟨b2, o2 + i, none⟩ = some (byteV y i) := fun i hi => h2.cell i2 e2 i hi
  have hst : ∀ i, i < 16 → (fps (l1.set k1 (mixB x y i))).setIfInBounds (o1 + i) (byteV y i) = fps (l1.set k1 (mixB x y (i + 1))) := fun i hi => by rw [e1]; exact mix_step hk1 hi
  have hxc : ∀ (i : Nat), i < 16 → (l1.set k1 (mixB x y i))[k1]? = some (mixB x y i) := fun i _ => List.getElem?_set_self hk1
  have hdis : ∀ i j, i < 16 → j < 16 → b2 ≠ b1 ∨ o2 + i ≠ o1 + j := fun i j hi hj => by rcases hne with h | h; exact .inl h; exact .inr (by omega)
  have hfull : l1.set k1 (mixB x y 16) = l1.set k1 y := by rw [mix_full hx hy]
  have hzero : l1.set k1 (mixB x y 0) = l1 := by
    rw [mix_zero]
    refine List.ext_getElem? fun i => ?_
    by_cases hi : i = k1
    · subst hi; rw [List.getElem?_set_self hk1, i1]
    · rw [List.getElem?_set_ne (Ne.symm hi)]
  have HYC := Lib.hid hyc; have HST := Lib.hid hst; have HXC := Lib.hid hxc; have HD := Lib.hid hdis; have HF := Lib.hid hfull; have HE1 := Lib.hid e1; have HZ := Lib.hid hzero
  have HLT := Lib.hid h2.lt; have HLT1 := Lib.hid h1.lt
  clear hyc hst hxc hdis hfull e1 e2 i1 i2 hx hy hne hk1 h2 hzero
  have hmask : bits .xor .i64 (-1) 0 = -1 := by rfl
  go_enter Tryd.func131, Tryd.ntmps131
  go_wp2_with fail
  go_loopw [8] (fun iv wr => ∃ i : Nat, i ≤ 16 ∧ iv = .int .i64 i ∧ Hid (Upd w wr b1 (l1.set k1 (mixB x y i))) ∧ Hid (∀ j, j < 16 → wr.cell? ⟨b2, o2 + j, none⟩ = some (byteV y j))) (fun i _ => 16 - (intOf i).toNat)
  case atStart => exact ⟨0, Nat.zero_le _, rfl, Lib.hid (Upd.same (HZ.out.symm ▸ h1) (Below.refl _ _)), Lib.hid HYC.out⟩
  case round =>
    obtain ⟨i, hi, rfl, hu, hyr⟩ := hrel
    by_cases hlt : i < 16
    · have hcx := hu.out.blk.cell (HXC.out i hlt) HE1.out i hlt
      have hcy := hyr.out i hlt
      have hfree := hu.out.blk.free (o1 + i)
      have hbx : mixB x y i / 256 ^ i % 256 < 256 := Nat.mod_lt _ (by decide)
      have hby : y / 256 ^ i % 256 < 256 := Nat.mod_lt _ (by decide)
      have hbyte : byteV y i = .int .u8 ((y / 256 ^ i % 256 : Nat) : Int) := rfl
      unfold byteV at hcx hcy
      generalize mixB x y i / 256 ^ i % 256 = u at hcx hbx
      generalize hyv : y / 256 ^ i % 256 = v at hcy hby hbyte
      have a1 := and0 u hbx
      have a2 := and255 v hby
      have a3 := or0l v hby
      have HBY := Lib.hid hbyte
      have hI : (i : Int) < 16 := by omega
      clear hyv hbyte
      go_wp2_with fail
      go_still_tail 16, (by kernel_rfl)
      change wpList _ _ _ _ _ wr.drew
      go_wp2_with fail
      refine ⟨⟨i + 1, by omega, by go_num, Lib.hid ?_, Lib.hid ?_⟩, by simp [intOf]; omega⟩
      · rw [← HBY.out]; exact updPut hu.out (HST.out i hlt)
      · intro j hj
        refine Eq.trans ?_ (hyr.out j hj)
        refine Eq.trans (b := (wr.setCell ⟨b1, o1 + i, none⟩ (.int .u8 (v : Int))).cell? ⟨b2, o2 + j, none⟩) rfl ?_
        have hne : (⟨b1, o1 + i, none⟩ : Addr) ≠ ⟨b2, o2 + j, none⟩ := by have := HD.out j i hj hlt; intro e; injection e with e1 e2; omega
        exact World.cell?_setCell_other _ _ _ _ hne
    · have hi16 : i = 16 := by omega
      have hfin : Upd w wr b1 (l1.set k1 y) := by have := hu.out; rwa [hi16, HF.out] at this
      have HFIN := Lib.hid hfin
      clear hfin hi16
      go_wp2_with fail
      go_end0
      exact ⟨rfl, HFIN.out⟩
set_option maxRecDepth 100000 in
set_option maxHeartbeats 2000000 in
theorem ctCopy0 (h1 : Fps w b1 l1) (h2 : Fps w b2 l2) (e1 : o1 = 16 * k1) (e2 : o2 = 16 * k2) (i1 : l1[k1]? = some x) (i2 : l2[k2]? = some y) (hne : b2 ≠ b1 ∨ k2 ≠ k1) :
    Calls Tryd.prog 131 #[.int .i64 0, .slice (some ⟨b1, o1, none⟩) 16 c1, .slice (some ⟨b2, o2, none⟩) 16 c2] w fun e w' => e = .returned (.tuple #[]) ∧ Upd w w' b1 l1 := by
  have hk1 := (List.getElem?_eq_some_iff.1 i1).1
  have hset : l1.set k1 x = l1 := by
    refine List.ext_getElem? fun i => ?_
    by_cases hi : i = k1
    · subst hi; rw [List.getElem?_set_self hk1, i1]
    · rw [List.getElem?_set_ne (Ne.symm hi)]
  have hyc : ∀ i, i < 16 → w.cell? ⟨b2, o2 + i, none⟩ = some (byteV y i) := fun i hi => h2.cell i2 e2 i hi
  have hst : ∀ i, i < 16 → (fps l1).setIfInBounds (o1 + i) (byteV x i) = fps l1 := fun i hi => by
    have := fps_set_byte (x' := x) i1 hi (fun _ _ _ => rfl)
    rw [e1, this, hset]
  have hxc : ∀ (i : Nat), i < 16 → l1[k1]? = some x := fun _ _ => i1
  have hdis : ∀ i j, i < 16 → j < 16 → b2 ≠ b1 ∨ o2 + i ≠ o1 + j := fun i j hi hj => by rcases hne with h | h; exact .inl h; exact .inr (by omega)
  have HYC := Lib.hid hyc; have HST := Lib.hid hst; have HXC := Lib.hid hxc; have HD := Lib.hid hdis; have HE1 := Lib.hid e1
  have HLT := Lib.hid h2.lt; have HLT1 := Lib.hid h1.lt
  clear hyc hst hxc hdis e1 e2 i1 i2 hne hk1 h2 hset
  have hmask : bits .xor .i64 (-1) (-1) = 0 := by rfl
  go_enter Tryd.func131, Tryd.ntmps131
  go_wp2_with fail
  go_loopw [8] (fun iv wr => ∃ i : Nat, i ≤ 16 ∧ iv = .int .i64 i ∧ Hid (Upd w wr b1 l1) ∧ Hid (∀ j, j < 16 → wr.cell? ⟨b2, o2 + j, none⟩ = some (byteV y j))) (fun i _ => 16 - (intOf i).toNat)
  case atStart => exact ⟨0, Nat.zero_le _, rfl, Lib.hid (Upd.same h1 (Below.refl _ _)), Lib.hid HYC.out⟩
  case round =>
    obtain ⟨i, hi, rfl, hu, hyr⟩ := hrel
    by_cases hlt : i < 16
    · have hcx := hu.out.blk.cell (HXC.out i hlt) HE1.out i hlt
      have hcy := hyr.out i hlt
      have hfree := hu.out.blk.free (o1 + i)
      have hbx : x / 256 ^ i % 256 < 256 := Nat.mod_lt _ (by decide)
      have hby : y / 256 ^ i % 256 < 256 := Nat.mod_lt _ (by decide)
      have hbyte : byteV x i = .int .u8 ((x / 256 ^ i % 256 : Nat) : Int) := rfl
      unfold byteV at hcx hcy
      generalize hxv : x / 256 ^ i % 256 = u at hcx hbx hbyte
      generalize hyv : y / 256 ^ i % 256 = v at hcy hby
      have a1 := and255 u hbx
      have a2 := and0 v hby
      have a3 := or0r u hbx
      have HBY := Lib.hid hbyte
      have hI : (i : Int) < 16 := by omega
      clear hyv hxv hbyte
      go_wp2_with fail
      go_still_tail 16, (by kernel_rfl)
      change wpList _ _ _ _ _ wr.drew
      go_wp2_with fail
      refine ⟨⟨i + 1, by omega, by go_num, Lib.hid ?_, Lib.hid ?_⟩, by simp [intOf]; omega⟩
      · rw [← HBY.out]; exact updPut hu.out (HST.out i hlt)
      · intro j hj
        refine Eq.trans ?_ (hyr.out j hj)
        refine Eq.trans (b := (wr.setCell ⟨b1, o1 + i, none⟩ (.int .u8 (u : Int))).cell? ⟨b2, o2 + j, none⟩) rfl ?_
        have hne : (⟨b1, o1 + i, none⟩ : Addr) ≠ ⟨b2, o2 + j, none⟩ := by have := HD.out j i hj hlt; intro e; injection e with e1 e2; omega
        exact World.cell?_setCell_other _ _ _ _ hne
    · have hi16 : i = 16 := by omega
      have hfin : Upd w wr b1 l1 := hu.out
      have HFIN := Lib.hid hfin
      clear hfin
      go_wp2_with fail
      go_end0
      exact ⟨rfl, HFIN.out⟩

theorem ctZ1 {L1 : List Zp} {y : Zp} (h1 : FpsZ w b1 L1) (h2 : At w b2 o2 y) (e1 : o1 = 16 * k1) (i1 : k1 < L1.length) (hne : b2 ≠ b1 ∨ o2 ≠ o1) :
    Calls Tryd.prog 106 #[.int .i64 1, .slice (some ⟨b1, o1, none⟩) 16 16, .slice (some ⟨b2, o2, none⟩) 16 16] w fun e w' => e = .returned (.tuple #[]) ∧ UpdZ w w' b1 (L1.set k1 y) := by
  obtain ⟨L2, k2, g2, e2, i2⟩ := h2
  obtain ⟨l1, f1, m1, n1⟩ := h1
  obtain ⟨l2, v, f2, m2, n2, g2, q2, r2⟩ := g2.get i2
  have i1' : k1 < l1.length := by rwa [← m1, List.length_map] at i1
  have C := Lib.hid (ctCopy1 (c1 := 16) (c2 := 16) f1 f2 e1 e2 (List.getElem?_eq_getElem i1') g2 (low16' (n1 _ (List.getElem_mem i1'))) (low16' r2) (hne.imp id (fun h e => h (by omega))))
  have D : ∀ w', Upd w w' b1 (l1.set k1 v) → UpdZ w w' b1 (L1.set k1 y) := fun w' u => UpdZ.of u m1 n1 r2 q2
  have HD := Lib.hid D
  clear D e1 e2 i1 i2 m1 n1 f1 f2 m2 n2 g2 q2 r2 hne
  go_enter Tryd.func106, Tryd.ntmps106
  go_wp2_with fail
  refine C.out.mono ?_
  rintro e w' ⟨rfl, u⟩
  have HU := Lib.hid (HD.out _ u)
  clear u
  go_wp2_with fail
  go_end0
  exact ⟨rfl, HU.out⟩

theorem ctZ0 {L1 : List Zp} {y : Zp} (h1 : FpsZ w b1 L1) (h2 : At w b2 o2 y) (e1 : o1 = 16 * k1) (i1 : k1 < L1.length) (hne : b2 ≠ b1 ∨ o2 ≠ o1) :
    Calls Tryd.prog 106 #[.int .i64 0, .slice (some ⟨b1, o1, none⟩) 16 16, .slice (some ⟨b2, o2, none⟩) 16 16] w fun e w' => e = .returned (.tuple #[]) ∧ UpdZ w w' b1 L1 := by
  obtain ⟨L2, k2, g2, e2, i2⟩ := h2
  obtain ⟨l1, f1, m1, n1⟩ := h1
  obtain ⟨l2, v, f2, m2, n2, g2, q2, r2⟩ := g2.get i2
  have i1' : k1 < l1.length := by rwa [← m1, List.length_map] at i1
  have C := Lib.hid (ctCopy0 (c1 := 16) (c2 := 16) f1 f2 e1 e2 (List.getElem?_eq_getElem i1') g2 (hne.imp id (fun h e => h (by omega))))
  have D : ∀ w', Upd w w' b1 l1 → UpdZ w w' b1 L1 := fun w' u => ⟨u.os, u.tape, u.output, u.size, ⟨l1, u.blk, m1, n1⟩, u.other⟩
  have HD := Lib.hid D
  clear D e1 e2 i1 i2 m1 n1 f1 f2 m2 n2 g2 q2 r2 hne
  go_enter Tryd.func106, Tryd.ntmps106
  go_wp2_with fail
  refine C.out.mono ?_
  rintro e w' ⟨rfl, u⟩
  have HU := Lib.hid (HD.out _ u)
  clear u
  go_wp2_with fail
  go_end0
  exact ⟨rfl, HU.out⟩
end
end Go.Proofs.YtfkfljohhabldaaDoor
