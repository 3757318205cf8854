/- Memory that holds elements of the field, each as any 16 bytes below 2^127 that stand for it; what the field's functions do with it. modulusP holds the prime. -/
import Derived.Test.YtfkfljohhabldaaDoorZp
import Derived.Test.YtfkfljohhabldaaDoorFp3
import Derived.Test.YtfkfljohhabldaaDoorLawKit2
namespace Go.FourQ
open Go.RowKit

/-- Block b holds these elements and nothing else. -/
def FpsZ (w : World) (b : Nat) (L : List Zp) : Prop := ∃ l, Fps w b l ∧ l.map zp = L ∧ ∀ v ∈ l, LowB v

/-- w' is w, but that block b holds other elements; there may be new blocks. -/
structure UpdZ (w w' : World) (b : Nat) (L : List Zp) : Prop where
  os : w'.os = w.os
  tape : w'.tape = w.tape
  output : w'.output = w.output
  size : w.heap.size ≤ w'.heap.size
  blk : FpsZ w' b L
  other : ∀ k, k < w.heap.size → k ≠ b → w'.heap[k]? = w.heap[k]?

theorem FpsZ.lt {w : World} {c : Nat} {m : List Zp} (h : FpsZ w c m) : c < w.heap.size := by
  obtain ⟨l, h, _⟩ := h; exact h.lt
theorem FpsZ.of_heap {w w' : World} {c : Nat} {m : List Zp} (h : FpsZ w c m) (e : w'.heap[c]? = w.heap[c]?) : FpsZ w' c m := by
  obtain ⟨l, h, r⟩ := h; exact ⟨l, h.of_heap e, r⟩
theorem FpsZ.alloc {w : World} {c : Nat} {m : List Zp} (h : FpsZ w c m) (o : Obj) : FpsZ (w.alloc o) c m := by
  obtain ⟨l, h, r⟩ := h; exact ⟨l, h.alloc o, r⟩
theorem FpsZ.nb {w w' : World} {c : Nat} {m : List Zp} (h : FpsZ w c m) (v : Below w.heap.size w w') : FpsZ w' c m := h.of_heap (v.block c h.lt)
theorem UpdZ.keep {w w' : World} {b c : Nat} {l m : List Zp} (u : UpdZ w w' b l) (h : FpsZ w c m) (hc : c ≠ b) : FpsZ w' c m := h.of_heap (u.other c h.lt hc)
theorem UpdZ.below {B : Nat} {w w' : World} {b : Nat} {l : List Zp} (u : UpdZ w w' b l) (hb : B ≤ b) (hB : B ≤ w.heap.size) : Below B w w' :=
  ⟨u.os, u.tape, u.output, u.size, fun k hk => u.other k (by omega) (by omega)⟩
theorem UpdZ.trans {w w' w'' : World} {b : Nat} {l m : List Zp} (u : UpdZ w w' b l) (v : UpdZ w' w'' b m) : UpdZ w w'' b m :=
  ⟨v.os.trans u.os, v.tape.trans u.tape, v.output.trans u.output, Nat.le_trans u.size v.size, v.blk,
    fun k hk hb => (v.other k (Nat.lt_of_lt_of_le hk u.size) hb).trans (u.other k hk hb)⟩
theorem UpdZ.ahead {w w' w'' : World} {b : Nat} {l : List Zp} (v : Below w.heap.size w w') (u : UpdZ w' w'' b l) : UpdZ w w'' b l :=
  ⟨u.os.trans v.os, u.tape.trans v.tape, u.output.trans v.output, Nat.le_trans v.size u.size, u.blk,
    fun k hk hb => (u.other k (Nat.lt_of_lt_of_le hk v.size) hb).trans (v.block k hk)⟩
theorem UpdZ.after {w w' w'' : World} {b : Nat} {l : List Zp} (u : UpdZ w w' b l) (v : Below w'.heap.size w' w'') : UpdZ w w'' b l :=
  ⟨v.os.trans u.os, v.tape.trans u.tape, v.output.trans u.output, Nat.le_trans u.size v.size, u.blk.nb v,
    fun k hk hb => (v.block k (Nat.lt_of_lt_of_le hk u.size)).trans (u.other k hk hb)⟩
/-- Writings into new blocks ahead of a writing. -/
theorem UpdZ.aheadB {w w' w'' : World} {b : Nat} {l : List Zp} (v : Below w.heap.size w w') (u : UpdZ w' w'' b l) : UpdZ w w'' b l := UpdZ.ahead v u

theorem FpsZ.get {w : World} {b k : Nat} {L : List Zp} {x : Zp} (h : FpsZ w b L) (hk : L[k]? = some x) : ∃ l v, Fps w b l ∧ l.map zp = L ∧ (∀ v ∈ l, LowB v) ∧ l[k]? = some v ∧ zp v = x ∧ LowB v := by
  obtain ⟨l, h, e, hl⟩ := h
  subst e
  rw [List.getElem?_map] at hk
  obtain ⟨v, hv, rfl⟩ := Option.map_eq_some_iff.1 hk
  exact ⟨l, v, h, rfl, hl, hv, rfl, hl v (List.mem_of_getElem? hv)⟩

theorem UpdZ.of {w w' : World} {b k v : Nat} {l : List Nat} {L : List Zp} {z : Zp} (u : Upd w w' b (l.set k v)) (e : l.map zp = L) (hl : ∀ v ∈ l, LowB v) (hv : LowB v) (hz : zp v = z) : UpdZ w w' b (L.set k z) :=
  ⟨u.os, u.tape, u.output, u.size, ⟨_, u.blk, by rw [List.map_set, e, hz], fun q hq => by
    rcases List.mem_or_eq_of_mem_set hq with h | h
    · exact hl q h
    · rw [h]; exact hv⟩, u.other⟩

theorem set_self {L : List Zp} {k : Nat} {x : Zp} (h : L[k]? = some x) : L.set k x = L := by
  refine List.ext_getElem? fun i => ?_
  by_cases hi : i = k
  · subst hi; rw [List.getElem?_set_self (List.getElem?_eq_some_iff.1 h).1, h]
  · rw [List.getElem?_set_ne (Ne.symm hi)]

/-- The same elements, some bytes made the least. -/
theorem UpdZ.ofMod {w w' : World} {b k v : Nat} {l : List Nat} {L : List Zp} (u : Upd w w' b (l.set k (v % pp))) (e : l.map zp = L) (hl : ∀ v ∈ l, LowB v) (hk : l[k]? = some v) : UpdZ w w' b L := by
  have := UpdZ.of u e hl (low_mod v) (zp_mod v)
  rwa [set_self (by rw [← e, List.getElem?_map, hk]; rfl)] at this

/-- A new block of elements. -/
theorem FpsZ.ofFps {w : World} {b : Nat} {l : List Nat} (h : Fps w b l) (hl : ∀ v ∈ l, LowB v) : FpsZ w b (l.map zp) := ⟨l, h, rfl, hl⟩
end Go.FourQ

namespace Go.Proofs.YtfkfljohhabldaaDoor
open Go.RowKit Go.FourQ

section
variable {w : World} {b1 b2 b3 o1 o2 o3 k1 k2 k3 : Nat} {L1 L2 L3 : List Zp} {x y z : Zp}

theorem zAdd (h1 : FpsZ w b1 L1) (h2 : FpsZ w b2 L2) (h3 : FpsZ w b3 L3) (e1 : o1 = 16 * k1) (e2 : o2 = 16 * k2) (e3 : o3 = 16 * k3) (i1 : k1 < L1.length) (i2 : L2[k2]? = some x) (i3 : L3[k3]? = some y) (hz : x + y = z) :
    Calls Tryd.prog 103 #[.pointer (some ⟨b1, o1, none⟩), .pointer (some ⟨b2, o2, none⟩), .pointer (some ⟨b3, o3, none⟩)] w fun e w' => e = .returned (.tuple #[]) ∧ UpdZ w w' b1 (L1.set k1 z) := by
  obtain ⟨l1, f1, m1, n1⟩ := h1
  obtain ⟨l2, u, f2, m2, n2, g2, q2, r2⟩ := h2.get i2
  obtain ⟨l3, v, f3, m3, n3, g3, q3, r3⟩ := h3.get i3
  have i1' : k1 < l1.length := by rwa [← m1, List.length_map] at i1
  exact (fpAdd f1 f2 f3 e1 e2 e3 i1' g2 g3 r2 r3).mono fun _ _ h => ⟨h.1, UpdZ.of h.2 m1 n1 (addN_low r2 r3) (by rw [zp_addN, q2, q3, hz])⟩

theorem zSub (h1 : FpsZ w b1 L1) (h2 : FpsZ w b2 L2) (h3 : FpsZ w b3 L3) (e1 : o1 = 16 * k1) (e2 : o2 = 16 * k2) (e3 : o3 = 16 * k3) (i1 : k1 < L1.length) (i2 : L2[k2]? = some x) (i3 : L3[k3]? = some y) (hz : x - y = z) :
    Calls Tryd.prog 105 #[.pointer (some ⟨b1, o1, none⟩), .pointer (some ⟨b2, o2, none⟩), .pointer (some ⟨b3, o3, none⟩)] w fun e w' => e = .returned (.tuple #[]) ∧ UpdZ w w' b1 (L1.set k1 z) := by
  obtain ⟨l1, f1, m1, n1⟩ := h1
  obtain ⟨l2, u, f2, m2, n2, g2, q2, r2⟩ := h2.get i2
  obtain ⟨l3, v, f3, m3, n3, g3, q3, r3⟩ := h3.get i3
  have i1' : k1 < l1.length := by rwa [← m1, List.length_map] at i1
  exact (fpSub f1 f2 f3 e1 e2 e3 i1' g2 g3 r2 r3).mono fun _ _ h => ⟨h.1, UpdZ.of h.2 m1 n1 (subN_low r2 r3) (by rw [zp_subN r3, q2, q3, hz])⟩

theorem zMul (h1 : FpsZ w b1 L1) (h2 : FpsZ w b2 L2) (h3 : FpsZ w b3 L3) (e1 : o1 = 16 * k1) (e2 : o2 = 16 * k2) (e3 : o3 = 16 * k3) (i1 : k1 < L1.length) (i2 : L2[k2]? = some x) (i3 : L3[k3]? = some y) (hz : x * y = z) :
    Calls Tryd.prog 102 #[.pointer (some ⟨b1, o1, none⟩), .pointer (some ⟨b2, o2, none⟩), .pointer (some ⟨b3, o3, none⟩)] w fun e w' => e = .returned (.tuple #[]) ∧ UpdZ w w' b1 (L1.set k1 z) := by
  obtain ⟨l1, f1, m1, n1⟩ := h1
  obtain ⟨l2, u, f2, m2, n2, g2, q2, r2⟩ := h2.get i2
  obtain ⟨l3, v, f3, m3, n3, g3, q3, r3⟩ := h3.get i3
  have i1' : k1 < l1.length := by rwa [← m1, List.length_map] at i1
  exact (fpMul f1 f2 f3 e1 e2 e3 i1' g2 g3 r2 r3).mono fun _ _ h => ⟨h.1, UpdZ.of h.2 m1 n1 (mulN_low r2 r3) (by rw [zp_mulN, q2, q3, hz])⟩

theorem zSqr (h1 : FpsZ w b1 L1) (h2 : FpsZ w b2 L2) (e1 : o1 = 16 * k1) (e2 : o2 = 16 * k2) (i1 : k1 < L1.length) (i2 : L2[k2]? = some x) (hz : x * x = z) :
    Calls Tryd.prog 104 #[.pointer (some ⟨b1, o1, none⟩), .pointer (some ⟨b2, o2, none⟩)] w fun e w' => e = .returned (.tuple #[]) ∧ UpdZ w w' b1 (L1.set k1 z) := by
  obtain ⟨l1, f1, m1, n1⟩ := h1
  obtain ⟨l2, u, f2, m2, n2, g2, q2, r2⟩ := h2.get i2
  have i1' : k1 < l1.length := by rwa [← m1, List.length_map] at i1
  exact (fpSqr f1 f2 e1 e2 i1' g2 r2).mono fun _ _ h => ⟨h.1, UpdZ.of h.2 m1 n1 (mulN_low r2 r2) (by rw [zp_mulN, q2, hz])⟩

theorem zHlf (h1 : FpsZ w b1 L1) (h2 : FpsZ w b2 L2) (e1 : o1 = 16 * k1) (e2 : o2 = 16 * k2) (i1 : k1 < L1.length) (i2 : L2[k2]? = some x) (hz : x * half = z) :
    Calls Tryd.prog 109 #[.pointer (some ⟨b1, o1, none⟩), .pointer (some ⟨b2, o2, none⟩)] w fun e w' => e = .returned (.tuple #[]) ∧ UpdZ w w' b1 (L1.set k1 z) := by
  obtain ⟨l1, f1, m1, n1⟩ := h1
  obtain ⟨l2, u, f2, m2, n2, g2, q2, r2⟩ := h2.get i2
  have i1' : k1 < l1.length := by rwa [← m1, List.length_map] at i1
  exact (fpHlf f1 f2 e1 e2 i1' g2 r2).mono fun _ _ h => ⟨h.1, UpdZ.of h.2 m1 n1 (hlfN_low r2) (by rw [zp_hlfN, q2, hz])⟩

theorem zNeg (hm : ModW w) (h1 : FpsZ w b1 L1) (h2 : FpsZ w b2 L2) (e1 : o1 = 16 * k1) (e2 : o2 = 16 * k2) (i1 : k1 < L1.length) (i2 : L2[k2]? = some x) (hz : -x = z) :
    Calls Tryd.prog 93 #[.pointer (some ⟨b1, o1, none⟩), .pointer (some ⟨b2, o2, none⟩)] w fun e w' => e = .returned (.tuple #[]) ∧ UpdZ w w' b1 (L1.set k1 z) := by
  obtain ⟨l1, f1, m1, n1⟩ := h1
  obtain ⟨l2, u, f2, m2, n2, g2, q2, r2⟩ := h2.get i2
  have i1' : k1 < l1.length := by rwa [← m1, List.length_map] at i1
  exact (fpNeg hm f1 f2 e1 e2 i1' g2 r2).mono fun _ _ h => ⟨h.1, UpdZ.of h.2 m1 n1 (subN_low low_pp r2) (by rw [zp_negN r2, q2, hz])⟩

theorem zMod (hm : ModW w) (h1 : FpsZ w b1 L1) (e1 : o1 = 16 * k1) (i1 : L1[k1]? = some x) :
    Calls Tryd.prog 96 #[.pointer (some ⟨b1, o1, none⟩)] w fun e w' => e = .returned (.tuple #[]) ∧ UpdZ w w' b1 L1 := by
  obtain ⟨l2, u, f2, m2, n2, g2, q2, r2⟩ := h1.get i1
  exact (fpMod hm f2 e1 g2 r2).mono fun _ _ h => ⟨h.1, UpdZ.ofMod h.2 m2 n2 g2⟩

theorem zIsZeroCT (hm : ModW w) (h1 : FpsZ w b1 L1) (e1 : o1 = 16 * k1) (i1 : L1[k1]? = some x) :
    Calls Tryd.prog 107 #[.pointer (some ⟨b1, o1, none⟩)] w fun e w' => e = .returned (.int .i64 (isz x.val)) ∧ UpdZ w w' b1 L1 := by
  obtain ⟨l2, u, f2, m2, n2, g2, q2, r2⟩ := h1.get i1
  subst q2
  exact (isZeroCT hm f2 e1 g2 r2).mono fun _ _ h => ⟨h.1, UpdZ.ofMod h.2 m2 n2 g2⟩

theorem zIsZero (hm : ModW w) (h1 : FpsZ w b1 L1) (e1 : o1 = 16 * k1) (i1 : L1[k1]? = some x) :
    Calls Tryd.prog 125 #[.pointer (some ⟨b1, o1, none⟩)] w fun e w' => e = .returned (.bool (isz x.val == 1)) ∧ UpdZ w w' b1 L1 := by
  obtain ⟨l2, u, f2, m2, n2, g2, q2, r2⟩ := h1.get i1
  subst q2
  exact (isZero hm f2 e1 g2 r2).mono fun _ _ h => ⟨h.1, UpdZ.ofMod h.2 m2 n2 g2⟩

theorem zSgn (hm : ModW w) (h1 : FpsZ w b1 L1) (e1 : o1 = 16 * k1) (i1 : L1[k1]? = some x) :
    Calls Tryd.prog 113 #[.pointer (some ⟨b1, o1, none⟩)] w fun e w' => e = .returned (.int .i64 (sgnN x.val)) ∧ UpdZ w w' b1 L1 := by
  obtain ⟨l2, u, f2, m2, n2, g2, q2, r2⟩ := h1.get i1
  subst q2
  exact (fpSgn hm f2 e1 g2 r2).mono fun _ _ h => ⟨h.1, UpdZ.ofMod h.2 m2 n2 g2⟩
end
end Go.Proofs.YtfkfljohhabldaaDoor
