/- Places in memory that hold elements, and a writing beside them; a call in a region that draws its order, whatever it leaves. No condition. -/
import Derived.Test.YtfkfljohhabldaaDoorPow
import Derived.Test.YtfkfljohhabldaaDoorLawKit3
import Derived.Test.YtfkfljohhabldaaDoorEq
namespace Go.FourQ
open Go.RowKit

theorem byte_inj {x y : Nat} (hx : x < 256 ^ 16) (hy : y < 256 ^ 16) (h : ∀ i, i < 16 → byteV x i = byteV y i) : x = y := by
  have e := mod_ext 256 x y 16 (fun i hi => by
    have h1 := h i hi
    unfold byteV at h1
    have h2 : ((x / 256 ^ i % 256 : Nat) : Int) = ((y / 256 ^ i % 256 : Nat) : Int) := by injection h1
    omega)
  rwa [Nat.mod_eq_of_lt hx, Nat.mod_eq_of_lt hy] at e

theorem low16' {x : Nat} (h : LowB x) : x < 256 ^ 16 := Nat.lt_trans h (by decide +kernel)

theorem FpsZ.uniq {w : World} {b k : Nat} {L M : List Zp} {x : Zp} (h : FpsZ w b L) (g : FpsZ w b M) (hk : L[k]? = some x) : M[k]? = some x := by
  obtain ⟨l, hl, el, al⟩ := h
  obtain ⟨m, hm, em, am⟩ := g
  subst el em
  have hs := congrArg Array.size (hl.inj hm)
  rw [size_fps, size_fps] at hs
  rw [List.getElem?_map] at hk
  obtain ⟨u, hu, rfl⟩ := Option.map_eq_some_iff.1 hk
  have hkl : k < m.length := by have := (List.getElem?_eq_some_iff.1 hu).1; omega
  have hv := List.getElem?_eq_getElem hkl
  rw [List.getElem?_map, hv]
  have e : u = m[k] := byte_inj (low16' (al u (List.mem_of_getElem? hu))) (low16' (am _ (List.getElem_mem hkl))) (fun i hi => by
    have h1 := hl.cell hu rfl i hi
    rw [hm.cell hv rfl i hi] at h1
    exact (Option.some.inj h1).symm)
  rw [e]; rfl

/-- A writing beside a place leaves it. -/
theorem At.set {w w' : World} {b b1 o o1 k1 : Nat} {L1 : List Zp} {z x : Zp} (h : At w b o x) (f : FpsZ w b1 L1) (e1 : o1 = 16 * k1) (u : UpdZ w w' b1 (L1.set k1 z)) (hd : b ≠ b1 ∨ o ≠ o1) : At w' b o x := by
  by_cases hb : b = b1
  · subst hb
    obtain ⟨L, k, g, e, hk⟩ := h
    have hx := g.uniq f hk
    refine ⟨_, k, u.blk, e, ?_⟩
    rw [List.getElem?_set_ne (by omega)]; exact hx
  · exact h.upd u hb

/-- What was written. -/
theorem UpdZ.at {w w' : World} {b o k : Nat} {L : List Zp} {z : Zp} (u : UpdZ w w' b (L.set k z)) (hk : k < L.length) (ho : o = 16 * k) : At w' b o z :=
  ⟨_, k, u.blk, ho, List.getElem?_set_self hk⟩

/-- A pair at a place. -/
structure AtQ (w : World) (b o : Nat) (x y : Zp) : Prop where
  fst : At w b o x
  snd : At w b (o + 16) y

theorem AtQ.below {w w' : World} {b o n : Nat} {x y : Zp} (h : AtQ w b o x y) (v : Below n w w') (hb : b < n) : AtQ w' b o x y := ⟨h.fst.below v hb, h.snd.below v hb⟩
theorem AtQ.upd {w w' : World} {b c o : Nat} {x y : Zp} {L : List Zp} (h : AtQ w b o x y) (u : UpdZ w w' c L) (hb : b ≠ c) : AtQ w' b o x y := ⟨h.fst.upd u hb, h.snd.upd u hb⟩
theorem AtQ.nb {w w' : World} {b o : Nat} {x y : Zp} (h : AtQ w b o x y) (v : Below w.heap.size w w') : AtQ w' b o x y := h.below v h.fst.lt
theorem At.nb {w w' : World} {b o : Nat} {x : Zp} (h : At w b o x) (v : Below w.heap.size w w') : At w' b o x := h.below v h.lt

section
variable {P : Program} {ops : Array Oper} {Q : Exit → Act → World → Prop} {S : World → Prop} {a : Act} {w : World} {r : List (Bool × Nat)} {i : Nat} {d : Option Tmp}

/-- A call, whatever it leaves. -/
theorem k_callR (hw : wantN ops i a = some true) (hd : (opN ops i).dst = d) {f : FuncId} {args : Array Value} (hrun : ∀ w', (execOp a.eval (opN ops i)).run P w' = .ok (.enter f args) w') {R : Ending → World → Prop}
    (hc : Calls P f args w R) (h : ∀ e w', R e w' → ∃ v, e = .returned v ∧ S w' ∧ PlanG P ops Q S r (a.put d v) w') : PlanG P ops Q S ((false, i) :: r) a w := by
  subst hd
  refine ⟨?_⟩
  show wpOp P ops Q i _ a w
  have hw' := wantN_some hw
  unfold wpOp
  simp only [hw'.1, hw'.2, if_true]
  refine .inl ?_
  unfold Oper.wp
  rw [hrun w]
  refine hc.mono ?_
  intro e w' hR
  obtain ⟨v, rfl, hS, h'⟩ := h e w' hR
  exact ⟨hS, h'.out⟩
end
end Go.FourQ

namespace Go.Proofs.YtfkfljohhabldaaDoor
open Go.RowKit Go.FourQ

section
variable {w : World} {b1 b2 b3 o1 o2 o3 k1 : Nat} {L1 : List Zp} {x y z : Zp}

theorem gMul (h1 : FpsZ w b1 L1) (h2 : At w b2 o2 x) (h3 : At w b3 o3 y) (e1 : o1 = 16 * k1) (i1 : k1 < L1.length) (hz : x * y = z) :
    Calls Tryd.prog 127 #[.pointer (some ⟨b1, o1, none⟩), .pointer (some ⟨b2, o2, none⟩), .pointer (some ⟨b3, o3, none⟩)] w fun e w' => e = .returned (.tuple #[]) ∧ UpdZ w w' b1 (L1.set k1 z) := by
  obtain ⟨L2, k2, g2, e2, i2⟩ := h2
  obtain ⟨L3, k3, g3, e3, i3⟩ := h3
  obtain ⟨l1, f1, m1, n1⟩ := h1
  obtain ⟨l2, u, f2, m2, n2, g2, q2, r2⟩ := g2.get i2
  obtain ⟨l3, v, f3, m3, n3, g3, q3, r3⟩ := g3.get i3
  have i1' : k1 < l1.length := by rwa [← m1, List.length_map] at i1
  exact (fpMulG f1 f2 f3 e1 e2 e3 i1' g2 g3 r2 r3).mono fun _ _ h => ⟨h.1, UpdZ.of h.2 m1 n1 (mulN_low r2 r3) (by rw [zp_mulN, q2, q3, hz])⟩
theorem gAdd (h1 : FpsZ w b1 L1) (h2 : At w b2 o2 x) (h3 : At w b3 o3 y) (e1 : o1 = 16 * k1) (i1 : k1 < L1.length) (hz : x + y = z) :
    Calls Tryd.prog 128 #[.pointer (some ⟨b1, o1, none⟩), .pointer (some ⟨b2, o2, none⟩), .pointer (some ⟨b3, o3, none⟩)] w fun e w' => e = .returned (.tuple #[]) ∧ UpdZ w w' b1 (L1.set k1 z) := by
  obtain ⟨L2, k2, g2, e2, i2⟩ := h2
  obtain ⟨L3, k3, g3, e3, i3⟩ := h3
  obtain ⟨l1, f1, m1, n1⟩ := h1
  obtain ⟨l2, u, f2, m2, n2, g2, q2, r2⟩ := g2.get i2
  obtain ⟨l3, v, f3, m3, n3, g3, q3, r3⟩ := g3.get i3
  have i1' : k1 < l1.length := by rwa [← m1, List.length_map] at i1
  exact (fpAddG f1 f2 f3 e1 e2 e3 i1' g2 g3 r2 r3).mono fun _ _ h => ⟨h.1, UpdZ.of h.2 m1 n1 (addN_low r2 r3) (by rw [zp_addN, q2, q3, hz])⟩
theorem gSub (h1 : FpsZ w b1 L1) (h2 : At w b2 o2 x) (h3 : At w b3 o3 y) (e1 : o1 = 16 * k1) (i1 : k1 < L1.length) (hz : x - y = z) :
    Calls Tryd.prog 130 #[.pointer (some ⟨b1, o1, none⟩), .pointer (some ⟨b2, o2, none⟩), .pointer (some ⟨b3, o3, none⟩)] w fun e w' => e = .returned (.tuple #[]) ∧ UpdZ w w' b1 (L1.set k1 z) := by
  obtain ⟨L2, k2, g2, e2, i2⟩ := h2
  obtain ⟨L3, k3, g3, e3, i3⟩ := h3
  obtain ⟨l1, f1, m1, n1⟩ := h1
  obtain ⟨l2, u, f2, m2, n2, g2, q2, r2⟩ := g2.get i2
  obtain ⟨l3, v, f3, m3, n3, g3, q3, r3⟩ := g3.get i3
  have i1' : k1 < l1.length := by rwa [← m1, List.length_map] at i1
  exact (fpSubG f1 f2 f3 e1 e2 e3 i1' g2 g3 r2 r3).mono fun _ _ h => ⟨h.1, UpdZ.of h.2 m1 n1 (subN_low r2 r3) (by rw [zp_subN r3, q2, q3, hz])⟩
theorem gSqr (h1 : FpsZ w b1 L1) (h2 : At w b2 o2 x) (e1 : o1 = 16 * k1) (i1 : k1 < L1.length) (hz : x * x = z) :
    Calls Tryd.prog 129 #[.pointer (some ⟨b1, o1, none⟩), .pointer (some ⟨b2, o2, none⟩)] w fun e w' => e = .returned (.tuple #[]) ∧ UpdZ w w' b1 (L1.set k1 z) := by
  obtain ⟨L2, k2, g2, e2, i2⟩ := h2
  obtain ⟨l1, f1, m1, n1⟩ := h1
  obtain ⟨l2, u, f2, m2, n2, g2, q2, r2⟩ := g2.get i2
  have i1' : k1 < l1.length := by rwa [← m1, List.length_map] at i1
  exact (fpSqrG f1 f2 e1 e2 i1' g2 r2).mono fun _ _ h => ⟨h.1, UpdZ.of h.2 m1 n1 (mulN_low r2 r2) (by rw [zp_mulN, q2, hz])⟩
theorem atIsZero (hm : ModW w) (h : At w b1 o1 x) : Calls Tryd.prog 125 #[.pointer (some ⟨b1, o1, none⟩)] w fun e w' => e = .returned (.bool (isz x.val == 1)) ∧ ∃ L k, FpsZ w b1 L ∧ o1 = 16 * k ∧ L[k]? = some x ∧ UpdZ w w' b1 L := by
  obtain ⟨L, k, f, e, i⟩ := h
  exact (zIsZero hm f e i).mono fun _ _ h => ⟨h.1, L, k, f, e, i, h.2⟩
end
end Go.Proofs.YtfkfljohhabldaaDoor
