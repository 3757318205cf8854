/- The square field in memory: sums, differences, opposites, products, squares. Elements below 2^127; modulusP holds the prime where an opposite is made. A source's second part is not the target's first part. -/
import Derived.Test.YtfkfljohhabldaaDoorPtr
import Derived.Test.YtfkfljohhabldaaDoorPair
namespace Go.FourQ
theorem UpdZ.ofDrew {w w' : World} {b : Nat} {L : List Zp} (u : UpdZ w.drew w' b L) : UpdZ w w' b L := ⟨u.os, u.tape, u.output, u.size, u.blk, u.other⟩
theorem At.drew {w : World} {b o : Nat} {x : Zp} (h : At w b o x) : At w.drew b o x := h
theorem FpsZ.drew {w : World} {b : Nat} {L : List Zp} (h : FpsZ w b L) : FpsZ w.drew b L := h
theorem e16 {o k : Nat} (h : o = 16 * k) : o + 16 = 16 * (k + 1) := by omega
theorem len_set {L : List Zp} {k j : Nat} {z : Zp} (h : j < L.length) : j < (L.set k z).length := by rw [List.length_set]; exact h
theorem ne_new {n b : Nat} (h : b < n) (i : Nat) {p : Nat} (hp : p = n + i := by rfl) : p ≠ b := by omega
theorem Boxes.drew {n : Nat} {w wr : World} {zs : List Zp} (h : Boxes n w zs wr) : Boxes n w zs wr.drew := ⟨h.nb.drew, h.size, h.blk⟩
theorem sqrN {x y : Zp} : x * y + x * y = x * y + y * x := by rw [zmul_comm y x]
end Go.FourQ
namespace Go.Proofs.YtfkfljohhabldaaDoor
open Go.RowKit Go.FourQ

section
variable {w : World} {b1 b2 b3 o1 o2 o3 k1 : Nat} {L1 : List Zp} {x0 x1 y0 y1 z0 z1 : Zp}

set_option maxRecDepth 100000 in
set_option maxHeartbeats 1000000 in
theorem fqAddG (h1 : FpsZ w b1 L1) (hA : AtQ w b2 o2 x0 x1) (hB : AtQ w b3 o3 y0 y1) (e1 : o1 = 16 * k1) (i1 : k1 + 1 < L1.length) (dA : b2 ≠ b1 ∨ o2 + 16 ≠ o1) (dB : b3 ≠ b1 ∨ o3 + 16 ≠ o1) (hz0 : x0 + y0 = z0) (hz1 : x1 + y1 = z1) :
    Calls Tryd.prog 118 #[.pointer (some ⟨b1, o1, none⟩), .pointer (some ⟨b2, o2, none⟩), .pointer (some ⟨b3, o3, none⟩)] w fun e w' => e = .returned (.tuple #[]) ∧ UpdZ w w' b1 ((L1.set k1 z0).set (k1 + 1) z1) := by
  have E1 := Lib.hid e1
  have HZ0 := Lib.hid hz0
  have HZ1 := Lib.hid hz1
  clear e1 hz0 hz1
  go_enter Tryd.func118, Tryd.ntmps118
  go_upto_region 0 with (fail)
  refine wp_region_atS (opsAt Tryd.f118 0) ((true, 0) :: (true, 1) :: (true, 2) :: (true, 3) :: (true, 4) :: (true, 5) :: (true, 6) :: (true, 7) :: (true, 8) :: (false, 9) :: []) (fun _ => True) (by kernel_rfl) rfl (by kernel_rfl) (fun _ _ d _ _ h => by cases d <;> exact h) (by kernel_rfl) (by kernel_rfl) trivial ?_
  refine k_pure (by kernel_rfl) (d := (some 6)) (by kernel_rfl) (v := .pointer (some ⟨b1, o1, none⟩)) (fun _ => by kernel_rfl) ?_
  refine k_pure (by kernel_rfl) (d := (some 7)) (by kernel_rfl) (v := .pointer (some ⟨b1, o1, none⟩)) (fun _ => by kernel_rfl) ?_
  refine k_pure (by kernel_rfl) (d := (some 8)) (by kernel_rfl) (v := .pointer (some ⟨b1, o1, none⟩)) (fun _ => by kernel_rfl) ?_
  refine k_pure (by kernel_rfl) (d := (some 9)) (by kernel_rfl) (v := .pointer (some ⟨b2, o2, none⟩)) (fun _ => by kernel_rfl) ?_
  refine k_pure (by kernel_rfl) (d := (some 10)) (by kernel_rfl) (v := .pointer (some ⟨b2, o2, none⟩)) (fun _ => by kernel_rfl) ?_
  refine k_pure (by kernel_rfl) (d := (some 11)) (by kernel_rfl) (v := .pointer (some ⟨b2, o2, none⟩)) (fun _ => by kernel_rfl) ?_
  refine k_pure (by kernel_rfl) (d := (some 12)) (by kernel_rfl) (v := .pointer (some ⟨b3, o3, none⟩)) (fun _ => by kernel_rfl) ?_
  refine k_pure (by kernel_rfl) (d := (some 13)) (by kernel_rfl) (v := .pointer (some ⟨b3, o3, none⟩)) (fun _ => by kernel_rfl) ?_
  refine k_pure (by kernel_rfl) (d := (some 14)) (by kernel_rfl) (v := .pointer (some ⟨b3, o3, none⟩)) (fun _ => by kernel_rfl) ?_
  refine k_callR (by kernel_rfl) (d := (some 15)) (by kernel_rfl) (f := 128) (args := #[.pointer (some ⟨b1, o1, none⟩), .pointer (some ⟨b2, o2, none⟩), .pointer (some ⟨b3, o3, none⟩)]) (fun _ => by kernel_rfl) (gAdd h1.drew hA.fst.drew hB.fst.drew E1.out (Nat.lt_of_succ_lt i1) HZ0.out) (fun _ w1 q1 => ⟨.tuple #[], q1.1, trivial, ?_⟩)
  have u1 := q1.2.ofDrew
  clear q1
  refine k_end ?_
  go_simp
  go_upto_region 1 with (fail)
  refine wp_region_atS (opsAt Tryd.f118 1) ((true, 0) :: (true, 1) :: (true, 2) :: (true, 3) :: (true, 4) :: (true, 5) :: (true, 6) :: (true, 7) :: (true, 8) :: (false, 9) :: []) (fun _ => True) (by kernel_rfl) rfl (by kernel_rfl) (fun _ _ d _ _ h => by cases d <;> exact h) (by kernel_rfl) (by kernel_rfl) trivial ?_
  refine k_pure (by kernel_rfl) (d := (some 16)) (by kernel_rfl) (v := .pointer (some ⟨b1, o1, none⟩)) (fun _ => by kernel_rfl) ?_
  refine k_pure (by kernel_rfl) (d := (some 17)) (by kernel_rfl) (v := .pointer (some ⟨b1, o1, none⟩)) (fun _ => by kernel_rfl) ?_
  refine k_pure (by kernel_rfl) (d := (some 18)) (by kernel_rfl) (v := .pointer (some ⟨b1, o1 + 16, none⟩)) (fun _ => by kernel_rfl) ?_
  refine k_pure (by kernel_rfl) (d := (some 19)) (by kernel_rfl) (v := .pointer (some ⟨b2, o2, none⟩)) (fun _ => by kernel_rfl) ?_
  refine k_pure (by kernel_rfl) (d := (some 20)) (by kernel_rfl) (v := .pointer (some ⟨b2, o2, none⟩)) (fun _ => by kernel_rfl) ?_
  refine k_pure (by kernel_rfl) (d := (some 21)) (by kernel_rfl) (v := .pointer (some ⟨b2, o2 + 16, none⟩)) (fun _ => by kernel_rfl) ?_
  refine k_pure (by kernel_rfl) (d := (some 22)) (by kernel_rfl) (v := .pointer (some ⟨b3, o3, none⟩)) (fun _ => by kernel_rfl) ?_
  refine k_pure (by kernel_rfl) (d := (some 23)) (by kernel_rfl) (v := .pointer (some ⟨b3, o3, none⟩)) (fun _ => by kernel_rfl) ?_
  refine k_pure (by kernel_rfl) (d := (some 24)) (by kernel_rfl) (v := .pointer (some ⟨b3, o3 + 16, none⟩)) (fun _ => by kernel_rfl) ?_
  refine k_callR (by kernel_rfl) (d := (some 25)) (by kernel_rfl) (f := 128) (args := #[.pointer (some ⟨b1, o1 + 16, none⟩), .pointer (some ⟨b2, o2 + 16, none⟩), .pointer (some ⟨b3, o3 + 16, none⟩)]) (fun _ => by kernel_rfl) (gAdd u1.blk.drew (hA.snd.set h1 E1.out u1 dA).drew (hB.snd.set h1 E1.out u1 dB).drew (e16 E1.out) (len_set i1) HZ1.out) (fun _ w2 q2 => ⟨.tuple #[], q2.1, trivial, ?_⟩)
  have u2 := q2.2.ofDrew
  clear q2
  refine k_end ?_
  go_simp
  go_wp2_with fail
  go_end0
  exact ⟨rfl, u1.trans u2⟩

set_option maxRecDepth 100000 in
set_option maxHeartbeats 1000000 in
theorem fqAdd (h1 : FpsZ w b1 L1) (hA : AtQ w b2 o2 x0 x1) (hB : AtQ w b3 o3 y0 y1) (e1 : o1 = 16 * k1) (i1 : k1 + 1 < L1.length) (dA : b2 ≠ b1 ∨ o2 + 16 ≠ o1) (dB : b3 ≠ b1 ∨ o3 + 16 ≠ o1) (hz0 : x0 + y0 = z0) (hz1 : x1 + y1 = z1) :
    Calls Tryd.prog 92 #[.pointer (some ⟨b1, o1, none⟩), .pointer (some ⟨b2, o2, none⟩), .pointer (some ⟨b3, o3, none⟩)] w fun e w' => e = .returned (.tuple #[]) ∧ UpdZ w w' b1 ((L1.set k1 z0).set (k1 + 1) z1) := by
  have C := Lib.hid (fqAddG h1 hA hB e1 i1 dA dB hz0 hz1)
  clear h1 hA hB e1 i1 dA dB hz0 hz1
  go_enter Tryd.func92, Tryd.ntmps92
  go_wp2_with fail
  refine C.out.mono ?_
  rintro e w' ⟨rfl, u⟩
  go_wp2_with fail
  go_end0
  exact ⟨rfl, u⟩

set_option maxRecDepth 100000 in
set_option maxHeartbeats 1000000 in
theorem fqSubG (h1 : FpsZ w b1 L1) (hA : AtQ w b2 o2 x0 x1) (hB : AtQ w b3 o3 y0 y1) (e1 : o1 = 16 * k1) (i1 : k1 + 1 < L1.length) (dA : b2 ≠ b1 ∨ o2 + 16 ≠ o1) (dB : b3 ≠ b1 ∨ o3 + 16 ≠ o1) (hz0 : x0 - y0 = z0) (hz1 : x1 - y1 = z1) :
    Calls Tryd.prog 117 #[.pointer (some ⟨b1, o1, none⟩), .pointer (some ⟨b2, o2, none⟩), .pointer (some ⟨b3, o3, none⟩)] w fun e w' => e = .returned (.tuple #[]) ∧ UpdZ w w' b1 ((L1.set k1 z0).set (k1 + 1) z1) := by
  have E1 := Lib.hid e1
  have HZ0 := Lib.hid hz0
  have HZ1 := Lib.hid hz1
  clear e1 hz0 hz1
  go_enter Tryd.func117, Tryd.ntmps117
  go_upto_region 0 with (fail)
  refine wp_region_atS (opsAt Tryd.f117 0) ((true, 0) :: (true, 1) :: (true, 2) :: (true, 3) :: (true, 4) :: (true, 5) :: (true, 6) :: (true, 7) :: (true, 8) :: (false, 9) :: []) (fun _ => True) (by kernel_rfl) rfl (by kernel_rfl) (fun _ _ d _ _ h => by cases d <;> exact h) (by kernel_rfl) (by kernel_rfl) trivial ?_
  refine k_pure (by kernel_rfl) (d := (some 6)) (by kernel_rfl) (v := .pointer (some ⟨b1, o1, none⟩)) (fun _ => by kernel_rfl) ?_
  refine k_pure (by kernel_rfl) (d := (some 7)) (by kernel_rfl) (v := .pointer (some ⟨b1, o1, none⟩)) (fun _ => by kernel_rfl) ?_
  refine k_pure (by kernel_rfl) (d := (some 8)) (by kernel_rfl) (v := .pointer (some ⟨b1, o1, none⟩)) (fun _ => by kernel_rfl) ?_
  refine k_pure (by kernel_rfl) (d := (some 9)) (by kernel_rfl) (v := .pointer (some ⟨b2, o2, none⟩)) (fun _ => by kernel_rfl) ?_
  refine k_pure (by kernel_rfl) (d := (some 10)) (by kernel_rfl) (v := .pointer (some ⟨b2, o2, none⟩)) (fun _ => by kernel_rfl) ?_
  refine k_pure (by kernel_rfl) (d := (some 11)) (by kernel_rfl) (v := .pointer (some ⟨b2, o2, none⟩)) (fun _ => by kernel_rfl) ?_
  refine k_pure (by kernel_rfl) (d := (some 12)) (by kernel_rfl) (v := .pointer (some ⟨b3, o3, none⟩)) (fun _ => by kernel_rfl) ?_
  refine k_pure (by kernel_rfl) (d := (some 13)) (by kernel_rfl) (v := .pointer (some ⟨b3, o3, none⟩)) (fun _ => by kernel_rfl) ?_
  refine k_pure (by kernel_rfl) (d := (some 14)) (by kernel_rfl) (v := .pointer (some ⟨b3, o3, none⟩)) (fun _ => by kernel_rfl) ?_
  refine k_callR (by kernel_rfl) (d := (some 15)) (by kernel_rfl) (f := 130) (args := #[.pointer (some ⟨b1, o1, none⟩), .pointer (some ⟨b2, o2, none⟩), .pointer (some ⟨b3, o3, none⟩)]) (fun _ => by kernel_rfl) (gSub h1.drew hA.fst.drew hB.fst.drew E1.out (Nat.lt_of_succ_lt i1) HZ0.out) (fun _ w1 q1 => ⟨.tuple #[], q1.1, trivial, ?_⟩)
  have u1 := q1.2.ofDrew
  clear q1
  refine k_end ?_
  go_simp
  go_upto_region 1 with (fail)
  refine wp_region_atS (opsAt Tryd.f117 1) ((true, 0) :: (true, 1) :: (true, 2) :: (true, 3) :: (true, 4) :: (true, 5) :: (true, 6) :: (true, 7) :: (true, 8) :: (false, 9) :: []) (fun _ => True) (by kernel_rfl) rfl (by kernel_rfl) (fun _ _ d _ _ h => by cases d <;> exact h) (by kernel_rfl) (by kernel_rfl) trivial ?_
  refine k_pure (by kernel_rfl) (d := (some 16)) (by kernel_rfl) (v := .pointer (some ⟨b1, o1, none⟩)) (fun _ => by kernel_rfl) ?_
  refine k_pure (by kernel_rfl) (d := (some 17)) (by kernel_rfl) (v := .pointer (some ⟨b1, o1, none⟩)) (fun _ => by kernel_rfl) ?_
  refine k_pure (by kernel_rfl) (d := (some 18)) (by kernel_rfl) (v := .pointer (some ⟨b1, o1 + 16, none⟩)) (fun _ => by kernel_rfl) ?_
  refine k_pure (by kernel_rfl) (d := (some 19)) (by kernel_rfl) (v := .pointer (some ⟨b2, o2, none⟩)) (fun _ => by kernel_rfl) ?_
  refine k_pure (by kernel_rfl) (d := (some 20)) (by kernel_rfl) (v := .pointer (some ⟨b2, o2, none⟩)) (fun _ => by kernel_rfl) ?_
  refine k_pure (by kernel_rfl) (d := (some 21)) (by kernel_rfl) (v := .pointer (some ⟨b2, o2 + 16, none⟩)) (fun _ => by kernel_rfl) ?_
  refine k_pure (by kernel_rfl) (d := (some 22)) (by kernel_rfl) (v := .pointer (some ⟨b3, o3, none⟩)) (fun _ => by kernel_rfl) ?_
  refine k_pure (by kernel_rfl) (d := (some 23)) (by kernel_rfl) (v := .pointer (some ⟨b3, o3, none⟩)) (fun _ => by kernel_rfl) ?_
  refine k_pure (by kernel_rfl) (d := (some 24)) (by kernel_rfl) (v := .pointer (some ⟨b3, o3 + 16, none⟩)) (fun _ => by kernel_rfl) ?_
  refine k_callR (by kernel_rfl) (d := (some 25)) (by kernel_rfl) (f := 130) (args := #[.pointer (some ⟨b1, o1 + 16, none⟩), .pointer (some ⟨b2, o2 + 16, none⟩), .pointer (some ⟨b3, o3 + 16, none⟩)]) (fun _ => by kernel_rfl) (gSub u1.blk.drew (hA.snd.set h1 E1.out u1 dA).drew (hB.snd.set h1 E1.out u1 dB).drew (e16 E1.out) (len_set i1) HZ1.out) (fun _ w2 q2 => ⟨.tuple #[], q2.1, trivial, ?_⟩)
  have u2 := q2.2.ofDrew
  clear q2
  refine k_end ?_
  go_simp
  go_wp2_with fail
  go_end0
  exact ⟨rfl, u1.trans u2⟩

set_option maxRecDepth 100000 in
set_option maxHeartbeats 1000000 in
theorem fqSub (h1 : FpsZ w b1 L1) (hA : AtQ w b2 o2 x0 x1) (hB : AtQ w b3 o3 y0 y1) (e1 : o1 = 16 * k1) (i1 : k1 + 1 < L1.length) (dA : b2 ≠ b1 ∨ o2 + 16 ≠ o1) (dB : b3 ≠ b1 ∨ o3 + 16 ≠ o1) (hz0 : x0 - y0 = z0) (hz1 : x1 - y1 = z1) :
    Calls Tryd.prog 91 #[.pointer (some ⟨b1, o1, none⟩), .pointer (some ⟨b2, o2, none⟩), .pointer (some ⟨b3, o3, none⟩)] w fun e w' => e = .returned (.tuple #[]) ∧ UpdZ w w' b1 ((L1.set k1 z0).set (k1 + 1) z1) := by
  have C := Lib.hid (fqSubG h1 hA hB e1 i1 dA dB hz0 hz1)
  clear h1 hA hB e1 i1 dA dB hz0 hz1
  go_enter Tryd.func91, Tryd.ntmps91
  go_wp2_with fail
  refine C.out.mono ?_
  rintro e w' ⟨rfl, u⟩
  go_wp2_with fail
  go_end0
  exact ⟨rfl, u⟩

theorem ModW.drew {w : World} (h : ModW w) : ModW w.drew := h
theorem ModW.updZ {w w' : World} {b : Nat} {L : List Zp} (h : ModW w) (hg : 4 < b) (u : UpdZ w w' b L) : ModW w' := h.of_heap (u.other _ h.lt (Nat.ne_of_lt hg))

set_option maxRecDepth 100000 in
set_option maxHeartbeats 1000000 in
theorem fqNeg (hm : ModW w) (hg : 4 < b1) (h1 : FpsZ w b1 L1) (hA : AtQ w b2 o2 x0 x1) (e1 : o1 = 16 * k1) (i1 : k1 + 1 < L1.length) (dA : b2 ≠ b1 ∨ o2 + 16 ≠ o1) (hz0 : -x0 = z0) (hz1 : -x1 = z1) :
    Calls Tryd.prog 112 #[.pointer (some ⟨b1, o1, none⟩), .pointer (some ⟨b2, o2, none⟩)] w fun e w' => e = .returned (.tuple #[]) ∧ UpdZ w w' b1 ((L1.set k1 z0).set (k1 + 1) z1) := by
  have E1 := Lib.hid e1
  have HZ0 := Lib.hid hz0
  have HZ1 := Lib.hid hz1
  clear e1 hz0 hz1
  go_enter Tryd.func112, Tryd.ntmps112
  go_upto_region 0 with (fail)
  refine wp_region_atS (opsAt Tryd.f112 0) ((true, 0) :: (true, 1) :: (true, 2) :: (true, 3) :: (true, 4) :: (true, 5) :: (false, 6) :: []) (fun _ => True) (by kernel_rfl) rfl (by kernel_rfl) (fun _ _ d _ _ h => by cases d <;> exact h) (by kernel_rfl) (by kernel_rfl) trivial ?_
  refine k_pure (by kernel_rfl) (d := (some 4)) (by kernel_rfl) (v := .pointer (some ⟨b1, o1, none⟩)) (fun _ => by kernel_rfl) ?_
  refine k_pure (by kernel_rfl) (d := (some 5)) (by kernel_rfl) (v := .pointer (some ⟨b1, o1, none⟩)) (fun _ => by kernel_rfl) ?_
  refine k_pure (by kernel_rfl) (d := (some 6)) (by kernel_rfl) (v := .pointer (some ⟨b1, o1, none⟩)) (fun _ => by kernel_rfl) ?_
  refine k_pure (by kernel_rfl) (d := (some 7)) (by kernel_rfl) (v := .pointer (some ⟨b2, o2, none⟩)) (fun _ => by kernel_rfl) ?_
  refine k_pure (by kernel_rfl) (d := (some 8)) (by kernel_rfl) (v := .pointer (some ⟨b2, o2, none⟩)) (fun _ => by kernel_rfl) ?_
  refine k_pure (by kernel_rfl) (d := (some 9)) (by kernel_rfl) (v := .pointer (some ⟨b2, o2, none⟩)) (fun _ => by kernel_rfl) ?_
  refine k_callR (by kernel_rfl) (d := (some 10)) (by kernel_rfl) (f := 93) (args := #[.pointer (some ⟨b1, o1, none⟩), .pointer (some ⟨b2, o2, none⟩)]) (fun _ => by kernel_rfl) (atNeg hm.drew h1.drew hA.fst.drew E1.out (Nat.lt_of_succ_lt i1) HZ0.out) (fun _ w1 q1 => ⟨.tuple #[], q1.1, trivial, ?_⟩)
  have u1 := q1.2.ofDrew
  clear q1
  refine k_end ?_
  go_simp
  go_upto_region 1 with (fail)
  refine wp_region_atS (opsAt Tryd.f112 1) ((true, 0) :: (true, 1) :: (true, 2) :: (true, 3) :: (true, 4) :: (true, 5) :: (false, 6) :: []) (fun _ => True) (by kernel_rfl) rfl (by kernel_rfl) (fun _ _ d _ _ h => by cases d <;> exact h) (by kernel_rfl) (by kernel_rfl) trivial ?_
  refine k_pure (by kernel_rfl) (d := (some 11)) (by kernel_rfl) (v := .pointer (some ⟨b1, o1, none⟩)) (fun _ => by kernel_rfl) ?_
  refine k_pure (by kernel_rfl) (d := (some 12)) (by kernel_rfl) (v := .pointer (some ⟨b1, o1, none⟩)) (fun _ => by kernel_rfl) ?_
  refine k_pure (by kernel_rfl) (d := (some 13)) (by kernel_rfl) (v := .pointer (some ⟨b1, o1 + 16, none⟩)) (fun _ => by kernel_rfl) ?_
  refine k_pure (by kernel_rfl) (d := (some 14)) (by kernel_rfl) (v := .pointer (some ⟨b2, o2, none⟩)) (fun _ => by kernel_rfl) ?_
  refine k_pure (by kernel_rfl) (d := (some 15)) (by kernel_rfl) (v := .pointer (some ⟨b2, o2, none⟩)) (fun _ => by kernel_rfl) ?_
  refine k_pure (by kernel_rfl) (d := (some 16)) (by kernel_rfl) (v := .pointer (some ⟨b2, o2 + 16, none⟩)) (fun _ => by kernel_rfl) ?_
  refine k_callR (by kernel_rfl) (d := (some 17)) (by kernel_rfl) (f := 93) (args := #[.pointer (some ⟨b1, o1 + 16, none⟩), .pointer (some ⟨b2, o2 + 16, none⟩)]) (fun _ => by kernel_rfl) (atNeg (hm.updZ hg u1).drew u1.blk.drew (hA.snd.set h1 E1.out u1 dA).drew (e16 E1.out) (len_set i1) HZ1.out) (fun _ w2 q2 => ⟨.tuple #[], q2.1, trivial, ?_⟩)
  have u2 := q2.2.ofDrew
  clear q2
  refine k_end ?_
  go_simp
  go_wp2_with fail
  go_end0
  exact ⟨rfl, u1.trans u2⟩

section
variable {wr : World} {n i p : Nat} {zs : List Zp} {x y z u : Zp}
theorem gBMul (h : Boxes n w zs wr) (hp : p = n + i) (hi : zs[i]? = some u) (h2 : At wr b2 o2 x) (h3 : At wr b3 o3 y) (hz : x * y = z) :
    Calls Tryd.prog 127 #[.pointer (some ⟨p, 0, none⟩), .pointer (some ⟨b2, o2, none⟩), .pointer (some ⟨b3, o3, none⟩)] wr fun e w' => e = .returned (.tuple #[]) ∧ Boxes n w (zs.set i z) w' := by
  subst hp
  exact (gMul (h.blk i u hi) h2 h3 (k1 := 0) rfl (by simp) hz).mono fun _ _ q => ⟨q.1, h.upd q.2⟩
theorem gBSqr (h : Boxes n w zs wr) (hp : p = n + i) (hi : zs[i]? = some u) (h2 : At wr b2 o2 x) (hz : x * x = z) :
    Calls Tryd.prog 129 #[.pointer (some ⟨p, 0, none⟩), .pointer (some ⟨b2, o2, none⟩)] wr fun e w' => e = .returned (.tuple #[]) ∧ Boxes n w (zs.set i z) w' := by
  subst hp
  exact (gSqr (h.blk i u hi) h2 (k1 := 0) rfl (by simp) hz).mono fun _ _ q => ⟨q.1, h.upd q.2⟩
end

set_option maxRecDepth 100000 in
set_option maxHeartbeats 1000000 in
theorem fqMulG (h1 : FpsZ w b1 L1) (hA : AtQ w b2 o2 x0 x1) (hB : AtQ w b3 o3 y0 y1) (e1 : o1 = 16 * k1) (i1 : k1 + 1 < L1.length) (hz0 : x0 * y0 - x1 * y1 = z0) (hz1 : x0 * y1 + x1 * y0 = z1) :
    Calls Tryd.prog 116 #[.pointer (some ⟨b1, o1, none⟩), .pointer (some ⟨b2, o2, none⟩), .pointer (some ⟨b3, o3, none⟩)] w fun e w' => e = .returned (.tuple #[]) ∧ UpdZ w w' b1 ((L1.set k1 z0).set (k1 + 1) z1) := by
  have E1 := Lib.hid e1
  have HZ0 := Lib.hid hz0
  have HZ1 := Lib.hid hz1
  clear e1 hz0 hz1
  go_enter Tryd.func116, Tryd.ntmps116
  go_upto_region 1 with (fail)
  have H0 : Boxes w.heap.size w [0, 0, 0, 0] ((((w.alloc (.cells #[.int .u8 0, .int .u8 0, .int .u8 0, .int .u8 0, .int .u8 0, .int .u8 0, .int .u8 0, .int .u8 0, .int .u8 0, .int .u8 0, .int .u8 0, .int .u8 0, .int .u8 0, .int .u8 0, .int .u8 0, .int .u8 0] 73)).alloc (.cells #[.int .u8 0, .int .u8 0, .int .u8 0, .int .u8 0, .int .u8 0, .int .u8 0, .int .u8 0, .int .u8 0, .int .u8 0, .int .u8 0, .int .u8 0, .int .u8 0, .int .u8 0, .int .u8 0, .int .u8 0, .int .u8 0] 73)).alloc (.cells #[.int .u8 0, .int .u8 0, .int .u8 0, .int .u8 0, .int .u8 0, .int .u8 0, .int .u8 0, .int .u8 0, .int .u8 0, .int .u8 0, .int .u8 0, .int .u8 0, .int .u8 0, .int .u8 0, .int .u8 0, .int .u8 0] 73)).alloc (.cells #[.int .u8 0, .int .u8 0, .int .u8 0, .int .u8 0, .int .u8 0, .int .u8 0, .int .u8 0, .int .u8 0, .int .u8 0, .int .u8 0, .int .u8 0, .int .u8 0, .int .u8 0, .int .u8 0, .int .u8 0, .int .u8 0] 73)) := (((((Boxes.start w).new rfl zero_fps.symm low_zero zp_zero).new (by simp) zero_fps.symm low_zero zp_zero).new (by simp) zero_fps.symm low_zero zp_zero).new (by simp) zero_fps.symm low_zero zp_zero)
  obtain ⟨W0, hW⟩ : ∃ W0 : World, W0 = ((((w.alloc (.cells #[.int .u8 0, .int .u8 0, .int .u8 0, .int .u8 0, .int .u8 0, .int .u8 0, .int .u8 0, .int .u8 0, .int .u8 0, .int .u8 0, .int .u8 0, .int .u8 0, .int .u8 0, .int .u8 0, .int .u8 0, .int .u8 0] 73)).alloc (.cells #[.int .u8 0, .int .u8 0, .int .u8 0, .int .u8 0, .int .u8 0, .int .u8 0, .int .u8 0, .int .u8 0, .int .u8 0, .int .u8 0, .int .u8 0, .int .u8 0, .int .u8 0, .int .u8 0, .int .u8 0, .int .u8 0] 73)).alloc (.cells #[.int .u8 0, .int .u8 0, .int .u8 0, .int .u8 0, .int .u8 0, .int .u8 0, .int .u8 0, .int .u8 0, .int .u8 0, .int .u8 0, .int .u8 0, .int .u8 0, .int .u8 0, .int .u8 0, .int .u8 0, .int .u8 0] 73)).alloc (.cells #[.int .u8 0, .int .u8 0, .int .u8 0, .int .u8 0, .int .u8 0, .int .u8 0, .int .u8 0, .int .u8 0, .int .u8 0, .int .u8 0, .int .u8 0, .int .u8 0, .int .u8 0, .int .u8 0, .int .u8 0, .int .u8 0] 73)) := ⟨_, rfl⟩
  rw [← hW] at H0 ⊢
  clear hW
  refine wp_region_atS (opsAt Tryd.f116 1) ((true, 0) :: (true, 1) :: (true, 2) :: (true, 3) :: (true, 4) :: (true, 5) :: (false, 6) :: []) (fun _ => True) (by kernel_rfl) rfl (by kernel_rfl) (fun _ _ d _ _ h => by cases d <;> exact h) (by kernel_rfl) (by kernel_rfl) trivial ?_
  refine k_pure (by kernel_rfl) (d := (some 10)) (by kernel_rfl) (v := .pointer (some ⟨b2, o2, none⟩)) (fun _ => by kernel_rfl) ?_
  refine k_pure (by kernel_rfl) (d := (some 11)) (by kernel_rfl) (v := .pointer (some ⟨b2, o2, none⟩)) (fun _ => by kernel_rfl) ?_
  refine k_pure (by kernel_rfl) (d := (some 12)) (by kernel_rfl) (v := .pointer (some ⟨b2, o2, none⟩)) (fun _ => by kernel_rfl) ?_
  refine k_pure (by kernel_rfl) (d := (some 13)) (by kernel_rfl) (v := .pointer (some ⟨b3, o3, none⟩)) (fun _ => by kernel_rfl) ?_
  refine k_pure (by kernel_rfl) (d := (some 14)) (by kernel_rfl) (v := .pointer (some ⟨b3, o3, none⟩)) (fun _ => by kernel_rfl) ?_
  refine k_pure (by kernel_rfl) (d := (some 15)) (by kernel_rfl) (v := .pointer (some ⟨b3, o3, none⟩)) (fun _ => by kernel_rfl) ?_
  refine k_callR (by kernel_rfl) (d := (some 16)) (by kernel_rfl) (f := 127) (args := #[.pointer (some ⟨w.heap.size, 0, none⟩), .pointer (some ⟨b2, o2, none⟩), .pointer (some ⟨b3, o3, none⟩)]) (fun _ => by kernel_rfl) (gBMul H0.drew (i := 0) (by rfl) rfl (hA.fst.below H0.nb hA.fst.lt).drew (hB.fst.below H0.nb hB.fst.lt).drew rfl) (fun _ w1 q1 => ⟨.tuple #[], q1.1, trivial, ?_⟩)
  have u1 := q1.2
  clear q1
  refine k_end ?_
  go_simp
  go_upto_region 2 with (fail)
  have H1 : Boxes w.heap.size w [x0 * y0, 0, 0, 0] w1 := u1
  clear u1 H0
  refine wp_region_atS (opsAt Tryd.f116 2) ((true, 0) :: (true, 1) :: (true, 2) :: (true, 3) :: (true, 4) :: (true, 5) :: (false, 6) :: []) (fun _ => True) (by kernel_rfl) rfl (by kernel_rfl) (fun _ _ d _ _ h => by cases d <;> exact h) (by kernel_rfl) (by kernel_rfl) trivial ?_
  refine k_pure (by kernel_rfl) (d := (some 17)) (by kernel_rfl) (v := .pointer (some ⟨b2, o2, none⟩)) (fun _ => by kernel_rfl) ?_
  refine k_pure (by kernel_rfl) (d := (some 18)) (by kernel_rfl) (v := .pointer (some ⟨b2, o2, none⟩)) (fun _ => by kernel_rfl) ?_
  refine k_pure (by kernel_rfl) (d := (some 19)) (by kernel_rfl) (v := .pointer (some ⟨b2, o2, none⟩)) (fun _ => by kernel_rfl) ?_
  refine k_pure (by kernel_rfl) (d := (some 20)) (by kernel_rfl) (v := .pointer (some ⟨b3, o3, none⟩)) (fun _ => by kernel_rfl) ?_
  refine k_pure (by kernel_rfl) (d := (some 21)) (by kernel_rfl) (v := .pointer (some ⟨b3, o3, none⟩)) (fun _ => by kernel_rfl) ?_
  refine k_pure (by kernel_rfl) (d := (some 22)) (by kernel_rfl) (v := .pointer (some ⟨b3, o3 + 16, none⟩)) (fun _ => by kernel_rfl) ?_
  refine k_callR (by kernel_rfl) (d := (some 23)) (by kernel_rfl) (f := 127) (args := #[.pointer (some ⟨w.heap.size + 1, 0, none⟩), .pointer (some ⟨b2, o2, none⟩), .pointer (some ⟨b3, o3 + 16, none⟩)]) (fun _ => by kernel_rfl) (gBMul H1.drew (i := 1) (by rfl) rfl (hA.fst.below H1.nb hA.fst.lt).drew (hB.snd.below H1.nb hB.snd.lt).drew rfl) (fun _ w2 q2 => ⟨.tuple #[], q2.1, trivial, ?_⟩)
  have u2 := q2.2
  clear q2
  refine k_end ?_
  go_simp
  go_upto_region 3 with (fail)
  have H2 : Boxes w.heap.size w [x0 * y0, x0 * y1, 0, 0] w2 := u2
  clear u2 H1
  refine wp_region_atS (opsAt Tryd.f116 3) ((true, 0) :: (true, 1) :: (true, 2) :: (true, 3) :: (true, 4) :: (true, 5) :: (false, 6) :: []) (fun _ => True) (by kernel_rfl) rfl (by kernel_rfl) (fun _ _ d _ _ h => by cases d <;> exact h) (by kernel_rfl) (by kernel_rfl) trivial ?_
  refine k_pure (by kernel_rfl) (d := (some 24)) (by kernel_rfl) (v := .pointer (some ⟨b2, o2, none⟩)) (fun _ => by kernel_rfl) ?_
  refine k_pure (by kernel_rfl) (d := (some 25)) (by kernel_rfl) (v := .pointer (some ⟨b2, o2, none⟩)) (fun _ => by kernel_rfl) ?_
  refine k_pure (by kernel_rfl) (d := (some 26)) (by kernel_rfl) (v := .pointer (some ⟨b2, o2 + 16, none⟩)) (fun _ => by kernel_rfl) ?_
  refine k_pure (by kernel_rfl) (d := (some 27)) (by kernel_rfl) (v := .pointer (some ⟨b3, o3, none⟩)) (fun _ => by kernel_rfl) ?_
  refine k_pure (by kernel_rfl) (d := (some 28)) (by kernel_rfl) (v := .pointer (some ⟨b3, o3, none⟩)) (fun _ => by kernel_rfl) ?_
  refine k_pure (by kernel_rfl) (d := (some 29)) (by kernel_rfl) (v := .pointer (some ⟨b3, o3, none⟩)) (fun _ => by kernel_rfl) ?_
  refine k_callR (by kernel_rfl) (d := (some 30)) (by kernel_rfl) (f := 127) (args := #[.pointer (some ⟨w.heap.size + 1 + 1, 0, none⟩), .pointer (some ⟨b2, o2 + 16, none⟩), .pointer (some ⟨b3, o3, none⟩)]) (fun _ => by kernel_rfl) (gBMul H2.drew (i := 2) (by rfl) rfl (hA.snd.below H2.nb hA.snd.lt).drew (hB.fst.below H2.nb hB.fst.lt).drew rfl) (fun _ w3 q3 => ⟨.tuple #[], q3.1, trivial, ?_⟩)
  have u3 := q3.2
  clear q3
  refine k_end ?_
  go_simp
  go_upto_region 4 with (fail)
  have H3 : Boxes w.heap.size w [x0 * y0, x0 * y1, x1 * y0, 0] w3 := u3
  clear u3 H2
  refine wp_region_atS (opsAt Tryd.f116 4) ((true, 0) :: (true, 1) :: (true, 2) :: (true, 3) :: (true, 4) :: (true, 5) :: (false, 6) :: []) (fun _ => True) (by kernel_rfl) rfl (by kernel_rfl) (fun _ _ d _ _ h => by cases d <;> exact h) (by kernel_rfl) (by kernel_rfl) trivial ?_
  refine k_pure (by kernel_rfl) (d := (some 31)) (by kernel_rfl) (v := .pointer (some ⟨b2, o2, none⟩)) (fun _ => by kernel_rfl) ?_
  refine k_pure (by kernel_rfl) (d := (some 32)) (by kernel_rfl) (v := .pointer (some ⟨b2, o2, none⟩)) (fun _ => by kernel_rfl) ?_
  refine k_pure (by kernel_rfl) (d := (some 33)) (by kernel_rfl) (v := .pointer (some ⟨b2, o2 + 16, none⟩)) (fun _ => by kernel_rfl) ?_
  refine k_pure (by kernel_rfl) (d := (some 34)) (by kernel_rfl) (v := .pointer (some ⟨b3, o3, none⟩)) (fun _ => by kernel_rfl) ?_
  refine k_pure (by kernel_rfl) (d := (some 35)) (by kernel_rfl) (v := .pointer (some ⟨b3, o3, none⟩)) (fun _ => by kernel_rfl) ?_
  refine k_pure (by kernel_rfl) (d := (some 36)) (by kernel_rfl) (v := .pointer (some ⟨b3, o3 + 16, none⟩)) (fun _ => by kernel_rfl) ?_
  refine k_callR (by kernel_rfl) (d := (some 37)) (by kernel_rfl) (f := 127) (args := #[.pointer (some ⟨w.heap.size + 1 + 1 + 1, 0, none⟩), .pointer (some ⟨b2, o2 + 16, none⟩), .pointer (some ⟨b3, o3 + 16, none⟩)]) (fun _ => by kernel_rfl) (gBMul H3.drew (i := 3) (by rfl) rfl (hA.snd.below H3.nb hA.snd.lt).drew (hB.snd.below H3.nb hB.snd.lt).drew rfl) (fun _ w4 q4 => ⟨.tuple #[], q4.1, trivial, ?_⟩)
  have u4 := q4.2
  clear q4
  refine k_end ?_
  go_simp
  go_upto_region 5 with (fail)
  have H4 : Boxes w.heap.size w [x0 * y0, x0 * y1, x1 * y0, x1 * y1] w4 := u4
  clear u4 H3
  refine wp_seq_atS (opsAt Tryd.f116 5) ((true, 0) :: (true, 1) :: (true, 2) :: (false, 3) :: []) (fun _ => True) (by kernel_rfl) (by kernel_rfl) trivial ?_
  refine k_pure (by kernel_rfl) (d := (some 38)) (by kernel_rfl) (v := .pointer (some ⟨b1, o1, none⟩)) (fun _ => by kernel_rfl) ?_
  refine k_pure (by kernel_rfl) (d := (some 39)) (by kernel_rfl) (v := .pointer (some ⟨b1, o1, none⟩)) (fun _ => by kernel_rfl) ?_
  refine k_pure (by kernel_rfl) (d := (some 40)) (by kernel_rfl) (v := .pointer (some ⟨b1, o1, none⟩)) (fun _ => by kernel_rfl) ?_
  refine k_callR (by kernel_rfl) (d := (some 41)) (by kernel_rfl) (f := 130) (args := #[.pointer (some ⟨b1, o1, none⟩), .pointer (some ⟨w.heap.size, 0, none⟩), .pointer (some ⟨w.heap.size + 1 + 1 + 1, 0, none⟩)]) (fun _ => by kernel_rfl) (gSub (h1.of_heap (H4.nb.block _ h1.lt)) (H4.at 0 (by rfl) rfl) (H4.at 3 (by rfl) rfl) E1.out (Nat.lt_of_succ_lt i1) HZ0.out) (fun _ w5 q5 => ⟨.tuple #[], q5.1, trivial, ?_⟩)
  have u5 := q5.2
  clear q5
  refine k_end ?_
  go_simp
  go_upto_region 6 with (fail)
  refine wp_seq_atS (opsAt Tryd.f116 6) ((true, 0) :: (true, 1) :: (true, 2) :: (false, 3) :: []) (fun _ => True) (by kernel_rfl) (by kernel_rfl) trivial ?_
  refine k_pure (by kernel_rfl) (d := (some 42)) (by kernel_rfl) (v := .pointer (some ⟨b1, o1, none⟩)) (fun _ => by kernel_rfl) ?_
  refine k_pure (by kernel_rfl) (d := (some 43)) (by kernel_rfl) (v := .pointer (some ⟨b1, o1, none⟩)) (fun _ => by kernel_rfl) ?_
  refine k_pure (by kernel_rfl) (d := (some 44)) (by kernel_rfl) (v := .pointer (some ⟨b1, o1 + 16, none⟩)) (fun _ => by kernel_rfl) ?_
  refine k_callR (by kernel_rfl) (d := (some 45)) (by kernel_rfl) (f := 128) (args := #[.pointer (some ⟨b1, o1 + 16, none⟩), .pointer (some ⟨w.heap.size + 1, 0, none⟩), .pointer (some ⟨w.heap.size + 1 + 1, 0, none⟩)]) (fun _ => by kernel_rfl) (gAdd u5.blk ((H4.at 1 (by rfl) rfl).upd u5 (ne_new h1.lt 1)) ((H4.at 2 (by rfl) rfl).upd u5 (ne_new h1.lt 2)) (e16 E1.out) (len_set i1) HZ1.out) (fun _ w6 q6 => ⟨.tuple #[], q6.1, trivial, ?_⟩)
  have u6 := q6.2
  clear q6
  refine k_end ?_
  go_simp
  go_wp2_with fail
  go_end0
  exact ⟨rfl, UpdZ.ahead H4.nb (u5.trans u6)⟩

set_option maxRecDepth 100000 in
set_option maxHeartbeats 1000000 in
theorem fqSqrG (h1 : FpsZ w b1 L1) (hA : AtQ w b2 o2 x0 x1) (e1 : o1 = 16 * k1) (i1 : k1 + 1 < L1.length) (hz0 : x0 * x0 - x1 * x1 = z0) (hz1 : x0 * x1 + x0 * x1 = z1) :
    Calls Tryd.prog 115 #[.pointer (some ⟨b1, o1, none⟩), .pointer (some ⟨b2, o2, none⟩)] w fun e w' => e = .returned (.tuple #[]) ∧ UpdZ w w' b1 ((L1.set k1 z0).set (k1 + 1) z1) := by
  have E1 := Lib.hid e1
  have HZ0 := Lib.hid hz0
  have HZ1 := Lib.hid hz1
  clear e1 hz0 hz1
  go_enter Tryd.func115, Tryd.ntmps115
  go_upto_region 1 with (fail)
  have H0 : Boxes w.heap.size w [0, 0, 0] (((w.alloc (.cells #[.int .u8 0, .int .u8 0, .int .u8 0, .int .u8 0, .int .u8 0, .int .u8 0, .int .u8 0, .int .u8 0, .int .u8 0, .int .u8 0, .int .u8 0, .int .u8 0, .int .u8 0, .int .u8 0, .int .u8 0, .int .u8 0] 73)).alloc (.cells #[.int .u8 0, .int .u8 0, .int .u8 0, .int .u8 0, .int .u8 0, .int .u8 0, .int .u8 0, .int .u8 0, .int .u8 0, .int .u8 0, .int .u8 0, .int .u8 0, .int .u8 0, .int .u8 0, .int .u8 0, .int .u8 0] 73)).alloc (.cells #[.int .u8 0, .int .u8 0, .int .u8 0, .int .u8 0, .int .u8 0, .int .u8 0, .int .u8 0, .int .u8 0, .int .u8 0, .int .u8 0, .int .u8 0, .int .u8 0, .int .u8 0, .int .u8 0, .int .u8 0, .int .u8 0] 73)) := ((((Boxes.start w).new rfl zero_fps.symm low_zero zp_zero).new (by simp) zero_fps.symm low_zero zp_zero).new (by simp) zero_fps.symm low_zero zp_zero)
  obtain ⟨W0, hW⟩ : ∃ W0 : World, W0 = (((w.alloc (.cells #[.int .u8 0, .int .u8 0, .int .u8 0, .int .u8 0, .int .u8 0, .int .u8 0, .int .u8 0, .int .u8 0, .int .u8 0, .int .u8 0, .int .u8 0, .int .u8 0, .int .u8 0, .int .u8 0, .int .u8 0, .int .u8 0] 73)).alloc (.cells #[.int .u8 0, .int .u8 0, .int .u8 0, .int .u8 0, .int .u8 0, .int .u8 0, .int .u8 0, .int .u8 0, .int .u8 0, .int .u8 0, .int .u8 0, .int .u8 0, .int .u8 0, .int .u8 0, .int .u8 0, .int .u8 0] 73)).alloc (.cells #[.int .u8 0, .int .u8 0, .int .u8 0, .int .u8 0, .int .u8 0, .int .u8 0, .int .u8 0, .int .u8 0, .int .u8 0, .int .u8 0, .int .u8 0, .int .u8 0, .int .u8 0, .int .u8 0, .int .u8 0, .int .u8 0] 73)) := ⟨_, rfl⟩
  rw [← hW] at H0 ⊢
  clear hW
  refine wp_seq_atS (opsAt Tryd.f115 1) ((true, 0) :: (true, 1) :: (true, 2) :: (false, 3) :: []) (fun _ => True) (by kernel_rfl) (by kernel_rfl) trivial ?_
  refine k_pure (by kernel_rfl) (d := (some 7)) (by kernel_rfl) (v := .pointer (some ⟨b2, o2, none⟩)) (fun _ => by kernel_rfl) ?_
  refine k_pure (by kernel_rfl) (d := (some 8)) (by kernel_rfl) (v := .pointer (some ⟨b2, o2, none⟩)) (fun _ => by kernel_rfl) ?_
  refine k_pure (by kernel_rfl) (d := (some 9)) (by kernel_rfl) (v := .pointer (some ⟨b2, o2, none⟩)) (fun _ => by kernel_rfl) ?_
  refine k_callR (by kernel_rfl) (d := (some 10)) (by kernel_rfl) (f := 129) (args := #[.pointer (some ⟨w.heap.size, 0, none⟩), .pointer (some ⟨b2, o2, none⟩)]) (fun _ => by kernel_rfl) (gBSqr H0 (i := 0) (by rfl) rfl (hA.fst.below H0.nb hA.fst.lt) rfl) (fun _ w1 q1 => ⟨.tuple #[], q1.1, trivial, ?_⟩)
  have u1 := q1.2
  clear q1
  refine k_end ?_
  go_simp
  go_upto_region 2 with (fail)
  have H1 : Boxes w.heap.size w [x0 * x0, 0, 0] w1 := u1
  clear u1 H0
  refine wp_region_atS (opsAt Tryd.f115 2) ((true, 0) :: (true, 1) :: (true, 2) :: (true, 3) :: (true, 4) :: (true, 5) :: (false, 6) :: []) (fun _ => True) (by kernel_rfl) rfl (by kernel_rfl) (fun _ _ d _ _ h => by cases d <;> exact h) (by kernel_rfl) (by kernel_rfl) trivial ?_
  refine k_pure (by kernel_rfl) (d := (some 11)) (by kernel_rfl) (v := .pointer (some ⟨b2, o2, none⟩)) (fun _ => by kernel_rfl) ?_
  refine k_pure (by kernel_rfl) (d := (some 12)) (by kernel_rfl) (v := .pointer (some ⟨b2, o2, none⟩)) (fun _ => by kernel_rfl) ?_
  refine k_pure (by kernel_rfl) (d := (some 13)) (by kernel_rfl) (v := .pointer (some ⟨b2, o2, none⟩)) (fun _ => by kernel_rfl) ?_
  refine k_pure (by kernel_rfl) (d := (some 14)) (by kernel_rfl) (v := .pointer (some ⟨b2, o2, none⟩)) (fun _ => by kernel_rfl) ?_
  refine k_pure (by kernel_rfl) (d := (some 15)) (by kernel_rfl) (v := .pointer (some ⟨b2, o2, none⟩)) (fun _ => by kernel_rfl) ?_
  refine k_pure (by kernel_rfl) (d := (some 16)) (by kernel_rfl) (v := .pointer (some ⟨b2, o2 + 16, none⟩)) (fun _ => by kernel_rfl) ?_
  refine k_callR (by kernel_rfl) (d := (some 17)) (by kernel_rfl) (f := 127) (args := #[.pointer (some ⟨w.heap.size + 1, 0, none⟩), .pointer (some ⟨b2, o2, none⟩), .pointer (some ⟨b2, o2 + 16, none⟩)]) (fun _ => by kernel_rfl) (gBMul H1.drew (i := 1) (by rfl) rfl (hA.fst.below H1.nb hA.fst.lt).drew (hA.snd.below H1.nb hA.snd.lt).drew rfl) (fun _ w2 q2 => ⟨.tuple #[], q2.1, trivial, ?_⟩)
  have u2 := q2.2
  clear q2
  refine k_end ?_
  go_simp
  go_upto_region 3 with (fail)
  have H2 : Boxes w.heap.size w [x0 * x0, x0 * x1, 0] w2 := u2
  clear u2 H1
  refine wp_seq_atS (opsAt Tryd.f115 3) ((true, 0) :: (true, 1) :: (true, 2) :: (false, 3) :: []) (fun _ => True) (by kernel_rfl) (by kernel_rfl) trivial ?_
  refine k_pure (by kernel_rfl) (d := (some 18)) (by kernel_rfl) (v := .pointer (some ⟨b2, o2, none⟩)) (fun _ => by kernel_rfl) ?_
  refine k_pure (by kernel_rfl) (d := (some 19)) (by kernel_rfl) (v := .pointer (some ⟨b2, o2, none⟩)) (fun _ => by kernel_rfl) ?_
  refine k_pure (by kernel_rfl) (d := (some 20)) (by kernel_rfl) (v := .pointer (some ⟨b2, o2 + 16, none⟩)) (fun _ => by kernel_rfl) ?_
  refine k_callR (by kernel_rfl) (d := (some 21)) (by kernel_rfl) (f := 129) (args := #[.pointer (some ⟨w.heap.size + 1 + 1, 0, none⟩), .pointer (some ⟨b2, o2 + 16, none⟩)]) (fun _ => by kernel_rfl) (gBSqr H2 (i := 2) (by rfl) rfl (hA.snd.below H2.nb hA.snd.lt) rfl) (fun _ w3 q3 => ⟨.tuple #[], q3.1, trivial, ?_⟩)
  have u3 := q3.2
  clear q3
  refine k_end ?_
  go_simp
  go_upto_region 4 with (fail)
  have H3 : Boxes w.heap.size w [x0 * x0, x0 * x1, x1 * x1] w3 := u3
  clear u3 H2
  refine wp_seq_atS (opsAt Tryd.f115 4) ((true, 0) :: (true, 1) :: (true, 2) :: (false, 3) :: []) (fun _ => True) (by kernel_rfl) (by kernel_rfl) trivial ?_
  refine k_pure (by kernel_rfl) (d := (some 22)) (by kernel_rfl) (v := .pointer (some ⟨b1, o1, none⟩)) (fun _ => by kernel_rfl) ?_
  refine k_pure (by kernel_rfl) (d := (some 23)) (by kernel_rfl) (v := .pointer (some ⟨b1, o1, none⟩)) (fun _ => by kernel_rfl) ?_
  refine k_pure (by kernel_rfl) (d := (some 24)) (by kernel_rfl) (v := .pointer (some ⟨b1, o1, none⟩)) (fun _ => by kernel_rfl) ?_
  refine k_callR (by kernel_rfl) (d := (some 25)) (by kernel_rfl) (f := 130) (args := #[.pointer (some ⟨b1, o1, none⟩), .pointer (some ⟨w.heap.size, 0, none⟩), .pointer (some ⟨w.heap.size + 1 + 1, 0, none⟩)]) (fun _ => by kernel_rfl) (gSub (h1.of_heap (H3.nb.block _ h1.lt)) (H3.at 0 (by rfl) rfl) (H3.at 2 (by rfl) rfl) E1.out (Nat.lt_of_succ_lt i1) HZ0.out) (fun _ w4 q4 => ⟨.tuple #[], q4.1, trivial, ?_⟩)
  have u4 := q4.2
  clear q4
  refine k_end ?_
  go_simp
  go_upto_region 5 with (fail)
  refine wp_seq_atS (opsAt Tryd.f115 5) ((true, 0) :: (true, 1) :: (true, 2) :: (false, 3) :: []) (fun _ => True) (by kernel_rfl) (by kernel_rfl) trivial ?_
  refine k_pure (by kernel_rfl) (d := (some 26)) (by kernel_rfl) (v := .pointer (some ⟨b1, o1, none⟩)) (fun _ => by kernel_rfl) ?_
  refine k_pure (by kernel_rfl) (d := (some 27)) (by kernel_rfl) (v := .pointer (some ⟨b1, o1, none⟩)) (fun _ => by kernel_rfl) ?_
  refine k_pure (by kernel_rfl) (d := (some 28)) (by kernel_rfl) (v := .pointer (some ⟨b1, o1 + 16, none⟩)) (fun _ => by kernel_rfl) ?_
  refine k_callR (by kernel_rfl) (d := (some 29)) (by kernel_rfl) (f := 128) (args := #[.pointer (some ⟨b1, o1 + 16, none⟩), .pointer (some ⟨w.heap.size + 1, 0, none⟩), .pointer (some ⟨w.heap.size + 1, 0, none⟩)]) (fun _ => by kernel_rfl) (gAdd u4.blk ((H3.at 1 (by rfl) rfl).upd u4 (ne_new h1.lt 1)) ((H3.at 1 (by rfl) rfl).upd u4 (ne_new h1.lt 1)) (e16 E1.out) (len_set i1) HZ1.out) (fun _ w5 q5 => ⟨.tuple #[], q5.1, trivial, ?_⟩)
  have u5 := q5.2
  clear q5
  refine k_end ?_
  go_simp
  go_wp2_with fail
  go_end0
  exact ⟨rfl, UpdZ.ahead H3.nb (u4.trans u5)⟩

set_option maxRecDepth 100000 in
set_option maxHeartbeats 1000000 in
theorem fqMul (h1 : FpsZ w b1 L1) (hA : AtQ w b2 o2 x0 x1) (hB : AtQ w b3 o3 y0 y1) (e1 : o1 = 16 * k1) (i1 : k1 + 1 < L1.length) (hz0 : x0 * y0 - x1 * y1 = z0) (hz1 : x0 * y1 + x1 * y0 = z1) :
    Calls Tryd.prog 90 #[.pointer (some ⟨b1, o1, none⟩), .pointer (some ⟨b2, o2, none⟩), .pointer (some ⟨b3, o3, none⟩)] w fun e w' => e = .returned (.tuple #[]) ∧ UpdZ w w' b1 ((L1.set k1 z0).set (k1 + 1) z1) := by
  have C := Lib.hid (fqMulG h1 hA hB e1 i1 hz0 hz1)
  clear h1 hA hB e1 i1 hz0 hz1
  go_enter Tryd.func90, Tryd.ntmps90
  go_wp2_with fail
  refine C.out.mono ?_
  rintro e w' ⟨rfl, u⟩
  go_wp2_with fail
  go_end0
  exact ⟨rfl, u⟩

set_option maxRecDepth 100000 in
set_option maxHeartbeats 1000000 in
theorem fqSqr (h1 : FpsZ w b1 L1) (hA : AtQ w b2 o2 x0 x1) (e1 : o1 = 16 * k1) (i1 : k1 + 1 < L1.length) (hz0 : x0 * x0 - x1 * x1 = z0) (hz1 : x0 * x1 + x0 * x1 = z1) :
    Calls Tryd.prog 89 #[.pointer (some ⟨b1, o1, none⟩), .pointer (some ⟨b2, o2, none⟩)] w fun e w' => e = .returned (.tuple #[]) ∧ UpdZ w w' b1 ((L1.set k1 z0).set (k1 + 1) z1) := by
  have C := Lib.hid (fqSqrG h1 hA e1 i1 hz0 hz1)
  clear h1 hA e1 i1 hz0 hz1
  go_enter Tryd.func89, Tryd.ntmps89
  go_wp2_with fail
  refine C.out.mono ?_
  rintro e w' ⟨rfl, u⟩
  go_wp2_with fail
  go_end0
  exact ⟨rfl, u⟩

end
end Go.Proofs.YtfkfljohhabldaaDoor
