/- Part 4 of what the laws lean on: arithmetic, walks through the functions, the curve. -/
import Derived.Test.YtfkfljohhabldaaDoorT3
namespace Go.FourQ
open Go.RowKit
theorem zeroL {n : Nat} : ∀ v ∈ List.replicate n 0, LowB v := fun v hv => by rw [List.eq_of_mem_replicate hv]; exact low_zero
/-- From this place on stand these elements. -/
def AtL (w : World) (b o : Nat) (L : List Zq) : Prop := ∀ k x, L[k]? = some x → AtZ w b (o + 32 * k) x
theorem AtL.get {w : World} {b o : Nat} {L : List Zq} (h : AtL w b o L) (k : Nat) {x : Zq} (hk : L[k]? = some x) : AtZ w b (o + 32 * k) x := h k x hk
theorem AtL.get0 {w : World} {b : Nat} {L : List Zq} (h : AtL w b 0 L) (k : Nat) {x : Zq} (hk : L[k]? = some x) : AtZ w b (32 * k) x := by have := h k x hk; rwa [Nat.zero_add] at this
theorem FpsZ.atL {w : World} {b : Nat} {L : List Zq} (h : FpsZ w b (flat L)) : AtL w b 0 L := fun _ _ hk => h.atz hk (Nat.zero_add _)
theorem AtL.sto {w wr : World} {s : List (Nat × List Zp)} {b o : Nat} {L : List Zq} (h : AtL w b o L) (g : Sto w s wr) (hc : ∀ p ∈ s, p.1 ≠ b) : AtL wr b o L := fun k x hk => (h k x hk).sto g hc
theorem AtL.nb {w w' : World} {b o : Nat} {L : List Zq} (h : AtL w b o L) (v : Below w.heap.size w w') : AtL w' b o L := fun k x hk => (h k x hk).nb v
theorem AtL.lt {w : World} {b o : Nat} {x : Zq} {L : List Zq} (h : AtL w b o (x :: L)) : b < w.heap.size := (h 0 x rfl).q.fst.lt
end Go.FourQ
namespace Go.Proofs.YtfkfljohhabldaaDoor
open Go.RowKit Go.FourQ
section
variable {w : World} {b1 b2 b3 o1 o2 o3 k1 : Nat} {L1 : List Zq} {x X Y Z Ta Tb A B D W : Zq}
set_option maxRecDepth 100000 in
set_option maxHeartbeats 1000000 in
theorem qCopy (h1 : FpsZ w b1 (flat L1)) (ha : AtZ w b2 o2 x) (hne : b2 ≠ b1) (e1 : o1 = 32 * k1) (i1 : k1 < L1.length) :
   Calls Tryd.prog 142 #[.pointer (some ⟨b1, o1, none⟩), .pointer (some ⟨b2, o2, none⟩)] w fun e w' => e = .returned (.tuple #[]) ∧ UpdZ w w' b1 (flat (L1.set k1 x)) := by
 have E1 := Lib.hid e1
 have I1 := Lib.hid i1
 have HA := Lib.hid ha
 clear e1 i1 ha
 go_enter Tryd.func142, Tryd.ntmps142
 go_upto_region 0 with (fail)
 have H0 : Sto w [(b1, flat L1)] w := (Sto.one h1)
 refine wsA (opsAt Tryd.f142 0) ((true, 0) :: (true, 1) :: (true, 2) :: (false, 3) :: (true, 4) :: (false, 5) :: []) (fun _ => True) trivial ?_
 refine kp (d := some 4) (v := .pointer (some ⟨b1, o1, none⟩)) ?_
 refine kp (d := some 5) (v := .pointer (some ⟨b2, o2, none⟩)) ?_
 refine kp (d := some 6) (v := .pointer (some ⟨b2, o2, none⟩)) ?_
 refine k_loadZ (by kernel_rfl) (d := (some 7)) (by kernel_rfl) (ty := 83) (x := (.tmp 6)) (by kernel_rfl) (b := b2) (o := o2) (z := x) (by kernel_rfl) ((HA.out).sto H0 (ksC (Ne.symm hne) ks0)) Tryd.underlying83 rfl (by kernel_rfl) trivial (fun x1 y1 lx1 ly1 zx1 zy1 => ?_)
 refine kp (d := some 8) (v := .pointer (some ⟨b1, o1, none⟩)) ?_
 refine k_storeZ (by kernel_rfl) (d := none) (by kernel_rfl) (ty := 83) (x := (.tmp 8)) (y := (.tmp 7)) (by kernel_rfl) (b := b1) (o := o1) (k := 2 * k1) (u := x1) (v := y1) (by kernel_rfl) (by kernel_rfl) (H0.blk 0 _ _ rfl) (k2 E1.out) (flat_lt (by have := I1.out; first | omega | (simp only [List.length_set]; omega))) lx1 ly1 zx1 zy1 (by kernel_rfl) (fun w2 u2 => ⟨trivial, ?_⟩)
 have u2 := H0.upd (i := 0) rfl u2
 rw [flat_set] at u2
 have H1 : Sto w [(b1, flat (L1.set k1 x))] w2 := u2
 clear u2 H0
 clear zx1 zy1
 refine k_end ?_
 go_simp
 have HF := Lib.hid H1
 clear H1
 go_wp2_with fail
 go_end0
 exact ⟨rfl, HF.out.end1 ts0⟩
theorem sqCopy {wr : World} {s : List (Nat × List Zp)} {i : Nat} (h : Sto w s wr) (hi : s[i]? = some (b1, flat L1)) (e1 : o1 = 32 * k1) (i1 : k1 < L1.length) (ha : AtZ wr b2 o2 x) (hne : b2 ≠ b1) :
   Calls Tryd.prog 142 #[.pointer (some ⟨b1, o1, none⟩), .pointer (some ⟨b2, o2, none⟩)] wr fun e w' => e = .returned (.tuple #[]) ∧ Sto w (s.set i (b1, flat (L1.set k1 x))) w' := up1 h hi (qCopy (h.blk i b1 _ hi) ha hne e1 i1)
set_option maxRecDepth 100000 in
set_option maxHeartbeats 1000000 in
theorem doubleG (h1 : FpsZ w b1 (flat [X, Y, Z, Ta, Tb])) :
   Calls Tryd.prog 136 #[.pointer (some ⟨b1, 0, none⟩)] w fun e w' => e = .returned (.tuple #[]) ∧ UpdZ w w' b1 (flat [(((X + Y) * (X + Y)) - ((X * X) + (Y * Y))) * (((Z * Z) + (Z * Z)) - ((Y * Y) - (X * X))), ((X * X) + (Y * Y)) * ((Y * Y) - (X * X)), ((Y * Y) - (X * X)) * (((Z * Z) + (Z * Z)) - ((Y * Y) - (X * X))), (X * X) + (Y * Y), ((X + Y) * (X + Y)) - ((X * X) + (Y * Y))]) := by
 go_enter Tryd.func136, Tryd.ntmps136
 go_upto_region 12 with (fail)
 have H0 : Sto w [(b1, flat [X, Y, Z, Ta, Tb])] w := (Sto.one h1)
 refine wsA (opsAt Tryd.f136 12) ((true, 0) :: (true, 1) :: (true, 2) :: (false, 3) :: []) (fun _ => True) trivial ?_
 refine kp (d := some 36) (v := .pointer (some ⟨b1, 128, none⟩)) ?_
 refine kp (d := some 37) (v := .pointer (some ⟨b1, 0, none⟩)) ?_
 refine kp (d := some 38) (v := .pointer (some ⟨b1, 32, none⟩)) ?_
 refine kd (d := some 39) (f := 92) (args := #[.pointer (some ⟨b1, 128, none⟩), .pointer (some ⟨b1, 0, none⟩), .pointer (some ⟨b1, 32, none⟩)]) (sqAdd H0 (i := 0) rfl (k1 := 4) rfl (Nat.lt_of_lt_of_eq (by decide : 4 < 5) rfl) (H0.atz 0 0 rfl rfl rfl) (H0.atz 0 1 rfl rfl rfl) (z := X + Y) rfl) (fun _ w1 q1 => ⟨.tuple #[], q1.1, trivial, ?_⟩)
 have u1 := q1.2
 clear q1
 have H1 : Sto w [(b1, flat [X, Y, Z, Ta, X + Y])] w1 := u1
 clear u1 H0
 refine k_end ?_
 go_simp
 go_upto_region 13 with (fail)
 refine wsA (opsAt Tryd.f136 13) ((true, 0) :: (true, 1) :: (false, 2) :: []) (fun _ => True) trivial ?_
 refine kp (d := some 40) (v := .pointer (some ⟨b1, 0, none⟩)) ?_
 refine kp (d := some 41) (v := .pointer (some ⟨b1, 0, none⟩)) ?_
 refine kd (d := some 42) (f := 89) (args := #[.pointer (some ⟨b1, 0, none⟩), .pointer (some ⟨b1, 0, none⟩)]) (sqSqr H1 (i := 0) rfl (k1 := 0) rfl (Nat.lt_of_lt_of_eq (by decide : 0 < 5) rfl) (H1.atz 0 0 rfl rfl rfl) (z := X * X) rfl) (fun _ w2 q2 => ⟨.tuple #[], q2.1, trivial, ?_⟩)
 have u2 := q2.2
 clear q2
 have H2 : Sto w [(b1, flat [X * X, Y, Z, Ta, X + Y])] w2 := u2
 clear u2 H1
 refine k_end ?_
 go_simp
 go_upto_region 14 with (fail)
 refine wsA (opsAt Tryd.f136 14) ((true, 0) :: (true, 1) :: (false, 2) :: []) (fun _ => True) trivial ?_
 refine kp (d := some 43) (v := .pointer (some ⟨b1, 32, none⟩)) ?_
 refine kp (d := some 44) (v := .pointer (some ⟨b1, 32, none⟩)) ?_
 refine kd (d := some 45) (f := 89) (args := #[.pointer (some ⟨b1, 32, none⟩), .pointer (some ⟨b1, 32, none⟩)]) (sqSqr H2 (i := 0) rfl (k1 := 1) rfl (Nat.lt_of_lt_of_eq (by decide : 1 < 5) rfl) (H2.atz 0 1 rfl rfl rfl) (z := Y * Y) rfl) (fun _ w3 q3 => ⟨.tuple #[], q3.1, trivial, ?_⟩)
 have u3 := q3.2
 clear q3
 have H3 : Sto w [(b1, flat [X * X, Y * Y, Z, Ta, X + Y])] w3 := u3
 clear u3 H2
 refine k_end ?_
 go_simp
 go_upto_region 15 with (fail)
 refine wsA (opsAt Tryd.f136 15) ((true, 0) :: (true, 1) :: (false, 2) :: []) (fun _ => True) trivial ?_
 refine kp (d := some 46) (v := .pointer (some ⟨b1, 64, none⟩)) ?_
 refine kp (d := some 47) (v := .pointer (some ⟨b1, 64, none⟩)) ?_
 refine kd (d := some 48) (f := 89) (args := #[.pointer (some ⟨b1, 64, none⟩), .pointer (some ⟨b1, 64, none⟩)]) (sqSqr H3 (i := 0) rfl (k1 := 2) rfl (Nat.lt_of_lt_of_eq (by decide : 2 < 5) rfl) (H3.atz 0 2 rfl rfl rfl) (z := Z * Z) rfl) (fun _ w4 q4 => ⟨.tuple #[], q4.1, trivial, ?_⟩)
 have u4 := q4.2
 clear q4
 have H4 : Sto w [(b1, flat [X * X, Y * Y, Z * Z, Ta, X + Y])] w4 := u4
 clear u4 H3
 refine k_end ?_
 go_simp
 go_upto_region 16 with (fail)
 refine wsA (opsAt Tryd.f136 16) ((true, 0) :: (true, 1) :: (true, 2) :: (false, 3) :: []) (fun _ => True) trivial ?_
 refine kp (d := some 49) (v := .pointer (some ⟨b1, 64, none⟩)) ?_
 refine kp (d := some 50) (v := .pointer (some ⟨b1, 64, none⟩)) ?_
 refine kp (d := some 51) (v := .pointer (some ⟨b1, 64, none⟩)) ?_
 refine kd (d := some 52) (f := 92) (args := #[.pointer (some ⟨b1, 64, none⟩), .pointer (some ⟨b1, 64, none⟩), .pointer (some ⟨b1, 64, none⟩)]) (sqAdd H4 (i := 0) rfl (k1 := 2) rfl (Nat.lt_of_lt_of_eq (by decide : 2 < 5) rfl) (H4.atz 0 2 rfl rfl rfl) (H4.atz 0 2 rfl rfl rfl) (z := (Z * Z) + (Z * Z)) rfl) (fun _ w5 q5 => ⟨.tuple #[], q5.1, trivial, ?_⟩)
 have u5 := q5.2
 clear q5
 have H5 : Sto w [(b1, flat [X * X, Y * Y, (Z * Z) + (Z * Z), Ta, X + Y])] w5 := u5
 clear u5 H4
 refine k_end ?_
 go_simp
 go_upto_region 17 with (fail)
 refine wsA (opsAt Tryd.f136 17) ((true, 0) :: (true, 1) :: (true, 2) :: (false, 3) :: []) (fun _ => True) trivial ?_
 refine kp (d := some 53) (v := .pointer (some ⟨b1, 96, none⟩)) ?_
 refine kp (d := some 54) (v := .pointer (some ⟨b1, 0, none⟩)) ?_
 refine kp (d := some 55) (v := .pointer (some ⟨b1, 32, none⟩)) ?_
 refine kd (d := some 56) (f := 92) (args := #[.pointer (some ⟨b1, 96, none⟩), .pointer (some ⟨b1, 0, none⟩), .pointer (some ⟨b1, 32, none⟩)]) (sqAdd H5 (i := 0) rfl (k1 := 3) rfl (Nat.lt_of_lt_of_eq (by decide : 3 < 5) rfl) (H5.atz 0 0 rfl rfl rfl) (H5.atz 0 1 rfl rfl rfl) (z := (X * X) + (Y * Y)) rfl) (fun _ w6 q6 => ⟨.tuple #[], q6.1, trivial, ?_⟩)
 have u6 := q6.2
 clear q6
 have H6 : Sto w [(b1, flat [X * X, Y * Y, (Z * Z) + (Z * Z), (X * X) + (Y * Y), X + Y])] w6 := u6
 clear u6 H5
 refine k_end ?_
 go_simp
 go_upto_region 18 with (fail)
 refine wsA (opsAt Tryd.f136 18) ((true, 0) :: (true, 1) :: (false, 2) :: []) (fun _ => True) trivial ?_
 refine kp (d := some 57) (v := .pointer (some ⟨b1, 128, none⟩)) ?_
 refine kp (d := some 58) (v := .pointer (some ⟨b1, 128, none⟩)) ?_
 refine kd (d := some 59) (f := 89) (args := #[.pointer (some ⟨b1, 128, none⟩), .pointer (some ⟨b1, 128, none⟩)]) (sqSqr H6 (i := 0) rfl (k1 := 4) rfl (Nat.lt_of_lt_of_eq (by decide : 4 < 5) rfl) (H6.atz 0 4 rfl rfl rfl) (z := (X + Y) * (X + Y)) rfl) (fun _ w7 q7 => ⟨.tuple #[], q7.1, trivial, ?_⟩)
 have u7 := q7.2
 clear q7
 have H7 : Sto w [(b1, flat [X * X, Y * Y, (Z * Z) + (Z * Z), (X * X) + (Y * Y), (X + Y) * (X + Y)])] w7 := u7
 clear u7 H6
 refine k_end ?_
 go_simp
 go_upto_region 19 with (fail)
 refine wsA (opsAt Tryd.f136 19) ((true, 0) :: (true, 1) :: (true, 2) :: (false, 3) :: []) (fun _ => True) trivial ?_
 refine kp (d := some 60) (v := .pointer (some ⟨b1, 128, none⟩)) ?_
 refine kp (d := some 61) (v := .pointer (some ⟨b1, 128, none⟩)) ?_
 refine kp (d := some 62) (v := .pointer (some ⟨b1, 96, none⟩)) ?_
 refine kd (d := some 63) (f := 91) (args := #[.pointer (some ⟨b1, 128, none⟩), .pointer (some ⟨b1, 128, none⟩), .pointer (some ⟨b1, 96, none⟩)]) (sqSub H7 (i := 0) rfl (k1 := 4) rfl (Nat.lt_of_lt_of_eq (by decide : 4 < 5) rfl) (H7.atz 0 4 rfl rfl rfl) (H7.atz 0 3 rfl rfl rfl) (z := ((X + Y) * (X + Y)) - ((X * X) + (Y * Y))) rfl) (fun _ w8 q8 => ⟨.tuple #[], q8.1, trivial, ?_⟩)
 have u8 := q8.2
 clear q8
 have H8 : Sto w [(b1, flat [X * X, Y * Y, (Z * Z) + (Z * Z), (X * X) + (Y * Y), ((X + Y) * (X + Y)) - ((X * X) + (Y * Y))])] w8 := u8
 clear u8 H7
 refine k_end ?_
 go_simp
 go_upto_region 20 with (fail)
 refine wsA (opsAt Tryd.f136 20) ((true, 0) :: (true, 1) :: (true, 2) :: (false, 3) :: []) (fun _ => True) trivial ?_
 refine kp (d := some 64) (v := .pointer (some ⟨b1, 32, none⟩)) ?_
 refine kp (d := some 65) (v := .pointer (some ⟨b1, 32, none⟩)) ?_
 refine kp (d := some 66) (v := .pointer (some ⟨b1, 0, none⟩)) ?_
 refine kd (d := some 67) (f := 91) (args := #[.pointer (some ⟨b1, 32, none⟩), .pointer (some ⟨b1, 32, none⟩), .pointer (some ⟨b1, 0, none⟩)]) (sqSub H8 (i := 0) rfl (k1 := 1) rfl (Nat.lt_of_lt_of_eq (by decide : 1 < 5) rfl) (H8.atz 0 1 rfl rfl rfl) (H8.atz 0 0 rfl rfl rfl) (z := (Y * Y) - (X * X)) rfl) (fun _ w9 q9 => ⟨.tuple #[], q9.1, trivial, ?_⟩)
 have u9 := q9.2
 clear q9
 have H9 : Sto w [(b1, flat [X * X, (Y * Y) - (X * X), (Z * Z) + (Z * Z), (X * X) + (Y * Y), ((X + Y) * (X + Y)) - ((X * X) + (Y * Y))])] w9 := u9
 clear u9 H8
 refine k_end ?_
 go_simp
 go_upto_region 21 with (fail)
 refine wsA (opsAt Tryd.f136 21) ((true, 0) :: (true, 1) :: (true, 2) :: (false, 3) :: []) (fun _ => True) trivial ?_
 refine kp (d := some 68) (v := .pointer (some ⟨b1, 0, none⟩)) ?_
 refine kp (d := some 69) (v := .pointer (some ⟨b1, 64, none⟩)) ?_
 refine kp (d := some 70) (v := .pointer (some ⟨b1, 32, none⟩)) ?_
 refine kd (d := some 71) (f := 91) (args := #[.pointer (some ⟨b1, 0, none⟩), .pointer (some ⟨b1, 64, none⟩), .pointer (some ⟨b1, 32, none⟩)]) (sqSub H9 (i := 0) rfl (k1 := 0) rfl (Nat.lt_of_lt_of_eq (by decide : 0 < 5) rfl) (H9.atz 0 2 rfl rfl rfl) (H9.atz 0 1 rfl rfl rfl) (z := ((Z * Z) + (Z * Z)) - ((Y * Y) - (X * X))) rfl) (fun _ w10 q10 => ⟨.tuple #[], q10.1, trivial, ?_⟩)
 have u10 := q10.2
 clear q10
 have H10 : Sto w [(b1, flat [((Z * Z) + (Z * Z)) - ((Y * Y) - (X * X)), (Y * Y) - (X * X), (Z * Z) + (Z * Z), (X * X) + (Y * Y), ((X + Y) * (X + Y)) - ((X * X) + (Y * Y))])] w10 := u10
 clear u10 H9
 refine k_end ?_
 go_simp
 go_upto_region 22 with (fail)
 refine wsA (opsAt Tryd.f136 22) ((true, 0) :: (true, 1) :: (true, 2) :: (false, 3) :: []) (fun _ => True) trivial ?_
 refine kp (d := some 72) (v := .pointer (some ⟨b1, 64, none⟩)) ?_
 refine kp (d := some 73) (v := .pointer (some ⟨b1, 32, none⟩)) ?_
 refine kp (d := some 74) (v := .pointer (some ⟨b1, 0, none⟩)) ?_
 refine kd (d := some 75) (f := 90) (args := #[.pointer (some ⟨b1, 64, none⟩), .pointer (some ⟨b1, 32, none⟩), .pointer (some ⟨b1, 0, none⟩)]) (sqMul H10 (i := 0) rfl (k1 := 2) rfl (Nat.lt_of_lt_of_eq (by decide : 2 < 5) rfl) (H10.atz 0 1 rfl rfl rfl) (H10.atz 0 0 rfl rfl rfl) (z := ((Y * Y) - (X * X)) * (((Z * Z) + (Z * Z)) - ((Y * Y) - (X * X)))) rfl) (fun _ w11 q11 => ⟨.tuple #[], q11.1, trivial, ?_⟩)
 have u11 := q11.2
 clear q11
 have H11 : Sto w [(b1, flat [((Z * Z) + (Z * Z)) - ((Y * Y) - (X * X)), (Y * Y) - (X * X), ((Y * Y) - (X * X)) * (((Z * Z) + (Z * Z)) - ((Y * Y) - (X * X))), (X * X) + (Y * Y), ((X + Y) * (X + Y)) - ((X * X) + (Y * Y))])] w11 := u11
 clear u11 H10
 refine k_end ?_
 go_simp
 go_upto_region 23 with (fail)
 refine wsA (opsAt Tryd.f136 23) ((true, 0) :: (true, 1) :: (true, 2) :: (false, 3) :: []) (fun _ => True) trivial ?_
 refine kp (d := some 76) (v := .pointer (some ⟨b1, 0, none⟩)) ?_
 refine kp (d := some 77) (v := .pointer (some ⟨b1, 128, none⟩)) ?_
 refine kp (d := some 78) (v := .pointer (some ⟨b1, 0, none⟩)) ?_
 refine kd (d := some 79) (f := 90) (args := #[.pointer (some ⟨b1, 0, none⟩), .pointer (some ⟨b1, 128, none⟩), .pointer (some ⟨b1, 0, none⟩)]) (sqMul H11 (i := 0) rfl (k1 := 0) rfl (Nat.lt_of_lt_of_eq (by decide : 0 < 5) rfl) (H11.atz 0 4 rfl rfl rfl) (H11.atz 0 0 rfl rfl rfl) (z := (((X + Y) * (X + Y)) - ((X * X) + (Y * Y))) * (((Z * Z) + (Z * Z)) - ((Y * Y) - (X * X)))) rfl) (fun _ w12 q12 => ⟨.tuple #[], q12.1, trivial, ?_⟩)
 have u12 := q12.2
 clear q12
 have H12 : Sto w [(b1, flat [(((X + Y) * (X + Y)) - ((X * X) + (Y * Y))) * (((Z * Z) + (Z * Z)) - ((Y * Y) - (X * X))), (Y * Y) - (X * X), ((Y * Y) - (X * X)) * (((Z * Z) + (Z * Z)) - ((Y * Y) - (X * X))), (X * X) + (Y * Y), ((X + Y) * (X + Y)) - ((X * X) + (Y * Y))])] w12 := u12
 clear u12 H11
 refine k_end ?_
 go_simp
 go_upto_region 24 with (fail)
 refine wsA (opsAt Tryd.f136 24) ((true, 0) :: (true, 1) :: (true, 2) :: (false, 3) :: []) (fun _ => True) trivial ?_
 refine kp (d := some 80) (v := .pointer (some ⟨b1, 32, none⟩)) ?_
 refine kp (d := some 81) (v := .pointer (some ⟨b1, 96, none⟩)) ?_
 refine kp (d := some 82) (v := .pointer (some ⟨b1, 32, none⟩)) ?_
 refine kd (d := some 83) (f := 90) (args := #[.pointer (some ⟨b1, 32, none⟩), .pointer (some ⟨b1, 96, none⟩), .pointer (some ⟨b1, 32, none⟩)]) (sqMul H12 (i := 0) rfl (k1 := 1) rfl (Nat.lt_of_lt_of_eq (by decide : 1 < 5) rfl) (H12.atz 0 3 rfl rfl rfl) (H12.atz 0 1 rfl rfl rfl) (z := ((X * X) + (Y * Y)) * ((Y * Y) - (X * X))) rfl) (fun _ w13 q13 => ⟨.tuple #[], q13.1, trivial, ?_⟩)
 have u13 := q13.2
 clear q13
 have H13 : Sto w [(b1, flat [(((X + Y) * (X + Y)) - ((X * X) + (Y * Y))) * (((Z * Z) + (Z * Z)) - ((Y * Y) - (X * X))), ((X * X) + (Y * Y)) * ((Y * Y) - (X * X)), ((Y * Y) - (X * X)) * (((Z * Z) + (Z * Z)) - ((Y * Y) - (X * X))), (X * X) + (Y * Y), ((X + Y) * (X + Y)) - ((X * X) + (Y * Y))])] w13 := u13
 clear u13 H12
 refine k_end ?_
 go_simp
 have HF := Lib.hid H13
 clear H13
 go_wp2_with fail
 go_end0
 exact ⟨rfl, HF.out.end1 ts0⟩
set_option maxRecDepth 100000 in
set_option maxHeartbeats 1000000 in
theorem double (h1 : FpsZ w b1 (flat [X, Y, Z, Ta, Tb])) :
   Calls Tryd.prog 119 #[.pointer (some ⟨b1, 0, none⟩)] w fun e w' => e = .returned (.tuple #[]) ∧ UpdZ w w' b1 (flat [(((X + Y) * (X + Y)) - ((X * X) + (Y * Y))) * (((Z * Z) + (Z * Z)) - ((Y * Y) - (X * X))), ((X * X) + (Y * Y)) * ((Y * Y) - (X * X)), ((Y * Y) - (X * X)) * (((Z * Z) + (Z * Z)) - ((Y * Y) - (X * X))), (X * X) + (Y * Y), ((X + Y) * (X + Y)) - ((X * X) + (Y * Y))]) := by
 have C := Lib.hid (doubleG h1)
 clear h1
 go_enter Tryd.func119, Tryd.ntmps119
 go_wp2_with fail
 refine C.out.mono ?_
 rintro e w' ⟨rfl, u⟩
 have HU := Lib.hid u
 clear u
 go_wp2_with fail
 go_end0
 exact ⟨rfl, HU.out⟩
set_option maxRecDepth 100000 in
set_option maxHeartbeats 1000000 in
theorem addG (h1 : FpsZ w b1 (flat [X, Y, Z, Ta, Tb])) (ha : AtL w b2 o2 [A, B, D, W]) (hne : b2 ≠ b1) :
   Calls Tryd.prog 100 #[.pointer (some ⟨b1, 0, none⟩), .pointer (some ⟨b2, o2, none⟩)] w fun e w' => e = .returned (.tuple #[]) ∧ UpdZ w w' b1 (flat [(((Y + X) * A) - ((Y - X) * B)) * ((Z * W) - ((Ta * Tb) * D)), ((Z * W) + ((Ta * Tb) * D)) * (((Y + X) * A) + ((Y - X) * B)), ((Z * W) - ((Ta * Tb) * D)) * ((Z * W) + ((Ta * Tb) * D)), ((Y + X) * A) - ((Y - X) * B), ((Y + X) * A) + ((Y - X) * B)]) := by
 have HA := Lib.hid ha
 clear ha
 go_enter Tryd.func100, Tryd.ntmps100
 go_upto_region 17 with (fail)
 have HB2 := HA.out.lt
 refine wp_gen (fun W => Sto w [(b1, flat [X, Y, Z, Ta, Tb]), (w.heap.size, flat [0])] W) ((Sto.one h1).new (l := List.replicate 2 0) rfl (by rfl) zeroL rfl) ?_
 intro W0 H0
 obtain ⟨n, hn⟩ : ∃ n, w.heap.size = n := ⟨_, rfl⟩
 rw [hn] at H0 ⊢
 have HN : Hid (w.heap.size = n) := Lib.hid hn
 have HNL : w.heap.size ≤ n := Nat.le_of_eq hn
 clear hn
 have H0 : Sto w [(b1, flat [X, Y, Z, Ta, Tb]), (n, flat [0])] W0 := H0
 refine wsA (opsAt Tryd.f100 17) ((true, 0) :: (true, 1) :: (true, 2) :: (false, 3) :: []) (fun _ => True) trivial ?_
 refine kp (d := some 60) (v := .pointer (some ⟨n, 0, none⟩)) ?_
 refine kp (d := some 61) (v := .pointer (some ⟨b1, 96, none⟩)) ?_
 refine kp (d := some 62) (v := .pointer (some ⟨b1, 128, none⟩)) ?_
 refine kd (d := some 63) (f := 90) (args := #[.pointer (some ⟨n, 0, none⟩), .pointer (some ⟨b1, 96, none⟩), .pointer (some ⟨b1, 128, none⟩)]) (sqMul H0 (i := 1) rfl (k1 := 0) rfl (Nat.lt_of_lt_of_eq (by decide : 0 < 1) rfl) (H0.atz 0 3 rfl rfl rfl) (H0.atz 0 4 rfl rfl rfl) (z := Ta * Tb) rfl) (fun _ w1 q1 => ⟨.tuple #[], q1.1, trivial, ?_⟩)
 have u1 := q1.2
 clear q1
 have H1 : Sto w [(b1, flat [X, Y, Z, Ta, Tb]), (n, flat [Ta * Tb])] w1 := u1
 clear u1 H0
 refine k_end ?_
 go_simp
 go_upto_region 18 with (fail)
 refine wsA (opsAt Tryd.f100 18) ((true, 0) :: (true, 1) :: (true, 2) :: (false, 3) :: []) (fun _ => True) trivial ?_
 refine kp (d := some 64) (v := .pointer (some ⟨b1, 128, none⟩)) ?_
 refine kp (d := some 65) (v := .pointer (some ⟨b1, 32, none⟩)) ?_
 refine kp (d := some 66) (v := .pointer (some ⟨b1, 0, none⟩)) ?_
 refine kd (d := some 67) (f := 91) (args := #[.pointer (some ⟨b1, 128, none⟩), .pointer (some ⟨b1, 32, none⟩), .pointer (some ⟨b1, 0, none⟩)]) (sqSub H1 (i := 0) rfl (k1 := 4) rfl (Nat.lt_of_lt_of_eq (by decide : 4 < 5) rfl) (H1.atz 0 1 rfl rfl rfl) (H1.atz 0 0 rfl rfl rfl) (z := Y - X) rfl) (fun _ w2 q2 => ⟨.tuple #[], q2.1, trivial, ?_⟩)
 have u2 := q2.2
 clear q2
 have H2 : Sto w [(b1, flat [X, Y, Z, Ta, Y - X]), (n, flat [Ta * Tb])] w2 := u2
 clear u2 H1
 refine k_end ?_
 go_simp
 go_upto_region 19 with (fail)
 refine wsA (opsAt Tryd.f100 19) ((true, 0) :: (true, 1) :: (true, 2) :: (false, 3) :: []) (fun _ => True) trivial ?_
 refine kp (d := some 68) (v := .pointer (some ⟨b1, 32, none⟩)) ?_
 refine kp (d := some 69) (v := .pointer (some ⟨b1, 32, none⟩)) ?_
 refine kp (d := some 70) (v := .pointer (some ⟨b1, 0, none⟩)) ?_
 refine kd (d := some 71) (f := 92) (args := #[.pointer (some ⟨b1, 32, none⟩), .pointer (some ⟨b1, 32, none⟩), .pointer (some ⟨b1, 0, none⟩)]) (sqAdd H2 (i := 0) rfl (k1 := 1) rfl (Nat.lt_of_lt_of_eq (by decide : 1 < 5) rfl) (H2.atz 0 1 rfl rfl rfl) (H2.atz 0 0 rfl rfl rfl) (z := Y + X) rfl) (fun _ w3 q3 => ⟨.tuple #[], q3.1, trivial, ?_⟩)
 have u3 := q3.2
 clear q3
 have H3 : Sto w [(b1, flat [X, Y + X, Z, Ta, Y - X]), (n, flat [Ta * Tb])] w3 := u3
 clear u3 H2
 refine k_end ?_
 go_simp
 go_upto_region 20 with (fail)
 refine wsA (opsAt Tryd.f100 20) ((true, 0) :: (true, 1) :: (true, 2) :: (false, 3) :: []) (fun _ => True) trivial ?_
 refine kp (d := some 72) (v := .pointer (some ⟨b1, 0, none⟩)) ?_
 refine kp (d := some 73) (v := .pointer (some ⟨b1, 128, none⟩)) ?_
 refine kp (d := some 74) (v := .pointer (some ⟨b2, o2 + 32, none⟩)) ?_
 refine kd (d := some 75) (f := 90) (args := #[.pointer (some ⟨b1, 0, none⟩), .pointer (some ⟨b1, 128, none⟩), .pointer (some ⟨b2, o2 + 32, none⟩)]) (sqMul H3 (i := 0) rfl (k1 := 0) rfl (Nat.lt_of_lt_of_eq (by decide : 0 < 5) rfl) (H3.atz 0 4 rfl rfl rfl) (((HA.out.get 1 rfl)).sto H3 (ksC (Ne.symm hne) (ksC (by omega) ks0))) (z := (Y - X) * B) rfl) (fun _ w4 q4 => ⟨.tuple #[], q4.1, trivial, ?_⟩)
 have u4 := q4.2
 clear q4
 have H4 : Sto w [(b1, flat [(Y - X) * B, Y + X, Z, Ta, Y - X]), (n, flat [Ta * Tb])] w4 := u4
 clear u4 H3
 refine k_end ?_
 go_simp
 go_upto_region 21 with (fail)
 refine wsA (opsAt Tryd.f100 21) ((true, 0) :: (true, 1) :: (true, 2) :: (false, 3) :: []) (fun _ => True) trivial ?_
 refine kp (d := some 76) (v := .pointer (some ⟨b1, 32, none⟩)) ?_
 refine kp (d := some 77) (v := .pointer (some ⟨b1, 32, none⟩)) ?_
 refine kp (d := some 78) (v := .pointer (some ⟨b2, o2, none⟩)) ?_
 refine kd (d := some 79) (f := 90) (args := #[.pointer (some ⟨b1, 32, none⟩), .pointer (some ⟨b1, 32, none⟩), .pointer (some ⟨b2, o2, none⟩)]) (sqMul H4 (i := 0) rfl (k1 := 1) rfl (Nat.lt_of_lt_of_eq (by decide : 1 < 5) rfl) (H4.atz 0 1 rfl rfl rfl) (((HA.out.get 0 rfl)).sto H4 (ksC (Ne.symm hne) (ksC (by omega) ks0))) (z := (Y + X) * A) rfl) (fun _ w5 q5 => ⟨.tuple #[], q5.1, trivial, ?_⟩)
 have u5 := q5.2
 clear q5
 have H5 : Sto w [(b1, flat [(Y - X) * B, (Y + X) * A, Z, Ta, Y - X]), (n, flat [Ta * Tb])] w5 := u5
 clear u5 H4
 refine k_end ?_
 go_simp
 go_upto_region 22 with (fail)
 refine wsA (opsAt Tryd.f100 22) ((true, 0) :: (true, 1) :: (true, 2) :: (false, 3) :: []) (fun _ => True) trivial ?_
 refine kp (d := some 80) (v := .pointer (some ⟨b1, 96, none⟩)) ?_
 refine kp (d := some 81) (v := .pointer (some ⟨b1, 32, none⟩)) ?_
 refine kp (d := some 82) (v := .pointer (some ⟨b1, 0, none⟩)) ?_
 refine kd (d := some 83) (f := 91) (args := #[.pointer (some ⟨b1, 96, none⟩), .pointer (some ⟨b1, 32, none⟩), .pointer (some ⟨b1, 0, none⟩)]) (sqSub H5 (i := 0) rfl (k1 := 3) rfl (Nat.lt_of_lt_of_eq (by decide : 3 < 5) rfl) (H5.atz 0 1 rfl rfl rfl) (H5.atz 0 0 rfl rfl rfl) (z := ((Y + X) * A) - ((Y - X) * B)) rfl) (fun _ w6 q6 => ⟨.tuple #[], q6.1, trivial, ?_⟩)
 have u6 := q6.2
 clear q6
 have H6 : Sto w [(b1, flat [(Y - X) * B, (Y + X) * A, Z, ((Y + X) * A) - ((Y - X) * B), Y - X]), (n, flat [Ta * Tb])] w6 := u6
 clear u6 H5
 refine k_end ?_
 go_simp
 go_upto_region 23 with (fail)
 refine wsA (opsAt Tryd.f100 23) ((true, 0) :: (true, 1) :: (true, 2) :: (false, 3) :: []) (fun _ => True) trivial ?_
 refine kp (d := some 84) (v := .pointer (some ⟨b1, 128, none⟩)) ?_
 refine kp (d := some 85) (v := .pointer (some ⟨b1, 32, none⟩)) ?_
 refine kp (d := some 86) (v := .pointer (some ⟨b1, 0, none⟩)) ?_
 refine kd (d := some 87) (f := 92) (args := #[.pointer (some ⟨b1, 128, none⟩), .pointer (some ⟨b1, 32, none⟩), .pointer (some ⟨b1, 0, none⟩)]) (sqAdd H6 (i := 0) rfl (k1 := 4) rfl (Nat.lt_of_lt_of_eq (by decide : 4 < 5) rfl) (H6.atz 0 1 rfl rfl rfl) (H6.atz 0 0 rfl rfl rfl) (z := ((Y + X) * A) + ((Y - X) * B)) rfl) (fun _ w7 q7 => ⟨.tuple #[], q7.1, trivial, ?_⟩)
 have u7 := q7.2
 clear q7
 have H7 : Sto w [(b1, flat [(Y - X) * B, (Y + X) * A, Z, ((Y + X) * A) - ((Y - X) * B), ((Y + X) * A) + ((Y - X) * B)]), (n, flat [Ta * Tb])] w7 := u7
 clear u7 H6
 refine k_end ?_
 go_simp
 go_upto_region 24 with (fail)
 refine wsA (opsAt Tryd.f100 24) ((true, 0) :: (true, 1) :: (true, 2) :: (false, 3) :: []) (fun _ => True) trivial ?_
 refine kp (d := some 88) (v := .pointer (some ⟨b1, 32, none⟩)) ?_
 refine kp (d := some 89) (v := .pointer (some ⟨b1, 64, none⟩)) ?_
 refine kp (d := some 90) (v := .pointer (some ⟨b2, o2 + 96, none⟩)) ?_
 refine kd (d := some 91) (f := 90) (args := #[.pointer (some ⟨b1, 32, none⟩), .pointer (some ⟨b1, 64, none⟩), .pointer (some ⟨b2, o2 + 96, none⟩)]) (sqMul H7 (i := 0) rfl (k1 := 1) rfl (Nat.lt_of_lt_of_eq (by decide : 1 < 5) rfl) (H7.atz 0 2 rfl rfl rfl) (((HA.out.get 3 rfl)).sto H7 (ksC (Ne.symm hne) (ksC (by omega) ks0))) (z := Z * W) rfl) (fun _ w8 q8 => ⟨.tuple #[], q8.1, trivial, ?_⟩)
 have u8 := q8.2
 clear q8
 have H8 : Sto w [(b1, flat [(Y - X) * B, Z * W, Z, ((Y + X) * A) - ((Y - X) * B), ((Y + X) * A) + ((Y - X) * B)]), (n, flat [Ta * Tb])] w8 := u8
 clear u8 H7
 refine k_end ?_
 go_simp
 go_upto_region 25 with (fail)
 refine wsA (opsAt Tryd.f100 25) ((true, 0) :: (true, 1) :: (true, 2) :: (false, 3) :: []) (fun _ => True) trivial ?_
 refine kp (d := some 92) (v := .pointer (some ⟨n, 0, none⟩)) ?_
 refine kp (d := some 93) (v := .pointer (some ⟨n, 0, none⟩)) ?_
 refine kp (d := some 94) (v := .pointer (some ⟨b2, o2 + 64, none⟩)) ?_
 refine kd (d := some 95) (f := 90) (args := #[.pointer (some ⟨n, 0, none⟩), .pointer (some ⟨n, 0, none⟩), .pointer (some ⟨b2, o2 + 64, none⟩)]) (sqMul H8 (i := 1) rfl (k1 := 0) rfl (Nat.lt_of_lt_of_eq (by decide : 0 < 1) rfl) (H8.atz 1 0 rfl rfl rfl) (((HA.out.get 2 rfl)).sto H8 (ksC (Ne.symm hne) (ksC (by omega) ks0))) (z := (Ta * Tb) * D) rfl) (fun _ w9 q9 => ⟨.tuple #[], q9.1, trivial, ?_⟩)
 have u9 := q9.2
 clear q9
 have H9 : Sto w [(b1, flat [(Y - X) * B, Z * W, Z, ((Y + X) * A) - ((Y - X) * B), ((Y + X) * A) + ((Y - X) * B)]), (n, flat [(Ta * Tb) * D])] w9 := u9
 clear u9 H8
 refine k_end ?_
 go_simp
 go_upto_region 26 with (fail)
 refine wsA (opsAt Tryd.f100 26) ((true, 0) :: (true, 1) :: (true, 2) :: (false, 3) :: []) (fun _ => True) trivial ?_
 refine kp (d := some 96) (v := .pointer (some ⟨b1, 0, none⟩)) ?_
 refine kp (d := some 97) (v := .pointer (some ⟨b1, 32, none⟩)) ?_
 refine kp (d := some 98) (v := .pointer (some ⟨n, 0, none⟩)) ?_
 refine kd (d := some 99) (f := 91) (args := #[.pointer (some ⟨b1, 0, none⟩), .pointer (some ⟨b1, 32, none⟩), .pointer (some ⟨n, 0, none⟩)]) (sqSub H9 (i := 0) rfl (k1 := 0) rfl (Nat.lt_of_lt_of_eq (by decide : 0 < 5) rfl) (H9.atz 0 1 rfl rfl rfl) (H9.atz 1 0 rfl rfl rfl) (z := (Z * W) - ((Ta * Tb) * D)) rfl) (fun _ w10 q10 => ⟨.tuple #[], q10.1, trivial, ?_⟩)
 have u10 := q10.2
 clear q10
 have H10 : Sto w [(b1, flat [(Z * W) - ((Ta * Tb) * D), Z * W, Z, ((Y + X) * A) - ((Y - X) * B), ((Y + X) * A) + ((Y - X) * B)]), (n, flat [(Ta * Tb) * D])] w10 := u10
 clear u10 H9
 refine k_end ?_
 go_simp
 go_upto_region 27 with (fail)
 refine wsA (opsAt Tryd.f100 27) ((true, 0) :: (true, 1) :: (true, 2) :: (false, 3) :: []) (fun _ => True) trivial ?_
 refine kp (d := some 100) (v := .pointer (some ⟨b1, 32, none⟩)) ?_
 refine kp (d := some 101) (v := .pointer (some ⟨b1, 32, none⟩)) ?_
 refine kp (d := some 102) (v := .pointer (some ⟨n, 0, none⟩)) ?_
 refine kd (d := some 103) (f := 92) (args := #[.pointer (some ⟨b1, 32, none⟩), .pointer (some ⟨b1, 32, none⟩), .pointer (some ⟨n, 0, none⟩)]) (sqAdd H10 (i := 0) rfl (k1 := 1) rfl (Nat.lt_of_lt_of_eq (by decide : 1 < 5) rfl) (H10.atz 0 1 rfl rfl rfl) (H10.atz 1 0 rfl rfl rfl) (z := (Z * W) + ((Ta * Tb) * D)) rfl) (fun _ w11 q11 => ⟨.tuple #[], q11.1, trivial, ?_⟩)
 have u11 := q11.2
 clear q11
 have H11 : Sto w [(b1, flat [(Z * W) - ((Ta * Tb) * D), (Z * W) + ((Ta * Tb) * D), Z, ((Y + X) * A) - ((Y - X) * B), ((Y + X) * A) + ((Y - X) * B)]), (n, flat [(Ta * Tb) * D])] w11 := u11
 clear u11 H10
 refine k_end ?_
 go_simp
 go_upto_region 28 with (fail)
 refine wsA (opsAt Tryd.f100 28) ((true, 0) :: (true, 1) :: (true, 2) :: (false, 3) :: []) (fun _ => True) trivial ?_
 refine kp (d := some 104) (v := .pointer (some ⟨b1, 64, none⟩)) ?_
 refine kp (d := some 105) (v := .pointer (some ⟨b1, 0, none⟩)) ?_
 refine kp (d := some 106) (v := .pointer (some ⟨b1, 32, none⟩)) ?_
 refine kd (d := some 107) (f := 90) (args := #[.pointer (some ⟨b1, 64, none⟩), .pointer (some ⟨b1, 0, none⟩), .pointer (some ⟨b1, 32, none⟩)]) (sqMul H11 (i := 0) rfl (k1 := 2) rfl (Nat.lt_of_lt_of_eq (by decide : 2 < 5) rfl) (H11.atz 0 0 rfl rfl rfl) (H11.atz 0 1 rfl rfl rfl) (z := ((Z * W) - ((Ta * Tb) * D)) * ((Z * W) + ((Ta * Tb) * D))) rfl) (fun _ w12 q12 => ⟨.tuple #[], q12.1, trivial, ?_⟩)
 have u12 := q12.2
 clear q12
 have H12 : Sto w [(b1, flat [(Z * W) - ((Ta * Tb) * D), (Z * W) + ((Ta * Tb) * D), ((Z * W) - ((Ta * Tb) * D)) * ((Z * W) + ((Ta * Tb) * D)), ((Y + X) * A) - ((Y - X) * B), ((Y + X) * A) + ((Y - X) * B)]), (n, flat [(Ta * Tb) * D])] w12 := u12
 clear u12 H11
 refine k_end ?_
 go_simp
 go_upto_region 29 with (fail)
 refine wsA (opsAt Tryd.f100 29) ((true, 0) :: (true, 1) :: (true, 2) :: (false, 3) :: []) (fun _ => True) trivial ?_
 refine kp (d := some 108) (v := .pointer (some ⟨b1, 0, none⟩)) ?_
 refine kp (d := some 109) (v := .pointer (some ⟨b1, 96, none⟩)) ?_
 refine kp (d := some 110) (v := .pointer (some ⟨b1, 0, none⟩)) ?_
 refine kd (d := some 111) (f := 90) (args := #[.pointer (some ⟨b1, 0, none⟩), .pointer (some ⟨b1, 96, none⟩), .pointer (some ⟨b1, 0, none⟩)]) (sqMul H12 (i := 0) rfl (k1 := 0) rfl (Nat.lt_of_lt_of_eq (by decide : 0 < 5) rfl) (H12.atz 0 3 rfl rfl rfl) (H12.atz 0 0 rfl rfl rfl) (z := (((Y + X) * A) - ((Y - X) * B)) * ((Z * W) - ((Ta * Tb) * D))) rfl) (fun _ w13 q13 => ⟨.tuple #[], q13.1, trivial, ?_⟩)
 have u13 := q13.2
 clear q13
 have H13 : Sto w [(b1, flat [(((Y + X) * A) - ((Y - X) * B)) * ((Z * W) - ((Ta * Tb) * D)), (Z * W) + ((Ta * Tb) * D), ((Z * W) - ((Ta * Tb) * D)) * ((Z * W) + ((Ta * Tb) * D)), ((Y + X) * A) - ((Y - X) * B), ((Y + X) * A) + ((Y - X) * B)]), (n, flat [(Ta * Tb) * D])] w13 := u13
 clear u13 H12
 refine k_end ?_
 go_simp
 go_upto_region 30 with (fail)
 refine wsA (opsAt Tryd.f100 30) ((true, 0) :: (true, 1) :: (true, 2) :: (false, 3) :: []) (fun _ => True) trivial ?_
 refine kp (d := some 112) (v := .pointer (some ⟨b1, 32, none⟩)) ?_
 refine kp (d := some 113) (v := .pointer (some ⟨b1, 32, none⟩)) ?_
 refine kp (d := some 114) (v := .pointer (some ⟨b1, 128, none⟩)) ?_
 refine kd (d := some 115) (f := 90) (args := #[.pointer (some ⟨b1, 32, none⟩), .pointer (some ⟨b1, 32, none⟩), .pointer (some ⟨b1, 128, none⟩)]) (sqMul H13 (i := 0) rfl (k1 := 1) rfl (Nat.lt_of_lt_of_eq (by decide : 1 < 5) rfl) (H13.atz 0 1 rfl rfl rfl) (H13.atz 0 4 rfl rfl rfl) (z := ((Z * W) + ((Ta * Tb) * D)) * (((Y + X) * A) + ((Y - X) * B))) rfl) (fun _ w14 q14 => ⟨.tuple #[], q14.1, trivial, ?_⟩)
 have u14 := q14.2
 clear q14
 have H14 : Sto w [(b1, flat [(((Y + X) * A) - ((Y - X) * B)) * ((Z * W) - ((Ta * Tb) * D)), ((Z * W) + ((Ta * Tb) * D)) * (((Y + X) * A) + ((Y - X) * B)), ((Z * W) - ((Ta * Tb) * D)) * ((Z * W) + ((Ta * Tb) * D)), ((Y + X) * A) - ((Y - X) * B), ((Y + X) * A) + ((Y - X) * B)]), (n, flat [(Ta * Tb) * D])] w14 := u14
 clear u14 H13
 refine k_end ?_
 go_simp
 have HF := Lib.hid H14
 clear H14
 go_wp2_with fail
 go_end0
 exact ⟨rfl, HF.out.end1 (tsC (by omega) ts0)⟩
set_option maxRecDepth 100000 in
set_option maxHeartbeats 1000000 in
theorem addR (h1 : FpsZ w b1 (flat [X, Y, Z, Ta, Tb])) (ha : AtL w b2 o2 [A, B, D, W]) (hne : b2 ≠ b1) :
   Calls Tryd.prog 81 #[.pointer (some ⟨b1, 0, none⟩), .pointer (some ⟨b2, o2, none⟩)] w fun e w' => e = .returned (.tuple #[]) ∧ UpdZ w w' b1 (flat [(((Y + X) * A) - ((Y - X) * B)) * ((Z * W) - ((Ta * Tb) * D)), ((Z * W) + ((Ta * Tb) * D)) * (((Y + X) * A) + ((Y - X) * B)), ((Z * W) - ((Ta * Tb) * D)) * ((Z * W) + ((Ta * Tb) * D)), ((Y + X) * A) - ((Y - X) * B), ((Y + X) * A) + ((Y - X) * B)]) := by
 have C := Lib.hid (addG h1 ha hne)
 clear h1 ha hne
 go_enter Tryd.func81, Tryd.ntmps81
 go_wp2_with fail
 refine C.out.mono ?_
 rintro e w' ⟨rfl, u⟩
 have HU := Lib.hid u
 clear u
 go_wp2_with fail
 go_end0
 exact ⟨rfl, HU.out⟩
set_option maxRecDepth 100000 in
set_option maxHeartbeats 1000000 in
theorem toR1 {v0 v1 v2 v3 v4 : Zq} (h1 : FpsZ w b1 (flat [v0, v1, v2, v3, v4])) (ha : AtL w b2 0 [X, Y]) (hne : b2 ≠ b1) :
   Calls Tryd.prog 76 #[.pointer (some ⟨b2, 0, none⟩), .pointer (some ⟨b1, 0, none⟩)] w fun e w' => e = .returned (.tuple #[]) ∧ UpdZ w w' b1 (flat [X, Y, 1, X, Y]) := by
 have HA := Lib.hid ha
 clear ha
 go_enter Tryd.func76, Tryd.ntmps76
 go_upto_region 0 with (fail)
 have H0 : Sto w [(b1, flat [v0, v1, v2, v3, v4])] w := (Sto.one h1)
 refine wsA (opsAt Tryd.f76 0) ((true, 0) :: (true, 1) :: (true, 2) :: (true, 3) :: (false, 4) :: (true, 5) :: (true, 6) :: (false, 7) :: []) (fun _ => True) trivial ?_
 refine kp (d := some 4) (v := .pointer (some ⟨b1, 0, none⟩)) ?_
 refine kp (d := some 5) (v := .pointer (some ⟨b2, 0, none⟩)) ?_
 refine kp (d := some 6) (v := .pointer (some ⟨b2, 0, none⟩)) ?_
 refine kp (d := some 7) (v := .pointer (some ⟨b2, 0, none⟩)) ?_
 refine k_loadZ (by kernel_rfl) (d := (some 8)) (by kernel_rfl) (ty := 83) (x := (.tmp 7)) (by kernel_rfl) (b := b2) (o := 0) (z := X) (by kernel_rfl) ((HA.out.get0 0 rfl).sto H0 (ksC (Ne.symm hne) ks0)) Tryd.underlying83 rfl (by kernel_rfl) trivial (fun x1 y1 lx1 ly1 zx1 zy1 => ?_)
 refine kp (d := some 9) (v := .pointer (some ⟨b1, 0, none⟩)) ?_
 refine kp (d := some 10) (v := .pointer (some ⟨b1, 0, none⟩)) ?_
 refine k_storeZ (by kernel_rfl) (d := none) (by kernel_rfl) (ty := 83) (x := (.tmp 10)) (y := (.tmp 8)) (by kernel_rfl) (b := b1) (o := 0) (k := 2 * 0) (u := x1) (v := y1) (by kernel_rfl) (by kernel_rfl) (H0.blk 0 _ _ rfl) (k2 rfl) (flat_lt (Nat.lt_of_lt_of_eq (by decide : 0 < 5) rfl)) lx1 ly1 zx1 zy1 (by kernel_rfl) (fun w2 u2 => ⟨trivial, ?_⟩)
 have u2 := H0.upd (i := 0) rfl u2
 rw [flat_set] at u2
 have H1 : Sto w [(b1, flat [X, v1, v2, v3, v4])] w2 := u2
 clear u2 H0
 clear zx1 zy1
 refine k_end ?_
 go_simp
 go_upto_region 1 with (fail)
 refine wsA (opsAt Tryd.f76 1) ((true, 0) :: (true, 1) :: (true, 2) :: (true, 3) :: (false, 4) :: (true, 5) :: (true, 6) :: (false, 7) :: []) (fun _ => True) trivial ?_
 refine kp (d := some 11) (v := .pointer (some ⟨b1, 0, none⟩)) ?_
 refine kp (d := some 12) (v := .pointer (some ⟨b2, 0, none⟩)) ?_
 refine kp (d := some 13) (v := .pointer (some ⟨b2, 0, none⟩)) ?_
 refine kp (d := some 14) (v := .pointer (some ⟨b2, 32, none⟩)) ?_
 refine k_loadZ (by kernel_rfl) (d := (some 15)) (by kernel_rfl) (ty := 83) (x := (.tmp 14)) (by kernel_rfl) (b := b2) (o := 32) (z := Y) (by kernel_rfl) ((HA.out.get0 1 rfl).sto H1 (ksC (Ne.symm hne) ks0)) Tryd.underlying83 rfl (by kernel_rfl) trivial (fun x3 y3 lx3 ly3 zx3 zy3 => ?_)
 refine kp (d := some 16) (v := .pointer (some ⟨b1, 0, none⟩)) ?_
 refine kp (d := some 17) (v := .pointer (some ⟨b1, 32, none⟩)) ?_
 refine k_storeZ (by kernel_rfl) (d := none) (by kernel_rfl) (ty := 83) (x := (.tmp 17)) (y := (.tmp 15)) (by kernel_rfl) (b := b1) (o := 32) (k := 2 * 1) (u := x3) (v := y3) (by kernel_rfl) (by kernel_rfl) (H1.blk 0 _ _ rfl) (k2 rfl) (flat_lt (Nat.lt_of_lt_of_eq (by decide : 1 < 5) rfl)) lx3 ly3 zx3 zy3 (by kernel_rfl) (fun w4 u4 => ⟨trivial, ?_⟩)
 have u4 := H1.upd (i := 0) rfl u4
 rw [flat_set] at u4
 have H2 : Sto w [(b1, flat [X, Y, v2, v3, v4])] w4 := u4
 clear u4 H1
 clear zx3 zy3
 refine k_end ?_
 go_simp
 go_upto_region 2 with (fail)
 refine wsA (opsAt Tryd.f76 2) ((true, 0) :: (true, 1) :: (true, 2) :: (true, 3) :: (false, 4) :: (true, 5) :: (true, 6) :: (false, 7) :: []) (fun _ => True) trivial ?_
 refine kp (d := some 18) (v := .pointer (some ⟨b1, 0, none⟩)) ?_
 refine kp (d := some 19) (v := .pointer (some ⟨b2, 0, none⟩)) ?_
 refine kp (d := some 20) (v := .pointer (some ⟨b2, 0, none⟩)) ?_
 refine kp (d := some 21) (v := .pointer (some ⟨b2, 0, none⟩)) ?_
 refine k_loadZ (by kernel_rfl) (d := (some 22)) (by kernel_rfl) (ty := 83) (x := (.tmp 21)) (by kernel_rfl) (b := b2) (o := 0) (z := X) (by kernel_rfl) ((HA.out.get0 0 rfl).sto H2 (ksC (Ne.symm hne) ks0)) Tryd.underlying83 rfl (by kernel_rfl) trivial (fun x5 y5 lx5 ly5 zx5 zy5 => ?_)
 refine kp (d := some 23) (v := .pointer (some ⟨b1, 0, none⟩)) ?_
 refine kp (d := some 24) (v := .pointer (some ⟨b1, 96, none⟩)) ?_
 refine k_storeZ (by kernel_rfl) (d := none) (by kernel_rfl) (ty := 83) (x := (.tmp 24)) (y := (.tmp 22)) (by kernel_rfl) (b := b1) (o := 96) (k := 2 * 3) (u := x5) (v := y5) (by kernel_rfl) (by kernel_rfl) (H2.blk 0 _ _ rfl) (k2 rfl) (flat_lt (Nat.lt_of_lt_of_eq (by decide : 3 < 5) rfl)) lx5 ly5 zx5 zy5 (by kernel_rfl) (fun w6 u6 => ⟨trivial, ?_⟩)
 have u6 := H2.upd (i := 0) rfl u6
 rw [flat_set] at u6
 have H3 : Sto w [(b1, flat [X, Y, v2, X, v4])] w6 := u6
 clear u6 H2
 clear zx5 zy5
 refine k_end ?_
 go_simp
 go_upto_region 3 with (fail)
 refine wsA (opsAt Tryd.f76 3) ((true, 0) :: (true, 1) :: (true, 2) :: (true, 3) :: (false, 4) :: (true, 5) :: (true, 6) :: (false, 7) :: []) (fun _ => True) trivial ?_
 refine kp (d := some 25) (v := .pointer (some ⟨b1, 0, none⟩)) ?_
 refine kp (d := some 26) (v := .pointer (some ⟨b2, 0, none⟩)) ?_
 refine kp (d := some 27) (v := .pointer (some ⟨b2, 0, none⟩)) ?_
 refine kp (d := some 28) (v := .pointer (some ⟨b2, 32, none⟩)) ?_
 refine k_loadZ (by kernel_rfl) (d := (some 29)) (by kernel_rfl) (ty := 83) (x := (.tmp 28)) (by kernel_rfl) (b := b2) (o := 32) (z := Y) (by kernel_rfl) ((HA.out.get0 1 rfl).sto H3 (ksC (Ne.symm hne) ks0)) Tryd.underlying83 rfl (by kernel_rfl) trivial (fun x7 y7 lx7 ly7 zx7 zy7 => ?_)
 refine kp (d := some 30) (v := .pointer (some ⟨b1, 0, none⟩)) ?_
 refine kp (d := some 31) (v := .pointer (some ⟨b1, 128, none⟩)) ?_
 refine k_storeZ (by kernel_rfl) (d := none) (by kernel_rfl) (ty := 83) (x := (.tmp 31)) (y := (.tmp 29)) (by kernel_rfl) (b := b1) (o := 128) (k := 2 * 4) (u := x7) (v := y7) (by kernel_rfl) (by kernel_rfl) (H3.blk 0 _ _ rfl) (k2 rfl) (flat_lt (Nat.lt_of_lt_of_eq (by decide : 4 < 5) rfl)) lx7 ly7 zx7 zy7 (by kernel_rfl) (fun w8 u8 => ⟨trivial, ?_⟩)
 have u8 := H3.upd (i := 0) rfl u8
 rw [flat_set] at u8
 have H4 : Sto w [(b1, flat [X, Y, v2, X, Y])] w8 := u8
 clear u8 H3
 clear zx7 zy7
 refine k_end ?_
 go_simp
 go_upto_region 4 with (fail)
 refine wsA (opsAt Tryd.f76 4) ((true, 0) :: (true, 1) :: (true, 2) :: (false, 3) :: []) (fun _ => True) trivial ?_
 refine kp (d := some 32) (v := .pointer (some ⟨b1, 0, none⟩)) ?_
 refine kp (d := some 33) (v := .pointer (some ⟨b1, 0, none⟩)) ?_
 refine kp (d := some 34) (v := .pointer (some ⟨b1, 64, none⟩)) ?_
 refine kd (d := some 35) (f := 88) (args := #[.pointer (some ⟨b1, 64, none⟩)]) (sqSet1 H4 (i := 0) rfl (k1 := 2) rfl (Nat.lt_of_lt_of_eq (by decide : 2 < 5) rfl)) (fun _ w9 q9 => ⟨.tuple #[], q9.1, trivial, ?_⟩)
 have u9 := q9.2
 clear q9
 have H5 : Sto w [(b1, flat [X, Y, 1, X, Y])] w9 := u9
 clear u9 H4
 refine k_end ?_
 go_simp
 have HF := Lib.hid H5
 clear H5
 go_wp2_with fail
 go_end0
 exact ⟨rfl, HF.out.end1 ts0⟩
set_option maxRecDepth 100000 in
set_option maxHeartbeats 1000000 in
theorem copyR1 {v0 v1 v2 v3 v4 : Zq} (h1 : FpsZ w b1 (flat [v0, v1, v2, v3, v4])) (ha : AtL w b2 0 [X, Y, Z, Ta, Tb]) (hne : b2 ≠ b1) :
   Calls Tryd.prog 137 #[.pointer (some ⟨b1, 0, none⟩), .pointer (some ⟨b2, 0, none⟩)] w fun e w' => e = .returned (.tuple #[]) ∧ UpdZ w w' b1 (flat [X, Y, Z, Ta, Tb]) := by
 have HA := Lib.hid ha
 clear ha
 go_enter Tryd.func137, Tryd.ntmps137
 go_upto_region 0 with (fail)
 have H0 : Sto w [(b1, flat [v0, v1, v2, v3, v4])] w := (Sto.one h1)
 refine wrA (opsAt Tryd.f137 0) ((true, 0) :: (true, 1) :: (true, 2) :: (true, 3) :: (true, 4) :: (true, 5) :: (false, 6) :: []) (fun _ => True) trivial ?_
 refine kp (d := some 4) (v := .pointer (some ⟨b1, 0, none⟩)) ?_
 refine kp (d := some 5) (v := .pointer (some ⟨b1, 0, none⟩)) ?_
 refine kp (d := some 6) (v := .pointer (some ⟨b1, 0, none⟩)) ?_
 refine kp (d := some 7) (v := .pointer (some ⟨b2, 0, none⟩)) ?_
 refine kp (d := some 8) (v := .pointer (some ⟨b2, 0, none⟩)) ?_
 refine kp (d := some 9) (v := .pointer (some ⟨b2, 0, none⟩)) ?_
 refine kd (d := some 10) (f := 142) (args := #[.pointer (some ⟨b1, 0, none⟩), .pointer (some ⟨b2, 0, none⟩)]) (sqCopy H0.drew (i := 0) rfl (k1 := 0) rfl (Nat.lt_of_lt_of_eq (by decide : 0 < 5) rfl) ((HA.out.get0 0 rfl).sto H0.drew (ksC (Ne.symm hne) ks0)) (Ne.symm (Ne.symm hne))) (fun _ w1 q1 => ⟨.tuple #[], q1.1, trivial, ?_⟩)
 have u1 := q1.2
 clear q1
 have H1 : Sto w [(b1, flat [X, v1, v2, v3, v4])] w1 := u1
 clear u1 H0
 refine k_end ?_
 go_simp
 go_upto_region 1 with (fail)
 refine wrA (opsAt Tryd.f137 1) ((true, 0) :: (true, 1) :: (true, 2) :: (true, 3) :: (true, 4) :: (true, 5) :: (false, 6) :: []) (fun _ => True) trivial ?_
 refine kp (d := some 11) (v := .pointer (some ⟨b1, 0, none⟩)) ?_
 refine kp (d := some 12) (v := .pointer (some ⟨b1, 0, none⟩)) ?_
 refine kp (d := some 13) (v := .pointer (some ⟨b1, 32, none⟩)) ?_
 refine kp (d := some 14) (v := .pointer (some ⟨b2, 0, none⟩)) ?_
 refine kp (d := some 15) (v := .pointer (some ⟨b2, 0, none⟩)) ?_
 refine kp (d := some 16) (v := .pointer (some ⟨b2, 32, none⟩)) ?_
 refine kd (d := some 17) (f := 142) (args := #[.pointer (some ⟨b1, 32, none⟩), .pointer (some ⟨b2, 32, none⟩)]) (sqCopy H1.drew (i := 0) rfl (k1 := 1) rfl (Nat.lt_of_lt_of_eq (by decide : 1 < 5) rfl) ((HA.out.get0 1 rfl).sto H1.drew (ksC (Ne.symm hne) ks0)) (Ne.symm (Ne.symm hne))) (fun _ w2 q2 => ⟨.tuple #[], q2.1, trivial, ?_⟩)
 have u2 := q2.2
 clear q2
 have H2 : Sto w [(b1, flat [X, Y, v2, v3, v4])] w2 := u2
 clear u2 H1
 refine k_end ?_
 go_simp
 go_upto_region 2 with (fail)
 refine wrA (opsAt Tryd.f137 2) ((true, 0) :: (true, 1) :: (true, 2) :: (true, 3) :: (true, 4) :: (true, 5) :: (false, 6) :: []) (fun _ => True) trivial ?_
 refine kp (d := some 18) (v := .pointer (some ⟨b1, 0, none⟩)) ?_
 refine kp (d := some 19) (v := .pointer (some ⟨b1, 0, none⟩)) ?_
 refine kp (d := some 20) (v := .pointer (some ⟨b1, 96, none⟩)) ?_
 refine kp (d := some 21) (v := .pointer (some ⟨b2, 0, none⟩)) ?_
 refine kp (d := some 22) (v := .pointer (some ⟨b2, 0, none⟩)) ?_
 refine kp (d := some 23) (v := .pointer (some ⟨b2, 96, none⟩)) ?_
 refine kd (d := some 24) (f := 142) (args := #[.pointer (some ⟨b1, 96, none⟩), .pointer (some ⟨b2, 96, none⟩)]) (sqCopy H2.drew (i := 0) rfl (k1 := 3) rfl (Nat.lt_of_lt_of_eq (by decide : 3 < 5) rfl) ((HA.out.get0 3 rfl).sto H2.drew (ksC (Ne.symm hne) ks0)) (Ne.symm (Ne.symm hne))) (fun _ w3 q3 => ⟨.tuple #[], q3.1, trivial, ?_⟩)
 have u3 := q3.2
 clear q3
 have H3 : Sto w [(b1, flat [X, Y, v2, Ta, v4])] w3 := u3
 clear u3 H2
 refine k_end ?_
 go_simp
 go_upto_region 3 with (fail)
 refine wrA (opsAt Tryd.f137 3) ((true, 0) :: (true, 1) :: (true, 2) :: (true, 3) :: (true, 4) :: (true, 5) :: (false, 6) :: []) (fun _ => True) trivial ?_
 refine kp (d := some 25) (v := .pointer (some ⟨b1, 0, none⟩)) ?_
 refine kp (d := some 26) (v := .pointer (some ⟨b1, 0, none⟩)) ?_
 refine kp (d := some 27) (v := .pointer (some ⟨b1, 128, none⟩)) ?_
 refine kp (d := some 28) (v := .pointer (some ⟨b2, 0, none⟩)) ?_
 refine kp (d := some 29) (v := .pointer (some ⟨b2, 0, none⟩)) ?_
 refine kp (d := some 30) (v := .pointer (some ⟨b2, 128, none⟩)) ?_
 refine kd (d := some 31) (f := 142) (args := #[.pointer (some ⟨b1, 128, none⟩), .pointer (some ⟨b2, 128, none⟩)]) (sqCopy H3.drew (i := 0) rfl (k1 := 4) rfl (Nat.lt_of_lt_of_eq (by decide : 4 < 5) rfl) ((HA.out.get0 4 rfl).sto H3.drew (ksC (Ne.symm hne) ks0)) (Ne.symm (Ne.symm hne))) (fun _ w4 q4 => ⟨.tuple #[], q4.1, trivial, ?_⟩)
 have u4 := q4.2
 clear q4
 have H4 : Sto w [(b1, flat [X, Y, v2, Ta, Tb])] w4 := u4
 clear u4 H3
 refine k_end ?_
 go_simp
 go_upto_region 4 with (fail)
 refine wrA (opsAt Tryd.f137 4) ((true, 0) :: (true, 1) :: (true, 2) :: (true, 3) :: (true, 4) :: (true, 5) :: (false, 6) :: []) (fun _ => True) trivial ?_
 refine kp (d := some 32) (v := .pointer (some ⟨b1, 0, none⟩)) ?_
 refine kp (d := some 33) (v := .pointer (some ⟨b1, 0, none⟩)) ?_
 refine kp (d := some 34) (v := .pointer (some ⟨b1, 64, none⟩)) ?_
 refine kp (d := some 35) (v := .pointer (some ⟨b2, 0, none⟩)) ?_
 refine kp (d := some 36) (v := .pointer (some ⟨b2, 0, none⟩)) ?_
 refine kp (d := some 37) (v := .pointer (some ⟨b2, 64, none⟩)) ?_
 refine kd (d := some 38) (f := 142) (args := #[.pointer (some ⟨b1, 64, none⟩), .pointer (some ⟨b2, 64, none⟩)]) (sqCopy H4.drew (i := 0) rfl (k1 := 2) rfl (Nat.lt_of_lt_of_eq (by decide : 2 < 5) rfl) ((HA.out.get0 2 rfl).sto H4.drew (ksC (Ne.symm hne) ks0)) (Ne.symm (Ne.symm hne))) (fun _ w5 q5 => ⟨.tuple #[], q5.1, trivial, ?_⟩)
 have u5 := q5.2
 clear q5
 have H5 : Sto w [(b1, flat [X, Y, Z, Ta, Tb])] w5 := u5
 clear u5 H4
 refine k_end ?_
 go_simp
 have HF := Lib.hid H5
 clear H5
 go_wp2_with fail
 go_end0
 exact ⟨rfl, HF.out.end1 ts0⟩
set_option maxRecDepth 100000 in
set_option maxHeartbeats 1000000 in
theorem setIdR1 {v0 v1 v2 v3 v4 : Zq} (h1 : FpsZ w b1 (flat [v0, v1, v2, v3, v4])) :
   Calls Tryd.prog 78 #[.pointer (some ⟨b1, 0, none⟩)] w fun e w' => e = .returned (.tuple #[]) ∧ UpdZ w w' b1 (flat [0, 1, 1, 0, 0]) := by
 go_enter Tryd.func78, Tryd.ntmps78
 go_upto_region 0 with (fail)
 have H0 : Sto w [(b1, flat [v0, v1, v2, v3, v4])] w := (Sto.one h1)
 refine wsA (opsAt Tryd.f78 0) ((true, 0) :: (true, 1) :: (true, 2) :: (false, 3) :: []) (fun _ => True) trivial ?_
 refine kp (d := some 2) (v := .pointer (some ⟨b1, 0, none⟩)) ?_
 refine kp (d := some 3) (v := .pointer (some ⟨b1, 0, none⟩)) ?_
 refine kp (d := some 4) (v := .pointer (some ⟨b1, 0, none⟩)) ?_
 refine kd (d := some 5) (f := 98) (args := #[.pointer (some ⟨b1, 0, none⟩)]) (sqSet0 H0 (i := 0) rfl (k1 := 0) rfl (Nat.lt_of_lt_of_eq (by decide : 0 < 5) rfl)) (fun _ w1 q1 => ⟨.tuple #[], q1.1, trivial, ?_⟩)
 have u1 := q1.2
 clear q1
 have H1 : Sto w [(b1, flat [0, v1, v2, v3, v4])] w1 := u1
 clear u1 H0
 refine k_end ?_
 go_simp
 go_upto_region 1 with (fail)
 refine wsA (opsAt Tryd.f78 1) ((true, 0) :: (true, 1) :: (true, 2) :: (false, 3) :: []) (fun _ => True) trivial ?_
 refine kp (d := some 6) (v := .pointer (some ⟨b1, 0, none⟩)) ?_
 refine kp (d := some 7) (v := .pointer (some ⟨b1, 0, none⟩)) ?_
 refine kp (d := some 8) (v := .pointer (some ⟨b1, 32, none⟩)) ?_
 refine kd (d := some 9) (f := 88) (args := #[.pointer (some ⟨b1, 32, none⟩)]) (sqSet1 H1 (i := 0) rfl (k1 := 1) rfl (Nat.lt_of_lt_of_eq (by decide : 1 < 5) rfl)) (fun _ w2 q2 => ⟨.tuple #[], q2.1, trivial, ?_⟩)
 have u2 := q2.2
 clear q2
 have H2 : Sto w [(b1, flat [0, 1, v2, v3, v4])] w2 := u2
 clear u2 H1
 refine k_end ?_
 go_simp
 go_upto_region 2 with (fail)
 refine wsA (opsAt Tryd.f78 2) ((true, 0) :: (true, 1) :: (true, 2) :: (false, 3) :: []) (fun _ => True) trivial ?_
 refine kp (d := some 10) (v := .pointer (some ⟨b1, 0, none⟩)) ?_
 refine kp (d := some 11) (v := .pointer (some ⟨b1, 0, none⟩)) ?_
 refine kp (d := some 12) (v := .pointer (some ⟨b1, 96, none⟩)) ?_
 refine kd (d := some 13) (f := 98) (args := #[.pointer (some ⟨b1, 96, none⟩)]) (sqSet0 H2 (i := 0) rfl (k1 := 3) rfl (Nat.lt_of_lt_of_eq (by decide : 3 < 5) rfl)) (fun _ w3 q3 => ⟨.tuple #[], q3.1, trivial, ?_⟩)
 have u3 := q3.2
 clear q3
 have H3 : Sto w [(b1, flat [0, 1, v2, 0, v4])] w3 := u3
 clear u3 H2
 refine k_end ?_
 go_simp
 go_upto_region 3 with (fail)
 refine wsA (opsAt Tryd.f78 3) ((true, 0) :: (true, 1) :: (true, 2) :: (false, 3) :: []) (fun _ => True) trivial ?_
 refine kp (d := some 14) (v := .pointer (some ⟨b1, 0, none⟩)) ?_
 refine kp (d := some 15) (v := .pointer (some ⟨b1, 0, none⟩)) ?_
 refine kp (d := some 16) (v := .pointer (some ⟨b1, 128, none⟩)) ?_
 refine kd (d := some 17) (f := 98) (args := #[.pointer (some ⟨b1, 128, none⟩)]) (sqSet0 H3 (i := 0) rfl (k1 := 4) rfl (Nat.lt_of_lt_of_eq (by decide : 4 < 5) rfl)) (fun _ w4 q4 => ⟨.tuple #[], q4.1, trivial, ?_⟩)
 have u4 := q4.2
 clear q4
 have H4 : Sto w [(b1, flat [0, 1, v2, 0, 0])] w4 := u4
 clear u4 H3
 refine k_end ?_
 go_simp
 go_upto_region 4 with (fail)
 refine wsA (opsAt Tryd.f78 4) ((true, 0) :: (true, 1) :: (true, 2) :: (false, 3) :: []) (fun _ => True) trivial ?_
 refine kp (d := some 18) (v := .pointer (some ⟨b1, 0, none⟩)) ?_
 refine kp (d := some 19) (v := .pointer (some ⟨b1, 0, none⟩)) ?_
 refine kp (d := some 20) (v := .pointer (some ⟨b1, 64, none⟩)) ?_
 refine kd (d := some 21) (f := 88) (args := #[.pointer (some ⟨b1, 64, none⟩)]) (sqSet1 H4 (i := 0) rfl (k1 := 2) rfl (Nat.lt_of_lt_of_eq (by decide : 2 < 5) rfl)) (fun _ w5 q5 => ⟨.tuple #[], q5.1, trivial, ?_⟩)
 have u5 := q5.2
 clear q5
 have H5 : Sto w [(b1, flat [0, 1, 1, 0, 0])] w5 := u5
 clear u5 H4
 refine k_end ?_
 go_simp
 have HF := Lib.hid H5
 clear H5
 go_wp2_with fail
 go_end0
 exact ⟨rfl, HF.out.end1 ts0⟩
set_option maxRecDepth 100000 in
set_option maxHeartbeats 1000000 in
theorem toAffine (hm : ModW w) (hg : 5 ≤ b1) (h1 : FpsZ w b1 (flat [X, Y, Z, Ta, Tb])) :
   Calls Tryd.prog 99 #[.pointer (some ⟨b1, 0, none⟩)] w fun e w' => e = .returned (.tuple #[]) ∧ UpdZ w w' b1 (flat [X * (Z.inv), Y * (Z.inv), 1, (X * (Z.inv)) * (Y * (Z.inv)), 1]) := by
 go_enter Tryd.func99, Tryd.ntmps99
 go_upto_region 0 with (fail)
 have H0 : Sto w [(b1, flat [X, Y, Z, Ta, Tb])] w := (Sto.one h1)
 refine wrA (opsAt Tryd.f99 0) ((true, 0) :: (true, 1) :: (true, 2) :: (true, 3) :: (true, 4) :: (true, 5) :: (false, 6) :: []) (fun _ => True) trivial ?_
 refine kp (d := some 2) (v := .pointer (some ⟨b1, 0, none⟩)) ?_
 refine kp (d := some 3) (v := .pointer (some ⟨b1, 0, none⟩)) ?_
 refine kp (d := some 4) (v := .pointer (some ⟨b1, 64, none⟩)) ?_
 refine kp (d := some 5) (v := .pointer (some ⟨b1, 0, none⟩)) ?_
 refine kp (d := some 6) (v := .pointer (some ⟨b1, 0, none⟩)) ?_
 refine kp (d := some 7) (v := .pointer (some ⟨b1, 64, none⟩)) ?_
 refine kd (d := some 8) (f := 126) (args := #[.pointer (some ⟨b1, 64, none⟩), .pointer (some ⟨b1, 64, none⟩)]) (sqInv (hm.sto H0.drew (ksC (Nat.ne_of_gt (Nat.lt_of_lt_of_le (by decide) hg)) ks0)) (Nat.lt_of_lt_of_le (by decide) hg) H0.drew (i := 0) rfl (k1 := 2) rfl (Nat.lt_of_lt_of_eq (by decide : 2 < 5) rfl) (H0.drew.atz 0 2 rfl rfl rfl) (z := Z.inv) rfl) (fun _ w1 q1 => ⟨.tuple #[], q1.1, trivial, ?_⟩)
 have u1 := q1.2
 clear q1
 have H1 : Sto w [(b1, flat [X, Y, Z.inv, Ta, Tb])] w1 := u1
 clear u1 H0
 refine k_end ?_
 go_simp
 go_upto_region 1 with (fail)
 refine wrA (opsAt Tryd.f99 1) ((true, 0) :: (true, 1) :: (true, 2) :: (true, 3) :: (true, 4) :: (true, 5) :: (true, 6) :: (true, 7) :: (true, 8) :: (false, 9) :: []) (fun _ => True) trivial ?_
 refine kp (d := some 9) (v := .pointer (some ⟨b1, 0, none⟩)) ?_
 refine kp (d := some 10) (v := .pointer (some ⟨b1, 0, none⟩)) ?_
 refine kp (d := some 11) (v := .pointer (some ⟨b1, 0, none⟩)) ?_
 refine kp (d := some 12) (v := .pointer (some ⟨b1, 0, none⟩)) ?_
 refine kp (d := some 13) (v := .pointer (some ⟨b1, 0, none⟩)) ?_
 refine kp (d := some 14) (v := .pointer (some ⟨b1, 0, none⟩)) ?_
 refine kp (d := some 15) (v := .pointer (some ⟨b1, 0, none⟩)) ?_
 refine kp (d := some 16) (v := .pointer (some ⟨b1, 0, none⟩)) ?_
 refine kp (d := some 17) (v := .pointer (some ⟨b1, 64, none⟩)) ?_
 refine kd (d := some 18) (f := 90) (args := #[.pointer (some ⟨b1, 0, none⟩), .pointer (some ⟨b1, 0, none⟩), .pointer (some ⟨b1, 64, none⟩)]) (sqMul H1.drew (i := 0) rfl (k1 := 0) rfl (Nat.lt_of_lt_of_eq (by decide : 0 < 5) rfl) (H1.drew.atz 0 0 rfl rfl rfl) (H1.drew.atz 0 2 rfl rfl rfl) (z := X * (Z.inv)) rfl) (fun _ w2 q2 => ⟨.tuple #[], q2.1, trivial, ?_⟩)
 have u2 := q2.2
 clear q2
 have H2 : Sto w [(b1, flat [X * (Z.inv), Y, Z.inv, Ta, Tb])] w2 := u2
 clear u2 H1
 refine k_end ?_
 go_simp
 go_upto_region 2 with (fail)
 refine wrA (opsAt Tryd.f99 2) ((true, 0) :: (true, 1) :: (true, 2) :: (true, 3) :: (true, 4) :: (true, 5) :: (true, 6) :: (true, 7) :: (true, 8) :: (false, 9) :: []) (fun _ => True) trivial ?_
 refine kp (d := some 19) (v := .pointer (some ⟨b1, 0, none⟩)) ?_
 refine kp (d := some 20) (v := .pointer (some ⟨b1, 0, none⟩)) ?_
 refine kp (d := some 21) (v := .pointer (some ⟨b1, 32, none⟩)) ?_
 refine kp (d := some 22) (v := .pointer (some ⟨b1, 0, none⟩)) ?_
 refine kp (d := some 23) (v := .pointer (some ⟨b1, 0, none⟩)) ?_
 refine kp (d := some 24) (v := .pointer (some ⟨b1, 32, none⟩)) ?_
 refine kp (d := some 25) (v := .pointer (some ⟨b1, 0, none⟩)) ?_
 refine kp (d := some 26) (v := .pointer (some ⟨b1, 0, none⟩)) ?_
 refine kp (d := some 27) (v := .pointer (some ⟨b1, 64, none⟩)) ?_
 refine kd (d := some 28) (f := 90) (args := #[.pointer (some ⟨b1, 32, none⟩), .pointer (some ⟨b1, 32, none⟩), .pointer (some ⟨b1, 64, none⟩)]) (sqMul H2.drew (i := 0) rfl (k1 := 1) rfl (Nat.lt_of_lt_of_eq (by decide : 1 < 5) rfl) (H2.drew.atz 0 1 rfl rfl rfl) (H2.drew.atz 0 2 rfl rfl rfl) (z := Y * (Z.inv)) rfl) (fun _ w3 q3 => ⟨.tuple #[], q3.1, trivial, ?_⟩)
 have u3 := q3.2
 clear q3
 have H3 : Sto w [(b1, flat [X * (Z.inv), Y * (Z.inv), Z.inv, Ta, Tb])] w3 := u3
 clear u3 H2
 refine k_end ?_
 go_simp
 go_upto_region 3 with (fail)
 refine wrA (opsAt Tryd.f99 3) ((true, 0) :: (true, 1) :: (true, 2) :: (true, 3) :: (true, 4) :: (true, 5) :: (true, 6) :: (true, 7) :: (true, 8) :: (false, 9) :: []) (fun _ => True) trivial ?_
 refine kp (d := some 29) (v := .pointer (some ⟨b1, 0, none⟩)) ?_
 refine kp (d := some 30) (v := .pointer (some ⟨b1, 0, none⟩)) ?_
 refine kp (d := some 31) (v := .pointer (some ⟨b1, 96, none⟩)) ?_
 refine kp (d := some 32) (v := .pointer (some ⟨b1, 0, none⟩)) ?_
 refine kp (d := some 33) (v := .pointer (some ⟨b1, 0, none⟩)) ?_
 refine kp (d := some 34) (v := .pointer (some ⟨b1, 0, none⟩)) ?_
 refine kp (d := some 35) (v := .pointer (some ⟨b1, 0, none⟩)) ?_
 refine kp (d := some 36) (v := .pointer (some ⟨b1, 0, none⟩)) ?_
 refine kp (d := some 37) (v := .pointer (some ⟨b1, 32, none⟩)) ?_
 refine kd (d := some 38) (f := 90) (args := #[.pointer (some ⟨b1, 96, none⟩), .pointer (some ⟨b1, 0, none⟩), .pointer (some ⟨b1, 32, none⟩)]) (sqMul H3.drew (i := 0) rfl (k1 := 3) rfl (Nat.lt_of_lt_of_eq (by decide : 3 < 5) rfl) (H3.drew.atz 0 0 rfl rfl rfl) (H3.drew.atz 0 1 rfl rfl rfl) (z := (X * (Z.inv)) * (Y * (Z.inv))) rfl) (fun _ w4 q4 => ⟨.tuple #[], q4.1, trivial, ?_⟩)
 have u4 := q4.2
 clear q4
 have H4 : Sto w [(b1, flat [X * (Z.inv), Y * (Z.inv), Z.inv, (X * (Z.inv)) * (Y * (Z.inv)), Tb])] w4 := u4
 clear u4 H3
 refine k_end ?_
 go_simp
 go_upto_region 4 with (fail)
 refine wsA (opsAt Tryd.f99 4) ((true, 0) :: (true, 1) :: (true, 2) :: (false, 3) :: []) (fun _ => True) trivial ?_
 refine kp (d := some 39) (v := .pointer (some ⟨b1, 0, none⟩)) ?_
 refine kp (d := some 40) (v := .pointer (some ⟨b1, 0, none⟩)) ?_
 refine kp (d := some 41) (v := .pointer (some ⟨b1, 128, none⟩)) ?_
 refine kd (d := some 42) (f := 88) (args := #[.pointer (some ⟨b1, 128, none⟩)]) (sqSet1 H4 (i := 0) rfl (k1 := 4) rfl (Nat.lt_of_lt_of_eq (by decide : 4 < 5) rfl)) (fun _ w5 q5 => ⟨.tuple #[], q5.1, trivial, ?_⟩)
 have u5 := q5.2
 clear q5
 have H5 : Sto w [(b1, flat [X * (Z.inv), Y * (Z.inv), Z.inv, (X * (Z.inv)) * (Y * (Z.inv)), 1])] w5 := u5
 clear u5 H4
 refine k_end ?_
 go_simp
 go_upto_region 5 with (fail)
 refine wsA (opsAt Tryd.f99 5) ((true, 0) :: (true, 1) :: (true, 2) :: (false, 3) :: []) (fun _ => True) trivial ?_
 refine kp (d := some 43) (v := .pointer (some ⟨b1, 0, none⟩)) ?_
 refine kp (d := some 44) (v := .pointer (some ⟨b1, 0, none⟩)) ?_
 refine kp (d := some 45) (v := .pointer (some ⟨b1, 64, none⟩)) ?_
 refine kd (d := some 46) (f := 88) (args := #[.pointer (some ⟨b1, 64, none⟩)]) (sqSet1 H5 (i := 0) rfl (k1 := 2) rfl (Nat.lt_of_lt_of_eq (by decide : 2 < 5) rfl)) (fun _ w6 q6 => ⟨.tuple #[], q6.1, trivial, ?_⟩)
 have u6 := q6.2
 clear q6
 have H6 : Sto w [(b1, flat [X * (Z.inv), Y * (Z.inv), 1, (X * (Z.inv)) * (Y * (Z.inv)), 1])] w6 := u6
 clear u6 H5
 refine k_end ?_
 go_simp
 have HF := Lib.hid H6
 clear H6
 go_wp2_with fail
 go_end0
 exact ⟨rfl, HF.out.end1 ts0⟩
set_option maxRecDepth 100000 in
set_option maxHeartbeats 1000000 in
theorem fromR1 {v0 v1 : Zq} (hm : ModW w) (hg : 5 ≤ b1) (hg2 : 5 ≤ b2) (hne : b1 ≠ b2) (h1 : FpsZ w b1 (flat [v0, v1])) (h2 : FpsZ w b2 (flat [X, Y, Z, Ta, Tb])) :
   Calls Tryd.prog 79 #[.pointer (some ⟨b1, 0, none⟩), .pointer (some ⟨b2, 0, none⟩)] w fun e w' => e = .returned (.tuple #[]) ∧ Sto w [(b1, flat [X * (Z.inv), Y * (Z.inv)]), (b2, flat [X * (Z.inv), Y * (Z.inv), 1, (X * (Z.inv)) * (Y * (Z.inv)), 1])] w' := by
 go_enter Tryd.func79, Tryd.ntmps79
 go_upto_region 0 with (fail)
 have H0 : Sto w [(b1, flat [v0, v1]), (b2, flat [X, Y, Z, Ta, Tb])] w := (Sto.two h1 h2 hne)
 refine wsA (opsAt Tryd.f79 0) ((true, 0) :: (false, 1) :: []) (fun _ => True) trivial ?_
 refine kp (d := some 4) (v := .pointer (some ⟨b2, 0, none⟩)) ?_
 refine kd (d := some 5) (f := 99) (args := #[.pointer (some ⟨b2, 0, none⟩)]) (up1 H0 (i := 1) rfl (toAffine (hm.sto H0 (ksC (Nat.ne_of_gt (Nat.lt_of_lt_of_le (by decide) hg)) (ksC (Nat.ne_of_gt (Nat.lt_of_lt_of_le (by decide) hg2)) ks0))) hg2 (H0.blk 1 _ _ rfl))) (fun _ w1 q1 => ⟨.tuple #[], q1.1, trivial, ?_⟩)
 have u1 := q1.2
 clear q1
 have H1 : Sto w [(b1, flat [v0, v1]), (b2, flat [X * (Z.inv), Y * (Z.inv), 1, (X * (Z.inv)) * (Y * (Z.inv)), 1])] w1 := u1
 clear u1 H0
 refine k_end ?_
 go_simp
 go_upto_region 1 with (fail)
 refine wsA (opsAt Tryd.f79 1) ((true, 0) :: (true, 1) :: (true, 2) :: (true, 3) :: (false, 4) :: (true, 5) :: (true, 6) :: (false, 7) :: []) (fun _ => True) trivial ?_
 refine kp (d := some 6) (v := .pointer (some ⟨b1, 0, none⟩)) ?_
 refine kp (d := some 7) (v := .pointer (some ⟨b2, 0, none⟩)) ?_
 refine kp (d := some 8) (v := .pointer (some ⟨b2, 0, none⟩)) ?_
 refine kp (d := some 9) (v := .pointer (some ⟨b2, 0, none⟩)) ?_
 refine k_loadZ (by kernel_rfl) (d := (some 10)) (by kernel_rfl) (ty := 83) (x := (.tmp 9)) (by kernel_rfl) (b := b2) (o := 0) (z := X * (Z.inv)) (by kernel_rfl) (H1.atz 1 0 rfl rfl rfl) Tryd.underlying83 rfl (by kernel_rfl) trivial (fun x2 y2 lx2 ly2 zx2 zy2 => ?_)
 refine kp (d := some 11) (v := .pointer (some ⟨b1, 0, none⟩)) ?_
 refine kp (d := some 12) (v := .pointer (some ⟨b1, 0, none⟩)) ?_
 refine k_storeZ (by kernel_rfl) (d := none) (by kernel_rfl) (ty := 83) (x := (.tmp 12)) (y := (.tmp 10)) (by kernel_rfl) (b := b1) (o := 0) (k := 2 * 0) (u := x2) (v := y2) (by kernel_rfl) (by kernel_rfl) (H1.blk 0 _ _ rfl) (k2 rfl) (flat_lt (Nat.lt_of_lt_of_eq (by decide : 0 < 2) rfl)) lx2 ly2 zx2 zy2 (by kernel_rfl) (fun w3 u3 => ⟨trivial, ?_⟩)
 have u3 := H1.upd (i := 0) rfl u3
 rw [flat_set] at u3
 have H2 : Sto w [(b1, flat [X * (Z.inv), v1]), (b2, flat [X * (Z.inv), Y * (Z.inv), 1, (X * (Z.inv)) * (Y * (Z.inv)), 1])] w3 := u3
 clear u3 H1
 clear zx2 zy2
 refine k_end ?_
 go_simp
 go_upto_region 2 with (fail)
 refine wsA (opsAt Tryd.f79 2) ((true, 0) :: (true, 1) :: (true, 2) :: (true, 3) :: (false, 4) :: (true, 5) :: (true, 6) :: (false, 7) :: []) (fun _ => True) trivial ?_
 refine kp (d := some 13) (v := .pointer (some ⟨b1, 0, none⟩)) ?_
 refine kp (d := some 14) (v := .pointer (some ⟨b2, 0, none⟩)) ?_
 refine kp (d := some 15) (v := .pointer (some ⟨b2, 0, none⟩)) ?_
 refine kp (d := some 16) (v := .pointer (some ⟨b2, 32, none⟩)) ?_
 refine k_loadZ (by kernel_rfl) (d := (some 17)) (by kernel_rfl) (ty := 83) (x := (.tmp 16)) (by kernel_rfl) (b := b2) (o := 32) (z := Y * (Z.inv)) (by kernel_rfl) (H2.atz 1 1 rfl rfl rfl) Tryd.underlying83 rfl (by kernel_rfl) trivial (fun x4 y4 lx4 ly4 zx4 zy4 => ?_)
 refine kp (d := some 18) (v := .pointer (some ⟨b1, 0, none⟩)) ?_
 refine kp (d := some 19) (v := .pointer (some ⟨b1, 32, none⟩)) ?_
 refine k_storeZ (by kernel_rfl) (d := none) (by kernel_rfl) (ty := 83) (x := (.tmp 19)) (y := (.tmp 17)) (by kernel_rfl) (b := b1) (o := 32) (k := 2 * 1) (u := x4) (v := y4) (by kernel_rfl) (by kernel_rfl) (H2.blk 0 _ _ rfl) (k2 rfl) (flat_lt (Nat.lt_of_lt_of_eq (by decide : 1 < 2) rfl)) lx4 ly4 zx4 zy4 (by kernel_rfl) (fun w5 u5 => ⟨trivial, ?_⟩)
 have u5 := H2.upd (i := 0) rfl u5
 rw [flat_set] at u5
 have H3 : Sto w [(b1, flat [X * (Z.inv), Y * (Z.inv)]), (b2, flat [X * (Z.inv), Y * (Z.inv), 1, (X * (Z.inv)) * (Y * (Z.inv)), 1])] w5 := u5
 clear u5 H2
 clear zx4 zy4
 refine k_end ?_
 go_simp
 have HF := Lib.hid H3
 clear H3
 go_wp2_with fail
 go_end0
 exact ⟨rfl, HF.out⟩
set_option maxRecDepth 100000 in
set_option maxHeartbeats 1000000 in
theorem fromR1to2 (hg : 5 ≤ b1) (hd : AtZ w 0 0 dd) (h1 : FpsZ w b1 (flat L1)) (ha : AtL w b2 0 [X, Y, Z, Ta, Tb]) (hne : b2 ≠ b1) (e1 : o1 = 32 * k1) (i1 : k1 + 3 < L1.length) :
   Calls Tryd.prog 80 #[.pointer (some ⟨b1, o1, none⟩), .pointer (some ⟨b2, 0, none⟩)] w fun e w' => e = .returned (.tuple #[]) ∧ UpdZ w w' b1 (flat ((((((L1.set k1 (Y + X)).set (k1 + 1) (Y - X)).set (k1 + 3) (Z + Z)).set (k1 + 2) (Ta * Tb)).set (k1 + 2) ((Ta * Tb) * dd)).set (k1 + 2) (((Ta * Tb) * dd) + ((Ta * Tb) * dd)))) := by
 have E1 := Lib.hid e1
 have I1 := Lib.hid i1
 have HA := Lib.hid ha
 clear e1 i1 ha
 go_enter Tryd.func80, Tryd.ntmps80
 go_upto_region 0 with (fail)
 have HB2 := HA.out.lt
 have HG0 := hd.q.fst.lt
 have HB1 := h1.lt
 have H0 : Sto w [(b1, flat L1)] w := (Sto.one h1)
 refine wrA (opsAt Tryd.f80 0) ((true, 0) :: (true, 1) :: (true, 2) :: (true, 3) :: (true, 4) :: (true, 5) :: (true, 6) :: (true, 7) :: (true, 8) :: (true, 9) :: (false, 10) :: []) (fun _ => True) trivial ?_
 refine kp (d := some 5) (v := .pointer (some ⟨b1, o1, none⟩)) ?_
 refine kp (d := some 6) (v := .pointer (some ⟨b1, o1, none⟩)) ?_
 refine kp (d := some 7) (v := .pointer (some ⟨b1, o1, none⟩)) ?_
 refine kp (d := some 8) (v := .pointer (some ⟨b1, o1, none⟩)) ?_
 refine kp (d := some 9) (v := .pointer (some ⟨b2, 0, none⟩)) ?_
 refine kp (d := some 10) (v := .pointer (some ⟨b2, 0, none⟩)) ?_
 refine kp (d := some 11) (v := .pointer (some ⟨b2, 32, none⟩)) ?_
 refine kp (d := some 12) (v := .pointer (some ⟨b2, 0, none⟩)) ?_
 refine kp (d := some 13) (v := .pointer (some ⟨b2, 0, none⟩)) ?_
 refine kp (d := some 14) (v := .pointer (some ⟨b2, 0, none⟩)) ?_
 refine kd (d := some 15) (f := 92) (args := #[.pointer (some ⟨b1, o1, none⟩), .pointer (some ⟨b2, 32, none⟩), .pointer (some ⟨b2, 0, none⟩)]) (sqAdd H0.drew (i := 0) rfl (k1 := k1) E1.out (by have := I1.out; first | omega | (simp only [List.length_set]; omega)) ((HA.out.get0 1 rfl).sto H0.drew (ksC (Ne.symm hne) ks0)) ((HA.out.get0 0 rfl).sto H0.drew (ksC (Ne.symm hne) ks0)) (z := Y + X) rfl) (fun _ w1 q1 => ⟨.tuple #[], q1.1, trivial, ?_⟩)
 have u1 := q1.2
 clear q1
 have H1 : Sto w [(b1, flat (L1.set k1 (Y + X)))] w1 := u1
 clear u1 H0
 refine k_end ?_
 go_simp
 go_upto_region 1 with (fail)
 refine wrA (opsAt Tryd.f80 1) ((true, 0) :: (true, 1) :: (true, 2) :: (true, 3) :: (true, 4) :: (true, 5) :: (true, 6) :: (true, 7) :: (true, 8) :: (true, 9) :: (false, 10) :: []) (fun _ => True) trivial ?_
 refine kp (d := some 16) (v := .pointer (some ⟨b1, o1, none⟩)) ?_
 refine kp (d := some 17) (v := .pointer (some ⟨b1, o1, none⟩)) ?_
 refine kp (d := some 18) (v := .pointer (some ⟨b1, o1, none⟩)) ?_
 refine kp (d := some 19) (v := .pointer (some ⟨b1, o1 + 32, none⟩)) ?_
 refine kp (d := some 20) (v := .pointer (some ⟨b2, 0, none⟩)) ?_
 refine kp (d := some 21) (v := .pointer (some ⟨b2, 0, none⟩)) ?_
 refine kp (d := some 22) (v := .pointer (some ⟨b2, 32, none⟩)) ?_
 refine kp (d := some 23) (v := .pointer (some ⟨b2, 0, none⟩)) ?_
 refine kp (d := some 24) (v := .pointer (some ⟨b2, 0, none⟩)) ?_
 refine kp (d := some 25) (v := .pointer (some ⟨b2, 0, none⟩)) ?_
 refine kd (d := some 26) (f := 91) (args := #[.pointer (some ⟨b1, o1 + 32, none⟩), .pointer (some ⟨b2, 32, none⟩), .pointer (some ⟨b2, 0, none⟩)]) (sqSub H1.drew (i := 0) rfl (k1 := (k1 + 1)) (by have := E1.out; omega) (by have := I1.out; first | omega | (simp only [List.length_set]; omega)) ((HA.out.get0 1 rfl).sto H1.drew (ksC (Ne.symm hne) ks0)) ((HA.out.get0 0 rfl).sto H1.drew (ksC (Ne.symm hne) ks0)) (z := Y - X) rfl) (fun _ w2 q2 => ⟨.tuple #[], q2.1, trivial, ?_⟩)
 have u2 := q2.2
 clear q2
 have H2 : Sto w [(b1, flat ((L1.set k1 (Y + X)).set (k1 + 1) (Y - X)))] w2 := u2
 clear u2 H1
 refine k_end ?_
 go_simp
 go_upto_region 2 with (fail)
 refine wrA (opsAt Tryd.f80 2) ((true, 0) :: (true, 1) :: (true, 2) :: (true, 3) :: (true, 4) :: (true, 5) :: (true, 6) :: (true, 7) :: (true, 8) :: (false, 9) :: []) (fun _ => True) trivial ?_
 refine kp (d := some 27) (v := .pointer (some ⟨b1, o1, none⟩)) ?_
 refine kp (d := some 28) (v := .pointer (some ⟨b1, o1, none⟩)) ?_
 refine kp (d := some 29) (v := .pointer (some ⟨b1, o1 + 96, none⟩)) ?_
 refine kp (d := some 30) (v := .pointer (some ⟨b2, 0, none⟩)) ?_
 refine kp (d := some 31) (v := .pointer (some ⟨b2, 0, none⟩)) ?_
 refine kp (d := some 32) (v := .pointer (some ⟨b2, 64, none⟩)) ?_
 refine kp (d := some 33) (v := .pointer (some ⟨b2, 0, none⟩)) ?_
 refine kp (d := some 34) (v := .pointer (some ⟨b2, 0, none⟩)) ?_
 refine kp (d := some 35) (v := .pointer (some ⟨b2, 64, none⟩)) ?_
 refine kd (d := some 36) (f := 92) (args := #[.pointer (some ⟨b1, o1 + 96, none⟩), .pointer (some ⟨b2, 64, none⟩), .pointer (some ⟨b2, 64, none⟩)]) (sqAdd H2.drew (i := 0) rfl (k1 := (k1 + 3)) (by have := E1.out; omega) (by have := I1.out; first | omega | (simp only [List.length_set]; omega)) ((HA.out.get0 2 rfl).sto H2.drew (ksC (Ne.symm hne) ks0)) ((HA.out.get0 2 rfl).sto H2.drew (ksC (Ne.symm hne) ks0)) (z := Z + Z) rfl) (fun _ w3 q3 => ⟨.tuple #[], q3.1, trivial, ?_⟩)
 have u3 := q3.2
 clear q3
 have H3 : Sto w [(b1, flat (((L1.set k1 (Y + X)).set (k1 + 1) (Y - X)).set (k1 + 3) (Z + Z)))] w3 := u3
 clear u3 H2
 refine k_end ?_
 go_simp
 go_upto_region 3 with (fail)
 refine wrA (opsAt Tryd.f80 3) ((true, 0) :: (true, 1) :: (true, 2) :: (true, 3) :: (true, 4) :: (true, 5) :: (true, 6) :: (true, 7) :: (true, 8) :: (true, 9) :: (false, 10) :: []) (fun _ => True) trivial ?_
 refine kp (d := some 37) (v := .pointer (some ⟨b1, o1, none⟩)) ?_
 refine kp (d := some 38) (v := .pointer (some ⟨b1, o1, none⟩)) ?_
 refine kp (d := some 39) (v := .pointer (some ⟨b1, o1, none⟩)) ?_
 refine kp (d := some 40) (v := .pointer (some ⟨b1, o1 + 64, none⟩)) ?_
 refine kp (d := some 41) (v := .pointer (some ⟨b2, 0, none⟩)) ?_
 refine kp (d := some 42) (v := .pointer (some ⟨b2, 0, none⟩)) ?_
 refine kp (d := some 43) (v := .pointer (some ⟨b2, 96, none⟩)) ?_
 refine kp (d := some 44) (v := .pointer (some ⟨b2, 0, none⟩)) ?_
 refine kp (d := some 45) (v := .pointer (some ⟨b2, 0, none⟩)) ?_
 refine kp (d := some 46) (v := .pointer (some ⟨b2, 128, none⟩)) ?_
 refine kd (d := some 47) (f := 90) (args := #[.pointer (some ⟨b1, o1 + 64, none⟩), .pointer (some ⟨b2, 96, none⟩), .pointer (some ⟨b2, 128, none⟩)]) (sqMul H3.drew (i := 0) rfl (k1 := (k1 + 2)) (by have := E1.out; omega) (by have := I1.out; first | omega | (simp only [List.length_set]; omega)) ((HA.out.get0 3 rfl).sto H3.drew (ksC (Ne.symm hne) ks0)) ((HA.out.get0 4 rfl).sto H3.drew (ksC (Ne.symm hne) ks0)) (z := Ta * Tb) rfl) (fun _ w4 q4 => ⟨.tuple #[], q4.1, trivial, ?_⟩)
 have u4 := q4.2
 clear q4
 have H4 : Sto w [(b1, flat ((((L1.set k1 (Y + X)).set (k1 + 1) (Y - X)).set (k1 + 3) (Z + Z)).set (k1 + 2) (Ta * Tb)))] w4 := u4
 clear u4 H3
 refine k_end ?_
 go_simp
 go_upto_region 4 with (fail)
 refine wsA (opsAt Tryd.f80 4) ((false, 0) :: (false, 1) :: (false, 2) :: []) (fun _ => True) trivial ?_
 refine k_loadZ (by kernel_rfl) (d := (some 48)) (by kernel_rfl) (ty := 83) (x := (.global 0)) (by kernel_rfl) (b := 0) (o := 0) (z := dd) (by kernel_rfl) ((hd).sto H4 (ksC (by omega) ks0)) Tryd.underlying83 rfl (by kernel_rfl) trivial (fun x5 y5 lx5 ly5 zx5 zy5 => ?_)
 refine k_make (by kernel_rfl) (d := (some 4)) (by kernel_rfl) (v := .pointer (some ⟨w4.heap.size, 0, none⟩)) (w' := w4.alloc (.cells (fps (List.replicate 2 0)) 83)) (by kernel_rfl) trivial ?_
 intro w6 hw6 _
 have hge6 : w.heap.size ≤ w4.heap.size := H4.size
 have u6 : Sto w [(b1, flat ((((L1.set k1 (Y + X)).set (k1 + 1) (Y - X)).set (k1 + 3) (Z + Z)).set (k1 + 2) (Ta * Tb))), (w4.heap.size, flat [0])] w6 := by rw [hw6]; exact H4.new (l := List.replicate 2 0) rfl rfl zeroL rfl
 clear hw6
 have H5 : Sto w [(b1, flat ((((L1.set k1 (Y + X)).set (k1 + 1) (Y - X)).set (k1 + 3) (Z + Z)).set (k1 + 2) (Ta * Tb))), (w4.heap.size, flat [0])] w6 := u6
 clear u6 H4
 refine k_storeZ (by kernel_rfl) (d := none) (by kernel_rfl) (ty := 83) (x := (.tmp 4)) (y := (.tmp 48)) (by kernel_rfl) (b := w4.heap.size) (o := 0) (k := 2 * 0) (u := x5) (v := y5) (by kernel_rfl) (by kernel_rfl) (H5.blk 1 _ _ rfl) (k2 rfl) (flat_lt (Nat.lt_of_lt_of_eq (by decide : 0 < 1) rfl)) lx5 ly5 zx5 zy5 (by kernel_rfl) (fun w7 u7 => ⟨trivial, ?_⟩)
 have u7 := H5.upd (i := 1) rfl u7
 rw [flat_set] at u7
 have H6 : Sto w [(b1, flat ((((L1.set k1 (Y + X)).set (k1 + 1) (Y - X)).set (k1 + 3) (Z + Z)).set (k1 + 2) (Ta * Tb))), (w4.heap.size, flat [dd])] w7 := u7
 clear u7 H5
 clear zx5 zy5
 refine k_end ?_
 go_simp
 go_upto_region 5 with (fail)
 refine wrA (opsAt Tryd.f80 5) ((true, 0) :: (true, 1) :: (true, 2) :: (true, 3) :: (true, 4) :: (true, 5) :: (true, 6) :: (true, 7) :: (false, 8) :: []) (fun _ => True) trivial ?_
 refine kp (d := some 49) (v := .pointer (some ⟨b1, o1, none⟩)) ?_
 refine kp (d := some 50) (v := .pointer (some ⟨b1, o1, none⟩)) ?_
 refine kp (d := some 51) (v := .pointer (some ⟨b1, o1, none⟩)) ?_
 refine kp (d := some 52) (v := .pointer (some ⟨b1, o1 + 64, none⟩)) ?_
 refine kp (d := some 53) (v := .pointer (some ⟨b1, o1, none⟩)) ?_
 refine kp (d := some 54) (v := .pointer (some ⟨b1, o1, none⟩)) ?_
 refine kp (d := some 55) (v := .pointer (some ⟨b1, o1, none⟩)) ?_
 refine kp (d := some 56) (v := .pointer (some ⟨b1, o1 + 64, none⟩)) ?_
 refine kd (d := some 57) (f := 90) (args := #[.pointer (some ⟨b1, o1 + 64, none⟩), .pointer (some ⟨b1, o1 + 64, none⟩), .pointer (some ⟨w4.heap.size, 0, none⟩)]) (sqMul H6.drew (i := 0) rfl (k1 := (k1 + 2)) (by have := E1.out; omega) (by have := I1.out; first | omega | (simp only [List.length_set]; omega)) (H6.drew.atz 0 (k1 + 2) rfl (List.getElem?_set_self (by have := I1.out; first | omega | (simp only [List.length_set]; omega))) (by have := E1.out; omega)) (H6.drew.atz 1 0 rfl rfl rfl) (z := (Ta * Tb) * dd) rfl) (fun _ w8 q8 => ⟨.tuple #[], q8.1, trivial, ?_⟩)
 have u8 := q8.2
 clear q8
 have H7 : Sto w [(b1, flat (((((L1.set k1 (Y + X)).set (k1 + 1) (Y - X)).set (k1 + 3) (Z + Z)).set (k1 + 2) (Ta * Tb)).set (k1 + 2) ((Ta * Tb) * dd))), (w4.heap.size, flat [dd])] w8 := u8
 clear u8 H6
 refine k_end ?_
 go_simp
 go_upto_region 6 with (fail)
 refine wrA (opsAt Tryd.f80 6) ((true, 0) :: (true, 1) :: (true, 2) :: (true, 3) :: (true, 4) :: (true, 5) :: (true, 6) :: (true, 7) :: (true, 8) :: (true, 9) :: (true, 10) :: (true, 11) :: (false, 12) :: []) (fun _ => True) trivial ?_
 refine kp (d := some 58) (v := .pointer (some ⟨b1, o1, none⟩)) ?_
 refine kp (d := some 59) (v := .pointer (some ⟨b1, o1, none⟩)) ?_
 refine kp (d := some 60) (v := .pointer (some ⟨b1, o1, none⟩)) ?_
 refine kp (d := some 61) (v := .pointer (some ⟨b1, o1 + 64, none⟩)) ?_
 refine kp (d := some 62) (v := .pointer (some ⟨b1, o1, none⟩)) ?_
 refine kp (d := some 63) (v := .pointer (some ⟨b1, o1, none⟩)) ?_
 refine kp (d := some 64) (v := .pointer (some ⟨b1, o1, none⟩)) ?_
 refine kp (d := some 65) (v := .pointer (some ⟨b1, o1 + 64, none⟩)) ?_
 refine kp (d := some 66) (v := .pointer (some ⟨b1, o1, none⟩)) ?_
 refine kp (d := some 67) (v := .pointer (some ⟨b1, o1, none⟩)) ?_
 refine kp (d := some 68) (v := .pointer (some ⟨b1, o1, none⟩)) ?_
 refine kp (d := some 69) (v := .pointer (some ⟨b1, o1 + 64, none⟩)) ?_
 refine kd (d := some 70) (f := 92) (args := #[.pointer (some ⟨b1, o1 + 64, none⟩), .pointer (some ⟨b1, o1 + 64, none⟩), .pointer (some ⟨b1, o1 + 64, none⟩)]) (sqAdd H7.drew (i := 0) rfl (k1 := (k1 + 2)) (by have := E1.out; omega) (by have := I1.out; first | omega | (simp only [List.length_set]; omega)) (H7.drew.atz 0 (k1 + 2) rfl (List.getElem?_set_self (by have := I1.out; first | omega | (simp only [List.length_set]; omega))) (by have := E1.out; omega)) (H7.drew.atz 0 (k1 + 2) rfl (List.getElem?_set_self (by have := I1.out; first | omega | (simp only [List.length_set]; omega))) (by have := E1.out; omega)) (z := ((Ta * Tb) * dd) + ((Ta * Tb) * dd)) rfl) (fun _ w9 q9 => ⟨.tuple #[], q9.1, trivial, ?_⟩)
 have u9 := q9.2
 clear q9
 have H8 : Sto w [(b1, flat ((((((L1.set k1 (Y + X)).set (k1 + 1) (Y - X)).set (k1 + 3) (Z + Z)).set (k1 + 2) (Ta * Tb)).set (k1 + 2) ((Ta * Tb) * dd)).set (k1 + 2) (((Ta * Tb) * dd) + ((Ta * Tb) * dd)))), (w4.heap.size, flat [dd])] w9 := u9
 clear u9 H7
 refine k_end ?_
 go_simp
 have HF := Lib.hid H8
 clear H8
 go_wp2_with fail
 go_end0
 exact ⟨rfl, HF.out.end1 (tsC (by omega) ts0)⟩
end
end Go.Proofs.YtfkfljohhabldaaDoor
namespace Go.FourQ
open Go.RowKit
/-- Five elements that stand for a point; four. -/
def R1L (p : Pt) (L : List Zq) : Prop := ∃ X Y Z Ta Tb, L = [X, Y, Z, Ta, Tb] ∧ Rep1 p X Y Z Ta Tb
def R2L (p : Pt) (L : List Zq) : Prop := ∃ A B D W, L = [A, B, D, W] ∧ Rep2 p A B D W
theorem len4 {L : List Zq} (h : L.length = 4) : ∃ a b c d, L = [a, b, c, d] := by
 match L, h with
 | [a, b, c, d], _ => exact ⟨a, b, c, d, rfl⟩
theorem len5 {L : List Zq} (h : L.length = 5) : ∃ a b c d e, L = [a, b, c, d, e] := by
 match L, h with
 | [a, b, c, d, e], _ => exact ⟨a, b, c, d, e, rfl⟩
/-- Four elements from the k-th on. -/
def set4 (L : List Zq) (k : Nat) (a b c d : Zq) : List Zq := (((L.set k a).set (k + 1) b).set (k + 2) c).set (k + 3) d
theorem set4_of (L : List Zq) (k : Nat) (a b c d c' c'' : Zq) : (((((L.set k a).set (k + 1) b).set (k + 3) d).set (k + 2) c').set (k + 2) c'').set (k + 2) c = set4 L k a b c d := by
 unfold set4
 rw [List.set_set, List.set_set, List.set_comm _ _ (by omega : k + 3 ≠ k + 2)]
section
variable {w wr w' : World} {s : List (Nat × List Zp)} {i j b c : Nat}
theorem upE {P : Program} {f : FuncId} {args : Array Value} {v : Value} {l : List Zp} {φ : List Zq → Prop} (h : Sto w s wr) (hi : s[i]? = some (b, l)) (C : Calls P f args wr fun e w' => e = .returned v ∧ ∃ L, φ L ∧ UpdZ wr w' b (flat L)) :
   Calls P f args wr fun e w' => e = .returned v ∧ ∃ L, φ L ∧ Sto w (s.set i (b, flat L)) w' := C.mono fun _ _ q => ⟨q.1, by obtain ⟨L, hL, u⟩ := q.2; exact ⟨L, hL, h.upd hi u⟩⟩
theorem up2E {P : Program} {f : FuncId} {args : Array Value} {v : Value} {l m M : List Zp} {φ : List Zq → Prop} (h : Sto w s wr) (hi : s[i]? = some (b, l)) (hj : s[j]? = some (c, m)) (hij : i ≠ j) (C : Calls P f args wr fun e w' => e = .returned v ∧ ∃ L, φ L ∧ Sto wr [(b, M), (c, flat L)] w') :
   Calls P f args wr fun e w' => e = .returned v ∧ ∃ L, φ L ∧ Sto w ((s.set i (b, M)).set j (c, flat L)) w' := C.mono fun _ _ q => ⟨q.1, by obtain ⟨L, hL, u⟩ := q.2; exact ⟨L, hL, h.upd2 hi hj hij u⟩⟩
end
end Go.FourQ
namespace Go.Proofs.YtfkfljohhabldaaDoor
open Go.RowKit Go.FourQ
section
variable {w : World} {b1 b2 b3 o1 o2 o3 k1 : Nat} {L M : List Zq} {p q : Pt}
theorem ptDouble (h1 : FpsZ w b1 (flat L)) (hp : R1L p L) : Calls Tryd.prog 119 #[.pointer (some ⟨b1, 0, none⟩)] w fun e w' => e = .returned (.tuple #[]) ∧ ∃ L', R1L (p + p) L' ∧ UpdZ w w' b1 (flat L') := by
 obtain ⟨X, Y, Z, Ta, Tb, rfl, h⟩ := hp
 exact (double h1).mono fun _ _ q => ⟨q.1, _, ⟨_, _, _, _, _, rfl, rep_double h⟩, q.2⟩
theorem ptAdd (h1 : FpsZ w b1 (flat L)) (hp : R1L p L) (h2 : AtL w b2 o2 M) (hq : R2L q M) (hne : b2 ≠ b1) : Calls Tryd.prog 81 #[.pointer (some ⟨b1, 0, none⟩), .pointer (some ⟨b2, o2, none⟩)] w fun e w' => e = .returned (.tuple #[]) ∧ ∃ L', R1L (p + q) L' ∧ UpdZ w w' b1 (flat L') := by
 obtain ⟨X, Y, Z, Ta, Tb, rfl, h⟩ := hp
 obtain ⟨A, B, D, W, rfl, g⟩ := hq
 exact (addR h1 h2 hne).mono fun _ _ q => ⟨q.1, _, ⟨_, _, _, _, _, rfl, rep_add h g⟩, q.2⟩
theorem ptTo2g {k1 : Nat} (hg : 5 ≤ b1) (hd : AtZ w 0 0 dd) (h1 : FpsZ w b1 (flat M)) (e1 : o1 = 32 * k1) (i1 : k1 + 3 < M.length) (h2 : AtL w b2 0 L) (hp : R1L p L) (hne : b2 ≠ b1) : Calls Tryd.prog 80 #[.pointer (some ⟨b1, o1, none⟩), .pointer (some ⟨b2, 0, none⟩)] w fun e w' => e = .returned (.tuple #[]) ∧ ∃ A B D W, Rep2 p A B D W ∧ UpdZ w w' b1 (flat (set4 M k1 A B D W)) := by
 obtain ⟨X, Y, Z, Ta, Tb, rfl, h⟩ := hp
 refine (fromR1to2 hg hd h1 h2 hne e1 i1).mono fun _ _ q => ⟨q.1, _, _, _, _, rep_fromR1 h, ?_⟩
 rw [← set4_of]
 exact q.2
theorem ptTo2 (hg : 5 ≤ b1) (hd : AtZ w 0 0 dd) (h1 : FpsZ w b1 (flat M)) (hl : M.length = 4) (h2 : AtL w b2 0 L) (hp : R1L p L) (hne : b2 ≠ b1) : Calls Tryd.prog 80 #[.pointer (some ⟨b1, 0, none⟩), .pointer (some ⟨b2, 0, none⟩)] w fun e w' => e = .returned (.tuple #[]) ∧ ∃ M', R2L p M' ∧ UpdZ w w' b1 (flat M') := by
 obtain ⟨a, b, c, d, rfl⟩ := len4 hl
 exact (ptTo2g (k1 := 0) hg hd h1 rfl (by simp) h2 hp hne).mono fun _ _ q => ⟨q.1, by obtain ⟨A, B, D, W, hr, u⟩ := q.2; exact ⟨_, ⟨_, _, _, _, rfl, hr⟩, u⟩⟩
theorem ptToR1 (h1 : FpsZ w b1 (flat L)) (hl : L.length = 5) (ha : AtL w b2 0 [p.x, p.y]) (hne : b2 ≠ b1) : Calls Tryd.prog 76 #[.pointer (some ⟨b2, 0, none⟩), .pointer (some ⟨b1, 0, none⟩)] w fun e w' => e = .returned (.tuple #[]) ∧ ∃ L', R1L p L' ∧ UpdZ w w' b1 (flat L') := by
 obtain ⟨a, b, c, d, e, rfl⟩ := len5 hl
 exact (toR1 h1 ha hne).mono fun _ _ q => ⟨q.1, _, ⟨_, _, _, _, _, rfl, rep_toR1 p⟩, q.2⟩
theorem ptCopy (h1 : FpsZ w b1 (flat L)) (hl : L.length = 5) (ha : AtL w b2 0 M) (hp : R1L p M) (hne : b2 ≠ b1) : Calls Tryd.prog 137 #[.pointer (some ⟨b1, 0, none⟩), .pointer (some ⟨b2, 0, none⟩)] w fun e w' => e = .returned (.tuple #[]) ∧ ∃ L', R1L p L' ∧ UpdZ w w' b1 (flat L') := by
 obtain ⟨a, b, c, d, e, rfl⟩ := len5 hl
 obtain ⟨X, Y, Z, Ta, Tb, rfl, h⟩ := hp
 exact (copyR1 h1 ha hne).mono fun _ _ q => ⟨q.1, _, ⟨_, _, _, _, _, rfl, h⟩, q.2⟩
theorem ptSetId (h1 : FpsZ w b1 (flat L)) (hl : L.length = 5) : Calls Tryd.prog 78 #[.pointer (some ⟨b1, 0, none⟩)] w fun e w' => e = .returned (.tuple #[]) ∧ ∃ L', R1L Pt.zero L' ∧ UpdZ w w' b1 (flat L') := by
 obtain ⟨a, b, c, d, e, rfl⟩ := len5 hl
 exact (setIdR1 h1).mono fun _ _ q => ⟨q.1, _, ⟨_, _, _, _, _, rfl, rep_zero⟩, q.2⟩
theorem ptFromR1 {v0 v1 : Zq} (hm : ModW w) (hg : 5 ≤ b1) (hg2 : 5 ≤ b2) (hne : b1 ≠ b2) (h1 : FpsZ w b1 (flat [v0, v1])) (h2 : FpsZ w b2 (flat L)) (hp : R1L p L) : Calls Tryd.prog 79 #[.pointer (some ⟨b1, 0, none⟩), .pointer (some ⟨b2, 0, none⟩)] w fun e w' => e = .returned (.tuple #[]) ∧ ∃ L', L'.length = 5 ∧ Sto w [(b1, flat [p.x, p.y]), (b2, flat L')] w' := by
 obtain ⟨X, Y, Z, Ta, Tb, rfl, h⟩ := hp
 have ha := rep_affine h
 refine (fromR1 hm hg hg2 hne h1 h2).mono fun _ _ q => ⟨q.1, [X * Z.inv, Y * Z.inv, 1, X * Z.inv * (Y * Z.inv), 1], rfl, ?_⟩
 have u := q.2
 rw [ha.1, ha.2] at u ⊢
 exact u
theorem two_pt (p : Pt) : p + p = Pt.mul 2 p := by rw [show (2 : Nat) = 1 + 1 from rfl, mul_add_pt, mul_one_pt]
theorem dbl_mul (n : Nat) (p : Pt) : Pt.mul n p + Pt.mul n p = Pt.mul (2 * n) p := by rw [Nat.two_mul, mul_add_pt]
theorem add_mul1 (n : Nat) (p : Pt) : Pt.mul n p + p = Pt.mul (n + 1) p := rfl
/-- The steps to 392. -/
theorem clear_392 {L : List Zq} {p1 p2 p3 p4 p5 p6 p7 p8 p9 p10 : Pt} (h1 : p1 = p + p) (h2 : p2 = p1 + p) (h3 : p3 = p2 + p2) (h4 : p4 = p3 + p3) (h5 : p5 = p4 + p4) (h6 : p6 = p5 + p5) (h7 : p7 = p6 + p) (h8 : p8 = p7 + p7) (h9 : p9 = p8 + p8) (h10 : p10 = p9 + p9) (h : R1L p10 L) : R1L (Pt.mul 392 p) L := by
 have e1 : p1 = Pt.mul 2 p := by rw [h1, two_pt]
 have e2 : p2 = Pt.mul 3 p := by rw [h2, e1, add_mul1]
 have e3 : p3 = Pt.mul 6 p := by rw [h3, e2, dbl_mul]
 have e4 : p4 = Pt.mul 12 p := by rw [h4, e3, dbl_mul]
 have e5 : p5 = Pt.mul 24 p := by rw [h5, e4, dbl_mul]
 have e6 : p6 = Pt.mul 48 p := by rw [h6, e5, dbl_mul]
 have e7 : p7 = Pt.mul 49 p := by rw [h7, e6, add_mul1]
 have e8 : p8 = Pt.mul 98 p := by rw [h8, e7, dbl_mul]
 have e9 : p9 = Pt.mul 196 p := by rw [h9, e8, dbl_mul]
 have e10 : p10 = Pt.mul 392 p := by rw [h10, e9, dbl_mul]
 rw [← e10]; exact h
set_option maxRecDepth 100000 in
set_option maxHeartbeats 1000000 in
theorem ptClear (hg : 5 ≤ b1) (hd : AtZ w 0 0 dd) (h1 : FpsZ w b1 (flat L)) (hp : R1L p L) :
   Calls Tryd.prog 94 #[.pointer (some ⟨b1, 0, none⟩)] w fun e w' => e = .returned (.tuple #[]) ∧ ∃ L', R1L (Pt.mul 392 p) L' ∧ UpdZ w w' b1 (flat L') := by
 go_enter Tryd.func94, Tryd.ntmps94
 go_upto_region 1 with (fail)
 have HG0 := hd.q.fst.lt
 have HB1 := h1.lt
 refine wp_gen (fun W => Sto w [(b1, flat L), (w.heap.size, flat [0, 0, 0, 0])] W) ((Sto.one h1).new (l := List.replicate 8 0) rfl (by rfl) zeroL rfl) ?_
 intro W0 H0
 obtain ⟨n, hn⟩ : ∃ n, w.heap.size = n := ⟨_, rfl⟩
 rw [hn] at H0 ⊢
 have HN : Hid (w.heap.size = n) := Lib.hid hn
 have HNL : w.heap.size ≤ n := Nat.le_of_eq hn
 clear hn
 have H0 : Sto w [(b1, flat L), (n, flat [0, 0, 0, 0])] W0 := H0
 refine wsA (opsAt Tryd.f94 1) ((true, 0) :: (false, 1) :: []) (fun _ => True) trivial ?_
 refine kp (d := some 3) (v := .pointer (some ⟨b1, 0, none⟩)) ?_
 refine kd (d := some 4) (f := 80) (args := #[.pointer (some ⟨n, 0, none⟩), .pointer (some ⟨b1, 0, none⟩)]) (upE H0 (i := 1) rfl (ptTo2 (by omega) (hd.sto H0 (ksC (Nat.ne_of_gt (Nat.lt_of_lt_of_le (by decide) hg)) (ksC (by omega) ks0))) (H0.blk 1 _ _ rfl) rfl (H0.blk 0 _ _ rfl).atL hp (H0.ne 0 1 _ _ _ _ rfl rfl (by decide)))) (fun _ w1 q1 => ⟨.tuple #[], q1.1, trivial, ?_⟩)
 obtain ⟨L1, hL1, u1⟩ := q1.2
 clear q1
 have H1 : Sto w [(b1, flat L), (n, flat L1)] w1 := u1
 clear u1 H0
 refine k_end ?_
 go_simp
 go_upto_region 2 with (fail)
 refine wsA (opsAt Tryd.f94 2) ((true, 0) :: (false, 1) :: []) (fun _ => True) trivial ?_
 refine kp (d := some 5) (v := .pointer (some ⟨b1, 0, none⟩)) ?_
 refine kd (d := some 6) (f := 119) (args := #[.pointer (some ⟨b1, 0, none⟩)]) (upE H1 (i := 0) rfl (ptDouble (H1.blk 0 _ _ rfl) hp)) (fun _ w2 q2 => ⟨.tuple #[], q2.1, trivial, ?_⟩)
 obtain ⟨L2, hL2, u2⟩ := q2.2
 clear q2
 have H2 : Sto w [(b1, flat L2), (n, flat L1)] w2 := u2
 clear u2 H1
 refine k_end ?_
 go_simp
 go_upto_region 3 with (fail)
 refine wsA (opsAt Tryd.f94 3) ((true, 0) :: (false, 1) :: []) (fun _ => True) trivial ?_
 refine kp (d := some 7) (v := .pointer (some ⟨b1, 0, none⟩)) ?_
 refine kd (d := some 8) (f := 81) (args := #[.pointer (some ⟨b1, 0, none⟩), .pointer (some ⟨n, 0, none⟩)]) (upE H2 (i := 0) rfl (ptAdd (H2.blk 0 _ _ rfl) hL2 (H2.blk 1 _ _ rfl).atL hL1 (H2.ne 1 0 _ _ _ _ rfl rfl (by decide)))) (fun _ w3 q3 => ⟨.tuple #[], q3.1, trivial, ?_⟩)
 obtain ⟨L3, hL3, u3⟩ := q3.2
 clear q3
 have H3 : Sto w [(b1, flat L3), (n, flat L1)] w3 := u3
 clear u3 H2
 refine k_end ?_
 go_simp
 go_upto_region 4 with (fail)
 refine wsA (opsAt Tryd.f94 4) ((true, 0) :: (false, 1) :: []) (fun _ => True) trivial ?_
 refine kp (d := some 9) (v := .pointer (some ⟨b1, 0, none⟩)) ?_
 refine kd (d := some 10) (f := 119) (args := #[.pointer (some ⟨b1, 0, none⟩)]) (upE H3 (i := 0) rfl (ptDouble (H3.blk 0 _ _ rfl) hL3)) (fun _ w4 q4 => ⟨.tuple #[], q4.1, trivial, ?_⟩)
 obtain ⟨L4, hL4, u4⟩ := q4.2
 clear q4
 have H4 : Sto w [(b1, flat L4), (n, flat L1)] w4 := u4
 clear u4 H3
 refine k_end ?_
 go_simp
 go_upto_region 5 with (fail)
 refine wsA (opsAt Tryd.f94 5) ((true, 0) :: (false, 1) :: []) (fun _ => True) trivial ?_
 refine kp (d := some 11) (v := .pointer (some ⟨b1, 0, none⟩)) ?_
 refine kd (d := some 12) (f := 119) (args := #[.pointer (some ⟨b1, 0, none⟩)]) (upE H4 (i := 0) rfl (ptDouble (H4.blk 0 _ _ rfl) hL4)) (fun _ w5 q5 => ⟨.tuple #[], q5.1, trivial, ?_⟩)
 obtain ⟨L5, hL5, u5⟩ := q5.2
 clear q5
 have H5 : Sto w [(b1, flat L5), (n, flat L1)] w5 := u5
 clear u5 H4
 refine k_end ?_
 go_simp
 go_upto_region 6 with (fail)
 refine wsA (opsAt Tryd.f94 6) ((true, 0) :: (false, 1) :: []) (fun _ => True) trivial ?_
 refine kp (d := some 13) (v := .pointer (some ⟨b1, 0, none⟩)) ?_
 refine kd (d := some 14) (f := 119) (args := #[.pointer (some ⟨b1, 0, none⟩)]) (upE H5 (i := 0) rfl (ptDouble (H5.blk 0 _ _ rfl) hL5)) (fun _ w6 q6 => ⟨.tuple #[], q6.1, trivial, ?_⟩)
 obtain ⟨L6, hL6, u6⟩ := q6.2
 clear q6
 have H6 : Sto w [(b1, flat L6), (n, flat L1)] w6 := u6
 clear u6 H5
 refine k_end ?_
 go_simp
 go_upto_region 7 with (fail)
 refine wsA (opsAt Tryd.f94 7) ((true, 0) :: (false, 1) :: []) (fun _ => True) trivial ?_
 refine kp (d := some 15) (v := .pointer (some ⟨b1, 0, none⟩)) ?_
 refine kd (d := some 16) (f := 119) (args := #[.pointer (some ⟨b1, 0, none⟩)]) (upE H6 (i := 0) rfl (ptDouble (H6.blk 0 _ _ rfl) hL6)) (fun _ w7 q7 => ⟨.tuple #[], q7.1, trivial, ?_⟩)
 obtain ⟨L7, hL7, u7⟩ := q7.2
 clear q7
 have H7 : Sto w [(b1, flat L7), (n, flat L1)] w7 := u7
 clear u7 H6
 refine k_end ?_
 go_simp
 go_upto_region 8 with (fail)
 refine wsA (opsAt Tryd.f94 8) ((true, 0) :: (false, 1) :: []) (fun _ => True) trivial ?_
 refine kp (d := some 17) (v := .pointer (some ⟨b1, 0, none⟩)) ?_
 refine kd (d := some 18) (f := 81) (args := #[.pointer (some ⟨b1, 0, none⟩), .pointer (some ⟨n, 0, none⟩)]) (upE H7 (i := 0) rfl (ptAdd (H7.blk 0 _ _ rfl) hL7 (H7.blk 1 _ _ rfl).atL hL1 (H7.ne 1 0 _ _ _ _ rfl rfl (by decide)))) (fun _ w8 q8 => ⟨.tuple #[], q8.1, trivial, ?_⟩)
 obtain ⟨L8, hL8, u8⟩ := q8.2
 clear q8
 have H8 : Sto w [(b1, flat L8), (n, flat L1)] w8 := u8
 clear u8 H7
 refine k_end ?_
 go_simp
 go_upto_region 9 with (fail)
 refine wsA (opsAt Tryd.f94 9) ((true, 0) :: (false, 1) :: []) (fun _ => True) trivial ?_
 refine kp (d := some 19) (v := .pointer (some ⟨b1, 0, none⟩)) ?_
 refine kd (d := some 20) (f := 119) (args := #[.pointer (some ⟨b1, 0, none⟩)]) (upE H8 (i := 0) rfl (ptDouble (H8.blk 0 _ _ rfl) hL8)) (fun _ w9 q9 => ⟨.tuple #[], q9.1, trivial, ?_⟩)
 obtain ⟨L9, hL9, u9⟩ := q9.2
 clear q9
 have H9 : Sto w [(b1, flat L9), (n, flat L1)] w9 := u9
 clear u9 H8
 refine k_end ?_
 go_simp
 go_upto_region 10 with (fail)
 refine wsA (opsAt Tryd.f94 10) ((true, 0) :: (false, 1) :: []) (fun _ => True) trivial ?_
 refine kp (d := some 21) (v := .pointer (some ⟨b1, 0, none⟩)) ?_
 refine kd (d := some 22) (f := 119) (args := #[.pointer (some ⟨b1, 0, none⟩)]) (upE H9 (i := 0) rfl (ptDouble (H9.blk 0 _ _ rfl) hL9)) (fun _ w10 q10 => ⟨.tuple #[], q10.1, trivial, ?_⟩)
 obtain ⟨L10, hL10, u10⟩ := q10.2
 clear q10
 have H10 : Sto w [(b1, flat L10), (n, flat L1)] w10 := u10
 clear u10 H9
 refine k_end ?_
 go_simp
 go_upto_region 11 with (fail)
 refine wsA (opsAt Tryd.f94 11) ((true, 0) :: (false, 1) :: []) (fun _ => True) trivial ?_
 refine kp (d := some 23) (v := .pointer (some ⟨b1, 0, none⟩)) ?_
 refine kd (d := some 24) (f := 119) (args := #[.pointer (some ⟨b1, 0, none⟩)]) (upE H10 (i := 0) rfl (ptDouble (H10.blk 0 _ _ rfl) hL10)) (fun _ w11 q11 => ⟨.tuple #[], q11.1, trivial, ?_⟩)
 obtain ⟨L11, hL11, u11⟩ := q11.2
 clear q11
 have H11 : Sto w [(b1, flat L11), (n, flat L1)] w11 := u11
 clear u11 H10
 refine k_end ?_
 go_simp
 have HF := Lib.hid H11
 clear H11
 go_wp2_with fail
 go_end0
 exact ⟨rfl, _, clear_392 rfl rfl rfl rfl rfl rfl rfl rfl rfl rfl hL11, HF.out.end1 (tsC (by omega) ts0)⟩
end
end Go.Proofs.YtfkfljohhabldaaDoor
namespace Go.FourQ
end Go.FourQ
namespace Go.Proofs.YtfkfljohhabldaaDoor
open Go.RowKit Go.FourQ
end Go.Proofs.YtfkfljohhabldaaDoor
namespace Go.FourQ
open Go.RowKit
/-- Elements by some bytes of them. -/
theorem four_list {l : List Nat} {x y : Zq} (h : l.map zp = flat [x, y]) : ∃ a b c d, l = [a, b, c, d] ∧ zp a = x.re ∧ zp b = x.im ∧ zp c = y.re ∧ zp d = y.im := by
 have hl : l.length = 4 := by have := congrArg List.length h; rwa [List.length_map, flat_length] at this
 match l, hl, h with
 | [a, b, c, d], _, h =>
   simp only [List.map, flat, List.cons.injEq, and_true] at h
   exact ⟨a, b, c, d, rfl, h.1, h.2.1, h.2.2.1, h.2.2.2⟩
theorem UpdZ.four {w w' : World} {b : Nat} {x y : Zq} (u : UpdZ w w' b (flat [x, y])) : ∃ p q r s, (LowB p ∧ LowB q ∧ LowB r ∧ LowB s) ∧ (zp p = x.re ∧ zp q = x.im ∧ zp r = y.re ∧ zp s = y.im) ∧ Upd w w' b [p, q, r, s] := by
 obtain ⟨l, hl, hm, hlow⟩ := u.blk
 obtain ⟨p, q, r, s, rfl, h1, h2, h3, h4⟩ := four_list hm
 exact ⟨p, q, r, s, ⟨hlow p (by simp), hlow q (by simp), hlow r (by simp), hlow s (by simp)⟩, ⟨h1, h2, h3, h4⟩, ⟨u.os, u.tape, u.output, u.size, hl, u.other⟩⟩
theorem low4 (x y : Zq) : ∀ v ∈ [x.re.val, x.im.val, y.re.val, y.im.val], LowB v := fun v hv => by
 simp only [List.mem_cons, List.not_mem_nil, or_false] at hv
 have lv : ∀ t : Zp, LowB t.val := fun t => Nat.lt_trans t.lt (by decide +kernel)
 rcases hv with rfl | rfl | rfl | rfl <;> exact lv _
/-- A row of canonical bytes. -/
theorem row_fps {w : World} {b : Nat} {x y : Zq} {T : TypeId} (h : w.heap[b]? = some (.cells (fps [x.re.val, x.im.val, y.re.val, y.im.val]) T (0, 0))) : FpsZ w b (flat [x, y]) := by
 have := FpsZ.ofFps ⟨T, h⟩ (low4 x y)
 rwa [show [x.re.val, x.im.val, y.re.val, y.im.val].map zp = flat [x, y] by simp only [List.map, flat, zp_val]] at this
theorem row_zero {w : World} {b : Nat} {T : TypeId} (h : w.heap[b]? = some (.cells (fps [0, 0, 0, 0]) T (0, 0))) : FpsZ w b (flat [0, 0]) :=
 FpsZ.ofFps (l := [0, 0, 0, 0]) ⟨T, h⟩ (fun v hv => by rw [show v = 0 by simpa using hv]; exact low_zero)
end Go.FourQ
namespace Go.Proofs.YtfkfljohhabldaaDoor
open Go.RowKit Go.FourQ
set_option maxRecDepth 100000 in
set_option maxHeartbeats 1000000 in
theorem made_c {w : World} {a b c d : Nat} : Calls Tryd.prog 50 #[.agg (fps [a, b, c, d])] w fun e w' => ∃ n, e = .returned (.pointer (some ⟨n, 0, none⟩)) ∧ w.heap.size ≤ n ∧ (∃ T, w'.heap[n]? = some (.cells (fps [a, b, c, d]) T (0, 0))) ∧ Below w.heap.size w w' := by
 go_enter Tryd.func50, Tryd.ntmps50
 go_upto_region 1 with (fail)
 refine wp_gen (fun WW => Kept w [(w.heap.size, (fps [a, b, c, d]))] [] WW) (Kept.zero (nb_alloc (Below.refl _ _) _) (rowsC (row_as (hp1_0 (w := w) _) (by kernel_rfl)) rows0)) ?_
 intro W0 K0
 have K1 : Kept w [(w.heap.size, (fps [a, b, c, d]))] [] W0 := Kept.mks K0.nb (rowsC (K0.at 0 rfl) rows0) rooms0
 refine wrA (opsAt Tryd.f50 1) ((true, 0) :: (true, 1) :: (true, 3) :: (true, 4) :: (false, 2) :: (false, 5) :: (true, 6) :: (false, 7) :: (true, 8) :: []) (Kept w [(w.heap.size, (fps [a, b, c, d]))] []) K1.drew ?_
 have K2 := K1.drew
 have DK2 : W0.heap.size ≤ W0.drew.heap.size := Nat.le_refl _
 refine kp (d := some 3) (v := .pointer (some ⟨w.heap.size, 0, none⟩)) ?_
 refine k_part (by kernel_rfl) (d := (some 4)) (by kernel_rfl) (ty := 33) (x := (.tmp 3)) (by kernel_rfl) (b := w.heap.size) (off := 0) (by kernel_rfl) (all := (fps [a, b, c, d])) (cs := (fps [a, b])) (fun _ hs => hs.at 0 rfl) (fpsub2 (k := 0) rfl rfl) Tryd.underlying33 rfl (by kernel_rfl) ?_
 refine kp (d := some 6) (v := .pointer (some ⟨w.heap.size, 32, none⟩)) ?_
 refine k_part (by kernel_rfl) (d := (some 7)) (by kernel_rfl) (ty := 33) (x := (.tmp 6)) (by kernel_rfl) (b := w.heap.size) (off := 32) (by kernel_rfl) (all := (fps [a, b, c, d])) (cs := (fps [c, d])) (fun _ hs => hs.at 0 rfl) (fpsub2 (k := 2) rfl rfl) Tryd.underlying33 rfl (by kernel_rfl) ?_
 refine kc (d := some 5) (f := 64) (args := #[.agg (fps [a, b])]) (v := .agg (fps [a, b])) (both_c) (fun w3 hb3 => ⟨K2.go hb3, ?_⟩)
 have K3 := K2.go hb3
 have L3 := hb3.size
 refine kc (d := some 8) (f := 64) (args := #[.agg (fps [c, d])]) (v := .agg (fps [c, d])) (both_c) (fun w4 hb4 => ⟨K3.go hb4, ?_⟩)
 have K4 := K3.go hb4
 have L4 := hb4.size
 refine kp (d := some 9) (v := .agg (fps [a, b, c, d])) ?_
 refine k_make (by kernel_rfl) (d := (some 10)) (by kernel_rfl) (v := .pointer (some ⟨w4.heap.size, 0, none⟩)) (w' := w4.alloc (.cells (fps [a, b, c, d]) 85)) (by kernel_rfl) (K4.go ((Below.refl _ _).alloc (Nat.le_refl _) _)) ?_
 intro w5 hw5 K5
 have G5_n : w5.heap[w4.heap.size]? = some (.cells (fps [a, b, c, d]) 85 (0, 0)) := hw5 ▸ heap_alloc_new _ _
 have S5 : w4.heap.size < w5.heap.size := lt_of_heap G5_n
 have R5_0 : w.heap.size < w4.heap.size := (by obtain ⟨T, h⟩ := K4.at 0 rfl; exact lt_of_heap h)
 have Z5 : w.heap.size ≤ w4.heap.size := K4.nb.size
 clear hw5
 refine kp (d := some 2) (v := .pointer (some ⟨w4.heap.size, 0, none⟩)) ?_
 have K6 : Kept w [(w.heap.size, (fps [a, b, c, d])), (w4.heap.size, (fps [a, b, c, d]))] [] w5 := Kept.zero K5.nb (rowsC (K5.at 0 rfl) (rowsC ⟨_, G5_n⟩ rows0))
 clear G5_n
 refine k_end ?_
 go_simp
 go_wp2_with fail
 exact bodyPost_ret_by (by kernel_rfl) (by kernel_rfl) ⟨_, rfl, (by omega), K6.at 1 rfl, K6.nb⟩
set_option maxRecDepth 100000 in
set_option maxHeartbeats 1000000 in
theorem plain_c {w : World} {a b c d b2 : Nat} {x y : Zq} (hm : ModW w) (hB : ∃ T, w.heap[b2]? = some (.cells (fps [a, b, c, d]) T (0, 0))) (hl : LowB a ∧ LowB b ∧ LowB c ∧ LowB d) (hz : zp a = x.re ∧ zp b = x.im ∧ zp c = y.re ∧ zp d = y.im) :
   Calls Tryd.prog 55 #[.pointer (some ⟨b2, 0, none⟩)] w fun e w' => e = .returned (.agg (fps [x.re.val, x.im.val, y.re.val, y.im.val])) ∧ Below w.heap.size w w' := by
 have HB2 : b2 < w.heap.size := by obtain ⟨T, h⟩ := hB; exact lt_of_heap h
 go_enter Tryd.func55, Tryd.ntmps55
 go_upto_region 1 with (fail)
 refine wp_gen (fun WW => Kept w [(b2, (fps [a, b, c, d])), (w.heap.size, (fps [0, 0, 0, 0]))] [] WW) (Kept.zero (nb_alloc (Below.refl _ _) _) (rowsC (by obtain ⟨T, h⟩ := hB; exact ⟨T, (hp_alloc h _)⟩) (rowsC (row_as (hp1_0 (w := w) _) (by kernel_rfl)) rows0))) ?_
 intro W0 K0
 have O1K1 := K0.at 1 rfl
 obtain ⟨T1K1, O1K1⟩ := O1K1
 have K1 : Kept w [(b2, (fps [a, b, c, d]))] [(w.heap.size, 64)] W0 := Kept.mks K0.nb (rowsC (K0.at 0 rfl) rows0) (roomsC (by kernel_rfl) O1K1 rooms0)
 refine wrA (opsAt Tryd.f55 1) ((true, 0) :: (true, 1) :: (true, 2) :: (true, 3) :: (true, 5) :: (true, 6) :: (true, 7) :: (true, 8) :: (false, 4) :: (false, 9) :: (true, 10) :: (false, 11) :: []) (Kept w [(b2, (fps [a, b, c, d]))] [(w.heap.size, 64)]) K1.drew ?_
 have K2 := K1.drew
 have DK2 : W0.heap.size ≤ W0.drew.heap.size := Nat.le_refl _
 have GO1K1 : W0.drew.heap[w.heap.size]? = some (.cells (fps [0, 0, 0, 0]) _ (0, 0)) := O1K1
 refine kp (d := some 3) (v := .pointer (some ⟨b2, 0, none⟩)) ?_
 refine kp (d := some 4) (v := .pointer (some ⟨b2, 0, none⟩)) ?_
 refine kp (d := some 5) (v := .pointer (some ⟨b2, 0, none⟩)) ?_
 refine k_part (by kernel_rfl) (d := (some 6)) (by kernel_rfl) (ty := 83) (x := (.tmp 5)) (by kernel_rfl) (b := b2) (off := 0) (by kernel_rfl) (all := (fps [a, b, c, d])) (cs := (fps [a, b])) (fun _ hs => hs.at 0 rfl) (fpsub2 (k := 0) rfl rfl) Tryd.underlying83 rfl (by kernel_rfl) ?_
 refine kp (d := some 8) (v := .pointer (some ⟨b2, 0, none⟩)) ?_
 refine kp (d := some 9) (v := .pointer (some ⟨b2, 0, none⟩)) ?_
 refine kp (d := some 10) (v := .pointer (some ⟨b2, 32, none⟩)) ?_
 refine k_part (by kernel_rfl) (d := (some 11)) (by kernel_rfl) (ty := 83) (x := (.tmp 10)) (by kernel_rfl) (b := b2) (off := 32) (by kernel_rfl) (all := (fps [a, b, c, d])) (cs := (fps [c, d])) (fun _ hs => hs.at 0 rfl) (fpsub2 (k := 2) rfl rfl) Tryd.underlying83 rfl (by kernel_rfl) ?_
 refine kc (d := some 7) (f := 62) (args := #[.agg (fps [a, b])]) (v := .agg (fps [x.re.val, x.im.val])) (lowsZ_c (hm.nb K2.nb) hl.1 hl.2.1 hz.1 hz.2.1) (fun w3 hb3 => ⟨K2.go hb3, ?_⟩)
 have K3 := K2.go hb3
 have G3_10 := nb_heap GO1K1 _ hb3
 have L3 := hb3.size
 refine kc (d := some 12) (f := 62) (args := #[.agg (fps [c, d])]) (v := .agg (fps [y.re.val, y.im.val])) (lowsZ_c (hm.nb K3.nb) hl.2.2.1 hl.2.2.2 hz.2.2.1 hz.2.2.2) (fun w4 hb4 => ⟨K3.go hb4, ?_⟩)
 have K4 := K3.go hb4
 have G4_10 := nb_heap G3_10 _ hb4
 have L4 := hb4.size
 refine kp (d := some 13) (v := .agg (fps [x.re.val, x.im.val, y.re.val, y.im.val])) ?_
 refine k_put (by kernel_rfl) (d := none) (by kernel_rfl) (ty := 35) (x := (.tmp 2)) (y := (.tmp 13)) (by kernel_rfl) (g := w.heap.size) (cells := (fps [x.re.val, x.im.val, y.re.val, y.im.val])) (by kernel_rfl) (by kernel_rfl) G4_10 (by kernel_rfl) (by kernel_rfl) (all_fps _) (K4.puti (n := 64) (by kernel_rfl) (by omega) (neC (by omega) ne0) (nsE ns0)) ?_
 intro w5 hw5 K5
 have G5_s : w5.heap[w.heap.size]? = some (.cells (fps [x.re.val, x.im.val, y.re.val, y.im.val]) _ (0, 0)) := hw5 ▸ setRow_heap _ _ _ _ _ _ G4_10
 have L5 : w4.heap.size ≤ w5.heap.size := by rw [hw5]; exact Nat.le_of_eq (size_setRow _ _ _).symm
 clear hw5
 have K6 : Kept w [(b2, (fps [a, b, c, d])), (w.heap.size, (fps [x.re.val, x.im.val, y.re.val, y.im.val]))] [] w5 := Kept.zero K5.nb (rowsC (K5.at 0 rfl) (rowsC ⟨_, G5_s⟩ rows0))
 clear O1K1 G5_s G4_10 G3_10 GO1K1
 refine k_end ?_
 go_simp
 go_wp2_with fail
 obtain ⟨TR, hR⟩ := K6.at 1 rfl
 exact bodyPost_ret_by (results_cell_row rfl _ _ (w.heap.size) _ (fps [x.re.val, x.im.val, y.re.val, y.im.val]) _ _ rfl hR Tryd.underlying35 rfl (by kernel_rfl)) rfl ⟨rfl, K6.nb⟩
end Go.Proofs.YtfkfljohhabldaaDoor
namespace Go.FourQ
open Go.RowKit
instance (x y : Zq) : Decidable (OnC x y) := inferInstanceAs (Decidable (_ = _))
abbrev P4 := Nat × Nat × Nat × Nat
def P4.l (p : P4) : List Nat := [p.1, p.2.1, p.2.2.1, p.2.2.2]
def fl : List P4 → List Nat
 | [] => []
 | p :: l => p.1 :: p.2.1 :: p.2.2.1 :: p.2.2.2 :: fl l
theorem fl_get : ∀ {l : List P4} {k : Nat} {p : P4}, l[k]? = some p → ∀ i x, p.l[i]? = some x → (fl l)[4 * k + i]? = some x
 | [], k, p, h => by simp at h
 | q :: l, 0, p, h => fun i x hx => by
   obtain rfl : q = p := by simpa using h
   rw [Nat.mul_zero, Nat.zero_add]
   rcases i with _ | _ | _ | _ | i
   · exact hx
   · exact hx
   · exact hx
   · exact hx
   · simp [P4.l] at hx
 | q :: l, k + 1, p, h => fun i x hx => by
   have := fl_get (l := l) (k := k) (p := p) (by simpa using h) i x hx
   rw [show 4 * (k + 1) + i = 4 * k + i + 1 + 1 + 1 + 1 by omega]
   exact this
/-- Canonical coordinates of a point. -/
def onB (p : P4) : Bool := decide ((p.1 = (zp p.1).val ∧ p.2.1 = (zp p.2.1).val) ∧ (p.2.2.1 = (zp p.2.2.1).val ∧ p.2.2.2 = (zp p.2.2.2).val) ∧ OnC ⟨zp p.1, zp p.2.1⟩ ⟨zp p.2.2.1, zp p.2.2.2⟩)
def onAll (l : List P4) : Bool := l.all onB
theorem onAll_drop {l : List P4} {k : Nat} {p : P4} (h : l[k]? = some p) : onAll (l.drop k) = (onB p && onAll (l.drop (k + 1))) := by
 have hk := (List.getElem?_eq_some_iff.1 h).1
 rw [List.drop_eq_getElem_cons hk]
 have e : l[k] = p := by rw [List.getElem?_eq_getElem hk] at h; exact Option.some.inj h
 rw [e]; rfl
end Go.FourQ
namespace Go.Proofs.YtfkfljohhabldaaDoor
open Go.RowKit Go.FourQ
theorem isQ_f {w : World} {a b : Nat} {x : Zq} (ha : a < 256 ^ 16) (hb : b < 256 ^ 16) (h : ¬ (a = x.re.val ∧ b = x.im.val)) :
   Calls Tryd.prog 30 #[.agg (fps [a, b]), .agg (dgQ x.re.val x.im.val)] w fun e w' => e = .returned (.bool false) ∧ Below w.heap.size w w' := by
 have := isQ_c (w := w) (x0 := x.re) (x1 := x.im) ha hb
 have e : (decide (a = x.re.val) && decide (b = x.im.val)) = false := by
   rw [← Bool.not_eq_true, Bool.and_eq_true, decide_eq_true_eq, decide_eq_true_eq]; exact h
 rwa [e] at this
set_option maxRecDepth 100000 in
set_option maxHeartbeats 1000000 in
theorem at_c {w : World} {x y : Zq} :
   Calls Tryd.prog 23 #[.agg (fps [x.re.val, x.im.val, y.re.val, y.im.val])] w fun e w' => e = .returned (.agg (dgL [x.re.val, x.im.val, y.re.val, y.im.val, ((1 : Zq)).re.val, ((1 : Zq)).im.val])) ∧ Below w.heap.size w w' := by
 go_enter Tryd.func23, Tryd.ntmps23
 go_upto_region 1 with (fail)
 refine wp_gen (fun WW => Kept w [(w.heap.size, (fps [x.re.val, x.im.val, y.re.val, y.im.val])), (w.heap.size + 1, (dgL [0, 0, 0, 0, 0, 0]))] [] WW) (Kept.zero (nb_alloc (nb_alloc (Below.refl _ _) _) _) (rowsC (row_as (hp2_0 (w := w) _ _) (by kernel_rfl)) (rowsC (row_as (hp2_1 (w := w) _ _) (by kernel_rfl)) rows0))) ?_
 intro W0 K0
 have O1K1 := K0.at 1 rfl
 obtain ⟨T1K1, O1K1⟩ := O1K1
 have K1 : Kept w [(w.heap.size, (fps [x.re.val, x.im.val, y.re.val, y.im.val]))] [(w.heap.size + 1, 48)] W0 := Kept.mks K0.nb (rowsC (K0.at 0 rfl) rows0) (roomsC (by kernel_rfl) O1K1 rooms0)
 refine wrA (opsAt Tryd.f23 1) ((true, 0) :: (true, 1) :: (true, 3) :: (true, 4) :: (false, 2) :: (false, 5) :: (false, 6) :: (false, 7) :: []) (Kept w [(w.heap.size, (fps [x.re.val, x.im.val, y.re.val, y.im.val]))] [(w.heap.size + 1, 48)]) K1.drew ?_
 have K2 := K1.drew
 have DK2 : W0.heap.size ≤ W0.drew.heap.size := Nat.le_refl _
 have GO1K1 : W0.drew.heap[w.heap.size + 1]? = some (.cells (dgL [0, 0, 0, 0, 0, 0]) _ (0, 0)) := O1K1
 refine kp (d := some 3) (v := .pointer (some ⟨w.heap.size, 0, none⟩)) ?_
 refine k_part (by kernel_rfl) (d := (some 4)) (by kernel_rfl) (ty := 33) (x := (.tmp 3)) (by kernel_rfl) (b := w.heap.size) (off := 0) (by kernel_rfl) (all := (fps [x.re.val, x.im.val, y.re.val, y.im.val])) (cs := (fps [x.re.val, x.im.val])) (fun _ hs => hs.at 0 rfl) (fpsub2 (k := 0) rfl rfl) Tryd.underlying33 rfl (by kernel_rfl) ?_
 refine kp (d := some 6) (v := .pointer (some ⟨w.heap.size, 32, none⟩)) ?_
 refine k_part (by kernel_rfl) (d := (some 7)) (by kernel_rfl) (ty := 33) (x := (.tmp 6)) (by kernel_rfl) (b := w.heap.size) (off := 32) (by kernel_rfl) (all := (fps [x.re.val, x.im.val, y.re.val, y.im.val])) (cs := (fps [y.re.val, y.im.val])) (fun _ hs => hs.at 0 rfl) (fpsub2 (k := 2) rfl rfl) Tryd.underlying33 rfl (by kernel_rfl) ?_
 refine kc (d := some 5) (f := 19) (args := #[.agg (fps [x.re.val, x.im.val])]) (v := .agg (dgQ x.re.val x.im.val)) (ofQ_q) (fun w3 hb3 => ⟨K2.go hb3, ?_⟩)
 have K3 := K2.go hb3
 have G3_10 := nb_heap GO1K1 _ hb3
 have L3 := hb3.size
 refine kc (d := some 8) (f := 19) (args := #[.agg (fps [y.re.val, y.im.val])]) (v := .agg (dgQ y.re.val y.im.val)) (ofQ_q) (fun w4 hb4 => ⟨K3.go hb4, ?_⟩)
 have K4 := K3.go hb4
 have G4_10 := nb_heap G3_10 _ hb4
 have L4 := hb4.size
 refine kc (d := some 9) (f := 52) (args := #[.agg (dgQ x.re.val x.im.val), .agg (dgQ y.re.val y.im.val)]) (v := .agg (dgL [x.re.val, x.im.val, y.re.val, y.im.val, ((1 : Zq)).re.val, ((1 : Zq)).im.val])) (atP_c) (fun w5 hb5 => ⟨K4.go hb5, ?_⟩)
 have K5 := K4.go hb5
 have G5_10 := nb_heap G4_10 _ hb5
 have L5 := hb5.size
 refine k_put (by kernel_rfl) (d := none) (by kernel_rfl) (ty := 41) (x := (.tmp 2)) (y := (.tmp 9)) (by kernel_rfl) (g := w.heap.size + 1) (cells := (dgL [x.re.val, x.im.val, y.re.val, y.im.val, ((1 : Zq)).re.val, ((1 : Zq)).im.val])) (by kernel_rfl) (by kernel_rfl) G5_10 (by kernel_rfl) (by kernel_rfl) (all_dgA _) (K5.puti (n := 48) (by kernel_rfl) (by omega) (neC (by omega) ne0) (nsE ns0)) ?_
 intro w6 hw6 K6
 have G6_s : w6.heap[w.heap.size + 1]? = some (.cells (dgL [x.re.val, x.im.val, y.re.val, y.im.val, ((1 : Zq)).re.val, ((1 : Zq)).im.val]) _ (0, 0)) := hw6 ▸ setRow_heap _ _ _ _ _ _ G5_10
 have L6 : w5.heap.size ≤ w6.heap.size := by rw [hw6]; exact Nat.le_of_eq (size_setRow _ _ _).symm
 clear hw6
 have K7 : Kept w [(w.heap.size, (fps [x.re.val, x.im.val, y.re.val, y.im.val])), (w.heap.size + 1, (dgL [x.re.val, x.im.val, y.re.val, y.im.val, ((1 : Zq)).re.val, ((1 : Zq)).im.val]))] [] w6 := Kept.zero K6.nb (rowsC (K6.at 0 rfl) (rowsC ⟨_, G6_s⟩ rows0))
 clear O1K1 G6_s G5_10 G4_10 G3_10 GO1K1
 refine k_end ?_
 go_simp
 go_wp2_with fail
 obtain ⟨TR, hR⟩ := K7.at 1 rfl
 exact bodyPost_ret_by (results_cell_row rfl _ _ (w.heap.size + 1) _ (dgL [x.re.val, x.im.val, y.re.val, y.im.val, ((1 : Zq)).re.val, ((1 : Zq)).im.val]) _ _ rfl hR Tryd.underlying41 rfl (by kernel_rfl)) rfl ⟨rfl, K7.nb⟩
set_option maxRecDepth 100000 in
set_option maxHeartbeats 1000000 in
theorem told_t {w : World} {x y X Y Z : Zq} (h1 : x * Z = X) (h2 : y * Z = Y) :
   Calls Tryd.prog 21 #[.agg (fps [x.re.val, x.im.val, y.re.val, y.im.val]), .agg (dgL [X.re.val, X.im.val, Y.re.val, Y.im.val, Z.re.val, Z.im.val])] w fun e w' => e = .returned (.bool true) ∧ Below w.heap.size w w' := by
 go_enter Tryd.func21, Tryd.ntmps21
 go_upto_region 1 with (fail)
 refine wp_gen (fun WW => Kept w [(w.heap.size, (fps [x.re.val, x.im.val, y.re.val, y.im.val])), (w.heap.size + 1, (dgL [X.re.val, X.im.val, Y.re.val, Y.im.val, Z.re.val, Z.im.val]))] [] WW) (Kept.zero (nb_alloc (nb_alloc (Below.refl _ _) _) _) (rowsC (row_as (hp2_0 (w := w) _ _) (by kernel_rfl)) (rowsC (row_as (hp2_1 (w := w) _ _) (by kernel_rfl)) rows0))) ?_
 intro W0 K0
 have K1 : Kept w [(w.heap.size, (fps [x.re.val, x.im.val, y.re.val, y.im.val])), (w.heap.size + 1, (dgL [X.re.val, X.im.val, Y.re.val, Y.im.val, Z.re.val, Z.im.val]))] [] W0 := Kept.mks K0.nb (rowsC (K0.at 0 rfl) (rowsC (K0.at 1 rfl) rows0)) rooms0
 refine wrA (opsAt Tryd.f21 1) ((true, 0) :: (true, 1) :: (true, 2) :: (true, 3) :: (false, 4) :: (false, 5) :: (true, 6) :: (true, 7) :: (true, 8) :: (true, 9) :: (true, 10) :: (false, 11) :: (false, 12) :: (true, 13) :: (true, 14) :: (true, 15) :: (true, 16) :: (true, 17) :: (true, 19) :: (true, 20) :: (false, 18) :: (false, 21) :: (false, 22) :: (true, 23) :: (true, 24) :: []) (Kept w [(w.heap.size, (fps [x.re.val, x.im.val, y.re.val, y.im.val])), (w.heap.size + 1, (dgL [X.re.val, X.im.val, Y.re.val, Y.im.val, Z.re.val, Z.im.val]))] []) K1.drew ?_
 have K2 := K1.drew
 have DK2 : W0.heap.size ≤ W0.drew.heap.size := Nat.le_refl _
 refine kp (d := some 5) (v := .pointer (some ⟨w.heap.size, 0, none⟩)) ?_
 refine k_part (by kernel_rfl) (d := (some 6)) (by kernel_rfl) (ty := 33) (x := (.tmp 5)) (by kernel_rfl) (b := w.heap.size) (off := 0) (by kernel_rfl) (all := (fps [x.re.val, x.im.val, y.re.val, y.im.val])) (cs := (fps [x.re.val, x.im.val])) (fun _ hs => hs.at 0 rfl) (fpsub2 (k := 0) rfl rfl) Tryd.underlying33 rfl (by kernel_rfl) ?_
 refine kp (d := some 7) (v := .pointer (some ⟨w.heap.size, 0, none⟩)) ?_
 refine k_part (by kernel_rfl) (d := (some 8)) (by kernel_rfl) (ty := 33) (x := (.tmp 7)) (by kernel_rfl) (b := w.heap.size) (off := 0) (by kernel_rfl) (all := (fps [x.re.val, x.im.val, y.re.val, y.im.val])) (cs := (fps [x.re.val, x.im.val])) (fun _ hs => hs.at 0 rfl) (fpsub2 (k := 0) rfl rfl) Tryd.underlying33 rfl (by kernel_rfl) ?_
 refine kc (d := some 9) (f := 19) (args := #[.agg (fps [x.re.val, x.im.val])]) (v := .agg (dgQ x.re.val x.im.val)) (ofQ_q) (fun w3 hb3 => ⟨K2.go hb3, ?_⟩)
 have K3 := K2.go hb3
 have L3 := hb3.size
 refine kc (d := some 10) (f := 30) (args := #[.agg (fps [x.re.val, x.im.val]), .agg (dgQ x.re.val x.im.val)]) (v := .bool true) (isQ_true rfl rfl) (fun w4 hb4 => ⟨K3.go hb4, ?_⟩)
 have K4 := K3.go hb4
 have L4 := hb4.size
 refine kp (d := some 11) (v := .bool true) ?_
 refine kp (d := some 12) (v := .pointer (some ⟨w.heap.size, 32, none⟩)) ?_
 refine k_part (by kernel_rfl) (d := (some 13)) (by kernel_rfl) (ty := 33) (x := (.tmp 12)) (by kernel_rfl) (b := w.heap.size) (off := 32) (by kernel_rfl) (all := (fps [x.re.val, x.im.val, y.re.val, y.im.val])) (cs := (fps [y.re.val, y.im.val])) (fun _ hs => hs.at 0 rfl) (fpsub2 (k := 2) rfl rfl) Tryd.underlying33 rfl (by kernel_rfl) ?_
 refine kp (d := some 14) (v := .pointer (some ⟨w.heap.size, 32, none⟩)) ?_
 refine k_part (by kernel_rfl) (d := (some 15)) (by kernel_rfl) (ty := 33) (x := (.tmp 14)) (by kernel_rfl) (b := w.heap.size) (off := 32) (by kernel_rfl) (all := (fps [x.re.val, x.im.val, y.re.val, y.im.val])) (cs := (fps [y.re.val, y.im.val])) (fun _ hs => hs.at 0 rfl) (fpsub2 (k := 2) rfl rfl) Tryd.underlying33 rfl (by kernel_rfl) ?_
 refine kc (d := some 16) (f := 19) (args := #[.agg (fps [y.re.val, y.im.val])]) (v := .agg (dgQ y.re.val y.im.val)) (ofQ_q) (fun w5 hb5 => ⟨K4.go hb5, ?_⟩)
 have K5 := K4.go hb5
 have L5 := hb5.size
 refine kc (d := some 17) (f := 30) (args := #[.agg (fps [y.re.val, y.im.val]), .agg (dgQ y.re.val y.im.val)]) (v := .bool true) (isQ_true rfl rfl) (fun w6 hb6 => ⟨K5.go hb6, ?_⟩)
 have K6 := K5.go hb6
 have L6 := hb6.size
 refine kp (d := some 18) (v := .bool true) ?_
 refine kp (d := some 19) (v := .bool true) ?_
 refine k_row (by kernel_rfl) (d := (some 20)) (by kernel_rfl) (ty := 41) (x := (.tmp 3)) (by kernel_rfl) (b := w.heap.size + 1) (by kernel_rfl) (cs := (dgL [X.re.val, X.im.val, Y.re.val, Y.im.val, Z.re.val, Z.im.val])) (fun _ hs => hs.at 1 rfl) Tryd.underlying41 rfl (by kernel_rfl) ?_
 refine kp (d := some 21) (v := .pointer (some ⟨w.heap.size, 0, none⟩)) ?_
 refine k_part (by kernel_rfl) (d := (some 22)) (by kernel_rfl) (ty := 33) (x := (.tmp 21)) (by kernel_rfl) (b := w.heap.size) (off := 0) (by kernel_rfl) (all := (fps [x.re.val, x.im.val, y.re.val, y.im.val])) (cs := (fps [x.re.val, x.im.val])) (fun _ hs => hs.at 0 rfl) (fpsub2 (k := 0) rfl rfl) Tryd.underlying33 rfl (by kernel_rfl) ?_
 refine kp (d := some 24) (v := .pointer (some ⟨w.heap.size, 32, none⟩)) ?_
 refine k_part (by kernel_rfl) (d := (some 25)) (by kernel_rfl) (ty := 33) (x := (.tmp 24)) (by kernel_rfl) (b := w.heap.size) (off := 32) (by kernel_rfl) (all := (fps [x.re.val, x.im.val, y.re.val, y.im.val])) (cs := (fps [y.re.val, y.im.val])) (fun _ hs => hs.at 0 rfl) (fpsub2 (k := 2) rfl rfl) Tryd.underlying33 rfl (by kernel_rfl) ?_
 refine kc (d := some 23) (f := 19) (args := #[.agg (fps [x.re.val, x.im.val])]) (v := .agg (dgQ x.re.val x.im.val)) (ofQ_q) (fun w7 hb7 => ⟨K6.go hb7, ?_⟩)
 have K7 := K6.go hb7
 have L7 := hb7.size
 refine kc (d := some 26) (f := 19) (args := #[.agg (fps [y.re.val, y.im.val])]) (v := .agg (dgQ y.re.val y.im.val)) (ofQ_q) (fun w8 hb8 => ⟨K7.go hb8, ?_⟩)
 have K8 := K7.go hb8
 have L8 := hb8.size
 refine kc (d := some 27) (f := 18) (args := #[.agg (dgL [X.re.val, X.im.val, Y.re.val, Y.im.val, Z.re.val, Z.im.val]), .agg (dgQ x.re.val x.im.val), .agg (dgQ y.re.val y.im.val)]) (v := .bool true) (isP0 h1 h2) (fun w9 hb9 => ⟨K8.go hb9, ?_⟩)
 have K9 := K8.go hb9
 have L9 := hb9.size
 refine kp (d := some 28) (v := .bool true) ?_
 refine kp (d := some 4) (v := .bool true) ?_
 have K10 : Kept w [(w.heap.size, (fps [x.re.val, x.im.val, y.re.val, y.im.val])), (w.heap.size + 1, (dgL [X.re.val, X.im.val, Y.re.val, Y.im.val, Z.re.val, Z.im.val]))] [] w9 := Kept.zero K9.nb (rowsC (K9.at 0 rfl) (rowsC (K9.at 1 rfl) rows0))
 refine k_end ?_
 go_simp
 go_wp2_with fail
 exact bodyPost_ret_by (by kernel_rfl) (by kernel_rfl) ⟨rfl, K10.nb⟩
set_option maxRecDepth 100000 in
set_option maxHeartbeats 4000000 in
theorem on_c {w : World} {b0 : Nat} {l : List P4} (h : Fps w b0 (fl l)) (hl : ∀ p ∈ l, p.1 < 256 ^ 16 ∧ p.2.1 < 256 ^ 16 ∧ p.2.2.1 < 256 ^ 16 ∧ p.2.2.2 < 256 ^ 16) (hlen : l.length < 1000) :
   Calls Tryd.prog 15 #[.slice (some ⟨b0, 0, none⟩) l.length l.length] w fun e w' => e = .returned (.bool (onAll l)) ∧ Below w.heap.size w w' := by
 have HL := Lib.hid hl
 obtain ⟨r, hr⟩ : ∃ r, onAll l = r := ⟨_, rfl⟩
 rw [hr]
 have HR := Lib.hid hr
 clear hr hl
 go_enter Tryd.func15, Tryd.ntmps15
 go_wp2_with fail
 go_loopw [7] (fun i wr => ∃ k : Nat, k ≤ l.length ∧ i = .int .i64 k ∧ Below w.heap.size w wr ∧ Hid (onAll (l.drop k) = r)) (fun i _ => l.length - (intOf i).toNat)
 case atStart => exact ⟨0, Nat.zero_le _, rfl, Below.refl _ _, HR.out⟩
 case round =>
   obtain ⟨k, hk, rfl, hbel, hr⟩ := hrel
   by_cases hlt : k < l.length
   · obtain ⟨⟨a, b, c, d⟩, hx⟩ : ∃ x, l[k]? = some x := ⟨_, List.getElem?_eq_getElem hlt⟩
     obtain ⟨ha, hb, hc, hd⟩ := HL.out _ (List.mem_of_getElem? hx)
     have hdr := onAll_drop hx
     rw [hr.out] at hdr
     have hf : Fps wr b0 (fl l) := h.of_heap (hbel.block b0 h.lt)
     have hcell : ∀ j v, (fps [a, b, c, d])[j]? = some v → wr.cell? ⟨b0, k * 64 + j, none⟩ = some v := hf.cells (k := 4 * k) (by omega) (fun i x hi => fl_get hx i x hi)
     have HC := Lib.hid hcell
     have HRT := Lib.hid hr.out
     clear hcell hf hx hr
     obtain ⟨X, eX⟩ : ∃ X : Zq, X = ⟨zp a, zp b⟩ := ⟨_, rfl⟩
     obtain ⟨Y, eY⟩ : ∃ Y : Zq, Y = ⟨zp c, zp d⟩ := ⟨_, rfl⟩
     have OX := fun {w : World} => ofQ_b (w := w) ha hb eX
     have OY := fun {w : World} => ofQ_b (w := w) hc hd eY
     have eB : onB (a, b, c, d) = decide ((a = X.re.val ∧ b = X.im.val) ∧ (c = Y.re.val ∧ d = Y.im.val) ∧ OnC X Y) := by subst eX eY; rfl
     have HB := Lib.hid eB; have HDR := Lib.hid hdr
     clear eX eY eB hdr
     by_cases hX : a = X.re.val ∧ b = X.im.val
     · by_cases hY : c = Y.re.val ∧ d = Y.im.val
       · by_cases hP : OnC X Y
         · have HDL : Hid (onAll (l.drop (k + 1)) = r) := Lib.hid (by rw [HDR.out, HB.out, decide_eq_true ⟨hX, hY, hP⟩, Bool.true_and])
           have HX := Lib.hid hX; have HY := Lib.hid hY
           clear hX hY
           go_upto_region 4 with (first | (refine wpList_load_at rfl 35 _ rfl b0 (k * 64) rfl (fps [a, b, c, d]) _ HC.out Tryd.underlying35 rfl (by kernel_rfl) ?_) | (refine wpList_store_row rfl 35 _ _ rfl _ (fps [a, b, c, d]) rfl rfl _ _ (heap_alloc_new _ _) (by kernel_rfl) (by kernel_rfl) (all_fps _) ?_; rw [setRow_alloc_new]))
           obtain ⟨WB, hWB⟩ : ∃ WB : World, WB = wr := ⟨_, rfl⟩
           have HWB := Lib.hid hWB
           clear hWB
           refine wp_gen (fun W => Kept WB [(wr.heap.size, (fps [a, b, c, d]))] [] W) (HWB.out ▸ Kept.zero (nb_alloc (Below.refl _ _) _) (rowsC ⟨_, heap_alloc_new _ _⟩ rows0)) ?_
           intro W0 K0
           have K11 : Kept WB [(wr.heap.size, (fps [a, b, c, d]))] [] W0 := Kept.mks K0.nb (rowsC (K0.at 0 rfl) rows0) rooms0
           refine wrA (opsAt Tryd.f15 4) ((true, 0) :: (true, 1) :: (true, 2) :: (true, 3) :: (false, 4) :: (false, 5) :: (true, 6) :: (true, 7) :: (true, 8) :: (true, 9) :: (true, 10) :: (true, 11) :: (false, 12) :: (false, 13) :: (true, 14) :: (true, 15) :: (true, 16) :: (true, 17) :: (true, 18) :: (true, 20) :: (true, 21) :: (false, 19) :: (false, 22) :: (false, 23) :: (true, 24) :: (true, 25) :: []) (Kept WB [(wr.heap.size, (fps [a, b, c, d]))] []) K11.drew ?_
           have K12 := K11.drew
           have DK12 : W0.heap.size ≤ W0.drew.heap.size := Nat.le_refl _
           refine kp (d := some 11) (v := .pointer (some ⟨wr.heap.size, 0, none⟩)) ?_
           refine k_part (by kernel_rfl) (d := (some 12)) (by kernel_rfl) (ty := 33) (x := (.tmp 11)) (by kernel_rfl) (b := wr.heap.size) (off := 0) (by kernel_rfl) (all := (fps [a, b, c, d])) (cs := (fps [a, b])) (fun _ hs => hs.at 0 rfl) (fpsub2 (k := 0) rfl rfl) Tryd.underlying33 rfl (by kernel_rfl) ?_
           refine kp (d := some 13) (v := .pointer (some ⟨wr.heap.size, 0, none⟩)) ?_
           refine k_part (by kernel_rfl) (d := (some 14)) (by kernel_rfl) (ty := 33) (x := (.tmp 13)) (by kernel_rfl) (b := wr.heap.size) (off := 0) (by kernel_rfl) (all := (fps [a, b, c, d])) (cs := (fps [a, b])) (fun _ hs => hs.at 0 rfl) (fpsub2 (k := 0) rfl rfl) Tryd.underlying33 rfl (by kernel_rfl) ?_
           refine kc (d := some 15) (f := 19) (args := #[.agg (fps [a, b])]) (v := .agg (dgQ X.re.val X.im.val)) (OX) (fun w13 hb13 => ⟨K12.go hb13, ?_⟩)
           have K13 := K12.go hb13
           have L13 := hb13.size
           refine kc (d := some 16) (f := 30) (args := #[.agg (fps [a, b]), .agg (dgQ X.re.val X.im.val)]) (v := .bool true) (isQ_true HX.out.1 HX.out.2) (fun w14 hb14 => ⟨K13.go hb14, ?_⟩)
           have K14 := K13.go hb14
           have L14 := hb14.size
           refine kp (d := some 17) (v := .bool false) ?_
           refine kp (d := some 18) (v := .bool false) ?_
           refine kp (d := some 19) (v := .pointer (some ⟨wr.heap.size, 32, none⟩)) ?_
           refine k_part (by kernel_rfl) (d := (some 20)) (by kernel_rfl) (ty := 33) (x := (.tmp 19)) (by kernel_rfl) (b := wr.heap.size) (off := 32) (by kernel_rfl) (all := (fps [a, b, c, d])) (cs := (fps [c, d])) (fun _ hs => hs.at 0 rfl) (fpsub2 (k := 2) rfl rfl) Tryd.underlying33 rfl (by kernel_rfl) ?_
           refine kp (d := some 21) (v := .pointer (some ⟨wr.heap.size, 32, none⟩)) ?_
           refine k_part (by kernel_rfl) (d := (some 22)) (by kernel_rfl) (ty := 33) (x := (.tmp 21)) (by kernel_rfl) (b := wr.heap.size) (off := 32) (by kernel_rfl) (all := (fps [a, b, c, d])) (cs := (fps [c, d])) (fun _ hs => hs.at 0 rfl) (fpsub2 (k := 2) rfl rfl) Tryd.underlying33 rfl (by kernel_rfl) ?_
           refine kc (d := some 23) (f := 19) (args := #[.agg (fps [c, d])]) (v := .agg (dgQ Y.re.val Y.im.val)) (OY) (fun w15 hb15 => ⟨K14.go hb15, ?_⟩)
           have K15 := K14.go hb15
           have L15 := hb15.size
           refine kc (d := some 24) (f := 30) (args := #[.agg (fps [c, d]), .agg (dgQ Y.re.val Y.im.val)]) (v := .bool true) (isQ_true HY.out.1 HY.out.2) (fun w16 hb16 => ⟨K15.go hb16, ?_⟩)
           have K16 := K15.go hb16
           have L16 := hb16.size
           refine kp (d := some 25) (v := .bool false) ?_
           refine kp (d := some 26) (v := .bool false) ?_
           refine kp (d := some 27) (v := .bool false) ?_
           refine kp (d := some 28) (v := .pointer (some ⟨wr.heap.size, 0, none⟩)) ?_
           refine k_part (by kernel_rfl) (d := (some 29)) (by kernel_rfl) (ty := 33) (x := (.tmp 28)) (by kernel_rfl) (b := wr.heap.size) (off := 0) (by kernel_rfl) (all := (fps [a, b, c, d])) (cs := (fps [a, b])) (fun _ hs => hs.at 0 rfl) (fpsub2 (k := 0) rfl rfl) Tryd.underlying33 rfl (by kernel_rfl) ?_
           refine kp (d := some 31) (v := .pointer (some ⟨wr.heap.size, 32, none⟩)) ?_
           refine k_part (by kernel_rfl) (d := (some 32)) (by kernel_rfl) (ty := 33) (x := (.tmp 31)) (by kernel_rfl) (b := wr.heap.size) (off := 32) (by kernel_rfl) (all := (fps [a, b, c, d])) (cs := (fps [c, d])) (fun _ hs => hs.at 0 rfl) (fpsub2 (k := 2) rfl rfl) Tryd.underlying33 rfl (by kernel_rfl) ?_
           refine kc (d := some 30) (f := 19) (args := #[.agg (fps [a, b])]) (v := .agg (dgQ X.re.val X.im.val)) (OX) (fun w17 hb17 => ⟨K16.go hb17, ?_⟩)
           have K17 := K16.go hb17
           have L17 := hb17.size
           refine kc (d := some 33) (f := 19) (args := #[.agg (fps [c, d])]) (v := .agg (dgQ Y.re.val Y.im.val)) (OY) (fun w18 hb18 => ⟨K17.go hb18, ?_⟩)
           have K18 := K17.go hb18
           have L18 := hb18.size
           refine kc (d := some 34) (f := 38) (args := #[.agg (dgQ X.re.val X.im.val), .agg (dgQ Y.re.val Y.im.val)]) (v := .bool true) (isPoint_t hP) (fun w19 hb19 => ⟨K18.go hb19, ?_⟩)
           have K19 := K18.go hb19
           have L19 := hb19.size
           refine kp (d := some 35) (v := .bool false) ?_
           refine kp (d := some 36) (v := .bool false) ?_
           have K20 : Kept WB [(wr.heap.size, (fps [a, b, c, d]))] [] w19 := Kept.zero K19.nb (rowsC (K19.at 0 rfl) rows0)
           refine k_end ?_
           go_simp
           go_wp2_with fail
           exact ⟨⟨k + 1, by omega, by go_num, hbel.trans ((HWB.out ▸ K20.nb).mono hbel.size), HDL.out⟩, by simp [intOf]; omega⟩
         · have hrf : r = false := by rw [HDR.out, HB.out, decide_eq_false (fun h => hP h.2.2), Bool.false_and]
           subst hrf
           have HX := Lib.hid hX; have HY := Lib.hid hY
           clear hX hY
           go_upto_region 4 with (first | (refine wpList_load_at rfl 35 _ rfl b0 (k * 64) rfl (fps [a, b, c, d]) _ HC.out Tryd.underlying35 rfl (by kernel_rfl) ?_) | (refine wpList_store_row rfl 35 _ _ rfl _ (fps [a, b, c, d]) rfl rfl _ _ (heap_alloc_new _ _) (by kernel_rfl) (by kernel_rfl) (all_fps _) ?_; rw [setRow_alloc_new]))
           obtain ⟨WB, hWB⟩ : ∃ WB : World, WB = wr := ⟨_, rfl⟩
           have HWB := Lib.hid hWB
           clear hWB
           refine wp_gen (fun W => Kept WB [(wr.heap.size, (fps [a, b, c, d]))] [] W) (HWB.out ▸ Kept.zero (nb_alloc (Below.refl _ _) _) (rowsC ⟨_, heap_alloc_new _ _⟩ rows0)) ?_
           intro W0 K0
           have K11 : Kept WB [(wr.heap.size, (fps [a, b, c, d]))] [] W0 := Kept.mks K0.nb (rowsC (K0.at 0 rfl) rows0) rooms0
           refine wrA (opsAt Tryd.f15 4) ((true, 0) :: (true, 1) :: (true, 2) :: (true, 3) :: (false, 4) :: (false, 5) :: (true, 6) :: (true, 7) :: (true, 8) :: (true, 9) :: (true, 10) :: (true, 11) :: (false, 12) :: (false, 13) :: (true, 14) :: (true, 15) :: (true, 16) :: (true, 17) :: (true, 18) :: (true, 20) :: (true, 21) :: (false, 19) :: (false, 22) :: (false, 23) :: (true, 24) :: (true, 25) :: []) (Kept WB [(wr.heap.size, (fps [a, b, c, d]))] []) K11.drew ?_
           have K12 := K11.drew
           have DK12 : W0.heap.size ≤ W0.drew.heap.size := Nat.le_refl _
           refine kp (d := some 11) (v := .pointer (some ⟨wr.heap.size, 0, none⟩)) ?_
           refine k_part (by kernel_rfl) (d := (some 12)) (by kernel_rfl) (ty := 33) (x := (.tmp 11)) (by kernel_rfl) (b := wr.heap.size) (off := 0) (by kernel_rfl) (all := (fps [a, b, c, d])) (cs := (fps [a, b])) (fun _ hs => hs.at 0 rfl) (fpsub2 (k := 0) rfl rfl) Tryd.underlying33 rfl (by kernel_rfl) ?_
           refine kp (d := some 13) (v := .pointer (some ⟨wr.heap.size, 0, none⟩)) ?_
           refine k_part (by kernel_rfl) (d := (some 14)) (by kernel_rfl) (ty := 33) (x := (.tmp 13)) (by kernel_rfl) (b := wr.heap.size) (off := 0) (by kernel_rfl) (all := (fps [a, b, c, d])) (cs := (fps [a, b])) (fun _ hs => hs.at 0 rfl) (fpsub2 (k := 0) rfl rfl) Tryd.underlying33 rfl (by kernel_rfl) ?_
           refine kc (d := some 15) (f := 19) (args := #[.agg (fps [a, b])]) (v := .agg (dgQ X.re.val X.im.val)) (OX) (fun w13 hb13 => ⟨K12.go hb13, ?_⟩)
           have K13 := K12.go hb13
           have L13 := hb13.size
           refine kc (d := some 16) (f := 30) (args := #[.agg (fps [a, b]), .agg (dgQ X.re.val X.im.val)]) (v := .bool true) (isQ_true HX.out.1 HX.out.2) (fun w14 hb14 => ⟨K13.go hb14, ?_⟩)
           have K14 := K13.go hb14
           have L14 := hb14.size
           refine kp (d := some 17) (v := .bool false) ?_
           refine kp (d := some 18) (v := .bool false) ?_
           refine kp (d := some 19) (v := .pointer (some ⟨wr.heap.size, 32, none⟩)) ?_
           refine k_part (by kernel_rfl) (d := (some 20)) (by kernel_rfl) (ty := 33) (x := (.tmp 19)) (by kernel_rfl) (b := wr.heap.size) (off := 32) (by kernel_rfl) (all := (fps [a, b, c, d])) (cs := (fps [c, d])) (fun _ hs => hs.at 0 rfl) (fpsub2 (k := 2) rfl rfl) Tryd.underlying33 rfl (by kernel_rfl) ?_
           refine kp (d := some 21) (v := .pointer (some ⟨wr.heap.size, 32, none⟩)) ?_
           refine k_part (by kernel_rfl) (d := (some 22)) (by kernel_rfl) (ty := 33) (x := (.tmp 21)) (by kernel_rfl) (b := wr.heap.size) (off := 32) (by kernel_rfl) (all := (fps [a, b, c, d])) (cs := (fps [c, d])) (fun _ hs => hs.at 0 rfl) (fpsub2 (k := 2) rfl rfl) Tryd.underlying33 rfl (by kernel_rfl) ?_
           refine kc (d := some 23) (f := 19) (args := #[.agg (fps [c, d])]) (v := .agg (dgQ Y.re.val Y.im.val)) (OY) (fun w15 hb15 => ⟨K14.go hb15, ?_⟩)
           have K15 := K14.go hb15
           have L15 := hb15.size
           refine kc (d := some 24) (f := 30) (args := #[.agg (fps [c, d]), .agg (dgQ Y.re.val Y.im.val)]) (v := .bool true) (isQ_true HY.out.1 HY.out.2) (fun w16 hb16 => ⟨K15.go hb16, ?_⟩)
           have K16 := K15.go hb16
           have L16 := hb16.size
           refine kp (d := some 25) (v := .bool false) ?_
           refine kp (d := some 26) (v := .bool false) ?_
           refine kp (d := some 27) (v := .bool false) ?_
           refine kp (d := some 28) (v := .pointer (some ⟨wr.heap.size, 0, none⟩)) ?_
           refine k_part (by kernel_rfl) (d := (some 29)) (by kernel_rfl) (ty := 33) (x := (.tmp 28)) (by kernel_rfl) (b := wr.heap.size) (off := 0) (by kernel_rfl) (all := (fps [a, b, c, d])) (cs := (fps [a, b])) (fun _ hs => hs.at 0 rfl) (fpsub2 (k := 0) rfl rfl) Tryd.underlying33 rfl (by kernel_rfl) ?_
           refine kp (d := some 31) (v := .pointer (some ⟨wr.heap.size, 32, none⟩)) ?_
           refine k_part (by kernel_rfl) (d := (some 32)) (by kernel_rfl) (ty := 33) (x := (.tmp 31)) (by kernel_rfl) (b := wr.heap.size) (off := 32) (by kernel_rfl) (all := (fps [a, b, c, d])) (cs := (fps [c, d])) (fun _ hs => hs.at 0 rfl) (fpsub2 (k := 2) rfl rfl) Tryd.underlying33 rfl (by kernel_rfl) ?_
           refine kc (d := some 30) (f := 19) (args := #[.agg (fps [a, b])]) (v := .agg (dgQ X.re.val X.im.val)) (OX) (fun w17 hb17 => ⟨K16.go hb17, ?_⟩)
           have K17 := K16.go hb17
           have L17 := hb17.size
           refine kc (d := some 33) (f := 19) (args := #[.agg (fps [c, d])]) (v := .agg (dgQ Y.re.val Y.im.val)) (OY) (fun w18 hb18 => ⟨K17.go hb18, ?_⟩)
           have K18 := K17.go hb18
           have L18 := hb18.size
           refine kc (d := some 34) (f := 38) (args := #[.agg (dgQ X.re.val X.im.val), .agg (dgQ Y.re.val Y.im.val)]) (v := .bool false) (isPoint_f hP) (fun w19 hb19 => ⟨K18.go hb19, ?_⟩)
           have K19 := K18.go hb19
           have L19 := hb19.size
           refine kp (d := some 35) (v := .bool true) ?_
           refine kp (d := some 36) (v := .bool true) ?_
           have K20 : Kept WB [(wr.heap.size, (fps [a, b, c, d]))] [] w19 := Kept.zero K19.nb (rowsC (K19.at 0 rfl) rows0)
           refine k_end ?_
           go_simp
           go_wp2_with fail
           go_ret
           exact ⟨rfl, hbel.trans ((HWB.out ▸ K20.nb).mono hbel.size)⟩
       · have hrf : r = false := by rw [HDR.out, HB.out, decide_eq_false (fun h => hY h.2.1), Bool.false_and]
         subst hrf
         have HX := Lib.hid hX
         clear hX
         go_upto_region 4 with (first | (refine wpList_load_at rfl 35 _ rfl b0 (k * 64) rfl (fps [a, b, c, d]) _ HC.out Tryd.underlying35 rfl (by kernel_rfl) ?_) | (refine wpList_store_row rfl 35 _ _ rfl _ (fps [a, b, c, d]) rfl rfl _ _ (heap_alloc_new _ _) (by kernel_rfl) (by kernel_rfl) (all_fps _) ?_; rw [setRow_alloc_new]))
         obtain ⟨WB, hWB⟩ : ∃ WB : World, WB = wr := ⟨_, rfl⟩
         have HWB := Lib.hid hWB
         clear hWB
         refine wp_gen (fun W => Kept WB [(wr.heap.size, (fps [a, b, c, d]))] [] W) (HWB.out ▸ Kept.zero (nb_alloc (Below.refl _ _) _) (rowsC ⟨_, heap_alloc_new _ _⟩ rows0)) ?_
         intro W0 K0
         have K11 : Kept WB [(wr.heap.size, (fps [a, b, c, d]))] [] W0 := Kept.mks K0.nb (rowsC (K0.at 0 rfl) rows0) rooms0
         refine wrA (opsAt Tryd.f15 4) ((true, 0) :: (true, 1) :: (true, 2) :: (true, 3) :: (false, 4) :: (false, 5) :: (true, 6) :: (true, 7) :: (true, 8) :: (true, 9) :: (true, 10) :: (true, 11) :: (false, 12) :: (false, 13) :: (true, 14) :: (true, 15) :: (true, 16) :: (true, 17) :: (true, 18) :: (true, 20) :: (true, 21) :: (false, 19) :: (false, 22) :: (false, 23) :: (true, 24) :: (true, 25) :: []) (Kept WB [(wr.heap.size, (fps [a, b, c, d]))] []) K11.drew ?_
         have K12 := K11.drew
         have DK12 : W0.heap.size ≤ W0.drew.heap.size := Nat.le_refl _
         refine kp (d := some 11) (v := .pointer (some ⟨wr.heap.size, 0, none⟩)) ?_
         refine k_part (by kernel_rfl) (d := (some 12)) (by kernel_rfl) (ty := 33) (x := (.tmp 11)) (by kernel_rfl) (b := wr.heap.size) (off := 0) (by kernel_rfl) (all := (fps [a, b, c, d])) (cs := (fps [a, b])) (fun _ hs => hs.at 0 rfl) (fpsub2 (k := 0) rfl rfl) Tryd.underlying33 rfl (by kernel_rfl) ?_
         refine kp (d := some 13) (v := .pointer (some ⟨wr.heap.size, 0, none⟩)) ?_
         refine k_part (by kernel_rfl) (d := (some 14)) (by kernel_rfl) (ty := 33) (x := (.tmp 13)) (by kernel_rfl) (b := wr.heap.size) (off := 0) (by kernel_rfl) (all := (fps [a, b, c, d])) (cs := (fps [a, b])) (fun _ hs => hs.at 0 rfl) (fpsub2 (k := 0) rfl rfl) Tryd.underlying33 rfl (by kernel_rfl) ?_
         refine kc (d := some 15) (f := 19) (args := #[.agg (fps [a, b])]) (v := .agg (dgQ X.re.val X.im.val)) (OX) (fun w13 hb13 => ⟨K12.go hb13, ?_⟩)
         have K13 := K12.go hb13
         have L13 := hb13.size
         refine kc (d := some 16) (f := 30) (args := #[.agg (fps [a, b]), .agg (dgQ X.re.val X.im.val)]) (v := .bool true) (isQ_true HX.out.1 HX.out.2) (fun w14 hb14 => ⟨K13.go hb14, ?_⟩)
         have K14 := K13.go hb14
         have L14 := hb14.size
         refine kp (d := some 17) (v := .bool false) ?_
         refine kp (d := some 18) (v := .bool false) ?_
         refine kp (d := some 19) (v := .pointer (some ⟨wr.heap.size, 32, none⟩)) ?_
         refine k_part (by kernel_rfl) (d := (some 20)) (by kernel_rfl) (ty := 33) (x := (.tmp 19)) (by kernel_rfl) (b := wr.heap.size) (off := 32) (by kernel_rfl) (all := (fps [a, b, c, d])) (cs := (fps [c, d])) (fun _ hs => hs.at 0 rfl) (fpsub2 (k := 2) rfl rfl) Tryd.underlying33 rfl (by kernel_rfl) ?_
         refine kp (d := some 21) (v := .pointer (some ⟨wr.heap.size, 32, none⟩)) ?_
         refine k_part (by kernel_rfl) (d := (some 22)) (by kernel_rfl) (ty := 33) (x := (.tmp 21)) (by kernel_rfl) (b := wr.heap.size) (off := 32) (by kernel_rfl) (all := (fps [a, b, c, d])) (cs := (fps [c, d])) (fun _ hs => hs.at 0 rfl) (fpsub2 (k := 2) rfl rfl) Tryd.underlying33 rfl (by kernel_rfl) ?_
         refine kc (d := some 23) (f := 19) (args := #[.agg (fps [c, d])]) (v := .agg (dgQ Y.re.val Y.im.val)) (OY) (fun w15 hb15 => ⟨K14.go hb15, ?_⟩)
         have K15 := K14.go hb15
         have L15 := hb15.size
         refine kc (d := some 24) (f := 30) (args := #[.agg (fps [c, d]), .agg (dgQ Y.re.val Y.im.val)]) (v := .bool false) (isQ_f hc hd hY) (fun w16 hb16 => ⟨K15.go hb16, ?_⟩)
         have K16 := K15.go hb16
         have L16 := hb16.size
         refine kp (d := some 25) (v := .bool true) ?_
         refine kp (d := some 26) (v := .bool true) ?_
         refine kp (d := some 27) (v := .bool true) ?_
         refine k_skip (by kernel_rfl) (d := (some 28)) (by kernel_rfl) ?_
         refine k_skip (by kernel_rfl) (d := (some 29)) (by kernel_rfl) ?_
         refine k_skip (by kernel_rfl) (d := (some 31)) (by kernel_rfl) ?_
         refine k_skip (by kernel_rfl) (d := (some 32)) (by kernel_rfl) ?_
         refine k_skip' K16 (by kernel_rfl) (d := (some 30)) (by kernel_rfl) ?_
         refine k_skip' K16 (by kernel_rfl) (d := (some 33)) (by kernel_rfl) ?_
         refine k_skip' K16 (by kernel_rfl) (d := (some 34)) (by kernel_rfl) ?_
         refine k_skip (by kernel_rfl) (d := (some 35)) (by kernel_rfl) ?_
         refine kp (d := some 36) (v := .bool true) ?_
         have K17 : Kept WB [(wr.heap.size, (fps [a, b, c, d]))] [] w16 := Kept.zero K16.nb (rowsC (K16.at 0 rfl) rows0)
         refine k_end ?_
         go_simp
         go_wp2_with fail
         go_ret
         exact ⟨rfl, hbel.trans ((HWB.out ▸ K17.nb).mono hbel.size)⟩
     · have hrf : r = false := by rw [HDR.out, HB.out, decide_eq_false (fun h => hX h.1), Bool.false_and]
       subst hrf
       go_upto_region 4 with (first | (refine wpList_load_at rfl 35 _ rfl b0 (k * 64) rfl (fps [a, b, c, d]) _ HC.out Tryd.underlying35 rfl (by kernel_rfl) ?_) | (refine wpList_store_row rfl 35 _ _ rfl _ (fps [a, b, c, d]) rfl rfl _ _ (heap_alloc_new _ _) (by kernel_rfl) (by kernel_rfl) (all_fps _) ?_; rw [setRow_alloc_new]))
       obtain ⟨WB, hWB⟩ : ∃ WB : World, WB = wr := ⟨_, rfl⟩
       have HWB := Lib.hid hWB
       clear hWB
       refine wp_gen (fun W => Kept WB [(wr.heap.size, (fps [a, b, c, d]))] [] W) (HWB.out ▸ Kept.zero (nb_alloc (Below.refl _ _) _) (rowsC ⟨_, heap_alloc_new _ _⟩ rows0)) ?_
       intro W0 K0
       have K11 : Kept WB [(wr.heap.size, (fps [a, b, c, d]))] [] W0 := Kept.mks K0.nb (rowsC (K0.at 0 rfl) rows0) rooms0
       refine wrA (opsAt Tryd.f15 4) ((true, 0) :: (true, 1) :: (true, 2) :: (true, 3) :: (false, 4) :: (false, 5) :: (true, 6) :: (true, 7) :: (true, 8) :: (true, 9) :: (true, 10) :: (true, 11) :: (false, 12) :: (false, 13) :: (true, 14) :: (true, 15) :: (true, 16) :: (true, 17) :: (true, 18) :: (true, 20) :: (true, 21) :: (false, 19) :: (false, 22) :: (false, 23) :: (true, 24) :: (true, 25) :: []) (Kept WB [(wr.heap.size, (fps [a, b, c, d]))] []) K11.drew ?_
       have K12 := K11.drew
       have DK12 : W0.heap.size ≤ W0.drew.heap.size := Nat.le_refl _
       refine kp (d := some 11) (v := .pointer (some ⟨wr.heap.size, 0, none⟩)) ?_
       refine k_part (by kernel_rfl) (d := (some 12)) (by kernel_rfl) (ty := 33) (x := (.tmp 11)) (by kernel_rfl) (b := wr.heap.size) (off := 0) (by kernel_rfl) (all := (fps [a, b, c, d])) (cs := (fps [a, b])) (fun _ hs => hs.at 0 rfl) (fpsub2 (k := 0) rfl rfl) Tryd.underlying33 rfl (by kernel_rfl) ?_
       refine kp (d := some 13) (v := .pointer (some ⟨wr.heap.size, 0, none⟩)) ?_
       refine k_part (by kernel_rfl) (d := (some 14)) (by kernel_rfl) (ty := 33) (x := (.tmp 13)) (by kernel_rfl) (b := wr.heap.size) (off := 0) (by kernel_rfl) (all := (fps [a, b, c, d])) (cs := (fps [a, b])) (fun _ hs => hs.at 0 rfl) (fpsub2 (k := 0) rfl rfl) Tryd.underlying33 rfl (by kernel_rfl) ?_
       refine kc (d := some 15) (f := 19) (args := #[.agg (fps [a, b])]) (v := .agg (dgQ X.re.val X.im.val)) (OX) (fun w13 hb13 => ⟨K12.go hb13, ?_⟩)
       have K13 := K12.go hb13
       have L13 := hb13.size
       refine kc (d := some 16) (f := 30) (args := #[.agg (fps [a, b]), .agg (dgQ X.re.val X.im.val)]) (v := .bool false) (isQ_f ha hb hX) (fun w14 hb14 => ⟨K13.go hb14, ?_⟩)
       have K14 := K13.go hb14
       have L14 := hb14.size
       refine kp (d := some 17) (v := .bool true) ?_
       refine kp (d := some 18) (v := .bool true) ?_
       refine k_skip (by kernel_rfl) (d := (some 19)) (by kernel_rfl) ?_
       refine k_skip (by kernel_rfl) (d := (some 20)) (by kernel_rfl) ?_
       refine k_skip (by kernel_rfl) (d := (some 21)) (by kernel_rfl) ?_
       refine k_skip (by kernel_rfl) (d := (some 22)) (by kernel_rfl) ?_
       refine k_skip' K14 (by kernel_rfl) (d := (some 23)) (by kernel_rfl) ?_
       refine k_skip' K14 (by kernel_rfl) (d := (some 24)) (by kernel_rfl) ?_
       refine k_skip (by kernel_rfl) (d := (some 25)) (by kernel_rfl) ?_
       refine kp (d := some 26) (v := .bool true) ?_
       refine kp (d := some 27) (v := .bool true) ?_
       refine k_skip (by kernel_rfl) (d := (some 28)) (by kernel_rfl) ?_
       refine k_skip (by kernel_rfl) (d := (some 29)) (by kernel_rfl) ?_
       refine k_skip (by kernel_rfl) (d := (some 31)) (by kernel_rfl) ?_
       refine k_skip (by kernel_rfl) (d := (some 32)) (by kernel_rfl) ?_
       refine k_skip' K14 (by kernel_rfl) (d := (some 30)) (by kernel_rfl) ?_
       refine k_skip' K14 (by kernel_rfl) (d := (some 33)) (by kernel_rfl) ?_
       refine k_skip' K14 (by kernel_rfl) (d := (some 34)) (by kernel_rfl) ?_
       refine k_skip (by kernel_rfl) (d := (some 35)) (by kernel_rfl) ?_
       refine kp (d := some 36) (v := .bool true) ?_
       have K15 : Kept WB [(wr.heap.size, (fps [a, b, c, d]))] [] w14 := Kept.zero K14.nb (rowsC (K14.at 0 rfl) rows0)
       refine k_end ?_
       go_simp
       go_wp2_with fail
       go_ret
       exact ⟨rfl, hbel.trans ((HWB.out ▸ K15.nb).mono hbel.size)⟩
   · have hkl : k = l.length := by omega
     have hrt : r = true := by rw [← hr.out, hkl, List.drop_length]; rfl
     subst hrt
     clear hr
     subst hkl
     go_wp2_with fail
     go_ret
     exact ⟨rfl, hbel⟩
end Go.Proofs.YtfkfljohhabldaaDoor
namespace Go.Proofs.YtfkfljohhabldaaDoor
open Go.RowKit Go.FourQ
theorem on_r {w : World} {b0 : Nat} {l : List P4} {r : Bool} (hr : onAll l = r) (h : Fps w b0 (fl l)) (hl : ∀ p ∈ l, p.1 < 256 ^ 16 ∧ p.2.1 < 256 ^ 16 ∧ p.2.2.1 < 256 ^ 16 ∧ p.2.2.2 < 256 ^ 16) (hlen : l.length < 1000) :
   Calls Tryd.prog 15 #[.slice (some ⟨b0, 0, none⟩) l.length l.length] w fun e w' => e = .returned (.bool r) ∧ Below w.heap.size w w' := by
 subst hr; exact on_c h hl hlen
theorem lt4 {a b c d : Nat} (ha : a < 256 ^ 16) (hb : b < 256 ^ 16) (hc : c < 256 ^ 16) (hd : d < 256 ^ 16) : (a, b, c, d).1 < 256 ^ 16 ∧ (a, b, c, d).2.1 < 256 ^ 16 ∧ (a, b, c, d).2.2.1 < 256 ^ 16 ∧ (a, b, c, d).2.2.2 < 256 ^ 16 := ⟨ha, hb, hc, hd⟩
theorem lts0 : ∀ p ∈ ([] : List P4), p.1 < 256 ^ 16 ∧ p.2.1 < 256 ^ 16 ∧ p.2.2.1 < 256 ^ 16 ∧ p.2.2.2 < 256 ^ 16 := fun _ h => by simp at h
theorem ltsC {q : P4} {l : List P4} (h : q.1 < 256 ^ 16 ∧ q.2.1 < 256 ^ 16 ∧ q.2.2.1 < 256 ^ 16 ∧ q.2.2.2 < 256 ^ 16) (r : ∀ p ∈ l, p.1 < 256 ^ 16 ∧ p.2.1 < 256 ^ 16 ∧ p.2.2.1 < 256 ^ 16 ∧ p.2.2.2 < 256 ^ 16) : ∀ p ∈ q :: l, p.1 < 256 ^ 16 ∧ p.2.1 < 256 ^ 16 ∧ p.2.2.1 < 256 ^ 16 ∧ p.2.2.2 < 256 ^ 16 := fun p hp => by
 rcases List.mem_cons.1 hp with rfl | hp
 · exact h
 · exact r p hp
theorem ltPt (p : Pt) : p.x.re.val < 256 ^ 16 ∧ p.x.im.val < 256 ^ 16 ∧ p.y.re.val < 256 ^ 16 ∧ p.y.im.val < 256 ^ 16 := ⟨lt16 _, lt16 _, lt16 _, lt16 _⟩
theorem onB_pt (p : Pt) : onB (p.x.re.val, p.x.im.val, p.y.re.val, p.y.im.val) = true := by
 unfold onB
 simp only [zp_val]
 exact decide_eq_true ⟨⟨trivial, trivial⟩, ⟨trivial, trivial⟩, p.on⟩
/-- Whoever passes is a point. -/
theorem of_onB {a b c d : Nat} (h : onB (a, b, c, d) = true) : ∃ p : Pt, a = p.x.re.val ∧ b = p.x.im.val ∧ c = p.y.re.val ∧ d = p.y.im.val := by
 have h := of_decide_eq_true h
 exact ⟨⟨⟨zp a, zp b⟩, ⟨zp c, zp d⟩, h.2.2⟩, h.1.1, h.1.2, h.2.1.1, h.2.1.2⟩
end Go.Proofs.YtfkfljohhabldaaDoor
