/- Part 4 of what the laws lean on: arithmetic, walks through the functions, the curve. -/
import Derived.Test.YtfkfljohhabldaaDoorG3
import Derived.LaidMore
import Derived.Lay
import Derived.Lib.LaidTab
import Derived.OpenShut
import Derived.OpenVars
import Derived.ProofKit
import Derived.SevenTiedAt
import Derived.Stop.Joined
import Derived.Test.YtfkfljohhabldaaDoorRows
namespace Go.FourQ
open Go.RowKit
theorem zeroL {n : Nat} : ∀ v ∈ List.replicate n 0, LowB v := fun v hv => by rw [List.eq_of_mem_replicate hv]; exact low_zero
/-- From this place on stand these elements. -/
def AtL (w : World) (b o : Nat) (L : List Zq) : Prop := ∀ k x, L[k]? = some x → AtZ w b (o + 32 * k) x
theorem AtL.get {w : World} {b o : Nat} {L : List Zq} (h : AtL w b o L) (k : Nat) {x : Zq} (hk : L[k]? = some x) : AtZ w b (o + 32 * k) x := h k x hk
theorem AtL.get0 {w : World} {b : Nat} {L : List Zq} (h : AtL w b 0 L) (k : Nat) {x : Zq} (hk : L[k]? = some x) : AtZ w b (32 * k) x := by have := h k x hk; rwa [Nat.zero_add] at this
theorem FpsZ.atL {w : World} {b : Nat} {L : List Zq} (h : FpsZ w b (flat L)) : AtL w b 0 L := fun _ _ hk => h.atz hk (Nat.zero_add _)
theorem AtL.sto {w wr : World} {s : List (Nat × List Zp)} {b o : Nat} {L : List Zq} (h : AtL w b o L) (g : Sto w s wr) (hc : ∀ p ∈ s, p.1 ≠ b) : AtL wr b o L := fun k x hk => (h k x hk).sto g hc
theorem AtL.nb {w w' : World} {b o : Nat} {L : List Zq} (h : AtL w b o L) (v : Below w.heap.size w w') : AtL w' b o L := fun k x hk => (h k x hk).nb v
theorem AtL.lt {w : World} {b o : Nat} {x : Zq} {L : List Zq} (h : AtL w b o (x :: L)) : b < w.heap.size := (h 0 x rfl).q.fst.lt
end Go.FourQ
namespace Go.Proofs.YtfkfljohhabldaaDoor
open Go.RowKit Go.FourQ
section
variable {w : World} {b1 b2 b3 o1 o2 o3 k1 : Nat} {L1 : List Zq} {x X Y Z Ta Tb A B D W : Zq}
set_option maxRecDepth 100000 in
set_option maxHeartbeats 1000000 in
theorem addG (h1 : FpsZ w b1 (flat [X, Y, Z, Ta, Tb])) (ha : AtL w b2 o2 [A, B, D, W]) (hne : b2 ≠ b1) :
    Calls Tryd.prog 100 #[.pointer (some ⟨b1, 0, none⟩), .pointer (some ⟨b2, o2, none⟩)] w fun e w' => e = .returned (.tuple #[]) ∧ UpdZ w w' b1 (flat [(((Y + X) * A) - ((Y - X) * B)) * ((Z * W) - ((Ta * Tb) * D)), ((Z * W) + ((Ta * Tb) * D)) * (((Y + X) * A) + ((Y - X) * B)), ((Z * W) - ((Ta * Tb) * D)) * ((Z * W) + ((Ta * Tb) * D)), ((Y + X) * A) - ((Y - X) * B), ((Y + X) * A) + ((Y - X) * B)]) := by
  have HA := Lib.hid ha
  clear ha
  go_enter Tryd.func100, Tryd.ntmps100
  go_upto_region 17 with (fail)
  have HB2 := HA.out.lt
  refine wp_gen (fun W => Sto w [(b1, flat [X, Y, Z, Ta, Tb]), (w.heap.size, flat [0])] W) ((Sto.one h1).new (l := List.replicate 2 0) rfl (by rfl) zeroL rfl) ?_
  intro W0 H0
  obtain ⟨n, hn⟩ : ∃ n, w.heap.size = n := ⟨_, rfl⟩
  rw [hn] at H0 ⊢
  have HN : Hid (w.heap.size = n) := Lib.hid hn
  have HNL : w.heap.size ≤ n := Nat.le_of_eq hn
  clear hn
  have H0 : Sto w [(b1, flat [X, Y, Z, Ta, Tb]), (n, flat [0])] W0 := H0
  refine wp_seq_atS (opsAt Tryd.f100 17) ((true, 0) :: (true, 1) :: (true, 2) :: (false, 3) :: []) (fun _ => True) (by kernel_rfl) (by kernel_rfl) trivial ?_
  refine k_pure (by kernel_rfl) (d := (some 60)) (by kernel_rfl) (v := .pointer (some ⟨n, 0, none⟩)) (fun _ => by kernel_rfl) ?_
  refine k_pure (by kernel_rfl) (d := (some 61)) (by kernel_rfl) (v := .pointer (some ⟨b1, 96, none⟩)) (fun _ => by kernel_rfl) ?_
  refine k_pure (by kernel_rfl) (d := (some 62)) (by kernel_rfl) (v := .pointer (some ⟨b1, 128, none⟩)) (fun _ => by kernel_rfl) ?_
  refine k_callR (by kernel_rfl) (d := (some 63)) (by kernel_rfl) (f := 90) (args := #[.pointer (some ⟨n, 0, none⟩), .pointer (some ⟨b1, 96, none⟩), .pointer (some ⟨b1, 128, none⟩)]) (fun _ => by kernel_rfl) (sqMul H0 (i := 1) rfl (k1 := 0) rfl (Nat.lt_of_lt_of_eq (by decide : 0 < 1) rfl) (H0.atz 0 3 rfl rfl rfl) (H0.atz 0 4 rfl rfl rfl) (z := Ta * Tb) rfl) (fun _ w1 q1 => ⟨.tuple #[], q1.1, trivial, ?_⟩)
  have u1 := q1.2
  clear q1
  have H1 : Sto w [(b1, flat [X, Y, Z, Ta, Tb]), (n, flat [Ta * Tb])] w1 := u1
  clear u1 H0
  refine k_end ?_
  go_simp
  go_upto_region 18 with (fail)
  refine wp_seq_atS (opsAt Tryd.f100 18) ((true, 0) :: (true, 1) :: (true, 2) :: (false, 3) :: []) (fun _ => True) (by kernel_rfl) (by kernel_rfl) trivial ?_
  refine k_pure (by kernel_rfl) (d := (some 64)) (by kernel_rfl) (v := .pointer (some ⟨b1, 128, none⟩)) (fun _ => by kernel_rfl) ?_
  refine k_pure (by kernel_rfl) (d := (some 65)) (by kernel_rfl) (v := .pointer (some ⟨b1, 32, none⟩)) (fun _ => by kernel_rfl) ?_
  refine k_pure (by kernel_rfl) (d := (some 66)) (by kernel_rfl) (v := .pointer (some ⟨b1, 0, none⟩)) (fun _ => by kernel_rfl) ?_
  refine k_callR (by kernel_rfl) (d := (some 67)) (by kernel_rfl) (f := 91) (args := #[.pointer (some ⟨b1, 128, none⟩), .pointer (some ⟨b1, 32, none⟩), .pointer (some ⟨b1, 0, none⟩)]) (fun _ => by kernel_rfl) (sqSub H1 (i := 0) rfl (k1 := 4) rfl (Nat.lt_of_lt_of_eq (by decide : 4 < 5) rfl) (H1.atz 0 1 rfl rfl rfl) (H1.atz 0 0 rfl rfl rfl) (z := Y - X) rfl) (fun _ w2 q2 => ⟨.tuple #[], q2.1, trivial, ?_⟩)
  have u2 := q2.2
  clear q2
  have H2 : Sto w [(b1, flat [X, Y, Z, Ta, Y - X]), (n, flat [Ta * Tb])] w2 := u2
  clear u2 H1
  refine k_end ?_
  go_simp
  go_upto_region 19 with (fail)
  refine wp_seq_atS (opsAt Tryd.f100 19) ((true, 0) :: (true, 1) :: (true, 2) :: (false, 3) :: []) (fun _ => True) (by kernel_rfl) (by kernel_rfl) trivial ?_
  refine k_pure (by kernel_rfl) (d := (some 68)) (by kernel_rfl) (v := .pointer (some ⟨b1, 32, none⟩)) (fun _ => by kernel_rfl) ?_
  refine k_pure (by kernel_rfl) (d := (some 69)) (by kernel_rfl) (v := .pointer (some ⟨b1, 32, none⟩)) (fun _ => by kernel_rfl) ?_
  refine k_pure (by kernel_rfl) (d := (some 70)) (by kernel_rfl) (v := .pointer (some ⟨b1, 0, none⟩)) (fun _ => by kernel_rfl) ?_
  refine k_callR (by kernel_rfl) (d := (some 71)) (by kernel_rfl) (f := 92) (args := #[.pointer (some ⟨b1, 32, none⟩), .pointer (some ⟨b1, 32, none⟩), .pointer (some ⟨b1, 0, none⟩)]) (fun _ => by kernel_rfl) (sqAdd H2 (i := 0) rfl (k1 := 1) rfl (Nat.lt_of_lt_of_eq (by decide : 1 < 5) rfl) (H2.atz 0 1 rfl rfl rfl) (H2.atz 0 0 rfl rfl rfl) (z := Y + X) rfl) (fun _ w3 q3 => ⟨.tuple #[], q3.1, trivial, ?_⟩)
  have u3 := q3.2
  clear q3
  have H3 : Sto w [(b1, flat [X, Y + X, Z, Ta, Y - X]), (n, flat [Ta * Tb])] w3 := u3
  clear u3 H2
  refine k_end ?_
  go_simp
  go_upto_region 20 with (fail)
  refine wp_seq_atS (opsAt Tryd.f100 20) ((true, 0) :: (true, 1) :: (true, 2) :: (false, 3) :: []) (fun _ => True) (by kernel_rfl) (by kernel_rfl) trivial ?_
  refine k_pure (by kernel_rfl) (d := (some 72)) (by kernel_rfl) (v := .pointer (some ⟨b1, 0, none⟩)) (fun _ => by kernel_rfl) ?_
  refine k_pure (by kernel_rfl) (d := (some 73)) (by kernel_rfl) (v := .pointer (some ⟨b1, 128, none⟩)) (fun _ => by kernel_rfl) ?_
  refine k_pure (by kernel_rfl) (d := (some 74)) (by kernel_rfl) (v := .pointer (some ⟨b2, o2 + 32, none⟩)) (fun _ => by kernel_rfl) ?_
  refine k_callR (by kernel_rfl) (d := (some 75)) (by kernel_rfl) (f := 90) (args := #[.pointer (some ⟨b1, 0, none⟩), .pointer (some ⟨b1, 128, none⟩), .pointer (some ⟨b2, o2 + 32, none⟩)]) (fun _ => by kernel_rfl) (sqMul H3 (i := 0) rfl (k1 := 0) rfl (Nat.lt_of_lt_of_eq (by decide : 0 < 5) rfl) (H3.atz 0 4 rfl rfl rfl) (((HA.out.get 1 rfl)).sto H3 (ksC (Ne.symm hne) (ksC (by omega) ks0))) (z := (Y - X) * B) rfl) (fun _ w4 q4 => ⟨.tuple #[], q4.1, trivial, ?_⟩)
  have u4 := q4.2
  clear q4
  have H4 : Sto w [(b1, flat [(Y - X) * B, Y + X, Z, Ta, Y - X]), (n, flat [Ta * Tb])] w4 := u4
  clear u4 H3
  refine k_end ?_
  go_simp
  go_upto_region 21 with (fail)
  refine wp_seq_atS (opsAt Tryd.f100 21) ((true, 0) :: (true, 1) :: (true, 2) :: (false, 3) :: []) (fun _ => True) (by kernel_rfl) (by kernel_rfl) trivial ?_
  refine k_pure (by kernel_rfl) (d := (some 76)) (by kernel_rfl) (v := .pointer (some ⟨b1, 32, none⟩)) (fun _ => by kernel_rfl) ?_
  refine k_pure (by kernel_rfl) (d := (some 77)) (by kernel_rfl) (v := .pointer (some ⟨b1, 32, none⟩)) (fun _ => by kernel_rfl) ?_
  refine k_pure (by kernel_rfl) (d := (some 78)) (by kernel_rfl) (v := .pointer (some ⟨b2, o2, none⟩)) (fun _ => by kernel_rfl) ?_
  refine k_callR (by kernel_rfl) (d := (some 79)) (by kernel_rfl) (f := 90) (args := #[.pointer (some ⟨b1, 32, none⟩), .pointer (some ⟨b1, 32, none⟩), .pointer (some ⟨b2, o2, none⟩)]) (fun _ => by kernel_rfl) (sqMul H4 (i := 0) rfl (k1 := 1) rfl (Nat.lt_of_lt_of_eq (by decide : 1 < 5) rfl) (H4.atz 0 1 rfl rfl rfl) (((HA.out.get 0 rfl)).sto H4 (ksC (Ne.symm hne) (ksC (by omega) ks0))) (z := (Y + X) * A) rfl) (fun _ w5 q5 => ⟨.tuple #[], q5.1, trivial, ?_⟩)
  have u5 := q5.2
  clear q5
  have H5 : Sto w [(b1, flat [(Y - X) * B, (Y + X) * A, Z, Ta, Y - X]), (n, flat [Ta * Tb])] w5 := u5
  clear u5 H4
  refine k_end ?_
  go_simp
  go_upto_region 22 with (fail)
  refine wp_seq_atS (opsAt Tryd.f100 22) ((true, 0) :: (true, 1) :: (true, 2) :: (false, 3) :: []) (fun _ => True) (by kernel_rfl) (by kernel_rfl) trivial ?_
  refine k_pure (by kernel_rfl) (d := (some 80)) (by kernel_rfl) (v := .pointer (some ⟨b1, 96, none⟩)) (fun _ => by kernel_rfl) ?_
  refine k_pure (by kernel_rfl) (d := (some 81)) (by kernel_rfl) (v := .pointer (some ⟨b1, 32, none⟩)) (fun _ => by kernel_rfl) ?_
  refine k_pure (by kernel_rfl) (d := (some 82)) (by kernel_rfl) (v := .pointer (some ⟨b1, 0, none⟩)) (fun _ => by kernel_rfl) ?_
  refine k_callR (by kernel_rfl) (d := (some 83)) (by kernel_rfl) (f := 91) (args := #[.pointer (some ⟨b1, 96, none⟩), .pointer (some ⟨b1, 32, none⟩), .pointer (some ⟨b1, 0, none⟩)]) (fun _ => by kernel_rfl) (sqSub H5 (i := 0) rfl (k1 := 3) rfl (Nat.lt_of_lt_of_eq (by decide : 3 < 5) rfl) (H5.atz 0 1 rfl rfl rfl) (H5.atz 0 0 rfl rfl rfl) (z := ((Y + X) * A) - ((Y - X) * B)) rfl) (fun _ w6 q6 => ⟨.tuple #[], q6.1, trivial, ?_⟩)
  have u6 := q6.2
  clear q6
  have H6 : Sto w [(b1, flat [(Y - X) * B, (Y + X) * A, Z, ((Y + X) * A) - ((Y - X) * B), Y - X]), (n, flat [Ta * Tb])] w6 := u6
  clear u6 H5
  refine k_end ?_
  go_simp
  go_upto_region 23 with (fail)
  refine wp_seq_atS (opsAt Tryd.f100 23) ((true, 0) :: (true, 1) :: (true, 2) :: (false, 3) :: []) (fun _ => True) (by kernel_rfl) (by kernel_rfl) trivial ?_
  refine k_pure (by kernel_rfl) (d := (some 84)) (by kernel_rfl) (v := .pointer (some ⟨b1, 128, none⟩)) (fun _ => by kernel_rfl) ?_
  refine k_pure (by kernel_rfl) (d := (some 85)) (by kernel_rfl) (v := .pointer (some ⟨b1, 32, none⟩)) (fun _ => by kernel_rfl) ?_
  refine k_pure (by kernel_rfl) (d := (some 86)) (by kernel_rfl) (v := .pointer (some ⟨b1, 0, none⟩)) (fun _ => by kernel_rfl) ?_
  refine k_callR (by kernel_rfl) (d := (some 87)) (by kernel_rfl) (f := 92) (args := #[.pointer (some ⟨b1, 128, none⟩), .pointer (some ⟨b1, 32, none⟩), .pointer (some ⟨b1, 0, none⟩)]) (fun _ => by kernel_rfl) (sqAdd H6 (i := 0) rfl (k1 := 4) rfl (Nat.lt_of_lt_of_eq (by decide : 4 < 5) rfl) (H6.atz 0 1 rfl rfl rfl) (H6.atz 0 0 rfl rfl rfl) (z := ((Y + X) * A) + ((Y - X) * B)) rfl) (fun _ w7 q7 => ⟨.tuple #[], q7.1, trivial, ?_⟩)
  have u7 := q7.2
  clear q7
  have H7 : Sto w [(b1, flat [(Y - X) * B, (Y + X) * A, Z, ((Y + X) * A) - ((Y - X) * B), ((Y + X) * A) + ((Y - X) * B)]), (n, flat [Ta * Tb])] w7 := u7
  clear u7 H6
  refine k_end ?_
  go_simp
  go_upto_region 24 with (fail)
  refine wp_seq_atS (opsAt Tryd.f100 24) ((true, 0) :: (true, 1) :: (true, 2) :: (false, 3) :: []) (fun _ => True) (by kernel_rfl) (by kernel_rfl) trivial ?_
  refine k_pure (by kernel_rfl) (d := (some 88)) (by kernel_rfl) (v := .pointer (some ⟨b1, 32, none⟩)) (fun _ => by kernel_rfl) ?_
  refine k_pure (by kernel_rfl) (d := (some 89)) (by kernel_rfl) (v := .pointer (some ⟨b1, 64, none⟩)) (fun _ => by kernel_rfl) ?_
  refine k_pure (by kernel_rfl) (d := (some 90)) (by kernel_rfl) (v := .pointer (some ⟨b2, o2 + 96, none⟩)) (fun _ => by kernel_rfl) ?_
  refine k_callR (by kernel_rfl) (d := (some 91)) (by kernel_rfl) (f := 90) (args := #[.pointer (some ⟨b1, 32, none⟩), .pointer (some ⟨b1, 64, none⟩), .pointer (some ⟨b2, o2 + 96, none⟩)]) (fun _ => by kernel_rfl) (sqMul H7 (i := 0) rfl (k1 := 1) rfl (Nat.lt_of_lt_of_eq (by decide : 1 < 5) rfl) (H7.atz 0 2 rfl rfl rfl) (((HA.out.get 3 rfl)).sto H7 (ksC (Ne.symm hne) (ksC (by omega) ks0))) (z := Z * W) rfl) (fun _ w8 q8 => ⟨.tuple #[], q8.1, trivial, ?_⟩)
  have u8 := q8.2
  clear q8
  have H8 : Sto w [(b1, flat [(Y - X) * B, Z * W, Z, ((Y + X) * A) - ((Y - X) * B), ((Y + X) * A) + ((Y - X) * B)]), (n, flat [Ta * Tb])] w8 := u8
  clear u8 H7
  refine k_end ?_
  go_simp
  go_upto_region 25 with (fail)
  refine wp_seq_atS (opsAt Tryd.f100 25) ((true, 0) :: (true, 1) :: (true, 2) :: (false, 3) :: []) (fun _ => True) (by kernel_rfl) (by kernel_rfl) trivial ?_
  refine k_pure (by kernel_rfl) (d := (some 92)) (by kernel_rfl) (v := .pointer (some ⟨n, 0, none⟩)) (fun _ => by kernel_rfl) ?_
  refine k_pure (by kernel_rfl) (d := (some 93)) (by kernel_rfl) (v := .pointer (some ⟨n, 0, none⟩)) (fun _ => by kernel_rfl) ?_
  refine k_pure (by kernel_rfl) (d := (some 94)) (by kernel_rfl) (v := .pointer (some ⟨b2, o2 + 64, none⟩)) (fun _ => by kernel_rfl) ?_
  refine k_callR (by kernel_rfl) (d := (some 95)) (by kernel_rfl) (f := 90) (args := #[.pointer (some ⟨n, 0, none⟩), .pointer (some ⟨n, 0, none⟩), .pointer (some ⟨b2, o2 + 64, none⟩)]) (fun _ => by kernel_rfl) (sqMul H8 (i := 1) rfl (k1 := 0) rfl (Nat.lt_of_lt_of_eq (by decide : 0 < 1) rfl) (H8.atz 1 0 rfl rfl rfl) (((HA.out.get 2 rfl)).sto H8 (ksC (Ne.symm hne) (ksC (by omega) ks0))) (z := (Ta * Tb) * D) rfl) (fun _ w9 q9 => ⟨.tuple #[], q9.1, trivial, ?_⟩)
  have u9 := q9.2
  clear q9
  have H9 : Sto w [(b1, flat [(Y - X) * B, Z * W, Z, ((Y + X) * A) - ((Y - X) * B), ((Y + X) * A) + ((Y - X) * B)]), (n, flat [(Ta * Tb) * D])] w9 := u9
  clear u9 H8
  refine k_end ?_
  go_simp
  go_upto_region 26 with (fail)
  refine wp_seq_atS (opsAt Tryd.f100 26) ((true, 0) :: (true, 1) :: (true, 2) :: (false, 3) :: []) (fun _ => True) (by kernel_rfl) (by kernel_rfl) trivial ?_
  refine k_pure (by kernel_rfl) (d := (some 96)) (by kernel_rfl) (v := .pointer (some ⟨b1, 0, none⟩)) (fun _ => by kernel_rfl) ?_
  refine k_pure (by kernel_rfl) (d := (some 97)) (by kernel_rfl) (v := .pointer (some ⟨b1, 32, none⟩)) (fun _ => by kernel_rfl) ?_
  refine k_pure (by kernel_rfl) (d := (some 98)) (by kernel_rfl) (v := .pointer (some ⟨n, 0, none⟩)) (fun _ => by kernel_rfl) ?_
  refine k_callR (by kernel_rfl) (d := (some 99)) (by kernel_rfl) (f := 91) (args := #[.pointer (some ⟨b1, 0, none⟩), .pointer (some ⟨b1, 32, none⟩), .pointer (some ⟨n, 0, none⟩)]) (fun _ => by kernel_rfl) (sqSub H9 (i := 0) rfl (k1 := 0) rfl (Nat.lt_of_lt_of_eq (by decide : 0 < 5) rfl) (H9.atz 0 1 rfl rfl rfl) (H9.atz 1 0 rfl rfl rfl) (z := (Z * W) - ((Ta * Tb) * D)) rfl) (fun _ w10 q10 => ⟨.tuple #[], q10.1, trivial, ?_⟩)
  have u10 := q10.2
  clear q10
  have H10 : Sto w [(b1, flat [(Z * W) - ((Ta * Tb) * D), Z * W, Z, ((Y + X) * A) - ((Y - X) * B), ((Y + X) * A) + ((Y - X) * B)]), (n, flat [(Ta * Tb) * D])] w10 := u10
  clear u10 H9
  refine k_end ?_
  go_simp
  go_upto_region 27 with (fail)
  refine wp_seq_atS (opsAt Tryd.f100 27) ((true, 0) :: (true, 1) :: (true, 2) :: (false, 3) :: []) (fun _ => True) (by kernel_rfl) (by kernel_rfl) trivial ?_
  refine k_pure (by kernel_rfl) (d := (some 100)) (by kernel_rfl) (v := .pointer (some ⟨b1, 32, none⟩)) (fun _ => by kernel_rfl) ?_
  refine k_pure (by kernel_rfl) (d := (some 101)) (by kernel_rfl) (v := .pointer (some ⟨b1, 32, none⟩)) (fun _ => by kernel_rfl) ?_
  refine k_pure (by kernel_rfl) (d := (some 102)) (by kernel_rfl) (v := .pointer (some ⟨n, 0, none⟩)) (fun _ => by kernel_rfl) ?_
  refine k_callR (by kernel_rfl) (d := (some 103)) (by kernel_rfl) (f := 92) (args := #[.pointer (some ⟨b1, 32, none⟩), .pointer (some ⟨b1, 32, none⟩), .pointer (some ⟨n, 0, none⟩)]) (fun _ => by kernel_rfl) (sqAdd H10 (i := 0) rfl (k1 := 1) rfl (Nat.lt_of_lt_of_eq (by decide : 1 < 5) rfl) (H10.atz 0 1 rfl rfl rfl) (H10.atz 1 0 rfl rfl rfl) (z := (Z * W) + ((Ta * Tb) * D)) rfl) (fun _ w11 q11 => ⟨.tuple #[], q11.1, trivial, ?_⟩)
  have u11 := q11.2
  clear q11
  have H11 : Sto w [(b1, flat [(Z * W) - ((Ta * Tb) * D), (Z * W) + ((Ta * Tb) * D), Z, ((Y + X) * A) - ((Y - X) * B), ((Y + X) * A) + ((Y - X) * B)]), (n, flat [(Ta * Tb) * D])] w11 := u11
  clear u11 H10
  refine k_end ?_
  go_simp
  go_upto_region 28 with (fail)
  refine wp_seq_atS (opsAt Tryd.f100 28) ((true, 0) :: (true, 1) :: (true, 2) :: (false, 3) :: []) (fun _ => True) (by kernel_rfl) (by kernel_rfl) trivial ?_
  refine k_pure (by kernel_rfl) (d := (some 104)) (by kernel_rfl) (v := .pointer (some ⟨b1, 64, none⟩)) (fun _ => by kernel_rfl) ?_
  refine k_pure (by kernel_rfl) (d := (some 105)) (by kernel_rfl) (v := .pointer (some ⟨b1, 0, none⟩)) (fun _ => by kernel_rfl) ?_
  refine k_pure (by kernel_rfl) (d := (some 106)) (by kernel_rfl) (v := .pointer (some ⟨b1, 32, none⟩)) (fun _ => by kernel_rfl) ?_
  refine k_callR (by kernel_rfl) (d := (some 107)) (by kernel_rfl) (f := 90) (args := #[.pointer (some ⟨b1, 64, none⟩), .pointer (some ⟨b1, 0, none⟩), .pointer (some ⟨b1, 32, none⟩)]) (fun _ => by kernel_rfl) (sqMul H11 (i := 0) rfl (k1 := 2) rfl (Nat.lt_of_lt_of_eq (by decide : 2 < 5) rfl) (H11.atz 0 0 rfl rfl rfl) (H11.atz 0 1 rfl rfl rfl) (z := ((Z * W) - ((Ta * Tb) * D)) * ((Z * W) + ((Ta * Tb) * D))) rfl) (fun _ w12 q12 => ⟨.tuple #[], q12.1, trivial, ?_⟩)
  have u12 := q12.2
  clear q12
  have H12 : Sto w [(b1, flat [(Z * W) - ((Ta * Tb) * D), (Z * W) + ((Ta * Tb) * D), ((Z * W) - ((Ta * Tb) * D)) * ((Z * W) + ((Ta * Tb) * D)), ((Y + X) * A) - ((Y - X) * B), ((Y + X) * A) + ((Y - X) * B)]), (n, flat [(Ta * Tb) * D])] w12 := u12
  clear u12 H11
  refine k_end ?_
  go_simp
  go_upto_region 29 with (fail)
  refine wp_seq_atS (opsAt Tryd.f100 29) ((true, 0) :: (true, 1) :: (true, 2) :: (false, 3) :: []) (fun _ => True) (by kernel_rfl) (by kernel_rfl) trivial ?_
  refine k_pure (by kernel_rfl) (d := (some 108)) (by kernel_rfl) (v := .pointer (some ⟨b1, 0, none⟩)) (fun _ => by kernel_rfl) ?_
  refine k_pure (by kernel_rfl) (d := (some 109)) (by kernel_rfl) (v := .pointer (some ⟨b1, 96, none⟩)) (fun _ => by kernel_rfl) ?_
  refine k_pure (by kernel_rfl) (d := (some 110)) (by kernel_rfl) (v := .pointer (some ⟨b1, 0, none⟩)) (fun _ => by kernel_rfl) ?_
  refine k_callR (by kernel_rfl) (d := (some 111)) (by kernel_rfl) (f := 90) (args := #[.pointer (some ⟨b1, 0, none⟩), .pointer (some ⟨b1, 96, none⟩), .pointer (some ⟨b1, 0, none⟩)]) (fun _ => by kernel_rfl) (sqMul H12 (i := 0) rfl (k1 := 0) rfl (Nat.lt_of_lt_of_eq (by decide : 0 < 5) rfl) (H12.atz 0 3 rfl rfl rfl) (H12.atz 0 0 rfl rfl rfl) (z := (((Y + X) * A) - ((Y - X) * B)) * ((Z * W) - ((Ta * Tb) * D))) rfl) (fun _ w13 q13 => ⟨.tuple #[], q13.1, trivial, ?_⟩)
  have u13 := q13.2
  clear q13
  have H13 : Sto w [(b1, flat [(((Y + X) * A) - ((Y - X) * B)) * ((Z * W) - ((Ta * Tb) * D)), (Z * W) + ((Ta * Tb) * D), ((Z * W) - ((Ta * Tb) * D)) * ((Z * W) + ((Ta * Tb) * D)), ((Y + X) * A) - ((Y - X) * B), ((Y + X) * A) + ((Y - X) * B)]), (n, flat [(Ta * Tb) * D])] w13 := u13
  clear u13 H12
  refine k_end ?_
  go_simp
  go_upto_region 30 with (fail)
  refine wp_seq_atS (opsAt Tryd.f100 30) ((true, 0) :: (true, 1) :: (true, 2) :: (false, 3) :: []) (fun _ => True) (by kernel_rfl) (by kernel_rfl) trivial ?_
  refine k_pure (by kernel_rfl) (d := (some 112)) (by kernel_rfl) (v := .pointer (some ⟨b1, 32, none⟩)) (fun _ => by kernel_rfl) ?_
  refine k_pure (by kernel_rfl) (d := (some 113)) (by kernel_rfl) (v := .pointer (some ⟨b1, 32, none⟩)) (fun _ => by kernel_rfl) ?_
  refine k_pure (by kernel_rfl) (d := (some 114)) (by kernel_rfl) (v := .pointer (some ⟨b1, 128, none⟩)) (fun _ => by kernel_rfl) ?_
  refine k_callR (by kernel_rfl) (d := (some 115)) (by kernel_rfl) (f := 90) (args := #[.pointer (some ⟨b1, 32, none⟩), .pointer (some ⟨b1, 32, none⟩), .pointer (some ⟨b1, 128, none⟩)]) (fun _ => by kernel_rfl) (sqMul H13 (i := 0) rfl (k1 := 1) rfl (Nat.lt_of_lt_of_eq (by decide : 1 < 5) rfl) (H13.atz 0 1 rfl rfl rfl) (H13.atz 0 4 rfl rfl rfl) (z := ((Z * W) + ((Ta * Tb) * D)) * (((Y + X) * A) + ((Y - X) * B))) rfl) (fun _ w14 q14 => ⟨.tuple #[], q14.1, trivial, ?_⟩)
  have u14 := q14.2
  clear q14
  have H14 : Sto w [(b1, flat [(((Y + X) * A) - ((Y - X) * B)) * ((Z * W) - ((Ta * Tb) * D)), ((Z * W) + ((Ta * Tb) * D)) * (((Y + X) * A) + ((Y - X) * B)), ((Z * W) - ((Ta * Tb) * D)) * ((Z * W) + ((Ta * Tb) * D)), ((Y + X) * A) - ((Y - X) * B), ((Y + X) * A) + ((Y - X) * B)]), (n, flat [(Ta * Tb) * D])] w14 := u14
  clear u14 H13
  refine k_end ?_
  go_simp
  have HF := Lib.hid H14
  clear H14
  go_wp2_with fail
  go_end0
  exact ⟨rfl, HF.out.end1 (tsC (by omega) ts0)⟩
set_option maxRecDepth 100000 in
set_option maxHeartbeats 1000000 in
theorem addR (h1 : FpsZ w b1 (flat [X, Y, Z, Ta, Tb])) (ha : AtL w b2 o2 [A, B, D, W]) (hne : b2 ≠ b1) :
    Calls Tryd.prog 81 #[.pointer (some ⟨b1, 0, none⟩), .pointer (some ⟨b2, o2, none⟩)] w fun e w' => e = .returned (.tuple #[]) ∧ UpdZ w w' b1 (flat [(((Y + X) * A) - ((Y - X) * B)) * ((Z * W) - ((Ta * Tb) * D)), ((Z * W) + ((Ta * Tb) * D)) * (((Y + X) * A) + ((Y - X) * B)), ((Z * W) - ((Ta * Tb) * D)) * ((Z * W) + ((Ta * Tb) * D)), ((Y + X) * A) - ((Y - X) * B), ((Y + X) * A) + ((Y - X) * B)]) := by
  have C := Lib.hid (addG h1 ha hne)
  clear h1 ha hne
  go_enter Tryd.func81, Tryd.ntmps81
  go_wp2_with fail
  refine C.out.mono ?_
  rintro e w' ⟨rfl, u⟩
  have HU := Lib.hid u
  clear u
  go_wp2_with fail
  go_end0
  exact ⟨rfl, HU.out⟩
set_option maxRecDepth 100000 in
set_option maxHeartbeats 1000000 in
theorem toR1 {v0 v1 v2 v3 v4 : Zq} (h1 : FpsZ w b1 (flat [v0, v1, v2, v3, v4])) (ha : AtL w b2 0 [X, Y]) (hne : b2 ≠ b1) :
    Calls Tryd.prog 76 #[.pointer (some ⟨b2, 0, none⟩), .pointer (some ⟨b1, 0, none⟩)] w fun e w' => e = .returned (.tuple #[]) ∧ UpdZ w w' b1 (flat [X, Y, 1, X, Y]) := by
  have HA := Lib.hid ha
  clear ha
  go_enter Tryd.func76, Tryd.ntmps76
  go_upto_region 0 with (fail)
  have H0 : Sto w [(b1, flat [v0, v1, v2, v3, v4])] w := (Sto.one h1)
  refine wp_seq_atS (opsAt Tryd.f76 0) ((true, 0) :: (true, 1) :: (true, 2) :: (true, 3) :: (false, 4) :: (true, 5) :: (true, 6) :: (false, 7) :: []) (fun _ => True) (by kernel_rfl) (by kernel_rfl) trivial ?_
  refine k_pure (by kernel_rfl) (d := (some 4)) (by kernel_rfl) (v := .pointer (some ⟨b1, 0, none⟩)) (fun _ => by kernel_rfl) ?_
  refine k_pure (by kernel_rfl) (d := (some 5)) (by kernel_rfl) (v := .pointer (some ⟨b2, 0, none⟩)) (fun _ => by kernel_rfl) ?_
  refine k_pure (by kernel_rfl) (d := (some 6)) (by kernel_rfl) (v := .pointer (some ⟨b2, 0, none⟩)) (fun _ => by kernel_rfl) ?_
  refine k_pure (by kernel_rfl) (d := (some 7)) (by kernel_rfl) (v := .pointer (some ⟨b2, 0, none⟩)) (fun _ => by kernel_rfl) ?_
  refine k_loadZ (by kernel_rfl) (d := (some 8)) (by kernel_rfl) (ty := 83) (x := (.tmp 7)) (by kernel_rfl) (b := b2) (o := 0) (z := X) (by kernel_rfl) ((HA.out.get0 0 rfl).sto H0 (ksC (Ne.symm hne) ks0)) Tryd.underlying83 rfl (by kernel_rfl) trivial (fun x1 y1 lx1 ly1 zx1 zy1 => ?_)
  refine k_pure (by kernel_rfl) (d := (some 9)) (by kernel_rfl) (v := .pointer (some ⟨b1, 0, none⟩)) (fun _ => by kernel_rfl) ?_
  refine k_pure (by kernel_rfl) (d := (some 10)) (by kernel_rfl) (v := .pointer (some ⟨b1, 0, none⟩)) (fun _ => by kernel_rfl) ?_
  refine k_storeZ (by kernel_rfl) (d := none) (by kernel_rfl) (ty := 83) (x := (.tmp 10)) (y := (.tmp 8)) (by kernel_rfl) (b := b1) (o := 0) (k := 2 * 0) (u := x1) (v := y1) (by kernel_rfl) (by kernel_rfl) (H0.blk 0 _ _ rfl) (k2 rfl) (flat_lt (Nat.lt_of_lt_of_eq (by decide : 0 < 5) rfl)) lx1 ly1 zx1 zy1 (by kernel_rfl) (fun w2 u2 => ⟨trivial, ?_⟩)
  have u2 := H0.upd (i := 0) rfl u2
  rw [flat_set] at u2
  have H1 : Sto w [(b1, flat [X, v1, v2, v3, v4])] w2 := u2
  clear u2 H0
  clear zx1 zy1
  refine k_end ?_
  go_simp
  go_upto_region 1 with (fail)
  refine wp_seq_atS (opsAt Tryd.f76 1) ((true, 0) :: (true, 1) :: (true, 2) :: (true, 3) :: (false, 4) :: (true, 5) :: (true, 6) :: (false, 7) :: []) (fun _ => True) (by kernel_rfl) (by kernel_rfl) trivial ?_
  refine k_pure (by kernel_rfl) (d := (some 11)) (by kernel_rfl) (v := .pointer (some ⟨b1, 0, none⟩)) (fun _ => by kernel_rfl) ?_
  refine k_pure (by kernel_rfl) (d := (some 12)) (by kernel_rfl) (v := .pointer (some ⟨b2, 0, none⟩)) (fun _ => by kernel_rfl) ?_
  refine k_pure (by kernel_rfl) (d := (some 13)) (by kernel_rfl) (v := .pointer (some ⟨b2, 0, none⟩)) (fun _ => by kernel_rfl) ?_
  refine k_pure (by kernel_rfl) (d := (some 14)) (by kernel_rfl) (v := .pointer (some ⟨b2, 32, none⟩)) (fun _ => by kernel_rfl) ?_
  refine k_loadZ (by kernel_rfl) (d := (some 15)) (by kernel_rfl) (ty := 83) (x := (.tmp 14)) (by kernel_rfl) (b := b2) (o := 32) (z := Y) (by kernel_rfl) ((HA.out.get0 1 rfl).sto H1 (ksC (Ne.symm hne) ks0)) Tryd.underlying83 rfl (by kernel_rfl) trivial (fun x3 y3 lx3 ly3 zx3 zy3 => ?_)
  refine k_pure (by kernel_rfl) (d := (some 16)) (by kernel_rfl) (v := .pointer (some ⟨b1, 0, none⟩)) (fun _ => by kernel_rfl) ?_
  refine k_pure (by kernel_rfl) (d := (some 17)) (by kernel_rfl) (v := .pointer (some ⟨b1, 32, none⟩)) (fun _ => by kernel_rfl) ?_
  refine k_storeZ (by kernel_rfl) (d := none) (by kernel_rfl) (ty := 83) (x := (.tmp 17)) (y := (.tmp 15)) (by kernel_rfl) (b := b1) (o := 32) (k := 2 * 1) (u := x3) (v := y3) (by kernel_rfl) (by kernel_rfl) (H1.blk 0 _ _ rfl) (k2 rfl) (flat_lt (Nat.lt_of_lt_of_eq (by decide : 1 < 5) rfl)) lx3 ly3 zx3 zy3 (by kernel_rfl) (fun w4 u4 => ⟨trivial, ?_⟩)
  have u4 := H1.upd (i := 0) rfl u4
  rw [flat_set] at u4
  have H2 : Sto w [(b1, flat [X, Y, v2, v3, v4])] w4 := u4
  clear u4 H1
  clear zx3 zy3
  refine k_end ?_
  go_simp
  go_upto_region 2 with (fail)
  refine wp_seq_atS (opsAt Tryd.f76 2) ((true, 0) :: (true, 1) :: (true, 2) :: (true, 3) :: (false, 4) :: (true, 5) :: (true, 6) :: (false, 7) :: []) (fun _ => True) (by kernel_rfl) (by kernel_rfl) trivial ?_
  refine k_pure (by kernel_rfl) (d := (some 18)) (by kernel_rfl) (v := .pointer (some ⟨b1, 0, none⟩)) (fun _ => by kernel_rfl) ?_
  refine k_pure (by kernel_rfl) (d := (some 19)) (by kernel_rfl) (v := .pointer (some ⟨b2, 0, none⟩)) (fun _ => by kernel_rfl) ?_
  refine k_pure (by kernel_rfl) (d := (some 20)) (by kernel_rfl) (v := .pointer (some ⟨b2, 0, none⟩)) (fun _ => by kernel_rfl) ?_
  refine k_pure (by kernel_rfl) (d := (some 21)) (by kernel_rfl) (v := .pointer (some ⟨b2, 0, none⟩)) (fun _ => by kernel_rfl) ?_
  refine k_loadZ (by kernel_rfl) (d := (some 22)) (by kernel_rfl) (ty := 83) (x := (.tmp 21)) (by kernel_rfl) (b := b2) (o := 0) (z := X) (by kernel_rfl) ((HA.out.get0 0 rfl).sto H2 (ksC (Ne.symm hne) ks0)) Tryd.underlying83 rfl (by kernel_rfl) trivial (fun x5 y5 lx5 ly5 zx5 zy5 => ?_)
  refine k_pure (by kernel_rfl) (d := (some 23)) (by kernel_rfl) (v := .pointer (some ⟨b1, 0, none⟩)) (fun _ => by kernel_rfl) ?_
  refine k_pure (by kernel_rfl) (d := (some 24)) (by kernel_rfl) (v := .pointer (some ⟨b1, 96, none⟩)) (fun _ => by kernel_rfl) ?_
  refine k_storeZ (by kernel_rfl) (d := none) (by kernel_rfl) (ty := 83) (x := (.tmp 24)) (y := (.tmp 22)) (by kernel_rfl) (b := b1) (o := 96) (k := 2 * 3) (u := x5) (v := y5) (by kernel_rfl) (by kernel_rfl) (H2.blk 0 _ _ rfl) (k2 rfl) (flat_lt (Nat.lt_of_lt_of_eq (by decide : 3 < 5) rfl)) lx5 ly5 zx5 zy5 (by kernel_rfl) (fun w6 u6 => ⟨trivial, ?_⟩)
  have u6 := H2.upd (i := 0) rfl u6
  rw [flat_set] at u6
  have H3 : Sto w [(b1, flat [X, Y, v2, X, v4])] w6 := u6
  clear u6 H2
  clear zx5 zy5
  refine k_end ?_
  go_simp
  go_upto_region 3 with (fail)
  refine wp_seq_atS (opsAt Tryd.f76 3) ((true, 0) :: (true, 1) :: (true, 2) :: (true, 3) :: (false, 4) :: (true, 5) :: (true, 6) :: (false, 7) :: []) (fun _ => True) (by kernel_rfl) (by kernel_rfl) trivial ?_
  refine k_pure (by kernel_rfl) (d := (some 25)) (by kernel_rfl) (v := .pointer (some ⟨b1, 0, none⟩)) (fun _ => by kernel_rfl) ?_
  refine k_pure (by kernel_rfl) (d := (some 26)) (by kernel_rfl) (v := .pointer (some ⟨b2, 0, none⟩)) (fun _ => by kernel_rfl) ?_
  refine k_pure (by kernel_rfl) (d := (some 27)) (by kernel_rfl) (v := .pointer (some ⟨b2, 0, none⟩)) (fun _ => by kernel_rfl) ?_
  refine k_pure (by kernel_rfl) (d := (some 28)) (by kernel_rfl) (v := .pointer (some ⟨b2, 32, none⟩)) (fun _ => by kernel_rfl) ?_
  refine k_loadZ (by kernel_rfl) (d := (some 29)) (by kernel_rfl) (ty := 83) (x := (.tmp 28)) (by kernel_rfl) (b := b2) (o := 32) (z := Y) (by kernel_rfl) ((HA.out.get0 1 rfl).sto H3 (ksC (Ne.symm hne) ks0)) Tryd.underlying83 rfl (by kernel_rfl) trivial (fun x7 y7 lx7 ly7 zx7 zy7 => ?_)
  refine k_pure (by kernel_rfl) (d := (some 30)) (by kernel_rfl) (v := .pointer (some ⟨b1, 0, none⟩)) (fun _ => by kernel_rfl) ?_
  refine k_pure (by kernel_rfl) (d := (some 31)) (by kernel_rfl) (v := .pointer (some ⟨b1, 128, none⟩)) (fun _ => by kernel_rfl) ?_
  refine k_storeZ (by kernel_rfl) (d := none) (by kernel_rfl) (ty := 83) (x := (.tmp 31)) (y := (.tmp 29)) (by kernel_rfl) (b := b1) (o := 128) (k := 2 * 4) (u := x7) (v := y7) (by kernel_rfl) (by kernel_rfl) (H3.blk 0 _ _ rfl) (k2 rfl) (flat_lt (Nat.lt_of_lt_of_eq (by decide : 4 < 5) rfl)) lx7 ly7 zx7 zy7 (by kernel_rfl) (fun w8 u8 => ⟨trivial, ?_⟩)
  have u8 := H3.upd (i := 0) rfl u8
  rw [flat_set] at u8
  have H4 : Sto w [(b1, flat [X, Y, v2, X, Y])] w8 := u8
  clear u8 H3
  clear zx7 zy7
  refine k_end ?_
  go_simp
  go_upto_region 4 with (fail)
  refine wp_seq_atS (opsAt Tryd.f76 4) ((true, 0) :: (true, 1) :: (true, 2) :: (false, 3) :: []) (fun _ => True) (by kernel_rfl) (by kernel_rfl) trivial ?_
  refine k_pure (by kernel_rfl) (d := (some 32)) (by kernel_rfl) (v := .pointer (some ⟨b1, 0, none⟩)) (fun _ => by kernel_rfl) ?_
  refine k_pure (by kernel_rfl) (d := (some 33)) (by kernel_rfl) (v := .pointer (some ⟨b1, 0, none⟩)) (fun _ => by kernel_rfl) ?_
  refine k_pure (by kernel_rfl) (d := (some 34)) (by kernel_rfl) (v := .pointer (some ⟨b1, 64, none⟩)) (fun _ => by kernel_rfl) ?_
  refine k_callR (by kernel_rfl) (d := (some 35)) (by kernel_rfl) (f := 88) (args := #[.pointer (some ⟨b1, 64, none⟩)]) (fun _ => by kernel_rfl) (sqSet1 H4 (i := 0) rfl (k1 := 2) rfl (Nat.lt_of_lt_of_eq (by decide : 2 < 5) rfl)) (fun _ w9 q9 => ⟨.tuple #[], q9.1, trivial, ?_⟩)
  have u9 := q9.2
  clear q9
  have H5 : Sto w [(b1, flat [X, Y, 1, X, Y])] w9 := u9
  clear u9 H4
  refine k_end ?_
  go_simp
  have HF := Lib.hid H5
  clear H5
  go_wp2_with fail
  go_end0
  exact ⟨rfl, HF.out.end1 ts0⟩
set_option maxRecDepth 100000 in
set_option maxHeartbeats 1000000 in
theorem setIdR1 {v0 v1 v2 v3 v4 : Zq} (h1 : FpsZ w b1 (flat [v0, v1, v2, v3, v4])) :
    Calls Tryd.prog 78 #[.pointer (some ⟨b1, 0, none⟩)] w fun e w' => e = .returned (.tuple #[]) ∧ UpdZ w w' b1 (flat [0, 1, 1, 0, 0]) := by
  go_enter Tryd.func78, Tryd.ntmps78
  go_upto_region 0 with (fail)
  have H0 : Sto w [(b1, flat [v0, v1, v2, v3, v4])] w := (Sto.one h1)
  refine wp_seq_atS (opsAt Tryd.f78 0) ((true, 0) :: (true, 1) :: (true, 2) :: (false, 3) :: []) (fun _ => True) (by kernel_rfl) (by kernel_rfl) trivial ?_
  refine k_pure (by kernel_rfl) (d := (some 2)) (by kernel_rfl) (v := .pointer (some ⟨b1, 0, none⟩)) (fun _ => by kernel_rfl) ?_
  refine k_pure (by kernel_rfl) (d := (some 3)) (by kernel_rfl) (v := .pointer (some ⟨b1, 0, none⟩)) (fun _ => by kernel_rfl) ?_
  refine k_pure (by kernel_rfl) (d := (some 4)) (by kernel_rfl) (v := .pointer (some ⟨b1, 0, none⟩)) (fun _ => by kernel_rfl) ?_
  refine k_callR (by kernel_rfl) (d := (some 5)) (by kernel_rfl) (f := 98) (args := #[.pointer (some ⟨b1, 0, none⟩)]) (fun _ => by kernel_rfl) (sqSet0 H0 (i := 0) rfl (k1 := 0) rfl (Nat.lt_of_lt_of_eq (by decide : 0 < 5) rfl)) (fun _ w1 q1 => ⟨.tuple #[], q1.1, trivial, ?_⟩)
  have u1 := q1.2
  clear q1
  have H1 : Sto w [(b1, flat [0, v1, v2, v3, v4])] w1 := u1
  clear u1 H0
  refine k_end ?_
  go_simp
  go_upto_region 1 with (fail)
  refine wp_seq_atS (opsAt Tryd.f78 1) ((true, 0) :: (true, 1) :: (true, 2) :: (false, 3) :: []) (fun _ => True) (by kernel_rfl) (by kernel_rfl) trivial ?_
  refine k_pure (by kernel_rfl) (d := (some 6)) (by kernel_rfl) (v := .pointer (some ⟨b1, 0, none⟩)) (fun _ => by kernel_rfl) ?_
  refine k_pure (by kernel_rfl) (d := (some 7)) (by kernel_rfl) (v := .pointer (some ⟨b1, 0, none⟩)) (fun _ => by kernel_rfl) ?_
  refine k_pure (by kernel_rfl) (d := (some 8)) (by kernel_rfl) (v := .pointer (some ⟨b1, 32, none⟩)) (fun _ => by kernel_rfl) ?_
  refine k_callR (by kernel_rfl) (d := (some 9)) (by kernel_rfl) (f := 88) (args := #[.pointer (some ⟨b1, 32, none⟩)]) (fun _ => by kernel_rfl) (sqSet1 H1 (i := 0) rfl (k1 := 1) rfl (Nat.lt_of_lt_of_eq (by decide : 1 < 5) rfl)) (fun _ w2 q2 => ⟨.tuple #[], q2.1, trivial, ?_⟩)
  have u2 := q2.2
  clear q2
  have H2 : Sto w [(b1, flat [0, 1, v2, v3, v4])] w2 := u2
  clear u2 H1
  refine k_end ?_
  go_simp
  go_upto_region 2 with (fail)
  refine wp_seq_atS (opsAt Tryd.f78 2) ((true, 0) :: (true, 1) :: (true, 2) :: (false, 3) :: []) (fun _ => True) (by kernel_rfl) (by kernel_rfl) trivial ?_
  refine k_pure (by kernel_rfl) (d := (some 10)) (by kernel_rfl) (v := .pointer (some ⟨b1, 0, none⟩)) (fun _ => by kernel_rfl) ?_
  refine k_pure (by kernel_rfl) (d := (some 11)) (by kernel_rfl) (v := .pointer (some ⟨b1, 0, none⟩)) (fun _ => by kernel_rfl) ?_
  refine k_pure (by kernel_rfl) (d := (some 12)) (by kernel_rfl) (v := .pointer (some ⟨b1, 96, none⟩)) (fun _ => by kernel_rfl) ?_
  refine k_callR (by kernel_rfl) (d := (some 13)) (by kernel_rfl) (f := 98) (args := #[.pointer (some ⟨b1, 96, none⟩)]) (fun _ => by kernel_rfl) (sqSet0 H2 (i := 0) rfl (k1 := 3) rfl (Nat.lt_of_lt_of_eq (by decide : 3 < 5) rfl)) (fun _ w3 q3 => ⟨.tuple #[], q3.1, trivial, ?_⟩)
  have u3 := q3.2
  clear q3
  have H3 : Sto w [(b1, flat [0, 1, v2, 0, v4])] w3 := u3
  clear u3 H2
  refine k_end ?_
  go_simp
  go_upto_region 3 with (fail)
  refine wp_seq_atS (opsAt Tryd.f78 3) ((true, 0) :: (true, 1) :: (true, 2) :: (false, 3) :: []) (fun _ => True) (by kernel_rfl) (by kernel_rfl) trivial ?_
  refine k_pure (by kernel_rfl) (d := (some 14)) (by kernel_rfl) (v := .pointer (some ⟨b1, 0, none⟩)) (fun _ => by kernel_rfl) ?_
  refine k_pure (by kernel_rfl) (d := (some 15)) (by kernel_rfl) (v := .pointer (some ⟨b1, 0, none⟩)) (fun _ => by kernel_rfl) ?_
  refine k_pure (by kernel_rfl) (d := (some 16)) (by kernel_rfl) (v := .pointer (some ⟨b1, 128, none⟩)) (fun _ => by kernel_rfl) ?_
  refine k_callR (by kernel_rfl) (d := (some 17)) (by kernel_rfl) (f := 98) (args := #[.pointer (some ⟨b1, 128, none⟩)]) (fun _ => by kernel_rfl) (sqSet0 H3 (i := 0) rfl (k1 := 4) rfl (Nat.lt_of_lt_of_eq (by decide : 4 < 5) rfl)) (fun _ w4 q4 => ⟨.tuple #[], q4.1, trivial, ?_⟩)
  have u4 := q4.2
  clear q4
  have H4 : Sto w [(b1, flat [0, 1, v2, 0, 0])] w4 := u4
  clear u4 H3
  refine k_end ?_
  go_simp
  go_upto_region 4 with (fail)
  refine wp_seq_atS (opsAt Tryd.f78 4) ((true, 0) :: (true, 1) :: (true, 2) :: (false, 3) :: []) (fun _ => True) (by kernel_rfl) (by kernel_rfl) trivial ?_
  refine k_pure (by kernel_rfl) (d := (some 18)) (by kernel_rfl) (v := .pointer (some ⟨b1, 0, none⟩)) (fun _ => by kernel_rfl) ?_
  refine k_pure (by kernel_rfl) (d := (some 19)) (by kernel_rfl) (v := .pointer (some ⟨b1, 0, none⟩)) (fun _ => by kernel_rfl) ?_
  refine k_pure (by kernel_rfl) (d := (some 20)) (by kernel_rfl) (v := .pointer (some ⟨b1, 64, none⟩)) (fun _ => by kernel_rfl) ?_
  refine k_callR (by kernel_rfl) (d := (some 21)) (by kernel_rfl) (f := 88) (args := #[.pointer (some ⟨b1, 64, none⟩)]) (fun _ => by kernel_rfl) (sqSet1 H4 (i := 0) rfl (k1 := 2) rfl (Nat.lt_of_lt_of_eq (by decide : 2 < 5) rfl)) (fun _ w5 q5 => ⟨.tuple #[], q5.1, trivial, ?_⟩)
  have u5 := q5.2
  clear q5
  have H5 : Sto w [(b1, flat [0, 1, 1, 0, 0])] w5 := u5
  clear u5 H4
  refine k_end ?_
  go_simp
  have HF := Lib.hid H5
  clear H5
  go_wp2_with fail
  go_end0
  exact ⟨rfl, HF.out.end1 ts0⟩
set_option maxRecDepth 100000 in
set_option maxHeartbeats 1000000 in
theorem toAffine (hm : ModW w) (hg : 5 ≤ b1) (h1 : FpsZ w b1 (flat [X, Y, Z, Ta, Tb])) :
    Calls Tryd.prog 99 #[.pointer (some ⟨b1, 0, none⟩)] w fun e w' => e = .returned (.tuple #[]) ∧ UpdZ w w' b1 (flat [X * (Z.inv), Y * (Z.inv), 1, (X * (Z.inv)) * (Y * (Z.inv)), 1]) := by
  go_enter Tryd.func99, Tryd.ntmps99
  go_upto_region 0 with (fail)
  have H0 : Sto w [(b1, flat [X, Y, Z, Ta, Tb])] w := (Sto.one h1)
  refine wp_region_atS (opsAt Tryd.f99 0) ((true, 0) :: (true, 1) :: (true, 2) :: (true, 3) :: (true, 4) :: (true, 5) :: (false, 6) :: []) (fun _ => True) (by kernel_rfl) rfl (by kernel_rfl) (fun _ _ d _ _ h => by cases d <;> exact h) (by kernel_rfl) (by kernel_rfl) trivial ?_
  refine k_pure (by kernel_rfl) (d := (some 2)) (by kernel_rfl) (v := .pointer (some ⟨b1, 0, none⟩)) (fun _ => by kernel_rfl) ?_
  refine k_pure (by kernel_rfl) (d := (some 3)) (by kernel_rfl) (v := .pointer (some ⟨b1, 0, none⟩)) (fun _ => by kernel_rfl) ?_
  refine k_pure (by kernel_rfl) (d := (some 4)) (by kernel_rfl) (v := .pointer (some ⟨b1, 64, none⟩)) (fun _ => by kernel_rfl) ?_
  refine k_pure (by kernel_rfl) (d := (some 5)) (by kernel_rfl) (v := .pointer (some ⟨b1, 0, none⟩)) (fun _ => by kernel_rfl) ?_
  refine k_pure (by kernel_rfl) (d := (some 6)) (by kernel_rfl) (v := .pointer (some ⟨b1, 0, none⟩)) (fun _ => by kernel_rfl) ?_
  refine k_pure (by kernel_rfl) (d := (some 7)) (by kernel_rfl) (v := .pointer (some ⟨b1, 64, none⟩)) (fun _ => by kernel_rfl) ?_
  refine k_callR (by kernel_rfl) (d := (some 8)) (by kernel_rfl) (f := 126) (args := #[.pointer (some ⟨b1, 64, none⟩), .pointer (some ⟨b1, 64, none⟩)]) (fun _ => by kernel_rfl) (sqInv (hm.sto H0.drew (ksC (Nat.ne_of_gt (Nat.lt_of_lt_of_le (by decide) hg)) ks0)) (Nat.lt_of_lt_of_le (by decide) hg) H0.drew (i := 0) rfl (k1 := 2) rfl (Nat.lt_of_lt_of_eq (by decide : 2 < 5) rfl) (H0.drew.atz 0 2 rfl rfl rfl) (z := Z.inv) rfl) (fun _ w1 q1 => ⟨.tuple #[], q1.1, trivial, ?_⟩)
  have u1 := q1.2
  clear q1
  have H1 : Sto w [(b1, flat [X, Y, Z.inv, Ta, Tb])] w1 := u1
  clear u1 H0
  refine k_end ?_
  go_simp
  go_upto_region 1 with (fail)
  refine wp_region_atS (opsAt Tryd.f99 1) ((true, 0) :: (true, 1) :: (true, 2) :: (true, 3) :: (true, 4) :: (true, 5) :: (true, 6) :: (true, 7) :: (true, 8) :: (false, 9) :: []) (fun _ => True) (by kernel_rfl) rfl (by kernel_rfl) (fun _ _ d _ _ h => by cases d <;> exact h) (by kernel_rfl) (by kernel_rfl) trivial ?_
  refine k_pure (by kernel_rfl) (d := (some 9)) (by kernel_rfl) (v := .pointer (some ⟨b1, 0, none⟩)) (fun _ => by kernel_rfl) ?_
  refine k_pure (by kernel_rfl) (d := (some 10)) (by kernel_rfl) (v := .pointer (some ⟨b1, 0, none⟩)) (fun _ => by kernel_rfl) ?_
  refine k_pure (by kernel_rfl) (d := (some 11)) (by kernel_rfl) (v := .pointer (some ⟨b1, 0, none⟩)) (fun _ => by kernel_rfl) ?_
  refine k_pure (by kernel_rfl) (d := (some 12)) (by kernel_rfl) (v := .pointer (some ⟨b1, 0, none⟩)) (fun _ => by kernel_rfl) ?_
  refine k_pure (by kernel_rfl) (d := (some 13)) (by kernel_rfl) (v := .pointer (some ⟨b1, 0, none⟩)) (fun _ => by kernel_rfl) ?_
  refine k_pure (by kernel_rfl) (d := (some 14)) (by kernel_rfl) (v := .pointer (some ⟨b1, 0, none⟩)) (fun _ => by kernel_rfl) ?_
  refine k_pure (by kernel_rfl) (d := (some 15)) (by kernel_rfl) (v := .pointer (some ⟨b1, 0, none⟩)) (fun _ => by kernel_rfl) ?_
  refine k_pure (by kernel_rfl) (d := (some 16)) (by kernel_rfl) (v := .pointer (some ⟨b1, 0, none⟩)) (fun _ => by kernel_rfl) ?_
  refine k_pure (by kernel_rfl) (d := (some 17)) (by kernel_rfl) (v := .pointer (some ⟨b1, 64, none⟩)) (fun _ => by kernel_rfl) ?_
  refine k_callR (by kernel_rfl) (d := (some 18)) (by kernel_rfl) (f := 90) (args := #[.pointer (some ⟨b1, 0, none⟩), .pointer (some ⟨b1, 0, none⟩), .pointer (some ⟨b1, 64, none⟩)]) (fun _ => by kernel_rfl) (sqMul H1.drew (i := 0) rfl (k1 := 0) rfl (Nat.lt_of_lt_of_eq (by decide : 0 < 5) rfl) (H1.drew.atz 0 0 rfl rfl rfl) (H1.drew.atz 0 2 rfl rfl rfl) (z := X * (Z.inv)) rfl) (fun _ w2 q2 => ⟨.tuple #[], q2.1, trivial, ?_⟩)
  have u2 := q2.2
  clear q2
  have H2 : Sto w [(b1, flat [X * (Z.inv), Y, Z.inv, Ta, Tb])] w2 := u2
  clear u2 H1
  refine k_end ?_
  go_simp
  go_upto_region 2 with (fail)
  refine wp_region_atS (opsAt Tryd.f99 2) ((true, 0) :: (true, 1) :: (true, 2) :: (true, 3) :: (true, 4) :: (true, 5) :: (true, 6) :: (true, 7) :: (true, 8) :: (false, 9) :: []) (fun _ => True) (by kernel_rfl) rfl (by kernel_rfl) (fun _ _ d _ _ h => by cases d <;> exact h) (by kernel_rfl) (by kernel_rfl) trivial ?_
  refine k_pure (by kernel_rfl) (d := (some 19)) (by kernel_rfl) (v := .pointer (some ⟨b1, 0, none⟩)) (fun _ => by kernel_rfl) ?_
  refine k_pure (by kernel_rfl) (d := (some 20)) (by kernel_rfl) (v := .pointer (some ⟨b1, 0, none⟩)) (fun _ => by kernel_rfl) ?_
  refine k_pure (by kernel_rfl) (d := (some 21)) (by kernel_rfl) (v := .pointer (some ⟨b1, 32, none⟩)) (fun _ => by kernel_rfl) ?_
  refine k_pure (by kernel_rfl) (d := (some 22)) (by kernel_rfl) (v := .pointer (some ⟨b1, 0, none⟩)) (fun _ => by kernel_rfl) ?_
  refine k_pure (by kernel_rfl) (d := (some 23)) (by kernel_rfl) (v := .pointer (some ⟨b1, 0, none⟩)) (fun _ => by kernel_rfl) ?_
  refine k_pure (by kernel_rfl) (d := (some 24)) (by kernel_rfl) (v := .pointer (some ⟨b1, 32, none⟩)) (fun _ => by kernel_rfl) ?_
  refine k_pure (by kernel_rfl) (d := (some 25)) (by kernel_rfl) (v := .pointer (some ⟨b1, 0, none⟩)) (fun _ => by kernel_rfl) ?_
  refine k_pure (by kernel_rfl) (d := (some 26)) (by kernel_rfl) (v := .pointer (some ⟨b1, 0, none⟩)) (fun _ => by kernel_rfl) ?_
  refine k_pure (by kernel_rfl) (d := (some 27)) (by kernel_rfl) (v := .pointer (some ⟨b1, 64, none⟩)) (fun _ => by kernel_rfl) ?_
  refine k_callR (by kernel_rfl) (d := (some 28)) (by kernel_rfl) (f := 90) (args := #[.pointer (some ⟨b1, 32, none⟩), .pointer (some ⟨b1, 32, none⟩), .pointer (some ⟨b1, 64, none⟩)]) (fun _ => by kernel_rfl) (sqMul H2.drew (i := 0) rfl (k1 := 1) rfl (Nat.lt_of_lt_of_eq (by decide : 1 < 5) rfl) (H2.drew.atz 0 1 rfl rfl rfl) (H2.drew.atz 0 2 rfl rfl rfl) (z := Y * (Z.inv)) rfl) (fun _ w3 q3 => ⟨.tuple #[], q3.1, trivial, ?_⟩)
  have u3 := q3.2
  clear q3
  have H3 : Sto w [(b1, flat [X * (Z.inv), Y * (Z.inv), Z.inv, Ta, Tb])] w3 := u3
  clear u3 H2
  refine k_end ?_
  go_simp
  go_upto_region 3 with (fail)
  refine wp_region_atS (opsAt Tryd.f99 3) ((true, 0) :: (true, 1) :: (true, 2) :: (true, 3) :: (true, 4) :: (true, 5) :: (true, 6) :: (true, 7) :: (true, 8) :: (false, 9) :: []) (fun _ => True) (by kernel_rfl) rfl (by kernel_rfl) (fun _ _ d _ _ h => by cases d <;> exact h) (by kernel_rfl) (by kernel_rfl) trivial ?_
  refine k_pure (by kernel_rfl) (d := (some 29)) (by kernel_rfl) (v := .pointer (some ⟨b1, 0, none⟩)) (fun _ => by kernel_rfl) ?_
  refine k_pure (by kernel_rfl) (d := (some 30)) (by kernel_rfl) (v := .pointer (some ⟨b1, 0, none⟩)) (fun _ => by kernel_rfl) ?_
  refine k_pure (by kernel_rfl) (d := (some 31)) (by kernel_rfl) (v := .pointer (some ⟨b1, 96, none⟩)) (fun _ => by kernel_rfl) ?_
  refine k_pure (by kernel_rfl) (d := (some 32)) (by kernel_rfl) (v := .pointer (some ⟨b1, 0, none⟩)) (fun _ => by kernel_rfl) ?_
  refine k_pure (by kernel_rfl) (d := (some 33)) (by kernel_rfl) (v := .pointer (some ⟨b1, 0, none⟩)) (fun _ => by kernel_rfl) ?_
  refine k_pure (by kernel_rfl) (d := (some 34)) (by kernel_rfl) (v := .pointer (some ⟨b1, 0, none⟩)) (fun _ => by kernel_rfl) ?_
  refine k_pure (by kernel_rfl) (d := (some 35)) (by kernel_rfl) (v := .pointer (some ⟨b1, 0, none⟩)) (fun _ => by kernel_rfl) ?_
  refine k_pure (by kernel_rfl) (d := (some 36)) (by kernel_rfl) (v := .pointer (some ⟨b1, 0, none⟩)) (fun _ => by kernel_rfl) ?_
  refine k_pure (by kernel_rfl) (d := (some 37)) (by kernel_rfl) (v := .pointer (some ⟨b1, 32, none⟩)) (fun _ => by kernel_rfl) ?_
  refine k_callR (by kernel_rfl) (d := (some 38)) (by kernel_rfl) (f := 90) (args := #[.pointer (some ⟨b1, 96, none⟩), .pointer (some ⟨b1, 0, none⟩), .pointer (some ⟨b1, 32, none⟩)]) (fun _ => by kernel_rfl) (sqMul H3.drew (i := 0) rfl (k1 := 3) rfl (Nat.lt_of_lt_of_eq (by decide : 3 < 5) rfl) (H3.drew.atz 0 0 rfl rfl rfl) (H3.drew.atz 0 1 rfl rfl rfl) (z := (X * (Z.inv)) * (Y * (Z.inv))) rfl) (fun _ w4 q4 => ⟨.tuple #[], q4.1, trivial, ?_⟩)
  have u4 := q4.2
  clear q4
  have H4 : Sto w [(b1, flat [X * (Z.inv), Y * (Z.inv), Z.inv, (X * (Z.inv)) * (Y * (Z.inv)), Tb])] w4 := u4
  clear u4 H3
  refine k_end ?_
  go_simp
  go_upto_region 4 with (fail)
  refine wp_seq_atS (opsAt Tryd.f99 4) ((true, 0) :: (true, 1) :: (true, 2) :: (false, 3) :: []) (fun _ => True) (by kernel_rfl) (by kernel_rfl) trivial ?_
  refine k_pure (by kernel_rfl) (d := (some 39)) (by kernel_rfl) (v := .pointer (some ⟨b1, 0, none⟩)) (fun _ => by kernel_rfl) ?_
  refine k_pure (by kernel_rfl) (d := (some 40)) (by kernel_rfl) (v := .pointer (some ⟨b1, 0, none⟩)) (fun _ => by kernel_rfl) ?_
  refine k_pure (by kernel_rfl) (d := (some 41)) (by kernel_rfl) (v := .pointer (some ⟨b1, 128, none⟩)) (fun _ => by kernel_rfl) ?_
  refine k_callR (by kernel_rfl) (d := (some 42)) (by kernel_rfl) (f := 88) (args := #[.pointer (some ⟨b1, 128, none⟩)]) (fun _ => by kernel_rfl) (sqSet1 H4 (i := 0) rfl (k1 := 4) rfl (Nat.lt_of_lt_of_eq (by decide : 4 < 5) rfl)) (fun _ w5 q5 => ⟨.tuple #[], q5.1, trivial, ?_⟩)
  have u5 := q5.2
  clear q5
  have H5 : Sto w [(b1, flat [X * (Z.inv), Y * (Z.inv), Z.inv, (X * (Z.inv)) * (Y * (Z.inv)), 1])] w5 := u5
  clear u5 H4
  refine k_end ?_
  go_simp
  go_upto_region 5 with (fail)
  refine wp_seq_atS (opsAt Tryd.f99 5) ((true, 0) :: (true, 1) :: (true, 2) :: (false, 3) :: []) (fun _ => True) (by kernel_rfl) (by kernel_rfl) trivial ?_
  refine k_pure (by kernel_rfl) (d := (some 43)) (by kernel_rfl) (v := .pointer (some ⟨b1, 0, none⟩)) (fun _ => by kernel_rfl) ?_
  refine k_pure (by kernel_rfl) (d := (some 44)) (by kernel_rfl) (v := .pointer (some ⟨b1, 0, none⟩)) (fun _ => by kernel_rfl) ?_
  refine k_pure (by kernel_rfl) (d := (some 45)) (by kernel_rfl) (v := .pointer (some ⟨b1, 64, none⟩)) (fun _ => by kernel_rfl) ?_
  refine k_callR (by kernel_rfl) (d := (some 46)) (by kernel_rfl) (f := 88) (args := #[.pointer (some ⟨b1, 64, none⟩)]) (fun _ => by kernel_rfl) (sqSet1 H5 (i := 0) rfl (k1 := 2) rfl (Nat.lt_of_lt_of_eq (by decide : 2 < 5) rfl)) (fun _ w6 q6 => ⟨.tuple #[], q6.1, trivial, ?_⟩)
  have u6 := q6.2
  clear q6
  have H6 : Sto w [(b1, flat [X * (Z.inv), Y * (Z.inv), 1, (X * (Z.inv)) * (Y * (Z.inv)), 1])] w6 := u6
  clear u6 H5
  refine k_end ?_
  go_simp
  have HF := Lib.hid H6
  clear H6
  go_wp2_with fail
  go_end0
  exact ⟨rfl, HF.out.end1 ts0⟩
set_option maxRecDepth 100000 in
set_option maxHeartbeats 1000000 in
theorem fromR1 {v0 v1 : Zq} (hm : ModW w) (hg : 5 ≤ b1) (hg2 : 5 ≤ b2) (hne : b1 ≠ b2) (h1 : FpsZ w b1 (flat [v0, v1])) (h2 : FpsZ w b2 (flat [X, Y, Z, Ta, Tb])) :
    Calls Tryd.prog 79 #[.pointer (some ⟨b1, 0, none⟩), .pointer (some ⟨b2, 0, none⟩)] w fun e w' => e = .returned (.tuple #[]) ∧ Sto w [(b1, flat [X * (Z.inv), Y * (Z.inv)]), (b2, flat [X * (Z.inv), Y * (Z.inv), 1, (X * (Z.inv)) * (Y * (Z.inv)), 1])] w' := by
  go_enter Tryd.func79, Tryd.ntmps79
  go_upto_region 0 with (fail)
  have H0 : Sto w [(b1, flat [v0, v1]), (b2, flat [X, Y, Z, Ta, Tb])] w := (Sto.two h1 h2 hne)
  refine wp_seq_atS (opsAt Tryd.f79 0) ((true, 0) :: (false, 1) :: []) (fun _ => True) (by kernel_rfl) (by kernel_rfl) trivial ?_
  refine k_pure (by kernel_rfl) (d := (some 4)) (by kernel_rfl) (v := .pointer (some ⟨b2, 0, none⟩)) (fun _ => by kernel_rfl) ?_
  refine k_callR (by kernel_rfl) (d := (some 5)) (by kernel_rfl) (f := 99) (args := #[.pointer (some ⟨b2, 0, none⟩)]) (fun _ => by kernel_rfl) (up1 H0 (i := 1) rfl (toAffine (hm.sto H0 (ksC (Nat.ne_of_gt (Nat.lt_of_lt_of_le (by decide) hg)) (ksC (Nat.ne_of_gt (Nat.lt_of_lt_of_le (by decide) hg2)) ks0))) hg2 (H0.blk 1 _ _ rfl))) (fun _ w1 q1 => ⟨.tuple #[], q1.1, trivial, ?_⟩)
  have u1 := q1.2
  clear q1
  have H1 : Sto w [(b1, flat [v0, v1]), (b2, flat [X * (Z.inv), Y * (Z.inv), 1, (X * (Z.inv)) * (Y * (Z.inv)), 1])] w1 := u1
  clear u1 H0
  refine k_end ?_
  go_simp
  go_upto_region 1 with (fail)
  refine wp_seq_atS (opsAt Tryd.f79 1) ((true, 0) :: (true, 1) :: (true, 2) :: (true, 3) :: (false, 4) :: (true, 5) :: (true, 6) :: (false, 7) :: []) (fun _ => True) (by kernel_rfl) (by kernel_rfl) trivial ?_
  refine k_pure (by kernel_rfl) (d := (some 6)) (by kernel_rfl) (v := .pointer (some ⟨b1, 0, none⟩)) (fun _ => by kernel_rfl) ?_
  refine k_pure (by kernel_rfl) (d := (some 7)) (by kernel_rfl) (v := .pointer (some ⟨b2, 0, none⟩)) (fun _ => by kernel_rfl) ?_
  refine k_pure (by kernel_rfl) (d := (some 8)) (by kernel_rfl) (v := .pointer (some ⟨b2, 0, none⟩)) (fun _ => by kernel_rfl) ?_
  refine k_pure (by kernel_rfl) (d := (some 9)) (by kernel_rfl) (v := .pointer (some ⟨b2, 0, none⟩)) (fun _ => by kernel_rfl) ?_
  refine k_loadZ (by kernel_rfl) (d := (some 10)) (by kernel_rfl) (ty := 83) (x := (.tmp 9)) (by kernel_rfl) (b := b2) (o := 0) (z := X * (Z.inv)) (by kernel_rfl) (H1.atz 1 0 rfl rfl rfl) Tryd.underlying83 rfl (by kernel_rfl) trivial (fun x2 y2 lx2 ly2 zx2 zy2 => ?_)
  refine k_pure (by kernel_rfl) (d := (some 11)) (by kernel_rfl) (v := .pointer (some ⟨b1, 0, none⟩)) (fun _ => by kernel_rfl) ?_
  refine k_pure (by kernel_rfl) (d := (some 12)) (by kernel_rfl) (v := .pointer (some ⟨b1, 0, none⟩)) (fun _ => by kernel_rfl) ?_
  refine k_storeZ (by kernel_rfl) (d := none) (by kernel_rfl) (ty := 83) (x := (.tmp 12)) (y := (.tmp 10)) (by kernel_rfl) (b := b1) (o := 0) (k := 2 * 0) (u := x2) (v := y2) (by kernel_rfl) (by kernel_rfl) (H1.blk 0 _ _ rfl) (k2 rfl) (flat_lt (Nat.lt_of_lt_of_eq (by decide : 0 < 2) rfl)) lx2 ly2 zx2 zy2 (by kernel_rfl) (fun w3 u3 => ⟨trivial, ?_⟩)
  have u3 := H1.upd (i := 0) rfl u3
  rw [flat_set] at u3
  have H2 : Sto w [(b1, flat [X * (Z.inv), v1]), (b2, flat [X * (Z.inv), Y * (Z.inv), 1, (X * (Z.inv)) * (Y * (Z.inv)), 1])] w3 := u3
  clear u3 H1
  clear zx2 zy2
  refine k_end ?_
  go_simp
  go_upto_region 2 with (fail)
  refine wp_seq_atS (opsAt Tryd.f79 2) ((true, 0) :: (true, 1) :: (true, 2) :: (true, 3) :: (false, 4) :: (true, 5) :: (true, 6) :: (false, 7) :: []) (fun _ => True) (by kernel_rfl) (by kernel_rfl) trivial ?_
  refine k_pure (by kernel_rfl) (d := (some 13)) (by kernel_rfl) (v := .pointer (some ⟨b1, 0, none⟩)) (fun _ => by kernel_rfl) ?_
  refine k_pure (by kernel_rfl) (d := (some 14)) (by kernel_rfl) (v := .pointer (some ⟨b2, 0, none⟩)) (fun _ => by kernel_rfl) ?_
  refine k_pure (by kernel_rfl) (d := (some 15)) (by kernel_rfl) (v := .pointer (some ⟨b2, 0, none⟩)) (fun _ => by kernel_rfl) ?_
  refine k_pure (by kernel_rfl) (d := (some 16)) (by kernel_rfl) (v := .pointer (some ⟨b2, 32, none⟩)) (fun _ => by kernel_rfl) ?_
  refine k_loadZ (by kernel_rfl) (d := (some 17)) (by kernel_rfl) (ty := 83) (x := (.tmp 16)) (by kernel_rfl) (b := b2) (o := 32) (z := Y * (Z.inv)) (by kernel_rfl) (H2.atz 1 1 rfl rfl rfl) Tryd.underlying83 rfl (by kernel_rfl) trivial (fun x4 y4 lx4 ly4 zx4 zy4 => ?_)
  refine k_pure (by kernel_rfl) (d := (some 18)) (by kernel_rfl) (v := .pointer (some ⟨b1, 0, none⟩)) (fun _ => by kernel_rfl) ?_
  refine k_pure (by kernel_rfl) (d := (some 19)) (by kernel_rfl) (v := .pointer (some ⟨b1, 32, none⟩)) (fun _ => by kernel_rfl) ?_
  refine k_storeZ (by kernel_rfl) (d := none) (by kernel_rfl) (ty := 83) (x := (.tmp 19)) (y := (.tmp 17)) (by kernel_rfl) (b := b1) (o := 32) (k := 2 * 1) (u := x4) (v := y4) (by kernel_rfl) (by kernel_rfl) (H2.blk 0 _ _ rfl) (k2 rfl) (flat_lt (Nat.lt_of_lt_of_eq (by decide : 1 < 2) rfl)) lx4 ly4 zx4 zy4 (by kernel_rfl) (fun w5 u5 => ⟨trivial, ?_⟩)
  have u5 := H2.upd (i := 0) rfl u5
  rw [flat_set] at u5
  have H3 : Sto w [(b1, flat [X * (Z.inv), Y * (Z.inv)]), (b2, flat [X * (Z.inv), Y * (Z.inv), 1, (X * (Z.inv)) * (Y * (Z.inv)), 1])] w5 := u5
  clear u5 H2
  clear zx4 zy4
  refine k_end ?_
  go_simp
  have HF := Lib.hid H3
  clear H3
  go_wp2_with fail
  go_end0
  exact ⟨rfl, HF.out⟩
set_option maxRecDepth 100000 in
set_option maxHeartbeats 1000000 in
theorem fromR1to2 (hg : 5 ≤ b1) (hd : AtZ w 0 0 dd) (h1 : FpsZ w b1 (flat L1)) (ha : AtL w b2 0 [X, Y, Z, Ta, Tb]) (hne : b2 ≠ b1) (e1 : o1 = 32 * k1) (i1 : k1 + 3 < L1.length) :
    Calls Tryd.prog 80 #[.pointer (some ⟨b1, o1, none⟩), .pointer (some ⟨b2, 0, none⟩)] w fun e w' => e = .returned (.tuple #[]) ∧ UpdZ w w' b1 (flat ((((((L1.set k1 (Y + X)).set (k1 + 1) (Y - X)).set (k1 + 3) (Z + Z)).set (k1 + 2) (Ta * Tb)).set (k1 + 2) ((Ta * Tb) * dd)).set (k1 + 2) (((Ta * Tb) * dd) + ((Ta * Tb) * dd)))) := by
  have E1 := Lib.hid e1
  have I1 := Lib.hid i1
  have HA := Lib.hid ha
  clear e1 i1 ha
  go_enter Tryd.func80, Tryd.ntmps80
  go_upto_region 0 with (fail)
  have HB2 := HA.out.lt
  have HG0 := hd.q.fst.lt
  have HB1 := h1.lt
  have H0 : Sto w [(b1, flat L1)] w := (Sto.one h1)
  refine wp_region_atS (opsAt Tryd.f80 0) ((true, 0) :: (true, 1) :: (true, 2) :: (true, 3) :: (true, 4) :: (true, 5) :: (true, 6) :: (true, 7) :: (true, 8) :: (true, 9) :: (false, 10) :: []) (fun _ => True) (by kernel_rfl) rfl (by kernel_rfl) (fun _ _ d _ _ h => by cases d <;> exact h) (by kernel_rfl) (by kernel_rfl) trivial ?_
  refine k_pure (by kernel_rfl) (d := (some 5)) (by kernel_rfl) (v := .pointer (some ⟨b1, o1, none⟩)) (fun _ => by kernel_rfl) ?_
  refine k_pure (by kernel_rfl) (d := (some 6)) (by kernel_rfl) (v := .pointer (some ⟨b1, o1, none⟩)) (fun _ => by kernel_rfl) ?_
  refine k_pure (by kernel_rfl) (d := (some 7)) (by kernel_rfl) (v := .pointer (some ⟨b1, o1, none⟩)) (fun _ => by kernel_rfl) ?_
  refine k_pure (by kernel_rfl) (d := (some 8)) (by kernel_rfl) (v := .pointer (some ⟨b1, o1, none⟩)) (fun _ => by kernel_rfl) ?_
  refine k_pure (by kernel_rfl) (d := (some 9)) (by kernel_rfl) (v := .pointer (some ⟨b2, 0, none⟩)) (fun _ => by kernel_rfl) ?_
  refine k_pure (by kernel_rfl) (d := (some 10)) (by kernel_rfl) (v := .pointer (some ⟨b2, 0, none⟩)) (fun _ => by kernel_rfl) ?_
  refine k_pure (by kernel_rfl) (d := (some 11)) (by kernel_rfl) (v := .pointer (some ⟨b2, 32, none⟩)) (fun _ => by kernel_rfl) ?_
  refine k_pure (by kernel_rfl) (d := (some 12)) (by kernel_rfl) (v := .pointer (some ⟨b2, 0, none⟩)) (fun _ => by kernel_rfl) ?_
  refine k_pure (by kernel_rfl) (d := (some 13)) (by kernel_rfl) (v := .pointer (some ⟨b2, 0, none⟩)) (fun _ => by kernel_rfl) ?_
  refine k_pure (by kernel_rfl) (d := (some 14)) (by kernel_rfl) (v := .pointer (some ⟨b2, 0, none⟩)) (fun _ => by kernel_rfl) ?_
  refine k_callR (by kernel_rfl) (d := (some 15)) (by kernel_rfl) (f := 92) (args := #[.pointer (some ⟨b1, o1, none⟩), .pointer (some ⟨b2, 32, none⟩), .pointer (some ⟨b2, 0, none⟩)]) (fun _ => by kernel_rfl) (sqAdd H0.drew (i := 0) rfl (k1 := k1) E1.out (by have := I1.out; first | omega | (simp only [List.length_set]; omega)) ((HA.out.get0 1 rfl).sto H0.drew (ksC (Ne.symm hne) ks0)) ((HA.out.get0 0 rfl).sto H0.drew (ksC (Ne.symm hne) ks0)) (z := Y + X) rfl) (fun _ w1 q1 => ⟨.tuple #[], q1.1, trivial, ?_⟩)
  have u1 := q1.2
  clear q1
  have H1 : Sto w [(b1, flat (L1.set k1 (Y + X)))] w1 := u1
  clear u1 H0
  refine k_end ?_
  go_simp
  go_upto_region 1 with (fail)
  refine wp_region_atS (opsAt Tryd.f80 1) ((true, 0) :: (true, 1) :: (true, 2) :: (true, 3) :: (true, 4) :: (true, 5) :: (true, 6) :: (true, 7) :: (true, 8) :: (true, 9) :: (false, 10) :: []) (fun _ => True) (by kernel_rfl) rfl (by kernel_rfl) (fun _ _ d _ _ h => by cases d <;> exact h) (by kernel_rfl) (by kernel_rfl) trivial ?_
  refine k_pure (by kernel_rfl) (d := (some 16)) (by kernel_rfl) (v := .pointer (some ⟨b1, o1, none⟩)) (fun _ => by kernel_rfl) ?_
  refine k_pure (by kernel_rfl) (d := (some 17)) (by kernel_rfl) (v := .pointer (some ⟨b1, o1, none⟩)) (fun _ => by kernel_rfl) ?_
  refine k_pure (by kernel_rfl) (d := (some 18)) (by kernel_rfl) (v := .pointer (some ⟨b1, o1, none⟩)) (fun _ => by kernel_rfl) ?_
  refine k_pure (by kernel_rfl) (d := (some 19)) (by kernel_rfl) (v := .pointer (some ⟨b1, o1 + 32, none⟩)) (fun _ => by kernel_rfl) ?_
  refine k_pure (by kernel_rfl) (d := (some 20)) (by kernel_rfl) (v := .pointer (some ⟨b2, 0, none⟩)) (fun _ => by kernel_rfl) ?_
  refine k_pure (by kernel_rfl) (d := (some 21)) (by kernel_rfl) (v := .pointer (some ⟨b2, 0, none⟩)) (fun _ => by kernel_rfl) ?_
  refine k_pure (by kernel_rfl) (d := (some 22)) (by kernel_rfl) (v := .pointer (some ⟨b2, 32, none⟩)) (fun _ => by kernel_rfl) ?_
  refine k_pure (by kernel_rfl) (d := (some 23)) (by kernel_rfl) (v := .pointer (some ⟨b2, 0, none⟩)) (fun _ => by kernel_rfl) ?_
  refine k_pure (by kernel_rfl) (d := (some 24)) (by kernel_rfl) (v := .pointer (some ⟨b2, 0, none⟩)) (fun _ => by kernel_rfl) ?_
  refine k_pure (by kernel_rfl) (d := (some 25)) (by kernel_rfl) (v := .pointer (some ⟨b2, 0, none⟩)) (fun _ => by kernel_rfl) ?_
  refine k_callR (by kernel_rfl) (d := (some 26)) (by kernel_rfl) (f := 91) (args := #[.pointer (some ⟨b1, o1 + 32, none⟩), .pointer (some ⟨b2, 32, none⟩), .pointer (some ⟨b2, 0, none⟩)]) (fun _ => by kernel_rfl) (sqSub H1.drew (i := 0) rfl (k1 := (k1 + 1)) (by have := E1.out; omega) (by have := I1.out; first | omega | (simp only [List.length_set]; omega)) ((HA.out.get0 1 rfl).sto H1.drew (ksC (Ne.symm hne) ks0)) ((HA.out.get0 0 rfl).sto H1.drew (ksC (Ne.symm hne) ks0)) (z := Y - X) rfl) (fun _ w2 q2 => ⟨.tuple #[], q2.1, trivial, ?_⟩)
  have u2 := q2.2
  clear q2
  have H2 : Sto w [(b1, flat ((L1.set k1 (Y + X)).set (k1 + 1) (Y - X)))] w2 := u2
  clear u2 H1
  refine k_end ?_
  go_simp
  go_upto_region 2 with (fail)
  refine wp_region_atS (opsAt Tryd.f80 2) ((true, 0) :: (true, 1) :: (true, 2) :: (true, 3) :: (true, 4) :: (true, 5) :: (true, 6) :: (true, 7) :: (true, 8) :: (false, 9) :: []) (fun _ => True) (by kernel_rfl) rfl (by kernel_rfl) (fun _ _ d _ _ h => by cases d <;> exact h) (by kernel_rfl) (by kernel_rfl) trivial ?_
  refine k_pure (by kernel_rfl) (d := (some 27)) (by kernel_rfl) (v := .pointer (some ⟨b1, o1, none⟩)) (fun _ => by kernel_rfl) ?_
  refine k_pure (by kernel_rfl) (d := (some 28)) (by kernel_rfl) (v := .pointer (some ⟨b1, o1, none⟩)) (fun _ => by kernel_rfl) ?_
  refine k_pure (by kernel_rfl) (d := (some 29)) (by kernel_rfl) (v := .pointer (some ⟨b1, o1 + 96, none⟩)) (fun _ => by kernel_rfl) ?_
  refine k_pure (by kernel_rfl) (d := (some 30)) (by kernel_rfl) (v := .pointer (some ⟨b2, 0, none⟩)) (fun _ => by kernel_rfl) ?_
  refine k_pure (by kernel_rfl) (d := (some 31)) (by kernel_rfl) (v := .pointer (some ⟨b2, 0, none⟩)) (fun _ => by kernel_rfl) ?_
  refine k_pure (by kernel_rfl) (d := (some 32)) (by kernel_rfl) (v := .pointer (some ⟨b2, 64, none⟩)) (fun _ => by kernel_rfl) ?_
  refine k_pure (by kernel_rfl) (d := (some 33)) (by kernel_rfl) (v := .pointer (some ⟨b2, 0, none⟩)) (fun _ => by kernel_rfl) ?_
  refine k_pure (by kernel_rfl) (d := (some 34)) (by kernel_rfl) (v := .pointer (some ⟨b2, 0, none⟩)) (fun _ => by kernel_rfl) ?_
  refine k_pure (by kernel_rfl) (d := (some 35)) (by kernel_rfl) (v := .pointer (some ⟨b2, 64, none⟩)) (fun _ => by kernel_rfl) ?_
  refine k_callR (by kernel_rfl) (d := (some 36)) (by kernel_rfl) (f := 92) (args := #[.pointer (some ⟨b1, o1 + 96, none⟩), .pointer (some ⟨b2, 64, none⟩), .pointer (some ⟨b2, 64, none⟩)]) (fun _ => by kernel_rfl) (sqAdd H2.drew (i := 0) rfl (k1 := (k1 + 3)) (by have := E1.out; omega) (by have := I1.out; first | omega | (simp only [List.length_set]; omega)) ((HA.out.get0 2 rfl).sto H2.drew (ksC (Ne.symm hne) ks0)) ((HA.out.get0 2 rfl).sto H2.drew (ksC (Ne.symm hne) ks0)) (z := Z + Z) rfl) (fun _ w3 q3 => ⟨.tuple #[], q3.1, trivial, ?_⟩)
  have u3 := q3.2
  clear q3
  have H3 : Sto w [(b1, flat (((L1.set k1 (Y + X)).set (k1 + 1) (Y - X)).set (k1 + 3) (Z + Z)))] w3 := u3
  clear u3 H2
  refine k_end ?_
  go_simp
  go_upto_region 3 with (fail)
  refine wp_region_atS (opsAt Tryd.f80 3) ((true, 0) :: (true, 1) :: (true, 2) :: (true, 3) :: (true, 4) :: (true, 5) :: (true, 6) :: (true, 7) :: (true, 8) :: (true, 9) :: (false, 10) :: []) (fun _ => True) (by kernel_rfl) rfl (by kernel_rfl) (fun _ _ d _ _ h => by cases d <;> exact h) (by kernel_rfl) (by kernel_rfl) trivial ?_
  refine k_pure (by kernel_rfl) (d := (some 37)) (by kernel_rfl) (v := .pointer (some ⟨b1, o1, none⟩)) (fun _ => by kernel_rfl) ?_
  refine k_pure (by kernel_rfl) (d := (some 38)) (by kernel_rfl) (v := .pointer (some ⟨b1, o1, none⟩)) (fun _ => by kernel_rfl) ?_
  refine k_pure (by kernel_rfl) (d := (some 39)) (by kernel_rfl) (v := .pointer (some ⟨b1, o1, none⟩)) (fun _ => by kernel_rfl) ?_
  refine k_pure (by kernel_rfl) (d := (some 40)) (by kernel_rfl) (v := .pointer (some ⟨b1, o1 + 64, none⟩)) (fun _ => by kernel_rfl) ?_
  refine k_pure (by kernel_rfl) (d := (some 41)) (by kernel_rfl) (v := .pointer (some ⟨b2, 0, none⟩)) (fun _ => by kernel_rfl) ?_
  refine k_pure (by kernel_rfl) (d := (some 42)) (by kernel_rfl) (v := .pointer (some ⟨b2, 0, none⟩)) (fun _ => by kernel_rfl) ?_
  refine k_pure (by kernel_rfl) (d := (some 43)) (by kernel_rfl) (v := .pointer (some ⟨b2, 96, none⟩)) (fun _ => by kernel_rfl) ?_
  refine k_pure (by kernel_rfl) (d := (some 44)) (by kernel_rfl) (v := .pointer (some ⟨b2, 0, none⟩)) (fun _ => by kernel_rfl) ?_
  refine k_pure (by kernel_rfl) (d := (some 45)) (by kernel_rfl) (v := .pointer (some ⟨b2, 0, none⟩)) (fun _ => by kernel_rfl) ?_
  refine k_pure (by kernel_rfl) (d := (some 46)) (by kernel_rfl) (v := .pointer (some ⟨b2, 128, none⟩)) (fun _ => by kernel_rfl) ?_
  refine k_callR (by kernel_rfl) (d := (some 47)) (by kernel_rfl) (f := 90) (args := #[.pointer (some ⟨b1, o1 + 64, none⟩), .pointer (some ⟨b2, 96, none⟩), .pointer (some ⟨b2, 128, none⟩)]) (fun _ => by kernel_rfl) (sqMul H3.drew (i := 0) rfl (k1 := (k1 + 2)) (by have := E1.out; omega) (by have := I1.out; first | omega | (simp only [List.length_set]; omega)) ((HA.out.get0 3 rfl).sto H3.drew (ksC (Ne.symm hne) ks0)) ((HA.out.get0 4 rfl).sto H3.drew (ksC (Ne.symm hne) ks0)) (z := Ta * Tb) rfl) (fun _ w4 q4 => ⟨.tuple #[], q4.1, trivial, ?_⟩)
  have u4 := q4.2
  clear q4
  have H4 : Sto w [(b1, flat ((((L1.set k1 (Y + X)).set (k1 + 1) (Y - X)).set (k1 + 3) (Z + Z)).set (k1 + 2) (Ta * Tb)))] w4 := u4
  clear u4 H3
  refine k_end ?_
  go_simp
  go_upto_region 4 with (fail)
  refine wp_seq_atS (opsAt Tryd.f80 4) ((false, 0) :: (false, 1) :: (false, 2) :: []) (fun _ => True) (by kernel_rfl) (by kernel_rfl) trivial ?_
  refine k_loadZ (by kernel_rfl) (d := (some 48)) (by kernel_rfl) (ty := 83) (x := (.global 0)) (by kernel_rfl) (b := 0) (o := 0) (z := dd) (by kernel_rfl) ((hd).sto H4 (ksC (by omega) ks0)) Tryd.underlying83 rfl (by kernel_rfl) trivial (fun x5 y5 lx5 ly5 zx5 zy5 => ?_)
  refine k_make (by kernel_rfl) (d := (some 4)) (by kernel_rfl) (v := .pointer (some ⟨w4.heap.size, 0, none⟩)) (w' := w4.alloc (.cells (fps (List.replicate 2 0)) 83)) (by kernel_rfl) trivial ?_
  intro w6 hw6 _
  have hge6 : w.heap.size ≤ w4.heap.size := H4.size
  have u6 : Sto w [(b1, flat ((((L1.set k1 (Y + X)).set (k1 + 1) (Y - X)).set (k1 + 3) (Z + Z)).set (k1 + 2) (Ta * Tb))), (w4.heap.size, flat [0])] w6 := by rw [hw6]; exact H4.new (l := List.replicate 2 0) rfl rfl zeroL rfl
  clear hw6
  have H5 : Sto w [(b1, flat ((((L1.set k1 (Y + X)).set (k1 + 1) (Y - X)).set (k1 + 3) (Z + Z)).set (k1 + 2) (Ta * Tb))), (w4.heap.size, flat [0])] w6 := u6
  clear u6 H4
  refine k_storeZ (by kernel_rfl) (d := none) (by kernel_rfl) (ty := 83) (x := (.tmp 4)) (y := (.tmp 48)) (by kernel_rfl) (b := w4.heap.size) (o := 0) (k := 2 * 0) (u := x5) (v := y5) (by kernel_rfl) (by kernel_rfl) (H5.blk 1 _ _ rfl) (k2 rfl) (flat_lt (Nat.lt_of_lt_of_eq (by decide : 0 < 1) rfl)) lx5 ly5 zx5 zy5 (by kernel_rfl) (fun w7 u7 => ⟨trivial, ?_⟩)
  have u7 := H5.upd (i := 1) rfl u7
  rw [flat_set] at u7
  have H6 : Sto w [(b1, flat ((((L1.set k1 (Y + X)).set (k1 + 1) (Y - X)).set (k1 + 3) (Z + Z)).set (k1 + 2) (Ta * Tb))), (w4.heap.size, flat [dd])] w7 := u7
  clear u7 H5
  clear zx5 zy5
  refine k_end ?_
  go_simp
  go_upto_region 5 with (fail)
  refine wp_region_atS (opsAt Tryd.f80 5) ((true, 0) :: (true, 1) :: (true, 2) :: (true, 3) :: (true, 4) :: (true, 5) :: (true, 6) :: (true, 7) :: (false, 8) :: []) (fun _ => True) (by kernel_rfl) rfl (by kernel_rfl) (fun _ _ d _ _ h => by cases d <;> exact h) (by kernel_rfl) (by kernel_rfl) trivial ?_
  refine k_pure (by kernel_rfl) (d := (some 49)) (by kernel_rfl) (v := .pointer (some ⟨b1, o1, none⟩)) (fun _ => by kernel_rfl) ?_
  refine k_pure (by kernel_rfl) (d := (some 50)) (by kernel_rfl) (v := .pointer (some ⟨b1, o1, none⟩)) (fun _ => by kernel_rfl) ?_
  refine k_pure (by kernel_rfl) (d := (some 51)) (by kernel_rfl) (v := .pointer (some ⟨b1, o1, none⟩)) (fun _ => by kernel_rfl) ?_
  refine k_pure (by kernel_rfl) (d := (some 52)) (by kernel_rfl) (v := .pointer (some ⟨b1, o1 + 64, none⟩)) (fun _ => by kernel_rfl) ?_
  refine k_pure (by kernel_rfl) (d := (some 53)) (by kernel_rfl) (v := .pointer (some ⟨b1, o1, none⟩)) (fun _ => by kernel_rfl) ?_
  refine k_pure (by kernel_rfl) (d := (some 54)) (by kernel_rfl) (v := .pointer (some ⟨b1, o1, none⟩)) (fun _ => by kernel_rfl) ?_
  refine k_pure (by kernel_rfl) (d := (some 55)) (by kernel_rfl) (v := .pointer (some ⟨b1, o1, none⟩)) (fun _ => by kernel_rfl) ?_
  refine k_pure (by kernel_rfl) (d := (some 56)) (by kernel_rfl) (v := .pointer (some ⟨b1, o1 + 64, none⟩)) (fun _ => by kernel_rfl) ?_
  refine k_callR (by kernel_rfl) (d := (some 57)) (by kernel_rfl) (f := 90) (args := #[.pointer (some ⟨b1, o1 + 64, none⟩), .pointer (some ⟨b1, o1 + 64, none⟩), .pointer (some ⟨w4.heap.size, 0, none⟩)]) (fun _ => by kernel_rfl) (sqMul H6.drew (i := 0) rfl (k1 := (k1 + 2)) (by have := E1.out; omega) (by have := I1.out; first | omega | (simp only [List.length_set]; omega)) (H6.drew.atz 0 (k1 + 2) rfl (List.getElem?_set_self (by have := I1.out; first | omega | (simp only [List.length_set]; omega))) (by have := E1.out; omega)) (H6.drew.atz 1 0 rfl rfl rfl) (z := (Ta * Tb) * dd) rfl) (fun _ w8 q8 => ⟨.tuple #[], q8.1, trivial, ?_⟩)
  have u8 := q8.2
  clear q8
  have H7 : Sto w [(b1, flat (((((L1.set k1 (Y + X)).set (k1 + 1) (Y - X)).set (k1 + 3) (Z + Z)).set (k1 + 2) (Ta * Tb)).set (k1 + 2) ((Ta * Tb) * dd))), (w4.heap.size, flat [dd])] w8 := u8
  clear u8 H6
  refine k_end ?_
  go_simp
  go_upto_region 6 with (fail)
  refine wp_region_atS (opsAt Tryd.f80 6) ((true, 0) :: (true, 1) :: (true, 2) :: (true, 3) :: (true, 4) :: (true, 5) :: (true, 6) :: (true, 7) :: (true, 8) :: (true, 9) :: (true, 10) :: (true, 11) :: (false, 12) :: []) (fun _ => True) (by kernel_rfl) rfl (by kernel_rfl) (fun _ _ d _ _ h => by cases d <;> exact h) (by kernel_rfl) (by kernel_rfl) trivial ?_
  refine k_pure (by kernel_rfl) (d := (some 58)) (by kernel_rfl) (v := .pointer (some ⟨b1, o1, none⟩)) (fun _ => by kernel_rfl) ?_
  refine k_pure (by kernel_rfl) (d := (some 59)) (by kernel_rfl) (v := .pointer (some ⟨b1, o1, none⟩)) (fun _ => by kernel_rfl) ?_
  refine k_pure (by kernel_rfl) (d := (some 60)) (by kernel_rfl) (v := .pointer (some ⟨b1, o1, none⟩)) (fun _ => by kernel_rfl) ?_
  refine k_pure (by kernel_rfl) (d := (some 61)) (by kernel_rfl) (v := .pointer (some ⟨b1, o1 + 64, none⟩)) (fun _ => by kernel_rfl) ?_
  refine k_pure (by kernel_rfl) (d := (some 62)) (by kernel_rfl) (v := .pointer (some ⟨b1, o1, none⟩)) (fun _ => by kernel_rfl) ?_
  refine k_pure (by kernel_rfl) (d := (some 63)) (by kernel_rfl) (v := .pointer (some ⟨b1, o1, none⟩)) (fun _ => by kernel_rfl) ?_
  refine k_pure (by kernel_rfl) (d := (some 64)) (by kernel_rfl) (v := .pointer (some ⟨b1, o1, none⟩)) (fun _ => by kernel_rfl) ?_
  refine k_pure (by kernel_rfl) (d := (some 65)) (by kernel_rfl) (v := .pointer (some ⟨b1, o1 + 64, none⟩)) (fun _ => by kernel_rfl) ?_
  refine k_pure (by kernel_rfl) (d := (some 66)) (by kernel_rfl) (v := .pointer (some ⟨b1, o1, none⟩)) (fun _ => by kernel_rfl) ?_
  refine k_pure (by kernel_rfl) (d := (some 67)) (by kernel_rfl) (v := .pointer (some ⟨b1, o1, none⟩)) (fun _ => by kernel_rfl) ?_
  refine k_pure (by kernel_rfl) (d := (some 68)) (by kernel_rfl) (v := .pointer (some ⟨b1, o1, none⟩)) (fun _ => by kernel_rfl) ?_
  refine k_pure (by kernel_rfl) (d := (some 69)) (by kernel_rfl) (v := .pointer (some ⟨b1, o1 + 64, none⟩)) (fun _ => by kernel_rfl) ?_
  refine k_callR (by kernel_rfl) (d := (some 70)) (by kernel_rfl) (f := 92) (args := #[.pointer (some ⟨b1, o1 + 64, none⟩), .pointer (some ⟨b1, o1 + 64, none⟩), .pointer (some ⟨b1, o1 + 64, none⟩)]) (fun _ => by kernel_rfl) (sqAdd H7.drew (i := 0) rfl (k1 := (k1 + 2)) (by have := E1.out; omega) (by have := I1.out; first | omega | (simp only [List.length_set]; omega)) (H7.drew.atz 0 (k1 + 2) rfl (List.getElem?_set_self (by have := I1.out; first | omega | (simp only [List.length_set]; omega))) (by have := E1.out; omega)) (H7.drew.atz 0 (k1 + 2) rfl (List.getElem?_set_self (by have := I1.out; first | omega | (simp only [List.length_set]; omega))) (by have := E1.out; omega)) (z := ((Ta * Tb) * dd) + ((Ta * Tb) * dd)) rfl) (fun _ w9 q9 => ⟨.tuple #[], q9.1, trivial, ?_⟩)
  have u9 := q9.2
  clear q9
  have H8 : Sto w [(b1, flat ((((((L1.set k1 (Y + X)).set (k1 + 1) (Y - X)).set (k1 + 3) (Z + Z)).set (k1 + 2) (Ta * Tb)).set (k1 + 2) ((Ta * Tb) * dd)).set (k1 + 2) (((Ta * Tb) * dd) + ((Ta * Tb) * dd)))), (w4.heap.size, flat [dd])] w9 := u9
  clear u9 H7
  refine k_end ?_
  go_simp
  have HF := Lib.hid H8
  clear H8
  go_wp2_with fail
  go_end0
  exact ⟨rfl, HF.out.end1 (tsC (by omega) ts0)⟩
end
end Go.Proofs.YtfkfljohhabldaaDoor
namespace Go.FourQ
open Go.RowKit
/-- Five elements that stand for a point; four. -/
def R1L (p : Pt) (L : List Zq) : Prop := ∃ X Y Z Ta Tb, L = [X, Y, Z, Ta, Tb] ∧ Rep1 p X Y Z Ta Tb
def R2L (p : Pt) (L : List Zq) : Prop := ∃ A B D W, L = [A, B, D, W] ∧ Rep2 p A B D W
theorem len4 {L : List Zq} (h : L.length = 4) : ∃ a b c d, L = [a, b, c, d] := by
  match L, h with
  | [a, b, c, d], _ => exact ⟨a, b, c, d, rfl⟩
theorem len5 {L : List Zq} (h : L.length = 5) : ∃ a b c d e, L = [a, b, c, d, e] := by
  match L, h with
  | [a, b, c, d, e], _ => exact ⟨a, b, c, d, e, rfl⟩
/-- Four elements from the k-th on. -/
def set4 (L : List Zq) (k : Nat) (a b c d : Zq) : List Zq := (((L.set k a).set (k + 1) b).set (k + 2) c).set (k + 3) d
theorem set4_of (L : List Zq) (k : Nat) (a b c d c' c'' : Zq) : (((((L.set k a).set (k + 1) b).set (k + 3) d).set (k + 2) c').set (k + 2) c'').set (k + 2) c = set4 L k a b c d := by
  unfold set4
  rw [List.set_set, List.set_set, List.set_comm _ _ (by omega : k + 3 ≠ k + 2)]
section
variable {w wr w' : World} {s : List (Nat × List Zp)} {i j b c : Nat}
theorem upE {P : Program} {f : FuncId} {args : Array Value} {v : Value} {l : List Zp} {φ : List Zq → Prop} (h : Sto w s wr) (hi : s[i]? = some (b, l)) (C : Calls P f args wr fun e w' => e = .returned v ∧ ∃ L, φ L ∧ UpdZ wr w' b (flat L)) :
    Calls P f args wr fun e w' => e = .returned v ∧ ∃ L, φ L ∧ Sto w (s.set i (b, flat L)) w' := C.mono fun _ _ q => ⟨q.1, by obtain ⟨L, hL, u⟩ := q.2; exact ⟨L, hL, h.upd hi u⟩⟩
theorem up2E {P : Program} {f : FuncId} {args : Array Value} {v : Value} {l m M : List Zp} {φ : List Zq → Prop} (h : Sto w s wr) (hi : s[i]? = some (b, l)) (hj : s[j]? = some (c, m)) (hij : i ≠ j) (C : Calls P f args wr fun e w' => e = .returned v ∧ ∃ L, φ L ∧ Sto wr [(b, M), (c, flat L)] w') :
    Calls P f args wr fun e w' => e = .returned v ∧ ∃ L, φ L ∧ Sto w ((s.set i (b, M)).set j (c, flat L)) w' := C.mono fun _ _ q => ⟨q.1, by obtain ⟨L, hL, u⟩ := q.2; exact ⟨L, hL, h.upd2 hi hj hij u⟩⟩
end
end Go.FourQ
namespace Go.Proofs.YtfkfljohhabldaaDoor
open Go.RowKit Go.FourQ
section
variable {w : World} {b1 b2 b3 o1 o2 o3 k1 : Nat} {L M : List Zq} {p q : Pt}
theorem ptAdd (h1 : FpsZ w b1 (flat L)) (hp : R1L p L) (h2 : AtL w b2 o2 M) (hq : R2L q M) (hne : b2 ≠ b1) : Calls Tryd.prog 81 #[.pointer (some ⟨b1, 0, none⟩), .pointer (some ⟨b2, o2, none⟩)] w fun e w' => e = .returned (.tuple #[]) ∧ ∃ L', R1L (p + q) L' ∧ UpdZ w w' b1 (flat L') := by
  obtain ⟨X, Y, Z, Ta, Tb, rfl, h⟩ := hp
  obtain ⟨A, B, D, W, rfl, g⟩ := hq
  exact (addR h1 h2 hne).mono fun _ _ q => ⟨q.1, _, ⟨_, _, _, _, _, rfl, rep_add h g⟩, q.2⟩
theorem ptTo2g {k1 : Nat} (hg : 5 ≤ b1) (hd : AtZ w 0 0 dd) (h1 : FpsZ w b1 (flat M)) (e1 : o1 = 32 * k1) (i1 : k1 + 3 < M.length) (h2 : AtL w b2 0 L) (hp : R1L p L) (hne : b2 ≠ b1) : Calls Tryd.prog 80 #[.pointer (some ⟨b1, o1, none⟩), .pointer (some ⟨b2, 0, none⟩)] w fun e w' => e = .returned (.tuple #[]) ∧ ∃ A B D W, Rep2 p A B D W ∧ UpdZ w w' b1 (flat (set4 M k1 A B D W)) := by
  obtain ⟨X, Y, Z, Ta, Tb, rfl, h⟩ := hp
  refine (fromR1to2 hg hd h1 h2 hne e1 i1).mono fun _ _ q => ⟨q.1, _, _, _, _, rep_fromR1 h, ?_⟩
  rw [← set4_of]
  exact q.2
theorem ptTo2 (hg : 5 ≤ b1) (hd : AtZ w 0 0 dd) (h1 : FpsZ w b1 (flat M)) (hl : M.length = 4) (h2 : AtL w b2 0 L) (hp : R1L p L) (hne : b2 ≠ b1) : Calls Tryd.prog 80 #[.pointer (some ⟨b1, 0, none⟩), .pointer (some ⟨b2, 0, none⟩)] w fun e w' => e = .returned (.tuple #[]) ∧ ∃ M', R2L p M' ∧ UpdZ w w' b1 (flat M') := by
  obtain ⟨a, b, c, d, rfl⟩ := len4 hl
  exact (ptTo2g (k1 := 0) hg hd h1 rfl (by simp) h2 hp hne).mono fun _ _ q => ⟨q.1, by obtain ⟨A, B, D, W, hr, u⟩ := q.2; exact ⟨_, ⟨_, _, _, _, rfl, hr⟩, u⟩⟩
theorem ptToR1 (h1 : FpsZ w b1 (flat L)) (hl : L.length = 5) (ha : AtL w b2 0 [p.x, p.y]) (hne : b2 ≠ b1) : Calls Tryd.prog 76 #[.pointer (some ⟨b2, 0, none⟩), .pointer (some ⟨b1, 0, none⟩)] w fun e w' => e = .returned (.tuple #[]) ∧ ∃ L', R1L p L' ∧ UpdZ w w' b1 (flat L') := by
  obtain ⟨a, b, c, d, e, rfl⟩ := len5 hl
  exact (toR1 h1 ha hne).mono fun _ _ q => ⟨q.1, _, ⟨_, _, _, _, _, rfl, rep_toR1 p⟩, q.2⟩
theorem ptSetId (h1 : FpsZ w b1 (flat L)) (hl : L.length = 5) : Calls Tryd.prog 78 #[.pointer (some ⟨b1, 0, none⟩)] w fun e w' => e = .returned (.tuple #[]) ∧ ∃ L', R1L Pt.zero L' ∧ UpdZ w w' b1 (flat L') := by
  obtain ⟨a, b, c, d, e, rfl⟩ := len5 hl
  exact (setIdR1 h1).mono fun _ _ q => ⟨q.1, _, ⟨_, _, _, _, _, rfl, rep_zero⟩, q.2⟩
theorem ptFromR1 {v0 v1 : Zq} (hm : ModW w) (hg : 5 ≤ b1) (hg2 : 5 ≤ b2) (hne : b1 ≠ b2) (h1 : FpsZ w b1 (flat [v0, v1])) (h2 : FpsZ w b2 (flat L)) (hp : R1L p L) : Calls Tryd.prog 79 #[.pointer (some ⟨b1, 0, none⟩), .pointer (some ⟨b2, 0, none⟩)] w fun e w' => e = .returned (.tuple #[]) ∧ ∃ L', L'.length = 5 ∧ Sto w [(b1, flat [p.x, p.y]), (b2, flat L')] w' := by
  obtain ⟨X, Y, Z, Ta, Tb, rfl, h⟩ := hp
  have ha := rep_affine h
  refine (fromR1 hm hg hg2 hne h1 h2).mono fun _ _ q => ⟨q.1, [X * Z.inv, Y * Z.inv, 1, X * Z.inv * (Y * Z.inv), 1], rfl, ?_⟩
  have u := q.2
  rw [ha.1, ha.2] at u ⊢
  exact u
set_option maxRecDepth 100000 in
set_option maxHeartbeats 1000000 in
theorem ptAddP {v0 v1 : Zq} (hm : ModW w) (hg : 5 ≤ b1) (hd : AtZ w 0 0 dd) (h1 : FpsZ w b1 (flat [v0, v1])) (ha : AtL w b2 0 [p.x, p.y]) (hb : AtL w b3 0 [q.x, q.y]) (hne2 : b2 ≠ b1) (hne3 : b3 ≠ b1) :
    Calls Tryd.prog 56 #[.pointer (some ⟨b1, 0, none⟩), .pointer (some ⟨b2, 0, none⟩), .pointer (some ⟨b3, 0, none⟩)] w fun e w' => e = .returned (.tuple #[]) ∧ UpdZ w w' b1 (flat [(p + q).x, (p + q).y]) := by
  have HA := Lib.hid ha
  have HB := Lib.hid hb
  clear ha hb
  go_enter Tryd.func56, Tryd.ntmps56
  go_upto_region 2 with (fail)
  have HB2 := HA.out.lt
  have HB3 := HB.out.lt
  have HG0 := hd.q.fst.lt
  have HB1 := h1.lt
  have HGM := hm.lt
  refine wp_gen (fun W => Sto w [(b1, flat [v0, v1]), (w.heap.size, flat [0, 0, 0, 0, 0]), (w.heap.size + 1, flat [0, 0, 0, 0, 0]), (w.heap.size + 1 + 1, flat [0, 0, 0, 0])] W) ((((Sto.one h1).new (l := List.replicate 10 0) rfl (by rfl) zeroL rfl).new (l := List.replicate 10 0) (by simp) (by rfl) zeroL rfl).new (l := List.replicate 8 0) (by simp) (by rfl) zeroL rfl) ?_
  intro W0 H0
  obtain ⟨n, hn⟩ : ∃ n, w.heap.size = n := ⟨_, rfl⟩
  rw [hn] at H0 ⊢
  have HN : Hid (w.heap.size = n) := Lib.hid hn
  have HNL : w.heap.size ≤ n := Nat.le_of_eq hn
  clear hn
  have H0 : Sto w [(b1, flat [v0, v1]), (n, flat [0, 0, 0, 0, 0]), (n + 1, flat [0, 0, 0, 0, 0]), (n + 1 + 1, flat [0, 0, 0, 0])] W0 := H0
  refine wp_seq_atS (opsAt Tryd.f56 2) ((true, 0) :: (false, 1) :: []) (fun _ => True) (by kernel_rfl) (by kernel_rfl) trivial ?_
  refine k_pure (by kernel_rfl) (d := (some 9)) (by kernel_rfl) (v := .pointer (some ⟨b2, 0, none⟩)) (fun _ => by kernel_rfl) ?_
  refine k_callR (by kernel_rfl) (d := (some 10)) (by kernel_rfl) (f := 76) (args := #[.pointer (some ⟨b2, 0, none⟩), .pointer (some ⟨n, 0, none⟩)]) (fun _ => by kernel_rfl) (upE H0 (i := 1) rfl (ptToR1 (p := p) (H0.blk 1 _ _ rfl) rfl ((HA.out).sto H0 (ksC (Ne.symm hne2) (ksC (by omega) (ksC (by omega) (ksC (by omega) ks0))))) (Ne.symm (by omega)))) (fun _ w1 q1 => ⟨.tuple #[], q1.1, trivial, ?_⟩)
  obtain ⟨L1, hL1, u1⟩ := q1.2
  clear q1
  have H1 : Sto w [(b1, flat [v0, v1]), (n, flat L1), (n + 1, flat [0, 0, 0, 0, 0]), (n + 1 + 1, flat [0, 0, 0, 0])] w1 := u1
  clear u1 H0
  refine k_end ?_
  go_simp
  go_upto_region 3 with (fail)
  refine wp_seq_atS (opsAt Tryd.f56 3) ((true, 0) :: (false, 1) :: []) (fun _ => True) (by kernel_rfl) (by kernel_rfl) trivial ?_
  refine k_pure (by kernel_rfl) (d := (some 11)) (by kernel_rfl) (v := .pointer (some ⟨b3, 0, none⟩)) (fun _ => by kernel_rfl) ?_
  refine k_callR (by kernel_rfl) (d := (some 12)) (by kernel_rfl) (f := 76) (args := #[.pointer (some ⟨b3, 0, none⟩), .pointer (some ⟨n + 1, 0, none⟩)]) (fun _ => by kernel_rfl) (upE H1 (i := 2) rfl (ptToR1 (p := q) (H1.blk 2 _ _ rfl) rfl ((HB.out).sto H1 (ksC (Ne.symm hne3) (ksC (by omega) (ksC (by omega) (ksC (by omega) ks0))))) (Ne.symm (by omega)))) (fun _ w2 q2 => ⟨.tuple #[], q2.1, trivial, ?_⟩)
  obtain ⟨L2, hL2, u2⟩ := q2.2
  clear q2
  have H2 : Sto w [(b1, flat [v0, v1]), (n, flat L1), (n + 1, flat L2), (n + 1 + 1, flat [0, 0, 0, 0])] w2 := u2
  clear u2 H1
  refine k_end ?_
  go_simp
  go_upto_region 4 with (fail)
  refine wp_seq_atS (opsAt Tryd.f56 4) ((false, 0) :: []) (fun _ => True) (by kernel_rfl) (by kernel_rfl) trivial ?_
  refine k_callR (by kernel_rfl) (d := (some 13)) (by kernel_rfl) (f := 80) (args := #[.pointer (some ⟨n + 1 + 1, 0, none⟩), .pointer (some ⟨n + 1, 0, none⟩)]) (fun _ => by kernel_rfl) (upE H2 (i := 3) rfl (ptTo2 (by omega) (hd.sto H2 (ksC (Nat.ne_of_gt (Nat.lt_of_lt_of_le (by decide) hg)) (ksC (by omega) (ksC (by omega) (ksC (by omega) ks0))))) (H2.blk 3 _ _ rfl) rfl (H2.blk 2 _ _ rfl).atL hL2 (H2.ne 2 3 _ _ _ _ rfl rfl (by decide)))) (fun _ w3 q3 => ⟨.tuple #[], q3.1, trivial, ?_⟩)
  obtain ⟨L3, hL3, u3⟩ := q3.2
  clear q3
  have H3 : Sto w [(b1, flat [v0, v1]), (n, flat L1), (n + 1, flat L2), (n + 1 + 1, flat L3)] w3 := u3
  clear u3 H2
  refine k_end ?_
  go_simp
  go_upto_region 5 with (fail)
  refine wp_seq_atS (opsAt Tryd.f56 5) ((false, 0) :: []) (fun _ => True) (by kernel_rfl) (by kernel_rfl) trivial ?_
  refine k_callR (by kernel_rfl) (d := (some 14)) (by kernel_rfl) (f := 81) (args := #[.pointer (some ⟨n, 0, none⟩), .pointer (some ⟨n + 1 + 1, 0, none⟩)]) (fun _ => by kernel_rfl) (upE H3 (i := 1) rfl (ptAdd (H3.blk 1 _ _ rfl) hL1 (H3.blk 3 _ _ rfl).atL hL3 (H3.ne 3 1 _ _ _ _ rfl rfl (by decide)))) (fun _ w4 q4 => ⟨.tuple #[], q4.1, trivial, ?_⟩)
  obtain ⟨L4, hL4, u4⟩ := q4.2
  clear q4
  have H4 : Sto w [(b1, flat [v0, v1]), (n, flat L4), (n + 1, flat L2), (n + 1 + 1, flat L3)] w4 := u4
  clear u4 H3
  refine k_end ?_
  go_simp
  go_upto_region 6 with (fail)
  refine wp_seq_atS (opsAt Tryd.f56 6) ((true, 0) :: (false, 1) :: []) (fun _ => True) (by kernel_rfl) (by kernel_rfl) trivial ?_
  refine k_pure (by kernel_rfl) (d := (some 15)) (by kernel_rfl) (v := .pointer (some ⟨b1, 0, none⟩)) (fun _ => by kernel_rfl) ?_
  refine k_callR (by kernel_rfl) (d := (some 16)) (by kernel_rfl) (f := 79) (args := #[.pointer (some ⟨b1, 0, none⟩), .pointer (some ⟨n, 0, none⟩)]) (fun _ => by kernel_rfl) (up2E H4 (i := 0) (j := 1) rfl rfl (by decide) (ptFromR1 (hm.sto H4 (ksC (Nat.ne_of_gt (Nat.lt_of_lt_of_le (by decide) hg)) (ksC (Nat.ne_of_gt (by omega)) (ksC (Nat.ne_of_gt (by omega)) (ksC (Nat.ne_of_gt (by omega)) ks0))))) hg (by omega) (H4.ne 0 1 _ _ _ _ rfl rfl (by decide)) (H4.blk 0 _ _ rfl) (H4.blk 1 _ _ rfl) hL4)) (fun _ w5 q5 => ⟨.tuple #[], q5.1, trivial, ?_⟩)
  obtain ⟨L5, hL5, u5⟩ := q5.2
  clear q5
  have H5 : Sto w [(b1, flat [(p + q).x, (p + q).y]), (n, flat L5), (n + 1, flat L2), (n + 1 + 1, flat L3)] w5 := u5
  clear u5 H4
  refine k_end ?_
  go_simp
  have HF := Lib.hid H5
  clear H5
  go_wp2_with fail
  go_end0
  exact ⟨rfl, HF.out.end1 (tsC (by omega) (tsC (by omega) (tsC (by omega) ts0)))⟩
end
end Go.Proofs.YtfkfljohhabldaaDoor
namespace Go.FourQ
theorem oncurve_iff (x y : Zq) : ((y - x) * (y + x) - ((x * y * (x * y)) * dd + 1 * 1) = 0) ↔ OnC x y := by
  have e1 : (y - x) * (y + x) = y * y - x * x := ring_eq zqR (fun i => [x, y].getD i 0) (.mul (.sub (.v 1) (.v 0)) (.add (.v 1) (.v 0))) (.sub (.mul (.v 1) (.v 1)) (.mul (.v 0) (.v 0))) (by kernel_rfl)
  have e2 : (x * y * (x * y)) * dd + 1 * 1 = 1 + dd * (x * x * (y * y)) := ring_eq zqR (fun i => [x, y, dd].getD i 0) (.add (.mul (.mul (.mul (.v 0) (.v 1)) (.mul (.v 0) (.v 1))) (.v 2)) (.mul (.n 1) (.n 1))) (.add (.n 1) (.mul (.v 2) (.mul (.mul (.v 0) (.v 0)) (.mul (.v 1) (.v 1))))) (by kernel_rfl)
  rw [e1, e2]
  exact ⟨fun h => qeq_of_sub h, fun h => by rw [show y * y - x * x = _ from h, qsub_self]⟩
/-- All three are nothing. -/
def idB (a b c : Zq) : Bool := decide (a = 0 ∧ b = 0 ∧ c = 0)
end Go.FourQ
namespace Go.Proofs.YtfkfljohhabldaaDoor
open Go.RowKit Go.FourQ
section
variable {w : World} {b1 b2 b3 o1 o2 o3 k1 : Nat} {X Y Z Ta Tb : Zq} {p q : Pt}
set_option maxRecDepth 100000 in
set_option maxHeartbeats 1000000 in
theorem isId0 (hm : ModW w) (hg : 5 ≤ b1) (h1 : FpsZ w b1 (flat [X, Y, Z, Ta, Tb])) (hX : X ≠ 0) :
    Calls Tryd.prog 77 #[.pointer (some ⟨b1, 0, none⟩)] w fun e w' => e = .returned (.bool false) ∧ UpdZ w w' b1 (flat [X, Y, Z, Ta, Tb]) := by
  have HX := Lib.hid hX
  clear hX
  go_enter Tryd.func77, Tryd.ntmps77
  go_upto_region 2 with (fail)
  have HB1 := h1.lt
  have HGM := hm.lt
  refine wp_gen (fun W => Sto w [(b1, flat [X, Y, Z, Ta, Tb]), (w.heap.size, flat [0]), (w.heap.size + 1, flat [0])] W) (((Sto.one h1).new (l := List.replicate 2 0) rfl (by rfl) zeroL rfl).new (l := List.replicate 2 0) (by simp) (by rfl) zeroL rfl) ?_
  intro W0 H0
  obtain ⟨n, hn⟩ : ∃ n, w.heap.size = n := ⟨_, rfl⟩
  rw [hn] at H0 ⊢
  have HN : Hid (w.heap.size = n) := Lib.hid hn
  have HNL : w.heap.size ≤ n := Nat.le_of_eq hn
  clear hn
  have H0 : Sto w [(b1, flat [X, Y, Z, Ta, Tb]), (n, flat [0]), (n + 1, flat [0])] W0 := H0
  refine wp_region_atS (opsAt Tryd.f77 2) ((true, 0) :: (true, 1) :: (true, 2) :: (true, 3) :: (true, 4) :: (true, 5) :: (true, 6) :: (false, 7) :: []) (fun _ => True) (by kernel_rfl) rfl (by kernel_rfl) (fun _ _ d _ _ h => by cases d <;> exact h) (by kernel_rfl) (by kernel_rfl) trivial ?_
  refine k_pure (by kernel_rfl) (d := (some 9)) (by kernel_rfl) (v := .pointer (some ⟨n, 0, none⟩)) (fun _ => by kernel_rfl) ?_
  refine k_pure (by kernel_rfl) (d := (some 10)) (by kernel_rfl) (v := .pointer (some ⟨b1, 0, none⟩)) (fun _ => by kernel_rfl) ?_
  refine k_pure (by kernel_rfl) (d := (some 11)) (by kernel_rfl) (v := .pointer (some ⟨b1, 0, none⟩)) (fun _ => by kernel_rfl) ?_
  refine k_pure (by kernel_rfl) (d := (some 12)) (by kernel_rfl) (v := .pointer (some ⟨b1, 96, none⟩)) (fun _ => by kernel_rfl) ?_
  refine k_pure (by kernel_rfl) (d := (some 13)) (by kernel_rfl) (v := .pointer (some ⟨b1, 0, none⟩)) (fun _ => by kernel_rfl) ?_
  refine k_pure (by kernel_rfl) (d := (some 14)) (by kernel_rfl) (v := .pointer (some ⟨b1, 0, none⟩)) (fun _ => by kernel_rfl) ?_
  refine k_pure (by kernel_rfl) (d := (some 15)) (by kernel_rfl) (v := .pointer (some ⟨b1, 128, none⟩)) (fun _ => by kernel_rfl) ?_
  refine k_callR (by kernel_rfl) (d := (some 16)) (by kernel_rfl) (f := 90) (args := #[.pointer (some ⟨n, 0, none⟩), .pointer (some ⟨b1, 96, none⟩), .pointer (some ⟨b1, 128, none⟩)]) (fun _ => by kernel_rfl) (sqMul H0.drew (i := 1) rfl (k1 := 0) rfl (Nat.lt_of_lt_of_eq (by decide : 0 < 1) rfl) (H0.drew.atz 0 3 rfl rfl rfl) (H0.drew.atz 0 4 rfl rfl rfl) (z := Ta * Tb) rfl) (fun _ w1 q1 => ⟨.tuple #[], q1.1, trivial, ?_⟩)
  have u1 := q1.2
  clear q1
  have H1 : Sto w [(b1, flat [X, Y, Z, Ta, Tb]), (n, flat [Ta * Tb]), (n + 1, flat [0])] w1 := u1
  clear u1 H0
  refine k_end ?_
  go_simp
  go_upto_region 3 with (fail)
  refine wp_region_atS (opsAt Tryd.f77 3) ((true, 0) :: (true, 1) :: (true, 2) :: (true, 3) :: (true, 4) :: (true, 5) :: (true, 6) :: (false, 7) :: []) (fun _ => True) (by kernel_rfl) rfl (by kernel_rfl) (fun _ _ d _ _ h => by cases d <;> exact h) (by kernel_rfl) (by kernel_rfl) trivial ?_
  refine k_pure (by kernel_rfl) (d := (some 17)) (by kernel_rfl) (v := .pointer (some ⟨n + 1, 0, none⟩)) (fun _ => by kernel_rfl) ?_
  refine k_pure (by kernel_rfl) (d := (some 18)) (by kernel_rfl) (v := .pointer (some ⟨b1, 0, none⟩)) (fun _ => by kernel_rfl) ?_
  refine k_pure (by kernel_rfl) (d := (some 19)) (by kernel_rfl) (v := .pointer (some ⟨b1, 0, none⟩)) (fun _ => by kernel_rfl) ?_
  refine k_pure (by kernel_rfl) (d := (some 20)) (by kernel_rfl) (v := .pointer (some ⟨b1, 32, none⟩)) (fun _ => by kernel_rfl) ?_
  refine k_pure (by kernel_rfl) (d := (some 21)) (by kernel_rfl) (v := .pointer (some ⟨b1, 0, none⟩)) (fun _ => by kernel_rfl) ?_
  refine k_pure (by kernel_rfl) (d := (some 22)) (by kernel_rfl) (v := .pointer (some ⟨b1, 0, none⟩)) (fun _ => by kernel_rfl) ?_
  refine k_pure (by kernel_rfl) (d := (some 23)) (by kernel_rfl) (v := .pointer (some ⟨b1, 64, none⟩)) (fun _ => by kernel_rfl) ?_
  refine k_callR (by kernel_rfl) (d := (some 24)) (by kernel_rfl) (f := 91) (args := #[.pointer (some ⟨n + 1, 0, none⟩), .pointer (some ⟨b1, 32, none⟩), .pointer (some ⟨b1, 64, none⟩)]) (fun _ => by kernel_rfl) (sqSub H1.drew (i := 2) rfl (k1 := 0) rfl (Nat.lt_of_lt_of_eq (by decide : 0 < 1) rfl) (H1.drew.atz 0 1 rfl rfl rfl) (H1.drew.atz 0 2 rfl rfl rfl) (z := Y - Z) rfl) (fun _ w2 q2 => ⟨.tuple #[], q2.1, trivial, ?_⟩)
  have u2 := q2.2
  clear q2
  have H2 : Sto w [(b1, flat [X, Y, Z, Ta, Tb]), (n, flat [Ta * Tb]), (n + 1, flat [Y - Z])] w2 := u2
  clear u2 H1
  refine k_end ?_
  go_simp
  go_upto_region 4 with (fail)
  refine wp_seq_atS (opsAt Tryd.f77 4) ((true, 0) :: (true, 1) :: (true, 2) :: (false, 3) :: (true, 4) :: (true, 5) :: (false, 6) :: (true, 7) :: (true, 8) :: (true, 9) :: (false, 10) :: (true, 11) :: (true, 12) :: []) (fun _ => True) (by kernel_rfl) (by kernel_rfl) trivial ?_
  refine k_pure (by kernel_rfl) (d := (some 25)) (by kernel_rfl) (v := .pointer (some ⟨b1, 0, none⟩)) (fun _ => by kernel_rfl) ?_
  refine k_pure (by kernel_rfl) (d := (some 26)) (by kernel_rfl) (v := .pointer (some ⟨b1, 0, none⟩)) (fun _ => by kernel_rfl) ?_
  refine k_pure (by kernel_rfl) (d := (some 27)) (by kernel_rfl) (v := .pointer (some ⟨b1, 0, none⟩)) (fun _ => by kernel_rfl) ?_
  refine k_callR (by kernel_rfl) (d := (some 28)) (by kernel_rfl) (f := 97) (args := #[.pointer (some ⟨b1, 0, none⟩)]) (fun _ => by kernel_rfl) (sqZeroF HX.out (hm.sto H2 (ksC (Nat.ne_of_gt (Nat.lt_of_lt_of_le (by decide) hg)) (ksC (Nat.ne_of_gt (by omega)) (ksC (Nat.ne_of_gt (by omega)) ks0)))) (Nat.lt_of_lt_of_le (by decide) hg) H2 (i := 0) rfl (k1 := 0) rfl rfl) (fun _ w3 q3 => ⟨.bool false, q3.1, trivial, ?_⟩)
  have u3 := q3.2
  clear q3
  have H3 : Sto w [(b1, flat [X, Y, Z, Ta, Tb]), (n, flat [Ta * Tb]), (n + 1, flat [Y - Z])] w3 := u3
  clear u3 H2
  refine k_pure (by kernel_rfl) (d := (some 29)) (by kernel_rfl) (v := .bool false) (fun _ => by kernel_rfl) ?_
  refine k_skip (by kernel_rfl) (d := (some 30)) (by kernel_rfl) ?_
  refine k_skip' trivial (by kernel_rfl) (d := (some 31)) (by kernel_rfl) ?_
  refine k_pure (by kernel_rfl) (d := (some 32)) (by kernel_rfl) (v := .bool false) (fun _ => by kernel_rfl) ?_
  refine k_pure (by kernel_rfl) (d := (some 33)) (by kernel_rfl) (v := .bool false) (fun _ => by kernel_rfl) ?_
  refine k_skip (by kernel_rfl) (d := (some 34)) (by kernel_rfl) ?_
  refine k_skip' trivial (by kernel_rfl) (d := (some 35)) (by kernel_rfl) ?_
  refine k_pure (by kernel_rfl) (d := (some 36)) (by kernel_rfl) (v := .bool false) (fun _ => by kernel_rfl) ?_
  refine k_pure (by kernel_rfl) (d := (some 2)) (by kernel_rfl) (v := .bool false) (fun _ => by kernel_rfl) ?_
  refine k_end ?_
  go_simp
  have HF := Lib.hid H3
  clear H3
  go_wp2_with fail
  exact bodyPost_ret_by (by kernel_rfl) (by kernel_rfl) ⟨rfl, HF.out.end1 (tsC (by omega) (tsC (by omega) ts0))⟩
set_option maxRecDepth 100000 in
set_option maxHeartbeats 1000000 in
theorem isId1 (hm : ModW w) (hg : 5 ≤ b1) (h1 : FpsZ w b1 (flat [X, Y, Z, Ta, Tb])) (hX : X = 0) (hT : Ta * Tb ≠ 0) :
    Calls Tryd.prog 77 #[.pointer (some ⟨b1, 0, none⟩)] w fun e w' => e = .returned (.bool false) ∧ UpdZ w w' b1 (flat [X, Y, Z, Ta, Tb]) := by
  have HX := Lib.hid hX
  have HT := Lib.hid hT
  clear hX hT
  go_enter Tryd.func77, Tryd.ntmps77
  go_upto_region 2 with (fail)
  have HB1 := h1.lt
  have HGM := hm.lt
  refine wp_gen (fun W => Sto w [(b1, flat [X, Y, Z, Ta, Tb]), (w.heap.size, flat [0]), (w.heap.size + 1, flat [0])] W) (((Sto.one h1).new (l := List.replicate 2 0) rfl (by rfl) zeroL rfl).new (l := List.replicate 2 0) (by simp) (by rfl) zeroL rfl) ?_
  intro W0 H0
  obtain ⟨n, hn⟩ : ∃ n, w.heap.size = n := ⟨_, rfl⟩
  rw [hn] at H0 ⊢
  have HN : Hid (w.heap.size = n) := Lib.hid hn
  have HNL : w.heap.size ≤ n := Nat.le_of_eq hn
  clear hn
  have H0 : Sto w [(b1, flat [X, Y, Z, Ta, Tb]), (n, flat [0]), (n + 1, flat [0])] W0 := H0
  refine wp_region_atS (opsAt Tryd.f77 2) ((true, 0) :: (true, 1) :: (true, 2) :: (true, 3) :: (true, 4) :: (true, 5) :: (true, 6) :: (false, 7) :: []) (fun _ => True) (by kernel_rfl) rfl (by kernel_rfl) (fun _ _ d _ _ h => by cases d <;> exact h) (by kernel_rfl) (by kernel_rfl) trivial ?_
  refine k_pure (by kernel_rfl) (d := (some 9)) (by kernel_rfl) (v := .pointer (some ⟨n, 0, none⟩)) (fun _ => by kernel_rfl) ?_
  refine k_pure (by kernel_rfl) (d := (some 10)) (by kernel_rfl) (v := .pointer (some ⟨b1, 0, none⟩)) (fun _ => by kernel_rfl) ?_
  refine k_pure (by kernel_rfl) (d := (some 11)) (by kernel_rfl) (v := .pointer (some ⟨b1, 0, none⟩)) (fun _ => by kernel_rfl) ?_
  refine k_pure (by kernel_rfl) (d := (some 12)) (by kernel_rfl) (v := .pointer (some ⟨b1, 96, none⟩)) (fun _ => by kernel_rfl) ?_
  refine k_pure (by kernel_rfl) (d := (some 13)) (by kernel_rfl) (v := .pointer (some ⟨b1, 0, none⟩)) (fun _ => by kernel_rfl) ?_
  refine k_pure (by kernel_rfl) (d := (some 14)) (by kernel_rfl) (v := .pointer (some ⟨b1, 0, none⟩)) (fun _ => by kernel_rfl) ?_
  refine k_pure (by kernel_rfl) (d := (some 15)) (by kernel_rfl) (v := .pointer (some ⟨b1, 128, none⟩)) (fun _ => by kernel_rfl) ?_
  refine k_callR (by kernel_rfl) (d := (some 16)) (by kernel_rfl) (f := 90) (args := #[.pointer (some ⟨n, 0, none⟩), .pointer (some ⟨b1, 96, none⟩), .pointer (some ⟨b1, 128, none⟩)]) (fun _ => by kernel_rfl) (sqMul H0.drew (i := 1) rfl (k1 := 0) rfl (Nat.lt_of_lt_of_eq (by decide : 0 < 1) rfl) (H0.drew.atz 0 3 rfl rfl rfl) (H0.drew.atz 0 4 rfl rfl rfl) (z := Ta * Tb) rfl) (fun _ w1 q1 => ⟨.tuple #[], q1.1, trivial, ?_⟩)
  have u1 := q1.2
  clear q1
  have H1 : Sto w [(b1, flat [X, Y, Z, Ta, Tb]), (n, flat [Ta * Tb]), (n + 1, flat [0])] w1 := u1
  clear u1 H0
  refine k_end ?_
  go_simp
  go_upto_region 3 with (fail)
  refine wp_region_atS (opsAt Tryd.f77 3) ((true, 0) :: (true, 1) :: (true, 2) :: (true, 3) :: (true, 4) :: (true, 5) :: (true, 6) :: (false, 7) :: []) (fun _ => True) (by kernel_rfl) rfl (by kernel_rfl) (fun _ _ d _ _ h => by cases d <;> exact h) (by kernel_rfl) (by kernel_rfl) trivial ?_
  refine k_pure (by kernel_rfl) (d := (some 17)) (by kernel_rfl) (v := .pointer (some ⟨n + 1, 0, none⟩)) (fun _ => by kernel_rfl) ?_
  refine k_pure (by kernel_rfl) (d := (some 18)) (by kernel_rfl) (v := .pointer (some ⟨b1, 0, none⟩)) (fun _ => by kernel_rfl) ?_
  refine k_pure (by kernel_rfl) (d := (some 19)) (by kernel_rfl) (v := .pointer (some ⟨b1, 0, none⟩)) (fun _ => by kernel_rfl) ?_
  refine k_pure (by kernel_rfl) (d := (some 20)) (by kernel_rfl) (v := .pointer (some ⟨b1, 32, none⟩)) (fun _ => by kernel_rfl) ?_
  refine k_pure (by kernel_rfl) (d := (some 21)) (by kernel_rfl) (v := .pointer (some ⟨b1, 0, none⟩)) (fun _ => by kernel_rfl) ?_
  refine k_pure (by kernel_rfl) (d := (some 22)) (by kernel_rfl) (v := .pointer (some ⟨b1, 0, none⟩)) (fun _ => by kernel_rfl) ?_
  refine k_pure (by kernel_rfl) (d := (some 23)) (by kernel_rfl) (v := .pointer (some ⟨b1, 64, none⟩)) (fun _ => by kernel_rfl) ?_
  refine k_callR (by kernel_rfl) (d := (some 24)) (by kernel_rfl) (f := 91) (args := #[.pointer (some ⟨n + 1, 0, none⟩), .pointer (some ⟨b1, 32, none⟩), .pointer (some ⟨b1, 64, none⟩)]) (fun _ => by kernel_rfl) (sqSub H1.drew (i := 2) rfl (k1 := 0) rfl (Nat.lt_of_lt_of_eq (by decide : 0 < 1) rfl) (H1.drew.atz 0 1 rfl rfl rfl) (H1.drew.atz 0 2 rfl rfl rfl) (z := Y - Z) rfl) (fun _ w2 q2 => ⟨.tuple #[], q2.1, trivial, ?_⟩)
  have u2 := q2.2
  clear q2
  have H2 : Sto w [(b1, flat [X, Y, Z, Ta, Tb]), (n, flat [Ta * Tb]), (n + 1, flat [Y - Z])] w2 := u2
  clear u2 H1
  refine k_end ?_
  go_simp
  go_upto_region 4 with (fail)
  refine wp_seq_atS (opsAt Tryd.f77 4) ((true, 0) :: (true, 1) :: (true, 2) :: (false, 3) :: (true, 4) :: (true, 5) :: (false, 6) :: (true, 7) :: (true, 8) :: (true, 9) :: (false, 10) :: (true, 11) :: (true, 12) :: []) (fun _ => True) (by kernel_rfl) (by kernel_rfl) trivial ?_
  refine k_pure (by kernel_rfl) (d := (some 25)) (by kernel_rfl) (v := .pointer (some ⟨b1, 0, none⟩)) (fun _ => by kernel_rfl) ?_
  refine k_pure (by kernel_rfl) (d := (some 26)) (by kernel_rfl) (v := .pointer (some ⟨b1, 0, none⟩)) (fun _ => by kernel_rfl) ?_
  refine k_pure (by kernel_rfl) (d := (some 27)) (by kernel_rfl) (v := .pointer (some ⟨b1, 0, none⟩)) (fun _ => by kernel_rfl) ?_
  refine k_callR (by kernel_rfl) (d := (some 28)) (by kernel_rfl) (f := 97) (args := #[.pointer (some ⟨b1, 0, none⟩)]) (fun _ => by kernel_rfl) (sqZeroT HX.out (hm.sto H2 (ksC (Nat.ne_of_gt (Nat.lt_of_lt_of_le (by decide) hg)) (ksC (Nat.ne_of_gt (by omega)) (ksC (Nat.ne_of_gt (by omega)) ks0)))) (Nat.lt_of_lt_of_le (by decide) hg) H2 (i := 0) rfl (k1 := 0) rfl rfl) (fun _ w3 q3 => ⟨.bool true, q3.1, trivial, ?_⟩)
  have u3 := q3.2
  clear q3
  have H3 : Sto w [(b1, flat [X, Y, Z, Ta, Tb]), (n, flat [Ta * Tb]), (n + 1, flat [Y - Z])] w3 := u3
  clear u3 H2
  refine k_pure (by kernel_rfl) (d := (some 29)) (by kernel_rfl) (v := .bool true) (fun _ => by kernel_rfl) ?_
  refine k_pure (by kernel_rfl) (d := (some 30)) (by kernel_rfl) (v := .pointer (some ⟨n, 0, none⟩)) (fun _ => by kernel_rfl) ?_
  refine k_callR (by kernel_rfl) (d := (some 31)) (by kernel_rfl) (f := 97) (args := #[.pointer (some ⟨n, 0, none⟩)]) (fun _ => by kernel_rfl) (sqZeroF HT.out (hm.sto H3 (ksC (Nat.ne_of_gt (Nat.lt_of_lt_of_le (by decide) hg)) (ksC (Nat.ne_of_gt (by omega)) (ksC (Nat.ne_of_gt (by omega)) ks0)))) (by omega) H3 (i := 1) rfl (k1 := 0) rfl rfl) (fun _ w4 q4 => ⟨.bool false, q4.1, trivial, ?_⟩)
  have u4 := q4.2
  clear q4
  have H4 : Sto w [(b1, flat [X, Y, Z, Ta, Tb]), (n, flat [Ta * Tb]), (n + 1, flat [Y - Z])] w4 := u4
  clear u4 H3
  refine k_pure (by kernel_rfl) (d := (some 32)) (by kernel_rfl) (v := .bool false) (fun _ => by kernel_rfl) ?_
  refine k_pure (by kernel_rfl) (d := (some 33)) (by kernel_rfl) (v := .bool false) (fun _ => by kernel_rfl) ?_
  refine k_skip (by kernel_rfl) (d := (some 34)) (by kernel_rfl) ?_
  refine k_skip' trivial (by kernel_rfl) (d := (some 35)) (by kernel_rfl) ?_
  refine k_pure (by kernel_rfl) (d := (some 36)) (by kernel_rfl) (v := .bool false) (fun _ => by kernel_rfl) ?_
  refine k_pure (by kernel_rfl) (d := (some 2)) (by kernel_rfl) (v := .bool false) (fun _ => by kernel_rfl) ?_
  refine k_end ?_
  go_simp
  have HF := Lib.hid H4
  clear H4
  go_wp2_with fail
  exact bodyPost_ret_by (by kernel_rfl) (by kernel_rfl) ⟨rfl, HF.out.end1 (tsC (by omega) (tsC (by omega) ts0))⟩
set_option maxRecDepth 100000 in
set_option maxHeartbeats 1000000 in
theorem isId2 (hm : ModW w) (hg : 5 ≤ b1) (h1 : FpsZ w b1 (flat [X, Y, Z, Ta, Tb])) (hX : X = 0) (hT : Ta * Tb = 0) (hD : Y - Z ≠ 0) :
    Calls Tryd.prog 77 #[.pointer (some ⟨b1, 0, none⟩)] w fun e w' => e = .returned (.bool false) ∧ UpdZ w w' b1 (flat [X, Y, Z, Ta, Tb]) := by
  have HX := Lib.hid hX
  have HT := Lib.hid hT
  have HD := Lib.hid hD
  clear hX hT hD
  go_enter Tryd.func77, Tryd.ntmps77
  go_upto_region 2 with (fail)
  have HB1 := h1.lt
  have HGM := hm.lt
  refine wp_gen (fun W => Sto w [(b1, flat [X, Y, Z, Ta, Tb]), (w.heap.size, flat [0]), (w.heap.size + 1, flat [0])] W) (((Sto.one h1).new (l := List.replicate 2 0) rfl (by rfl) zeroL rfl).new (l := List.replicate 2 0) (by simp) (by rfl) zeroL rfl) ?_
  intro W0 H0
  obtain ⟨n, hn⟩ : ∃ n, w.heap.size = n := ⟨_, rfl⟩
  rw [hn] at H0 ⊢
  have HN : Hid (w.heap.size = n) := Lib.hid hn
  have HNL : w.heap.size ≤ n := Nat.le_of_eq hn
  clear hn
  have H0 : Sto w [(b1, flat [X, Y, Z, Ta, Tb]), (n, flat [0]), (n + 1, flat [0])] W0 := H0
  refine wp_region_atS (opsAt Tryd.f77 2) ((true, 0) :: (true, 1) :: (true, 2) :: (true, 3) :: (true, 4) :: (true, 5) :: (true, 6) :: (false, 7) :: []) (fun _ => True) (by kernel_rfl) rfl (by kernel_rfl) (fun _ _ d _ _ h => by cases d <;> exact h) (by kernel_rfl) (by kernel_rfl) trivial ?_
  refine k_pure (by kernel_rfl) (d := (some 9)) (by kernel_rfl) (v := .pointer (some ⟨n, 0, none⟩)) (fun _ => by kernel_rfl) ?_
  refine k_pure (by kernel_rfl) (d := (some 10)) (by kernel_rfl) (v := .pointer (some ⟨b1, 0, none⟩)) (fun _ => by kernel_rfl) ?_
  refine k_pure (by kernel_rfl) (d := (some 11)) (by kernel_rfl) (v := .pointer (some ⟨b1, 0, none⟩)) (fun _ => by kernel_rfl) ?_
  refine k_pure (by kernel_rfl) (d := (some 12)) (by kernel_rfl) (v := .pointer (some ⟨b1, 96, none⟩)) (fun _ => by kernel_rfl) ?_
  refine k_pure (by kernel_rfl) (d := (some 13)) (by kernel_rfl) (v := .pointer (some ⟨b1, 0, none⟩)) (fun _ => by kernel_rfl) ?_
  refine k_pure (by kernel_rfl) (d := (some 14)) (by kernel_rfl) (v := .pointer (some ⟨b1, 0, none⟩)) (fun _ => by kernel_rfl) ?_
  refine k_pure (by kernel_rfl) (d := (some 15)) (by kernel_rfl) (v := .pointer (some ⟨b1, 128, none⟩)) (fun _ => by kernel_rfl) ?_
  refine k_callR (by kernel_rfl) (d := (some 16)) (by kernel_rfl) (f := 90) (args := #[.pointer (some ⟨n, 0, none⟩), .pointer (some ⟨b1, 96, none⟩), .pointer (some ⟨b1, 128, none⟩)]) (fun _ => by kernel_rfl) (sqMul H0.drew (i := 1) rfl (k1 := 0) rfl (Nat.lt_of_lt_of_eq (by decide : 0 < 1) rfl) (H0.drew.atz 0 3 rfl rfl rfl) (H0.drew.atz 0 4 rfl rfl rfl) (z := Ta * Tb) rfl) (fun _ w1 q1 => ⟨.tuple #[], q1.1, trivial, ?_⟩)
  have u1 := q1.2
  clear q1
  have H1 : Sto w [(b1, flat [X, Y, Z, Ta, Tb]), (n, flat [Ta * Tb]), (n + 1, flat [0])] w1 := u1
  clear u1 H0
  refine k_end ?_
  go_simp
  go_upto_region 3 with (fail)
  refine wp_region_atS (opsAt Tryd.f77 3) ((true, 0) :: (true, 1) :: (true, 2) :: (true, 3) :: (true, 4) :: (true, 5) :: (true, 6) :: (false, 7) :: []) (fun _ => True) (by kernel_rfl) rfl (by kernel_rfl) (fun _ _ d _ _ h => by cases d <;> exact h) (by kernel_rfl) (by kernel_rfl) trivial ?_
  refine k_pure (by kernel_rfl) (d := (some 17)) (by kernel_rfl) (v := .pointer (some ⟨n + 1, 0, none⟩)) (fun _ => by kernel_rfl) ?_
  refine k_pure (by kernel_rfl) (d := (some 18)) (by kernel_rfl) (v := .pointer (some ⟨b1, 0, none⟩)) (fun _ => by kernel_rfl) ?_
  refine k_pure (by kernel_rfl) (d := (some 19)) (by kernel_rfl) (v := .pointer (some ⟨b1, 0, none⟩)) (fun _ => by kernel_rfl) ?_
  refine k_pure (by kernel_rfl) (d := (some 20)) (by kernel_rfl) (v := .pointer (some ⟨b1, 32, none⟩)) (fun _ => by kernel_rfl) ?_
  refine k_pure (by kernel_rfl) (d := (some 21)) (by kernel_rfl) (v := .pointer (some ⟨b1, 0, none⟩)) (fun _ => by kernel_rfl) ?_
  refine k_pure (by kernel_rfl) (d := (some 22)) (by kernel_rfl) (v := .pointer (some ⟨b1, 0, none⟩)) (fun _ => by kernel_rfl) ?_
  refine k_pure (by kernel_rfl) (d := (some 23)) (by kernel_rfl) (v := .pointer (some ⟨b1, 64, none⟩)) (fun _ => by kernel_rfl) ?_
  refine k_callR (by kernel_rfl) (d := (some 24)) (by kernel_rfl) (f := 91) (args := #[.pointer (some ⟨n + 1, 0, none⟩), .pointer (some ⟨b1, 32, none⟩), .pointer (some ⟨b1, 64, none⟩)]) (fun _ => by kernel_rfl) (sqSub H1.drew (i := 2) rfl (k1 := 0) rfl (Nat.lt_of_lt_of_eq (by decide : 0 < 1) rfl) (H1.drew.atz 0 1 rfl rfl rfl) (H1.drew.atz 0 2 rfl rfl rfl) (z := Y - Z) rfl) (fun _ w2 q2 => ⟨.tuple #[], q2.1, trivial, ?_⟩)
  have u2 := q2.2
  clear q2
  have H2 : Sto w [(b1, flat [X, Y, Z, Ta, Tb]), (n, flat [Ta * Tb]), (n + 1, flat [Y - Z])] w2 := u2
  clear u2 H1
  refine k_end ?_
  go_simp
  go_upto_region 4 with (fail)
  refine wp_seq_atS (opsAt Tryd.f77 4) ((true, 0) :: (true, 1) :: (true, 2) :: (false, 3) :: (true, 4) :: (true, 5) :: (false, 6) :: (true, 7) :: (true, 8) :: (true, 9) :: (false, 10) :: (true, 11) :: (true, 12) :: []) (fun _ => True) (by kernel_rfl) (by kernel_rfl) trivial ?_
  refine k_pure (by kernel_rfl) (d := (some 25)) (by kernel_rfl) (v := .pointer (some ⟨b1, 0, none⟩)) (fun _ => by kernel_rfl) ?_
  refine k_pure (by kernel_rfl) (d := (some 26)) (by kernel_rfl) (v := .pointer (some ⟨b1, 0, none⟩)) (fun _ => by kernel_rfl) ?_
  refine k_pure (by kernel_rfl) (d := (some 27)) (by kernel_rfl) (v := .pointer (some ⟨b1, 0, none⟩)) (fun _ => by kernel_rfl) ?_
  refine k_callR (by kernel_rfl) (d := (some 28)) (by kernel_rfl) (f := 97) (args := #[.pointer (some ⟨b1, 0, none⟩)]) (fun _ => by kernel_rfl) (sqZeroT HX.out (hm.sto H2 (ksC (Nat.ne_of_gt (Nat.lt_of_lt_of_le (by decide) hg)) (ksC (Nat.ne_of_gt (by omega)) (ksC (Nat.ne_of_gt (by omega)) ks0)))) (Nat.lt_of_lt_of_le (by decide) hg) H2 (i := 0) rfl (k1 := 0) rfl rfl) (fun _ w3 q3 => ⟨.bool true, q3.1, trivial, ?_⟩)
  have u3 := q3.2
  clear q3
  have H3 : Sto w [(b1, flat [X, Y, Z, Ta, Tb]), (n, flat [Ta * Tb]), (n + 1, flat [Y - Z])] w3 := u3
  clear u3 H2
  refine k_pure (by kernel_rfl) (d := (some 29)) (by kernel_rfl) (v := .bool true) (fun _ => by kernel_rfl) ?_
  refine k_pure (by kernel_rfl) (d := (some 30)) (by kernel_rfl) (v := .pointer (some ⟨n, 0, none⟩)) (fun _ => by kernel_rfl) ?_
  refine k_callR (by kernel_rfl) (d := (some 31)) (by kernel_rfl) (f := 97) (args := #[.pointer (some ⟨n, 0, none⟩)]) (fun _ => by kernel_rfl) (sqZeroT HT.out (hm.sto H3 (ksC (Nat.ne_of_gt (Nat.lt_of_lt_of_le (by decide) hg)) (ksC (Nat.ne_of_gt (by omega)) (ksC (Nat.ne_of_gt (by omega)) ks0)))) (by omega) H3 (i := 1) rfl (k1 := 0) rfl rfl) (fun _ w4 q4 => ⟨.bool true, q4.1, trivial, ?_⟩)
  have u4 := q4.2
  clear q4
  have H4 : Sto w [(b1, flat [X, Y, Z, Ta, Tb]), (n, flat [Ta * Tb]), (n + 1, flat [Y - Z])] w4 := u4
  clear u4 H3
  refine k_pure (by kernel_rfl) (d := (some 32)) (by kernel_rfl) (v := .bool true) (fun _ => by kernel_rfl) ?_
  refine k_pure (by kernel_rfl) (d := (some 33)) (by kernel_rfl) (v := .bool true) (fun _ => by kernel_rfl) ?_
  refine k_pure (by kernel_rfl) (d := (some 34)) (by kernel_rfl) (v := .pointer (some ⟨n + 1, 0, none⟩)) (fun _ => by kernel_rfl) ?_
  refine k_callR (by kernel_rfl) (d := (some 35)) (by kernel_rfl) (f := 97) (args := #[.pointer (some ⟨n + 1, 0, none⟩)]) (fun _ => by kernel_rfl) (sqZeroF HD.out (hm.sto H4 (ksC (Nat.ne_of_gt (Nat.lt_of_lt_of_le (by decide) hg)) (ksC (Nat.ne_of_gt (by omega)) (ksC (Nat.ne_of_gt (by omega)) ks0)))) (by omega) H4 (i := 2) rfl (k1 := 0) rfl rfl) (fun _ w5 q5 => ⟨.bool false, q5.1, trivial, ?_⟩)
  have u5 := q5.2
  clear q5
  have H5 : Sto w [(b1, flat [X, Y, Z, Ta, Tb]), (n, flat [Ta * Tb]), (n + 1, flat [Y - Z])] w5 := u5
  clear u5 H4
  refine k_pure (by kernel_rfl) (d := (some 36)) (by kernel_rfl) (v := .bool false) (fun _ => by kernel_rfl) ?_
  refine k_pure (by kernel_rfl) (d := (some 2)) (by kernel_rfl) (v := .bool false) (fun _ => by kernel_rfl) ?_
  refine k_end ?_
  go_simp
  have HF := Lib.hid H5
  clear H5
  go_wp2_with fail
  exact bodyPost_ret_by (by kernel_rfl) (by kernel_rfl) ⟨rfl, HF.out.end1 (tsC (by omega) (tsC (by omega) ts0))⟩
set_option maxRecDepth 100000 in
set_option maxHeartbeats 1000000 in
theorem isId3 (hm : ModW w) (hg : 5 ≤ b1) (h1 : FpsZ w b1 (flat [X, Y, Z, Ta, Tb])) (hX : X = 0) (hT : Ta * Tb = 0) (hD : Y - Z = 0) :
    Calls Tryd.prog 77 #[.pointer (some ⟨b1, 0, none⟩)] w fun e w' => e = .returned (.bool true) ∧ UpdZ w w' b1 (flat [X, Y, Z, Ta, Tb]) := by
  have HX := Lib.hid hX
  have HT := Lib.hid hT
  have HD := Lib.hid hD
  clear hX hT hD
  go_enter Tryd.func77, Tryd.ntmps77
  go_upto_region 2 with (fail)
  have HB1 := h1.lt
  have HGM := hm.lt
  refine wp_gen (fun W => Sto w [(b1, flat [X, Y, Z, Ta, Tb]), (w.heap.size, flat [0]), (w.heap.size + 1, flat [0])] W) (((Sto.one h1).new (l := List.replicate 2 0) rfl (by rfl) zeroL rfl).new (l := List.replicate 2 0) (by simp) (by rfl) zeroL rfl) ?_
  intro W0 H0
  obtain ⟨n, hn⟩ : ∃ n, w.heap.size = n := ⟨_, rfl⟩
  rw [hn] at H0 ⊢
  have HN : Hid (w.heap.size = n) := Lib.hid hn
  have HNL : w.heap.size ≤ n := Nat.le_of_eq hn
  clear hn
  have H0 : Sto w [(b1, flat [X, Y, Z, Ta, Tb]), (n, flat [0]), (n + 1, flat [0])] W0 := H0
  refine wp_region_atS (opsAt Tryd.f77 2) ((true, 0) :: (true, 1) :: (true, 2) :: (true, 3) :: (true, 4) :: (true, 5) :: (true, 6) :: (false, 7) :: []) (fun _ => True) (by kernel_rfl) rfl (by kernel_rfl) (fun _ _ d _ _ h => by cases d <;> exact h) (by kernel_rfl) (by kernel_rfl) trivial ?_
  refine k_pure (by kernel_rfl) (d := (some 9)) (by kernel_rfl) (v := .pointer (some ⟨n, 0, none⟩)) (fun _ => by kernel_rfl) ?_
  refine k_pure (by kernel_rfl) (d := (some 10)) (by kernel_rfl) (v := .pointer (some ⟨b1, 0, none⟩)) (fun _ => by kernel_rfl) ?_
  refine k_pure (by kernel_rfl) (d := (some 11)) (by kernel_rfl) (v := .pointer (some ⟨b1, 0, none⟩)) (fun _ => by kernel_rfl) ?_
  refine k_pure (by kernel_rfl) (d := (some 12)) (by kernel_rfl) (v := .pointer (some ⟨b1, 96, none⟩)) (fun _ => by kernel_rfl) ?_
  refine k_pure (by kernel_rfl) (d := (some 13)) (by kernel_rfl) (v := .pointer (some ⟨b1, 0, none⟩)) (fun _ => by kernel_rfl) ?_
  refine k_pure (by kernel_rfl) (d := (some 14)) (by kernel_rfl) (v := .pointer (some ⟨b1, 0, none⟩)) (fun _ => by kernel_rfl) ?_
  refine k_pure (by kernel_rfl) (d := (some 15)) (by kernel_rfl) (v := .pointer (some ⟨b1, 128, none⟩)) (fun _ => by kernel_rfl) ?_
  refine k_callR (by kernel_rfl) (d := (some 16)) (by kernel_rfl) (f := 90) (args := #[.pointer (some ⟨n, 0, none⟩), .pointer (some ⟨b1, 96, none⟩), .pointer (some ⟨b1, 128, none⟩)]) (fun _ => by kernel_rfl) (sqMul H0.drew (i := 1) rfl (k1 := 0) rfl (Nat.lt_of_lt_of_eq (by decide : 0 < 1) rfl) (H0.drew.atz 0 3 rfl rfl rfl) (H0.drew.atz 0 4 rfl rfl rfl) (z := Ta * Tb) rfl) (fun _ w1 q1 => ⟨.tuple #[], q1.1, trivial, ?_⟩)
  have u1 := q1.2
  clear q1
  have H1 : Sto w [(b1, flat [X, Y, Z, Ta, Tb]), (n, flat [Ta * Tb]), (n + 1, flat [0])] w1 := u1
  clear u1 H0
  refine k_end ?_
  go_simp
  go_upto_region 3 with (fail)
  refine wp_region_atS (opsAt Tryd.f77 3) ((true, 0) :: (true, 1) :: (true, 2) :: (true, 3) :: (true, 4) :: (true, 5) :: (true, 6) :: (false, 7) :: []) (fun _ => True) (by kernel_rfl) rfl (by kernel_rfl) (fun _ _ d _ _ h => by cases d <;> exact h) (by kernel_rfl) (by kernel_rfl) trivial ?_
  refine k_pure (by kernel_rfl) (d := (some 17)) (by kernel_rfl) (v := .pointer (some ⟨n + 1, 0, none⟩)) (fun _ => by kernel_rfl) ?_
  refine k_pure (by kernel_rfl) (d := (some 18)) (by kernel_rfl) (v := .pointer (some ⟨b1, 0, none⟩)) (fun _ => by kernel_rfl) ?_
  refine k_pure (by kernel_rfl) (d := (some 19)) (by kernel_rfl) (v := .pointer (some ⟨b1, 0, none⟩)) (fun _ => by kernel_rfl) ?_
  refine k_pure (by kernel_rfl) (d := (some 20)) (by kernel_rfl) (v := .pointer (some ⟨b1, 32, none⟩)) (fun _ => by kernel_rfl) ?_
  refine k_pure (by kernel_rfl) (d := (some 21)) (by kernel_rfl) (v := .pointer (some ⟨b1, 0, none⟩)) (fun _ => by kernel_rfl) ?_
  refine k_pure (by kernel_rfl) (d := (some 22)) (by kernel_rfl) (v := .pointer (some ⟨b1, 0, none⟩)) (fun _ => by kernel_rfl) ?_
  refine k_pure (by kernel_rfl) (d := (some 23)) (by kernel_rfl) (v := .pointer (some ⟨b1, 64, none⟩)) (fun _ => by kernel_rfl) ?_
  refine k_callR (by kernel_rfl) (d := (some 24)) (by kernel_rfl) (f := 91) (args := #[.pointer (some ⟨n + 1, 0, none⟩), .pointer (some ⟨b1, 32, none⟩), .pointer (some ⟨b1, 64, none⟩)]) (fun _ => by kernel_rfl) (sqSub H1.drew (i := 2) rfl (k1 := 0) rfl (Nat.lt_of_lt_of_eq (by decide : 0 < 1) rfl) (H1.drew.atz 0 1 rfl rfl rfl) (H1.drew.atz 0 2 rfl rfl rfl) (z := Y - Z) rfl) (fun _ w2 q2 => ⟨.tuple #[], q2.1, trivial, ?_⟩)
  have u2 := q2.2
  clear q2
  have H2 : Sto w [(b1, flat [X, Y, Z, Ta, Tb]), (n, flat [Ta * Tb]), (n + 1, flat [Y - Z])] w2 := u2
  clear u2 H1
  refine k_end ?_
  go_simp
  go_upto_region 4 with (fail)
  refine wp_seq_atS (opsAt Tryd.f77 4) ((true, 0) :: (true, 1) :: (true, 2) :: (false, 3) :: (true, 4) :: (true, 5) :: (false, 6) :: (true, 7) :: (true, 8) :: (true, 9) :: (false, 10) :: (true, 11) :: (true, 12) :: []) (fun _ => True) (by kernel_rfl) (by kernel_rfl) trivial ?_
  refine k_pure (by kernel_rfl) (d := (some 25)) (by kernel_rfl) (v := .pointer (some ⟨b1, 0, none⟩)) (fun _ => by kernel_rfl) ?_
  refine k_pure (by kernel_rfl) (d := (some 26)) (by kernel_rfl) (v := .pointer (some ⟨b1, 0, none⟩)) (fun _ => by kernel_rfl) ?_
  refine k_pure (by kernel_rfl) (d := (some 27)) (by kernel_rfl) (v := .pointer (some ⟨b1, 0, none⟩)) (fun _ => by kernel_rfl) ?_
  refine k_callR (by kernel_rfl) (d := (some 28)) (by kernel_rfl) (f := 97) (args := #[.pointer (some ⟨b1, 0, none⟩)]) (fun _ => by kernel_rfl) (sqZeroT HX.out (hm.sto H2 (ksC (Nat.ne_of_gt (Nat.lt_of_lt_of_le (by decide) hg)) (ksC (Nat.ne_of_gt (by omega)) (ksC (Nat.ne_of_gt (by omega)) ks0)))) (Nat.lt_of_lt_of_le (by decide) hg) H2 (i := 0) rfl (k1 := 0) rfl rfl) (fun _ w3 q3 => ⟨.bool true, q3.1, trivial, ?_⟩)
  have u3 := q3.2
  clear q3
  have H3 : Sto w [(b1, flat [X, Y, Z, Ta, Tb]), (n, flat [Ta * Tb]), (n + 1, flat [Y - Z])] w3 := u3
  clear u3 H2
  refine k_pure (by kernel_rfl) (d := (some 29)) (by kernel_rfl) (v := .bool true) (fun _ => by kernel_rfl) ?_
  refine k_pure (by kernel_rfl) (d := (some 30)) (by kernel_rfl) (v := .pointer (some ⟨n, 0, none⟩)) (fun _ => by kernel_rfl) ?_
  refine k_callR (by kernel_rfl) (d := (some 31)) (by kernel_rfl) (f := 97) (args := #[.pointer (some ⟨n, 0, none⟩)]) (fun _ => by kernel_rfl) (sqZeroT HT.out (hm.sto H3 (ksC (Nat.ne_of_gt (Nat.lt_of_lt_of_le (by decide) hg)) (ksC (Nat.ne_of_gt (by omega)) (ksC (Nat.ne_of_gt (by omega)) ks0)))) (by omega) H3 (i := 1) rfl (k1 := 0) rfl rfl) (fun _ w4 q4 => ⟨.bool true, q4.1, trivial, ?_⟩)
  have u4 := q4.2
  clear q4
  have H4 : Sto w [(b1, flat [X, Y, Z, Ta, Tb]), (n, flat [Ta * Tb]), (n + 1, flat [Y - Z])] w4 := u4
  clear u4 H3
  refine k_pure (by kernel_rfl) (d := (some 32)) (by kernel_rfl) (v := .bool true) (fun _ => by kernel_rfl) ?_
  refine k_pure (by kernel_rfl) (d := (some 33)) (by kernel_rfl) (v := .bool true) (fun _ => by kernel_rfl) ?_
  refine k_pure (by kernel_rfl) (d := (some 34)) (by kernel_rfl) (v := .pointer (some ⟨n + 1, 0, none⟩)) (fun _ => by kernel_rfl) ?_
  refine k_callR (by kernel_rfl) (d := (some 35)) (by kernel_rfl) (f := 97) (args := #[.pointer (some ⟨n + 1, 0, none⟩)]) (fun _ => by kernel_rfl) (sqZeroT HD.out (hm.sto H4 (ksC (Nat.ne_of_gt (Nat.lt_of_lt_of_le (by decide) hg)) (ksC (Nat.ne_of_gt (by omega)) (ksC (Nat.ne_of_gt (by omega)) ks0)))) (by omega) H4 (i := 2) rfl (k1 := 0) rfl rfl) (fun _ w5 q5 => ⟨.bool true, q5.1, trivial, ?_⟩)
  have u5 := q5.2
  clear q5
  have H5 : Sto w [(b1, flat [X, Y, Z, Ta, Tb]), (n, flat [Ta * Tb]), (n + 1, flat [Y - Z])] w5 := u5
  clear u5 H4
  refine k_pure (by kernel_rfl) (d := (some 36)) (by kernel_rfl) (v := .bool true) (fun _ => by kernel_rfl) ?_
  refine k_pure (by kernel_rfl) (d := (some 2)) (by kernel_rfl) (v := .bool true) (fun _ => by kernel_rfl) ?_
  refine k_end ?_
  go_simp
  have HF := Lib.hid H5
  clear H5
  go_wp2_with fail
  exact bodyPost_ret_by (by kernel_rfl) (by kernel_rfl) ⟨rfl, HF.out.end1 (tsC (by omega) (tsC (by omega) ts0))⟩
theorem isIdR1 (hm : ModW w) (hg : 5 ≤ b1) (h1 : FpsZ w b1 (flat [X, Y, Z, Ta, Tb])) :
    Calls Tryd.prog 77 #[.pointer (some ⟨b1, 0, none⟩)] w fun e w' => e = .returned (.bool (idB X (Ta * Tb) (Y - Z))) ∧ UpdZ w w' b1 (flat [X, Y, Z, Ta, Tb]) := by
  unfold idB
  by_cases hX : X = 0
  · by_cases hT : Ta * Tb = 0
    · by_cases hD : Y - Z = 0
      · rw [decide_eq_true ⟨hX, hT, hD⟩]; exact isId3 hm hg h1 hX hT hD
      · rw [decide_eq_false fun h => hD h.2.2]; exact isId2 hm hg h1 hX hT hD
    · rw [decide_eq_false fun h => hT h.2.1]; exact isId1 hm hg h1 hX hT
  · rw [decide_eq_false fun h => hX h.1]; exact isId0 hm hg h1 hX
set_option maxRecDepth 100000 in
set_option maxHeartbeats 1000000 in
theorem onC0 (hm : ModW w) (hg : 5 ≤ b1) (hd : AtZ w 0 0 dd) (h1 : FpsZ w b1 (flat [X, Y, Z, Ta, Tb])) (hz : Z ≠ 0) (h1q : (Y - X) * (Y + X) - ((Ta * Tb * (Ta * Tb)) * dd + Z * Z) ≠ 0) (h2q : Ta * Tb * Z - X * Y = 0) :
    Calls Tryd.prog 84 #[.pointer (some ⟨b1, 0, none⟩)] w fun e w' => e = .returned (.bool false) ∧ UpdZ w w' b1 (flat [X, Y, Z, Ta, Tb]) := by
  have HZ := Lib.hid hz; have H1Q := Lib.hid h1q; have H2Q := Lib.hid h2q
  clear hz h1q h2q
  go_enter Tryd.func84, Tryd.ntmps84
  go_upto_region 2 with (fail)
  have HB1 := h1.lt
  have HGM := hm.lt
  have HG0 := hd.q.fst.lt
  refine wp_gen (fun W => Sto w [(b1, flat [X, Y, Z, Ta, Tb]), (w.heap.size, flat [0]), (w.heap.size + 1, flat [0]), (w.heap.size + 1 + 1, flat [0])] W) ((((Sto.one h1).new (l := List.replicate 2 0) rfl (by rfl) zeroL rfl).new (l := List.replicate 2 0) (by simp) (by rfl) zeroL rfl).new (l := List.replicate 2 0) (by simp) (by rfl) zeroL rfl) ?_
  intro W0 H0
  obtain ⟨n, hn⟩ : ∃ n, w.heap.size = n := ⟨_, rfl⟩
  rw [hn] at H0 ⊢
  have HN : Hid (w.heap.size = n) := Lib.hid hn
  have HNL : w.heap.size ≤ n := Nat.le_of_eq hn
  clear hn
  have H0 : Sto w [(b1, flat [X, Y, Z, Ta, Tb]), (n, flat [0]), (n + 1, flat [0]), (n + 1 + 1, flat [0])] W0 := H0
  refine wp_seq_atS (opsAt Tryd.f84 2) ((true, 0) :: (true, 1) :: (true, 2) :: (false, 3) :: (true, 4) :: (true, 5) :: []) (fun _ => True) (by kernel_rfl) (by kernel_rfl) trivial ?_
  refine k_pure (by kernel_rfl) (d := (some 16)) (by kernel_rfl) (v := .pointer (some ⟨b1, 0, none⟩)) (fun _ => by kernel_rfl) ?_
  refine k_pure (by kernel_rfl) (d := (some 17)) (by kernel_rfl) (v := .pointer (some ⟨b1, 0, none⟩)) (fun _ => by kernel_rfl) ?_
  refine k_pure (by kernel_rfl) (d := (some 18)) (by kernel_rfl) (v := .pointer (some ⟨b1, 64, none⟩)) (fun _ => by kernel_rfl) ?_
  refine k_callR (by kernel_rfl) (d := (some 19)) (by kernel_rfl) (f := 97) (args := #[.pointer (some ⟨b1, 64, none⟩)]) (fun _ => by kernel_rfl) (sqZeroF HZ.out (hm.sto H0 (ksC (Nat.ne_of_gt (Nat.lt_of_lt_of_le (by decide) hg)) (ksC (Nat.ne_of_gt (by omega)) (ksC (Nat.ne_of_gt (by omega)) (ksC (Nat.ne_of_gt (by omega)) ks0))))) (Nat.lt_of_lt_of_le (by decide) hg) H0 (i := 0) rfl (k1 := 2) rfl rfl) (fun _ w1 q1 => ⟨.bool false, q1.1, trivial, ?_⟩)
  have u1 := q1.2
  clear q1
  have H1 : Sto w [(b1, flat [X, Y, Z, Ta, Tb]), (n, flat [0]), (n + 1, flat [0]), (n + 1 + 1, flat [0])] w1 := u1
  clear u1 H0
  refine k_pure (by kernel_rfl) (d := (some 20)) (by kernel_rfl) (v := .bool true) (fun _ => by kernel_rfl) ?_
  refine k_pure (by kernel_rfl) (d := (some 6)) (by kernel_rfl) (v := .bool true) (fun _ => by kernel_rfl) ?_
  refine k_end ?_
  go_simp
  go_upto_region 3 with (fail)
  refine wp_region_atS (opsAt Tryd.f84 3) ((true, 0) :: (true, 1) :: (true, 2) :: (true, 3) :: (true, 4) :: (true, 5) :: (true, 6) :: (false, 7) :: []) (fun _ => True) (by kernel_rfl) rfl (by kernel_rfl) (fun _ _ d _ _ h => by cases d <;> exact h) (by kernel_rfl) (by kernel_rfl) trivial ?_
  refine k_pure (by kernel_rfl) (d := (some 21)) (by kernel_rfl) (v := .pointer (some ⟨n, 0, none⟩)) (fun _ => by kernel_rfl) ?_
  refine k_pure (by kernel_rfl) (d := (some 22)) (by kernel_rfl) (v := .pointer (some ⟨b1, 0, none⟩)) (fun _ => by kernel_rfl) ?_
  refine k_pure (by kernel_rfl) (d := (some 23)) (by kernel_rfl) (v := .pointer (some ⟨b1, 0, none⟩)) (fun _ => by kernel_rfl) ?_
  refine k_pure (by kernel_rfl) (d := (some 24)) (by kernel_rfl) (v := .pointer (some ⟨b1, 32, none⟩)) (fun _ => by kernel_rfl) ?_
  refine k_pure (by kernel_rfl) (d := (some 25)) (by kernel_rfl) (v := .pointer (some ⟨b1, 0, none⟩)) (fun _ => by kernel_rfl) ?_
  refine k_pure (by kernel_rfl) (d := (some 26)) (by kernel_rfl) (v := .pointer (some ⟨b1, 0, none⟩)) (fun _ => by kernel_rfl) ?_
  refine k_pure (by kernel_rfl) (d := (some 27)) (by kernel_rfl) (v := .pointer (some ⟨b1, 0, none⟩)) (fun _ => by kernel_rfl) ?_
  refine k_callR (by kernel_rfl) (d := (some 28)) (by kernel_rfl) (f := 92) (args := #[.pointer (some ⟨n, 0, none⟩), .pointer (some ⟨b1, 32, none⟩), .pointer (some ⟨b1, 0, none⟩)]) (fun _ => by kernel_rfl) (sqAdd H1.drew (i := 1) rfl (k1 := 0) rfl (Nat.lt_of_lt_of_eq (by decide : 0 < 1) rfl) (H1.drew.atz 0 1 rfl rfl rfl) (H1.drew.atz 0 0 rfl rfl rfl) (z := Y + X) rfl) (fun _ w2 q2 => ⟨.tuple #[], q2.1, trivial, ?_⟩)
  have u2 := q2.2
  clear q2
  have H2 : Sto w [(b1, flat [X, Y, Z, Ta, Tb]), (n, flat [Y + X]), (n + 1, flat [0]), (n + 1 + 1, flat [0])] w2 := u2
  clear u2 H1
  refine k_end ?_
  go_simp
  go_upto_region 4 with (fail)
  refine wp_region_atS (opsAt Tryd.f84 4) ((true, 0) :: (true, 1) :: (true, 2) :: (true, 3) :: (true, 4) :: (true, 5) :: (true, 6) :: (false, 7) :: []) (fun _ => True) (by kernel_rfl) rfl (by kernel_rfl) (fun _ _ d _ _ h => by cases d <;> exact h) (by kernel_rfl) (by kernel_rfl) trivial ?_
  refine k_pure (by kernel_rfl) (d := (some 29)) (by kernel_rfl) (v := .pointer (some ⟨n + 1, 0, none⟩)) (fun _ => by kernel_rfl) ?_
  refine k_pure (by kernel_rfl) (d := (some 30)) (by kernel_rfl) (v := .pointer (some ⟨b1, 0, none⟩)) (fun _ => by kernel_rfl) ?_
  refine k_pure (by kernel_rfl) (d := (some 31)) (by kernel_rfl) (v := .pointer (some ⟨b1, 0, none⟩)) (fun _ => by kernel_rfl) ?_
  refine k_pure (by kernel_rfl) (d := (some 32)) (by kernel_rfl) (v := .pointer (some ⟨b1, 32, none⟩)) (fun _ => by kernel_rfl) ?_
  refine k_pure (by kernel_rfl) (d := (some 33)) (by kernel_rfl) (v := .pointer (some ⟨b1, 0, none⟩)) (fun _ => by kernel_rfl) ?_
  refine k_pure (by kernel_rfl) (d := (some 34)) (by kernel_rfl) (v := .pointer (some ⟨b1, 0, none⟩)) (fun _ => by kernel_rfl) ?_
  refine k_pure (by kernel_rfl) (d := (some 35)) (by kernel_rfl) (v := .pointer (some ⟨b1, 0, none⟩)) (fun _ => by kernel_rfl) ?_
  refine k_callR (by kernel_rfl) (d := (some 36)) (by kernel_rfl) (f := 91) (args := #[.pointer (some ⟨n + 1, 0, none⟩), .pointer (some ⟨b1, 32, none⟩), .pointer (some ⟨b1, 0, none⟩)]) (fun _ => by kernel_rfl) (sqSub H2.drew (i := 2) rfl (k1 := 0) rfl (Nat.lt_of_lt_of_eq (by decide : 0 < 1) rfl) (H2.drew.atz 0 1 rfl rfl rfl) (H2.drew.atz 0 0 rfl rfl rfl) (z := Y - X) rfl) (fun _ w3 q3 => ⟨.tuple #[], q3.1, trivial, ?_⟩)
  have u3 := q3.2
  clear q3
  have H3 : Sto w [(b1, flat [X, Y, Z, Ta, Tb]), (n, flat [Y + X]), (n + 1, flat [Y - X]), (n + 1 + 1, flat [0])] w3 := u3
  clear u3 H2
  refine k_end ?_
  go_simp
  go_upto_region 5 with (fail)
  refine wp_seq_atS (opsAt Tryd.f84 5) ((true, 0) :: (true, 1) :: (true, 2) :: (false, 3) :: []) (fun _ => True) (by kernel_rfl) (by kernel_rfl) trivial ?_
  refine k_pure (by kernel_rfl) (d := (some 37)) (by kernel_rfl) (v := .pointer (some ⟨n + 1, 0, none⟩)) (fun _ => by kernel_rfl) ?_
  refine k_pure (by kernel_rfl) (d := (some 38)) (by kernel_rfl) (v := .pointer (some ⟨n + 1, 0, none⟩)) (fun _ => by kernel_rfl) ?_
  refine k_pure (by kernel_rfl) (d := (some 39)) (by kernel_rfl) (v := .pointer (some ⟨n, 0, none⟩)) (fun _ => by kernel_rfl) ?_
  refine k_callR (by kernel_rfl) (d := (some 40)) (by kernel_rfl) (f := 90) (args := #[.pointer (some ⟨n + 1, 0, none⟩), .pointer (some ⟨n + 1, 0, none⟩), .pointer (some ⟨n, 0, none⟩)]) (fun _ => by kernel_rfl) (sqMul H3 (i := 2) rfl (k1 := 0) rfl (Nat.lt_of_lt_of_eq (by decide : 0 < 1) rfl) (H3.atz 2 0 rfl rfl rfl) (H3.atz 1 0 rfl rfl rfl) (z := (Y - X) * (Y + X)) rfl) (fun _ w4 q4 => ⟨.tuple #[], q4.1, trivial, ?_⟩)
  have u4 := q4.2
  clear q4
  have H4 : Sto w [(b1, flat [X, Y, Z, Ta, Tb]), (n, flat [Y + X]), (n + 1, flat [(Y - X) * (Y + X)]), (n + 1 + 1, flat [0])] w4 := u4
  clear u4 H3
  refine k_end ?_
  go_simp
  go_upto_region 6 with (fail)
  refine wp_region_atS (opsAt Tryd.f84 6) ((true, 0) :: (true, 1) :: (true, 2) :: (true, 3) :: (true, 4) :: (true, 5) :: (true, 6) :: (false, 7) :: []) (fun _ => True) (by kernel_rfl) rfl (by kernel_rfl) (fun _ _ d _ _ h => by cases d <;> exact h) (by kernel_rfl) (by kernel_rfl) trivial ?_
  refine k_pure (by kernel_rfl) (d := (some 41)) (by kernel_rfl) (v := .pointer (some ⟨n + 1 + 1, 0, none⟩)) (fun _ => by kernel_rfl) ?_
  refine k_pure (by kernel_rfl) (d := (some 42)) (by kernel_rfl) (v := .pointer (some ⟨b1, 0, none⟩)) (fun _ => by kernel_rfl) ?_
  refine k_pure (by kernel_rfl) (d := (some 43)) (by kernel_rfl) (v := .pointer (some ⟨b1, 0, none⟩)) (fun _ => by kernel_rfl) ?_
  refine k_pure (by kernel_rfl) (d := (some 44)) (by kernel_rfl) (v := .pointer (some ⟨b1, 96, none⟩)) (fun _ => by kernel_rfl) ?_
  refine k_pure (by kernel_rfl) (d := (some 45)) (by kernel_rfl) (v := .pointer (some ⟨b1, 0, none⟩)) (fun _ => by kernel_rfl) ?_
  refine k_pure (by kernel_rfl) (d := (some 46)) (by kernel_rfl) (v := .pointer (some ⟨b1, 0, none⟩)) (fun _ => by kernel_rfl) ?_
  refine k_pure (by kernel_rfl) (d := (some 47)) (by kernel_rfl) (v := .pointer (some ⟨b1, 128, none⟩)) (fun _ => by kernel_rfl) ?_
  refine k_callR (by kernel_rfl) (d := (some 48)) (by kernel_rfl) (f := 90) (args := #[.pointer (some ⟨n + 1 + 1, 0, none⟩), .pointer (some ⟨b1, 96, none⟩), .pointer (some ⟨b1, 128, none⟩)]) (fun _ => by kernel_rfl) (sqMul H4.drew (i := 3) rfl (k1 := 0) rfl (Nat.lt_of_lt_of_eq (by decide : 0 < 1) rfl) (H4.drew.atz 0 3 rfl rfl rfl) (H4.drew.atz 0 4 rfl rfl rfl) (z := Ta * Tb) rfl) (fun _ w5 q5 => ⟨.tuple #[], q5.1, trivial, ?_⟩)
  have u5 := q5.2
  clear q5
  have H5 : Sto w [(b1, flat [X, Y, Z, Ta, Tb]), (n, flat [Y + X]), (n + 1, flat [(Y - X) * (Y + X)]), (n + 1 + 1, flat [Ta * Tb])] w5 := u5
  clear u5 H4
  refine k_end ?_
  go_simp
  go_upto_region 7 with (fail)
  refine wp_seq_atS (opsAt Tryd.f84 7) ((true, 0) :: (true, 1) :: (false, 2) :: []) (fun _ => True) (by kernel_rfl) (by kernel_rfl) trivial ?_
  refine k_pure (by kernel_rfl) (d := (some 49)) (by kernel_rfl) (v := .pointer (some ⟨n + 1 + 1, 0, none⟩)) (fun _ => by kernel_rfl) ?_
  refine k_pure (by kernel_rfl) (d := (some 50)) (by kernel_rfl) (v := .pointer (some ⟨n + 1 + 1, 0, none⟩)) (fun _ => by kernel_rfl) ?_
  refine k_callR (by kernel_rfl) (d := (some 51)) (by kernel_rfl) (f := 89) (args := #[.pointer (some ⟨n + 1 + 1, 0, none⟩), .pointer (some ⟨n + 1 + 1, 0, none⟩)]) (fun _ => by kernel_rfl) (sqSqr H5 (i := 3) rfl (k1 := 0) rfl (Nat.lt_of_lt_of_eq (by decide : 0 < 1) rfl) (H5.atz 3 0 rfl rfl rfl) (z := (Ta * Tb) * (Ta * Tb)) rfl) (fun _ w6 q6 => ⟨.tuple #[], q6.1, trivial, ?_⟩)
  have u6 := q6.2
  clear q6
  have H6 : Sto w [(b1, flat [X, Y, Z, Ta, Tb]), (n, flat [Y + X]), (n + 1, flat [(Y - X) * (Y + X)]), (n + 1 + 1, flat [(Ta * Tb) * (Ta * Tb)])] w6 := u6
  clear u6 H5
  refine k_end ?_
  go_simp
  go_upto_region 8 with (fail)
  refine wp_seq_atS (opsAt Tryd.f84 8) ((false, 0) :: (false, 1) :: (false, 2) :: []) (fun _ => True) (by kernel_rfl) (by kernel_rfl) trivial ?_
  refine k_loadZ (by kernel_rfl) (d := (some 52)) (by kernel_rfl) (ty := 83) (x := (.global 0)) (by kernel_rfl) (b := 0) (o := 0) (z := dd) (by kernel_rfl) ((hd).sto H6 (ksC (Nat.ne_of_gt (Nat.lt_of_lt_of_le (by decide) hg)) (ksC (by omega) (ksC (by omega) (ksC (by omega) ks0))))) Tryd.underlying83 rfl (by kernel_rfl) trivial (fun x7 y7 lx7 ly7 zx7 zy7 => ?_)
  refine k_make (by kernel_rfl) (d := (some 7)) (by kernel_rfl) (v := .pointer (some ⟨w6.heap.size, 0, none⟩)) (w' := w6.alloc (.cells (fps (List.replicate 2 0)) 83)) (by kernel_rfl) trivial ?_
  intro w8 hw8 _
  have hge8 : w.heap.size ≤ w6.heap.size := H6.size
  have u8 : Sto w [(b1, flat [X, Y, Z, Ta, Tb]), (n, flat [Y + X]), (n + 1, flat [(Y - X) * (Y + X)]), (n + 1 + 1, flat [(Ta * Tb) * (Ta * Tb)]), (w6.heap.size, flat [0])] w8 := by rw [hw8]; exact H6.new (l := List.replicate 2 0) rfl rfl zeroL rfl
  clear hw8
  have H7 : Sto w [(b1, flat [X, Y, Z, Ta, Tb]), (n, flat [Y + X]), (n + 1, flat [(Y - X) * (Y + X)]), (n + 1 + 1, flat [(Ta * Tb) * (Ta * Tb)]), (w6.heap.size, flat [0])] w8 := u8
  clear u8 H6
  refine k_storeZ (by kernel_rfl) (d := none) (by kernel_rfl) (ty := 83) (x := (.tmp 7)) (y := (.tmp 52)) (by kernel_rfl) (b := w6.heap.size) (o := 0) (k := 2 * 0) (u := x7) (v := y7) (by kernel_rfl) (by kernel_rfl) (H7.blk 4 _ _ rfl) (k2 rfl) (flat_lt (Nat.lt_of_lt_of_eq (by decide : 0 < 1) rfl)) lx7 ly7 zx7 zy7 (by kernel_rfl) (fun w9 u9 => ⟨trivial, ?_⟩)
  have u9 := H7.upd (i := 4) rfl u9
  rw [flat_set] at u9
  have H8 : Sto w [(b1, flat [X, Y, Z, Ta, Tb]), (n, flat [Y + X]), (n + 1, flat [(Y - X) * (Y + X)]), (n + 1 + 1, flat [(Ta * Tb) * (Ta * Tb)]), (w6.heap.size, flat [dd])] w9 := u9
  clear u9 H7
  clear zx7 zy7
  refine k_end ?_
  go_simp
  go_upto_region 9 with (fail)
  refine wp_seq_atS (opsAt Tryd.f84 9) ((true, 0) :: (true, 1) :: (false, 2) :: []) (fun _ => True) (by kernel_rfl) (by kernel_rfl) trivial ?_
  refine k_pure (by kernel_rfl) (d := (some 53)) (by kernel_rfl) (v := .pointer (some ⟨n + 1 + 1, 0, none⟩)) (fun _ => by kernel_rfl) ?_
  refine k_pure (by kernel_rfl) (d := (some 54)) (by kernel_rfl) (v := .pointer (some ⟨n + 1 + 1, 0, none⟩)) (fun _ => by kernel_rfl) ?_
  refine k_callR (by kernel_rfl) (d := (some 55)) (by kernel_rfl) (f := 90) (args := #[.pointer (some ⟨n + 1 + 1, 0, none⟩), .pointer (some ⟨n + 1 + 1, 0, none⟩), .pointer (some ⟨w6.heap.size, 0, none⟩)]) (fun _ => by kernel_rfl) (sqMul H8 (i := 3) rfl (k1 := 0) rfl (Nat.lt_of_lt_of_eq (by decide : 0 < 1) rfl) (H8.atz 3 0 rfl rfl rfl) (H8.atz 4 0 rfl rfl rfl) (z := ((Ta * Tb) * (Ta * Tb)) * dd) rfl) (fun _ w10 q10 => ⟨.tuple #[], q10.1, trivial, ?_⟩)
  have u10 := q10.2
  clear q10
  have H9 : Sto w [(b1, flat [X, Y, Z, Ta, Tb]), (n, flat [Y + X]), (n + 1, flat [(Y - X) * (Y + X)]), (n + 1 + 1, flat [((Ta * Tb) * (Ta * Tb)) * dd]), (w6.heap.size, flat [dd])] w10 := u10
  clear u10 H8
  refine k_end ?_
  go_simp
  go_upto_region 10 with (fail)
  refine wp_seq_atS (opsAt Tryd.f84 10) ((true, 0) :: (true, 1) :: (true, 2) :: (true, 3) :: (false, 4) :: []) (fun _ => True) (by kernel_rfl) (by kernel_rfl) trivial ?_
  refine k_pure (by kernel_rfl) (d := (some 56)) (by kernel_rfl) (v := .pointer (some ⟨n, 0, none⟩)) (fun _ => by kernel_rfl) ?_
  refine k_pure (by kernel_rfl) (d := (some 57)) (by kernel_rfl) (v := .pointer (some ⟨b1, 0, none⟩)) (fun _ => by kernel_rfl) ?_
  refine k_pure (by kernel_rfl) (d := (some 58)) (by kernel_rfl) (v := .pointer (some ⟨b1, 0, none⟩)) (fun _ => by kernel_rfl) ?_
  refine k_pure (by kernel_rfl) (d := (some 59)) (by kernel_rfl) (v := .pointer (some ⟨b1, 64, none⟩)) (fun _ => by kernel_rfl) ?_
  refine k_callR (by kernel_rfl) (d := (some 60)) (by kernel_rfl) (f := 89) (args := #[.pointer (some ⟨n, 0, none⟩), .pointer (some ⟨b1, 64, none⟩)]) (fun _ => by kernel_rfl) (sqSqr H9 (i := 1) rfl (k1 := 0) rfl (Nat.lt_of_lt_of_eq (by decide : 0 < 1) rfl) (H9.atz 0 2 rfl rfl rfl) (z := Z * Z) rfl) (fun _ w11 q11 => ⟨.tuple #[], q11.1, trivial, ?_⟩)
  have u11 := q11.2
  clear q11
  have H10 : Sto w [(b1, flat [X, Y, Z, Ta, Tb]), (n, flat [Z * Z]), (n + 1, flat [(Y - X) * (Y + X)]), (n + 1 + 1, flat [((Ta * Tb) * (Ta * Tb)) * dd]), (w6.heap.size, flat [dd])] w11 := u11
  clear u11 H9
  refine k_end ?_
  go_simp
  go_upto_region 11 with (fail)
  refine wp_seq_atS (opsAt Tryd.f84 11) ((true, 0) :: (true, 1) :: (true, 2) :: (false, 3) :: []) (fun _ => True) (by kernel_rfl) (by kernel_rfl) trivial ?_
  refine k_pure (by kernel_rfl) (d := (some 61)) (by kernel_rfl) (v := .pointer (some ⟨n + 1 + 1, 0, none⟩)) (fun _ => by kernel_rfl) ?_
  refine k_pure (by kernel_rfl) (d := (some 62)) (by kernel_rfl) (v := .pointer (some ⟨n + 1 + 1, 0, none⟩)) (fun _ => by kernel_rfl) ?_
  refine k_pure (by kernel_rfl) (d := (some 63)) (by kernel_rfl) (v := .pointer (some ⟨n, 0, none⟩)) (fun _ => by kernel_rfl) ?_
  refine k_callR (by kernel_rfl) (d := (some 64)) (by kernel_rfl) (f := 92) (args := #[.pointer (some ⟨n + 1 + 1, 0, none⟩), .pointer (some ⟨n + 1 + 1, 0, none⟩), .pointer (some ⟨n, 0, none⟩)]) (fun _ => by kernel_rfl) (sqAdd H10 (i := 3) rfl (k1 := 0) rfl (Nat.lt_of_lt_of_eq (by decide : 0 < 1) rfl) (H10.atz 3 0 rfl rfl rfl) (H10.atz 1 0 rfl rfl rfl) (z := (((Ta * Tb) * (Ta * Tb)) * dd) + (Z * Z)) rfl) (fun _ w12 q12 => ⟨.tuple #[], q12.1, trivial, ?_⟩)
  have u12 := q12.2
  clear q12
  have H11 : Sto w [(b1, flat [X, Y, Z, Ta, Tb]), (n, flat [Z * Z]), (n + 1, flat [(Y - X) * (Y + X)]), (n + 1 + 1, flat [(((Ta * Tb) * (Ta * Tb)) * dd) + (Z * Z)]), (w6.heap.size, flat [dd])] w12 := u12
  clear u12 H10
  refine k_end ?_
  go_simp
  go_upto_region 12 with (fail)
  refine wp_seq_atS (opsAt Tryd.f84 12) ((true, 0) :: (true, 1) :: (true, 2) :: (false, 3) :: []) (fun _ => True) (by kernel_rfl) (by kernel_rfl) trivial ?_
  refine k_pure (by kernel_rfl) (d := (some 65)) (by kernel_rfl) (v := .pointer (some ⟨n, 0, none⟩)) (fun _ => by kernel_rfl) ?_
  refine k_pure (by kernel_rfl) (d := (some 66)) (by kernel_rfl) (v := .pointer (some ⟨n + 1, 0, none⟩)) (fun _ => by kernel_rfl) ?_
  refine k_pure (by kernel_rfl) (d := (some 67)) (by kernel_rfl) (v := .pointer (some ⟨n + 1 + 1, 0, none⟩)) (fun _ => by kernel_rfl) ?_
  refine k_callR (by kernel_rfl) (d := (some 68)) (by kernel_rfl) (f := 91) (args := #[.pointer (some ⟨n, 0, none⟩), .pointer (some ⟨n + 1, 0, none⟩), .pointer (some ⟨n + 1 + 1, 0, none⟩)]) (fun _ => by kernel_rfl) (sqSub H11 (i := 1) rfl (k1 := 0) rfl (Nat.lt_of_lt_of_eq (by decide : 0 < 1) rfl) (H11.atz 2 0 rfl rfl rfl) (H11.atz 3 0 rfl rfl rfl) (z := ((Y - X) * (Y + X)) - ((((Ta * Tb) * (Ta * Tb)) * dd) + (Z * Z))) rfl) (fun _ w13 q13 => ⟨.tuple #[], q13.1, trivial, ?_⟩)
  have u13 := q13.2
  clear q13
  have H12 : Sto w [(b1, flat [X, Y, Z, Ta, Tb]), (n, flat [((Y - X) * (Y + X)) - ((((Ta * Tb) * (Ta * Tb)) * dd) + (Z * Z))]), (n + 1, flat [(Y - X) * (Y + X)]), (n + 1 + 1, flat [(((Ta * Tb) * (Ta * Tb)) * dd) + (Z * Z)]), (w6.heap.size, flat [dd])] w13 := u13
  clear u13 H11
  refine k_end ?_
  go_simp
  go_upto_region 13 with (fail)
  refine wp_seq_atS (opsAt Tryd.f84 13) ((true, 0) :: (false, 1) :: (true, 2) :: []) (fun _ => True) (by kernel_rfl) (by kernel_rfl) trivial ?_
  refine k_pure (by kernel_rfl) (d := (some 69)) (by kernel_rfl) (v := .pointer (some ⟨n, 0, none⟩)) (fun _ => by kernel_rfl) ?_
  refine k_callR (by kernel_rfl) (d := (some 70)) (by kernel_rfl) (f := 97) (args := #[.pointer (some ⟨n, 0, none⟩)]) (fun _ => by kernel_rfl) (sqZeroF H1Q.out (hm.sto H12 (ksC (Nat.ne_of_gt (Nat.lt_of_lt_of_le (by decide) hg)) (ksC (Nat.ne_of_gt (by omega)) (ksC (Nat.ne_of_gt (by omega)) (ksC (Nat.ne_of_gt (by omega)) (ksC (Nat.ne_of_gt (by omega)) ks0)))))) (by omega) H12 (i := 1) rfl (k1 := 0) rfl rfl) (fun _ w14 q14 => ⟨.bool false, q14.1, trivial, ?_⟩)
  have u14 := q14.2
  clear q14
  have H13 : Sto w [(b1, flat [X, Y, Z, Ta, Tb]), (n, flat [((Y - X) * (Y + X)) - ((((Ta * Tb) * (Ta * Tb)) * dd) + (Z * Z))]), (n + 1, flat [(Y - X) * (Y + X)]), (n + 1 + 1, flat [(((Ta * Tb) * (Ta * Tb)) * dd) + (Z * Z)]), (w6.heap.size, flat [dd])] w14 := u14
  clear u14 H12
  refine k_pure (by kernel_rfl) (d := (some 8)) (by kernel_rfl) (v := .bool false) (fun _ => by kernel_rfl) ?_
  refine k_end ?_
  go_simp
  go_upto_region 14 with (fail)
  refine wp_region_atS (opsAt Tryd.f84 14) ((true, 0) :: (true, 1) :: (true, 2) :: (true, 3) :: (true, 4) :: (true, 5) :: (true, 6) :: (false, 7) :: []) (fun _ => True) (by kernel_rfl) rfl (by kernel_rfl) (fun _ _ d _ _ h => by cases d <;> exact h) (by kernel_rfl) (by kernel_rfl) trivial ?_
  refine k_pure (by kernel_rfl) (d := (some 71)) (by kernel_rfl) (v := .pointer (some ⟨n + 1, 0, none⟩)) (fun _ => by kernel_rfl) ?_
  refine k_pure (by kernel_rfl) (d := (some 72)) (by kernel_rfl) (v := .pointer (some ⟨b1, 0, none⟩)) (fun _ => by kernel_rfl) ?_
  refine k_pure (by kernel_rfl) (d := (some 73)) (by kernel_rfl) (v := .pointer (some ⟨b1, 0, none⟩)) (fun _ => by kernel_rfl) ?_
  refine k_pure (by kernel_rfl) (d := (some 74)) (by kernel_rfl) (v := .pointer (some ⟨b1, 96, none⟩)) (fun _ => by kernel_rfl) ?_
  refine k_pure (by kernel_rfl) (d := (some 75)) (by kernel_rfl) (v := .pointer (some ⟨b1, 0, none⟩)) (fun _ => by kernel_rfl) ?_
  refine k_pure (by kernel_rfl) (d := (some 76)) (by kernel_rfl) (v := .pointer (some ⟨b1, 0, none⟩)) (fun _ => by kernel_rfl) ?_
  refine k_pure (by kernel_rfl) (d := (some 77)) (by kernel_rfl) (v := .pointer (some ⟨b1, 128, none⟩)) (fun _ => by kernel_rfl) ?_
  refine k_callR (by kernel_rfl) (d := (some 78)) (by kernel_rfl) (f := 90) (args := #[.pointer (some ⟨n + 1, 0, none⟩), .pointer (some ⟨b1, 96, none⟩), .pointer (some ⟨b1, 128, none⟩)]) (fun _ => by kernel_rfl) (sqMul H13.drew (i := 2) rfl (k1 := 0) rfl (Nat.lt_of_lt_of_eq (by decide : 0 < 1) rfl) (H13.drew.atz 0 3 rfl rfl rfl) (H13.drew.atz 0 4 rfl rfl rfl) (z := Ta * Tb) rfl) (fun _ w15 q15 => ⟨.tuple #[], q15.1, trivial, ?_⟩)
  have u15 := q15.2
  clear q15
  have H14 : Sto w [(b1, flat [X, Y, Z, Ta, Tb]), (n, flat [((Y - X) * (Y + X)) - ((((Ta * Tb) * (Ta * Tb)) * dd) + (Z * Z))]), (n + 1, flat [Ta * Tb]), (n + 1 + 1, flat [(((Ta * Tb) * (Ta * Tb)) * dd) + (Z * Z)]), (w6.heap.size, flat [dd])] w15 := u15
  clear u15 H13
  refine k_end ?_
  go_simp
  go_upto_region 15 with (fail)
  refine wp_seq_atS (opsAt Tryd.f84 15) ((true, 0) :: (true, 1) :: (true, 2) :: (true, 3) :: (true, 4) :: (false, 5) :: []) (fun _ => True) (by kernel_rfl) (by kernel_rfl) trivial ?_
  refine k_pure (by kernel_rfl) (d := (some 79)) (by kernel_rfl) (v := .pointer (some ⟨n + 1, 0, none⟩)) (fun _ => by kernel_rfl) ?_
  refine k_pure (by kernel_rfl) (d := (some 80)) (by kernel_rfl) (v := .pointer (some ⟨n + 1, 0, none⟩)) (fun _ => by kernel_rfl) ?_
  refine k_pure (by kernel_rfl) (d := (some 81)) (by kernel_rfl) (v := .pointer (some ⟨b1, 0, none⟩)) (fun _ => by kernel_rfl) ?_
  refine k_pure (by kernel_rfl) (d := (some 82)) (by kernel_rfl) (v := .pointer (some ⟨b1, 0, none⟩)) (fun _ => by kernel_rfl) ?_
  refine k_pure (by kernel_rfl) (d := (some 83)) (by kernel_rfl) (v := .pointer (some ⟨b1, 64, none⟩)) (fun _ => by kernel_rfl) ?_
  refine k_callR (by kernel_rfl) (d := (some 84)) (by kernel_rfl) (f := 90) (args := #[.pointer (some ⟨n + 1, 0, none⟩), .pointer (some ⟨n + 1, 0, none⟩), .pointer (some ⟨b1, 64, none⟩)]) (fun _ => by kernel_rfl) (sqMul H14 (i := 2) rfl (k1 := 0) rfl (Nat.lt_of_lt_of_eq (by decide : 0 < 1) rfl) (H14.atz 2 0 rfl rfl rfl) (H14.atz 0 2 rfl rfl rfl) (z := (Ta * Tb) * Z) rfl) (fun _ w16 q16 => ⟨.tuple #[], q16.1, trivial, ?_⟩)
  have u16 := q16.2
  clear q16
  have H15 : Sto w [(b1, flat [X, Y, Z, Ta, Tb]), (n, flat [((Y - X) * (Y + X)) - ((((Ta * Tb) * (Ta * Tb)) * dd) + (Z * Z))]), (n + 1, flat [(Ta * Tb) * Z]), (n + 1 + 1, flat [(((Ta * Tb) * (Ta * Tb)) * dd) + (Z * Z)]), (w6.heap.size, flat [dd])] w16 := u16
  clear u16 H14
  refine k_end ?_
  go_simp
  go_upto_region 16 with (fail)
  refine wp_region_atS (opsAt Tryd.f84 16) ((true, 0) :: (true, 1) :: (true, 2) :: (true, 3) :: (true, 4) :: (true, 5) :: (true, 6) :: (false, 7) :: []) (fun _ => True) (by kernel_rfl) rfl (by kernel_rfl) (fun _ _ d _ _ h => by cases d <;> exact h) (by kernel_rfl) (by kernel_rfl) trivial ?_
  refine k_pure (by kernel_rfl) (d := (some 85)) (by kernel_rfl) (v := .pointer (some ⟨n + 1 + 1, 0, none⟩)) (fun _ => by kernel_rfl) ?_
  refine k_pure (by kernel_rfl) (d := (some 86)) (by kernel_rfl) (v := .pointer (some ⟨b1, 0, none⟩)) (fun _ => by kernel_rfl) ?_
  refine k_pure (by kernel_rfl) (d := (some 87)) (by kernel_rfl) (v := .pointer (some ⟨b1, 0, none⟩)) (fun _ => by kernel_rfl) ?_
  refine k_pure (by kernel_rfl) (d := (some 88)) (by kernel_rfl) (v := .pointer (some ⟨b1, 0, none⟩)) (fun _ => by kernel_rfl) ?_
  refine k_pure (by kernel_rfl) (d := (some 89)) (by kernel_rfl) (v := .pointer (some ⟨b1, 0, none⟩)) (fun _ => by kernel_rfl) ?_
  refine k_pure (by kernel_rfl) (d := (some 90)) (by kernel_rfl) (v := .pointer (some ⟨b1, 0, none⟩)) (fun _ => by kernel_rfl) ?_
  refine k_pure (by kernel_rfl) (d := (some 91)) (by kernel_rfl) (v := .pointer (some ⟨b1, 32, none⟩)) (fun _ => by kernel_rfl) ?_
  refine k_callR (by kernel_rfl) (d := (some 92)) (by kernel_rfl) (f := 90) (args := #[.pointer (some ⟨n + 1 + 1, 0, none⟩), .pointer (some ⟨b1, 0, none⟩), .pointer (some ⟨b1, 32, none⟩)]) (fun _ => by kernel_rfl) (sqMul H15.drew (i := 3) rfl (k1 := 0) rfl (Nat.lt_of_lt_of_eq (by decide : 0 < 1) rfl) (H15.drew.atz 0 0 rfl rfl rfl) (H15.drew.atz 0 1 rfl rfl rfl) (z := X * Y) rfl) (fun _ w17 q17 => ⟨.tuple #[], q17.1, trivial, ?_⟩)
  have u17 := q17.2
  clear q17
  have H16 : Sto w [(b1, flat [X, Y, Z, Ta, Tb]), (n, flat [((Y - X) * (Y + X)) - ((((Ta * Tb) * (Ta * Tb)) * dd) + (Z * Z))]), (n + 1, flat [(Ta * Tb) * Z]), (n + 1 + 1, flat [X * Y]), (w6.heap.size, flat [dd])] w17 := u17
  clear u17 H15
  refine k_end ?_
  go_simp
  go_upto_region 17 with (fail)
  refine wp_seq_atS (opsAt Tryd.f84 17) ((true, 0) :: (true, 1) :: (true, 2) :: (false, 3) :: []) (fun _ => True) (by kernel_rfl) (by kernel_rfl) trivial ?_
  refine k_pure (by kernel_rfl) (d := (some 93)) (by kernel_rfl) (v := .pointer (some ⟨n, 0, none⟩)) (fun _ => by kernel_rfl) ?_
  refine k_pure (by kernel_rfl) (d := (some 94)) (by kernel_rfl) (v := .pointer (some ⟨n + 1, 0, none⟩)) (fun _ => by kernel_rfl) ?_
  refine k_pure (by kernel_rfl) (d := (some 95)) (by kernel_rfl) (v := .pointer (some ⟨n + 1 + 1, 0, none⟩)) (fun _ => by kernel_rfl) ?_
  refine k_callR (by kernel_rfl) (d := (some 96)) (by kernel_rfl) (f := 91) (args := #[.pointer (some ⟨n, 0, none⟩), .pointer (some ⟨n + 1, 0, none⟩), .pointer (some ⟨n + 1 + 1, 0, none⟩)]) (fun _ => by kernel_rfl) (sqSub H16 (i := 1) rfl (k1 := 0) rfl (Nat.lt_of_lt_of_eq (by decide : 0 < 1) rfl) (H16.atz 2 0 rfl rfl rfl) (H16.atz 3 0 rfl rfl rfl) (z := ((Ta * Tb) * Z) - (X * Y)) rfl) (fun _ w18 q18 => ⟨.tuple #[], q18.1, trivial, ?_⟩)
  have u18 := q18.2
  clear q18
  have H17 : Sto w [(b1, flat [X, Y, Z, Ta, Tb]), (n, flat [((Ta * Tb) * Z) - (X * Y)]), (n + 1, flat [(Ta * Tb) * Z]), (n + 1 + 1, flat [X * Y]), (w6.heap.size, flat [dd])] w18 := u18
  clear u18 H16
  refine k_end ?_
  go_simp
  go_upto_region 18 with (fail)
  refine wp_seq_atS (opsAt Tryd.f84 18) ((true, 0) :: (false, 1) :: (true, 2) :: []) (fun _ => True) (by kernel_rfl) (by kernel_rfl) trivial ?_
  refine k_pure (by kernel_rfl) (d := (some 97)) (by kernel_rfl) (v := .pointer (some ⟨n, 0, none⟩)) (fun _ => by kernel_rfl) ?_
  refine k_callR (by kernel_rfl) (d := (some 98)) (by kernel_rfl) (f := 97) (args := #[.pointer (some ⟨n, 0, none⟩)]) (fun _ => by kernel_rfl) (sqZeroT H2Q.out (hm.sto H17 (ksC (Nat.ne_of_gt (Nat.lt_of_lt_of_le (by decide) hg)) (ksC (Nat.ne_of_gt (by omega)) (ksC (Nat.ne_of_gt (by omega)) (ksC (Nat.ne_of_gt (by omega)) (ksC (Nat.ne_of_gt (by omega)) ks0)))))) (by omega) H17 (i := 1) rfl (k1 := 0) rfl rfl) (fun _ w19 q19 => ⟨.bool true, q19.1, trivial, ?_⟩)
  have u19 := q19.2
  clear q19
  have H18 : Sto w [(b1, flat [X, Y, Z, Ta, Tb]), (n, flat [((Ta * Tb) * Z) - (X * Y)]), (n + 1, flat [(Ta * Tb) * Z]), (n + 1 + 1, flat [X * Y]), (w6.heap.size, flat [dd])] w19 := u19
  clear u19 H17
  refine k_pure (by kernel_rfl) (d := (some 9)) (by kernel_rfl) (v := .bool true) (fun _ => by kernel_rfl) ?_
  refine k_end ?_
  go_simp
  go_upto_region 19 with (fail)
  refine wp_seq_atS (opsAt Tryd.f84 19) ((true, 0) :: (true, 1) :: (true, 2) :: (true, 3) :: (true, 4) :: (true, 5) :: (true, 6) :: (true, 7) :: []) (fun _ => True) (by kernel_rfl) (by kernel_rfl) trivial ?_
  refine k_pure (by kernel_rfl) (d := (some 99)) (by kernel_rfl) (v := .bool true) (fun _ => by kernel_rfl) ?_
  refine k_pure (by kernel_rfl) (d := (some 100)) (by kernel_rfl) (v := .bool true) (fun _ => by kernel_rfl) ?_
  refine k_pure (by kernel_rfl) (d := (some 101)) (by kernel_rfl) (v := .bool false) (fun _ => by kernel_rfl) ?_
  refine k_pure (by kernel_rfl) (d := (some 102)) (by kernel_rfl) (v := .bool false) (fun _ => by kernel_rfl) ?_
  refine k_pure (by kernel_rfl) (d := (some 103)) (by kernel_rfl) (v := .bool false) (fun _ => by kernel_rfl) ?_
  refine k_skip (by kernel_rfl) (d := (some 104)) (by kernel_rfl) ?_
  refine k_pure (by kernel_rfl) (d := (some 105)) (by kernel_rfl) (v := .bool false) (fun _ => by kernel_rfl) ?_
  refine k_pure (by kernel_rfl) (d := (some 2)) (by kernel_rfl) (v := .bool false) (fun _ => by kernel_rfl) ?_
  refine k_end ?_
  go_simp
  have HF := Lib.hid H18
  clear H18
  go_wp2_with fail
  exact bodyPost_ret_by (by kernel_rfl) (by kernel_rfl) ⟨rfl, HF.out.end1 (tsC (by omega) (tsC (by omega) (tsC (by omega) (tsC (by omega) ts0))))⟩
set_option maxRecDepth 100000 in
set_option maxHeartbeats 1000000 in
theorem onC1 (hm : ModW w) (hg : 5 ≤ b1) (hd : AtZ w 0 0 dd) (h1 : FpsZ w b1 (flat [X, Y, Z, Ta, Tb])) (hz : Z ≠ 0) (h1q : (Y - X) * (Y + X) - ((Ta * Tb * (Ta * Tb)) * dd + Z * Z) = 0) (h2q : Ta * Tb * Z - X * Y = 0) :
    Calls Tryd.prog 84 #[.pointer (some ⟨b1, 0, none⟩)] w fun e w' => e = .returned (.bool true) ∧ UpdZ w w' b1 (flat [X, Y, Z, Ta, Tb]) := by
  have HZ := Lib.hid hz; have H1Q := Lib.hid h1q; have H2Q := Lib.hid h2q
  clear hz h1q h2q
  go_enter Tryd.func84, Tryd.ntmps84
  go_upto_region 2 with (fail)
  have HB1 := h1.lt
  have HGM := hm.lt
  have HG0 := hd.q.fst.lt
  refine wp_gen (fun W => Sto w [(b1, flat [X, Y, Z, Ta, Tb]), (w.heap.size, flat [0]), (w.heap.size + 1, flat [0]), (w.heap.size + 1 + 1, flat [0])] W) ((((Sto.one h1).new (l := List.replicate 2 0) rfl (by rfl) zeroL rfl).new (l := List.replicate 2 0) (by simp) (by rfl) zeroL rfl).new (l := List.replicate 2 0) (by simp) (by rfl) zeroL rfl) ?_
  intro W0 H0
  obtain ⟨n, hn⟩ : ∃ n, w.heap.size = n := ⟨_, rfl⟩
  rw [hn] at H0 ⊢
  have HN : Hid (w.heap.size = n) := Lib.hid hn
  have HNL : w.heap.size ≤ n := Nat.le_of_eq hn
  clear hn
  have H0 : Sto w [(b1, flat [X, Y, Z, Ta, Tb]), (n, flat [0]), (n + 1, flat [0]), (n + 1 + 1, flat [0])] W0 := H0
  refine wp_seq_atS (opsAt Tryd.f84 2) ((true, 0) :: (true, 1) :: (true, 2) :: (false, 3) :: (true, 4) :: (true, 5) :: []) (fun _ => True) (by kernel_rfl) (by kernel_rfl) trivial ?_
  refine k_pure (by kernel_rfl) (d := (some 16)) (by kernel_rfl) (v := .pointer (some ⟨b1, 0, none⟩)) (fun _ => by kernel_rfl) ?_
  refine k_pure (by kernel_rfl) (d := (some 17)) (by kernel_rfl) (v := .pointer (some ⟨b1, 0, none⟩)) (fun _ => by kernel_rfl) ?_
  refine k_pure (by kernel_rfl) (d := (some 18)) (by kernel_rfl) (v := .pointer (some ⟨b1, 64, none⟩)) (fun _ => by kernel_rfl) ?_
  refine k_callR (by kernel_rfl) (d := (some 19)) (by kernel_rfl) (f := 97) (args := #[.pointer (some ⟨b1, 64, none⟩)]) (fun _ => by kernel_rfl) (sqZeroF HZ.out (hm.sto H0 (ksC (Nat.ne_of_gt (Nat.lt_of_lt_of_le (by decide) hg)) (ksC (Nat.ne_of_gt (by omega)) (ksC (Nat.ne_of_gt (by omega)) (ksC (Nat.ne_of_gt (by omega)) ks0))))) (Nat.lt_of_lt_of_le (by decide) hg) H0 (i := 0) rfl (k1 := 2) rfl rfl) (fun _ w1 q1 => ⟨.bool false, q1.1, trivial, ?_⟩)
  have u1 := q1.2
  clear q1
  have H1 : Sto w [(b1, flat [X, Y, Z, Ta, Tb]), (n, flat [0]), (n + 1, flat [0]), (n + 1 + 1, flat [0])] w1 := u1
  clear u1 H0
  refine k_pure (by kernel_rfl) (d := (some 20)) (by kernel_rfl) (v := .bool true) (fun _ => by kernel_rfl) ?_
  refine k_pure (by kernel_rfl) (d := (some 6)) (by kernel_rfl) (v := .bool true) (fun _ => by kernel_rfl) ?_
  refine k_end ?_
  go_simp
  go_upto_region 3 with (fail)
  refine wp_region_atS (opsAt Tryd.f84 3) ((true, 0) :: (true, 1) :: (true, 2) :: (true, 3) :: (true, 4) :: (true, 5) :: (true, 6) :: (false, 7) :: []) (fun _ => True) (by kernel_rfl) rfl (by kernel_rfl) (fun _ _ d _ _ h => by cases d <;> exact h) (by kernel_rfl) (by kernel_rfl) trivial ?_
  refine k_pure (by kernel_rfl) (d := (some 21)) (by kernel_rfl) (v := .pointer (some ⟨n, 0, none⟩)) (fun _ => by kernel_rfl) ?_
  refine k_pure (by kernel_rfl) (d := (some 22)) (by kernel_rfl) (v := .pointer (some ⟨b1, 0, none⟩)) (fun _ => by kernel_rfl) ?_
  refine k_pure (by kernel_rfl) (d := (some 23)) (by kernel_rfl) (v := .pointer (some ⟨b1, 0, none⟩)) (fun _ => by kernel_rfl) ?_
  refine k_pure (by kernel_rfl) (d := (some 24)) (by kernel_rfl) (v := .pointer (some ⟨b1, 32, none⟩)) (fun _ => by kernel_rfl) ?_
  refine k_pure (by kernel_rfl) (d := (some 25)) (by kernel_rfl) (v := .pointer (some ⟨b1, 0, none⟩)) (fun _ => by kernel_rfl) ?_
  refine k_pure (by kernel_rfl) (d := (some 26)) (by kernel_rfl) (v := .pointer (some ⟨b1, 0, none⟩)) (fun _ => by kernel_rfl) ?_
  refine k_pure (by kernel_rfl) (d := (some 27)) (by kernel_rfl) (v := .pointer (some ⟨b1, 0, none⟩)) (fun _ => by kernel_rfl) ?_
  refine k_callR (by kernel_rfl) (d := (some 28)) (by kernel_rfl) (f := 92) (args := #[.pointer (some ⟨n, 0, none⟩), .pointer (some ⟨b1, 32, none⟩), .pointer (some ⟨b1, 0, none⟩)]) (fun _ => by kernel_rfl) (sqAdd H1.drew (i := 1) rfl (k1 := 0) rfl (Nat.lt_of_lt_of_eq (by decide : 0 < 1) rfl) (H1.drew.atz 0 1 rfl rfl rfl) (H1.drew.atz 0 0 rfl rfl rfl) (z := Y + X) rfl) (fun _ w2 q2 => ⟨.tuple #[], q2.1, trivial, ?_⟩)
  have u2 := q2.2
  clear q2
  have H2 : Sto w [(b1, flat [X, Y, Z, Ta, Tb]), (n, flat [Y + X]), (n + 1, flat [0]), (n + 1 + 1, flat [0])] w2 := u2
  clear u2 H1
  refine k_end ?_
  go_simp
  go_upto_region 4 with (fail)
  refine wp_region_atS (opsAt Tryd.f84 4) ((true, 0) :: (true, 1) :: (true, 2) :: (true, 3) :: (true, 4) :: (true, 5) :: (true, 6) :: (false, 7) :: []) (fun _ => True) (by kernel_rfl) rfl (by kernel_rfl) (fun _ _ d _ _ h => by cases d <;> exact h) (by kernel_rfl) (by kernel_rfl) trivial ?_
  refine k_pure (by kernel_rfl) (d := (some 29)) (by kernel_rfl) (v := .pointer (some ⟨n + 1, 0, none⟩)) (fun _ => by kernel_rfl) ?_
  refine k_pure (by kernel_rfl) (d := (some 30)) (by kernel_rfl) (v := .pointer (some ⟨b1, 0, none⟩)) (fun _ => by kernel_rfl) ?_
  refine k_pure (by kernel_rfl) (d := (some 31)) (by kernel_rfl) (v := .pointer (some ⟨b1, 0, none⟩)) (fun _ => by kernel_rfl) ?_
  refine k_pure (by kernel_rfl) (d := (some 32)) (by kernel_rfl) (v := .pointer (some ⟨b1, 32, none⟩)) (fun _ => by kernel_rfl) ?_
  refine k_pure (by kernel_rfl) (d := (some 33)) (by kernel_rfl) (v := .pointer (some ⟨b1, 0, none⟩)) (fun _ => by kernel_rfl) ?_
  refine k_pure (by kernel_rfl) (d := (some 34)) (by kernel_rfl) (v := .pointer (some ⟨b1, 0, none⟩)) (fun _ => by kernel_rfl) ?_
  refine k_pure (by kernel_rfl) (d := (some 35)) (by kernel_rfl) (v := .pointer (some ⟨b1, 0, none⟩)) (fun _ => by kernel_rfl) ?_
  refine k_callR (by kernel_rfl) (d := (some 36)) (by kernel_rfl) (f := 91) (args := #[.pointer (some ⟨n + 1, 0, none⟩), .pointer (some ⟨b1, 32, none⟩), .pointer (some ⟨b1, 0, none⟩)]) (fun _ => by kernel_rfl) (sqSub H2.drew (i := 2) rfl (k1 := 0) rfl (Nat.lt_of_lt_of_eq (by decide : 0 < 1) rfl) (H2.drew.atz 0 1 rfl rfl rfl) (H2.drew.atz 0 0 rfl rfl rfl) (z := Y - X) rfl) (fun _ w3 q3 => ⟨.tuple #[], q3.1, trivial, ?_⟩)
  have u3 := q3.2
  clear q3
  have H3 : Sto w [(b1, flat [X, Y, Z, Ta, Tb]), (n, flat [Y + X]), (n + 1, flat [Y - X]), (n + 1 + 1, flat [0])] w3 := u3
  clear u3 H2
  refine k_end ?_
  go_simp
  go_upto_region 5 with (fail)
  refine wp_seq_atS (opsAt Tryd.f84 5) ((true, 0) :: (true, 1) :: (true, 2) :: (false, 3) :: []) (fun _ => True) (by kernel_rfl) (by kernel_rfl) trivial ?_
  refine k_pure (by kernel_rfl) (d := (some 37)) (by kernel_rfl) (v := .pointer (some ⟨n + 1, 0, none⟩)) (fun _ => by kernel_rfl) ?_
  refine k_pure (by kernel_rfl) (d := (some 38)) (by kernel_rfl) (v := .pointer (some ⟨n + 1, 0, none⟩)) (fun _ => by kernel_rfl) ?_
  refine k_pure (by kernel_rfl) (d := (some 39)) (by kernel_rfl) (v := .pointer (some ⟨n, 0, none⟩)) (fun _ => by kernel_rfl) ?_
  refine k_callR (by kernel_rfl) (d := (some 40)) (by kernel_rfl) (f := 90) (args := #[.pointer (some ⟨n + 1, 0, none⟩), .pointer (some ⟨n + 1, 0, none⟩), .pointer (some ⟨n, 0, none⟩)]) (fun _ => by kernel_rfl) (sqMul H3 (i := 2) rfl (k1 := 0) rfl (Nat.lt_of_lt_of_eq (by decide : 0 < 1) rfl) (H3.atz 2 0 rfl rfl rfl) (H3.atz 1 0 rfl rfl rfl) (z := (Y - X) * (Y + X)) rfl) (fun _ w4 q4 => ⟨.tuple #[], q4.1, trivial, ?_⟩)
  have u4 := q4.2
  clear q4
  have H4 : Sto w [(b1, flat [X, Y, Z, Ta, Tb]), (n, flat [Y + X]), (n + 1, flat [(Y - X) * (Y + X)]), (n + 1 + 1, flat [0])] w4 := u4
  clear u4 H3
  refine k_end ?_
  go_simp
  go_upto_region 6 with (fail)
  refine wp_region_atS (opsAt Tryd.f84 6) ((true, 0) :: (true, 1) :: (true, 2) :: (true, 3) :: (true, 4) :: (true, 5) :: (true, 6) :: (false, 7) :: []) (fun _ => True) (by kernel_rfl) rfl (by kernel_rfl) (fun _ _ d _ _ h => by cases d <;> exact h) (by kernel_rfl) (by kernel_rfl) trivial ?_
  refine k_pure (by kernel_rfl) (d := (some 41)) (by kernel_rfl) (v := .pointer (some ⟨n + 1 + 1, 0, none⟩)) (fun _ => by kernel_rfl) ?_
  refine k_pure (by kernel_rfl) (d := (some 42)) (by kernel_rfl) (v := .pointer (some ⟨b1, 0, none⟩)) (fun _ => by kernel_rfl) ?_
  refine k_pure (by kernel_rfl) (d := (some 43)) (by kernel_rfl) (v := .pointer (some ⟨b1, 0, none⟩)) (fun _ => by kernel_rfl) ?_
  refine k_pure (by kernel_rfl) (d := (some 44)) (by kernel_rfl) (v := .pointer (some ⟨b1, 96, none⟩)) (fun _ => by kernel_rfl) ?_
  refine k_pure (by kernel_rfl) (d := (some 45)) (by kernel_rfl) (v := .pointer (some ⟨b1, 0, none⟩)) (fun _ => by kernel_rfl) ?_
  refine k_pure (by kernel_rfl) (d := (some 46)) (by kernel_rfl) (v := .pointer (some ⟨b1, 0, none⟩)) (fun _ => by kernel_rfl) ?_
  refine k_pure (by kernel_rfl) (d := (some 47)) (by kernel_rfl) (v := .pointer (some ⟨b1, 128, none⟩)) (fun _ => by kernel_rfl) ?_
  refine k_callR (by kernel_rfl) (d := (some 48)) (by kernel_rfl) (f := 90) (args := #[.pointer (some ⟨n + 1 + 1, 0, none⟩), .pointer (some ⟨b1, 96, none⟩), .pointer (some ⟨b1, 128, none⟩)]) (fun _ => by kernel_rfl) (sqMul H4.drew (i := 3) rfl (k1 := 0) rfl (Nat.lt_of_lt_of_eq (by decide : 0 < 1) rfl) (H4.drew.atz 0 3 rfl rfl rfl) (H4.drew.atz 0 4 rfl rfl rfl) (z := Ta * Tb) rfl) (fun _ w5 q5 => ⟨.tuple #[], q5.1, trivial, ?_⟩)
  have u5 := q5.2
  clear q5
  have H5 : Sto w [(b1, flat [X, Y, Z, Ta, Tb]), (n, flat [Y + X]), (n + 1, flat [(Y - X) * (Y + X)]), (n + 1 + 1, flat [Ta * Tb])] w5 := u5
  clear u5 H4
  refine k_end ?_
  go_simp
  go_upto_region 7 with (fail)
  refine wp_seq_atS (opsAt Tryd.f84 7) ((true, 0) :: (true, 1) :: (false, 2) :: []) (fun _ => True) (by kernel_rfl) (by kernel_rfl) trivial ?_
  refine k_pure (by kernel_rfl) (d := (some 49)) (by kernel_rfl) (v := .pointer (some ⟨n + 1 + 1, 0, none⟩)) (fun _ => by kernel_rfl) ?_
  refine k_pure (by kernel_rfl) (d := (some 50)) (by kernel_rfl) (v := .pointer (some ⟨n + 1 + 1, 0, none⟩)) (fun _ => by kernel_rfl) ?_
  refine k_callR (by kernel_rfl) (d := (some 51)) (by kernel_rfl) (f := 89) (args := #[.pointer (some ⟨n + 1 + 1, 0, none⟩), .pointer (some ⟨n + 1 + 1, 0, none⟩)]) (fun _ => by kernel_rfl) (sqSqr H5 (i := 3) rfl (k1 := 0) rfl (Nat.lt_of_lt_of_eq (by decide : 0 < 1) rfl) (H5.atz 3 0 rfl rfl rfl) (z := (Ta * Tb) * (Ta * Tb)) rfl) (fun _ w6 q6 => ⟨.tuple #[], q6.1, trivial, ?_⟩)
  have u6 := q6.2
  clear q6
  have H6 : Sto w [(b1, flat [X, Y, Z, Ta, Tb]), (n, flat [Y + X]), (n + 1, flat [(Y - X) * (Y + X)]), (n + 1 + 1, flat [(Ta * Tb) * (Ta * Tb)])] w6 := u6
  clear u6 H5
  refine k_end ?_
  go_simp
  go_upto_region 8 with (fail)
  refine wp_seq_atS (opsAt Tryd.f84 8) ((false, 0) :: (false, 1) :: (false, 2) :: []) (fun _ => True) (by kernel_rfl) (by kernel_rfl) trivial ?_
  refine k_loadZ (by kernel_rfl) (d := (some 52)) (by kernel_rfl) (ty := 83) (x := (.global 0)) (by kernel_rfl) (b := 0) (o := 0) (z := dd) (by kernel_rfl) ((hd).sto H6 (ksC (Nat.ne_of_gt (Nat.lt_of_lt_of_le (by decide) hg)) (ksC (by omega) (ksC (by omega) (ksC (by omega) ks0))))) Tryd.underlying83 rfl (by kernel_rfl) trivial (fun x7 y7 lx7 ly7 zx7 zy7 => ?_)
  refine k_make (by kernel_rfl) (d := (some 7)) (by kernel_rfl) (v := .pointer (some ⟨w6.heap.size, 0, none⟩)) (w' := w6.alloc (.cells (fps (List.replicate 2 0)) 83)) (by kernel_rfl) trivial ?_
  intro w8 hw8 _
  have hge8 : w.heap.size ≤ w6.heap.size := H6.size
  have u8 : Sto w [(b1, flat [X, Y, Z, Ta, Tb]), (n, flat [Y + X]), (n + 1, flat [(Y - X) * (Y + X)]), (n + 1 + 1, flat [(Ta * Tb) * (Ta * Tb)]), (w6.heap.size, flat [0])] w8 := by rw [hw8]; exact H6.new (l := List.replicate 2 0) rfl rfl zeroL rfl
  clear hw8
  have H7 : Sto w [(b1, flat [X, Y, Z, Ta, Tb]), (n, flat [Y + X]), (n + 1, flat [(Y - X) * (Y + X)]), (n + 1 + 1, flat [(Ta * Tb) * (Ta * Tb)]), (w6.heap.size, flat [0])] w8 := u8
  clear u8 H6
  refine k_storeZ (by kernel_rfl) (d := none) (by kernel_rfl) (ty := 83) (x := (.tmp 7)) (y := (.tmp 52)) (by kernel_rfl) (b := w6.heap.size) (o := 0) (k := 2 * 0) (u := x7) (v := y7) (by kernel_rfl) (by kernel_rfl) (H7.blk 4 _ _ rfl) (k2 rfl) (flat_lt (Nat.lt_of_lt_of_eq (by decide : 0 < 1) rfl)) lx7 ly7 zx7 zy7 (by kernel_rfl) (fun w9 u9 => ⟨trivial, ?_⟩)
  have u9 := H7.upd (i := 4) rfl u9
  rw [flat_set] at u9
  have H8 : Sto w [(b1, flat [X, Y, Z, Ta, Tb]), (n, flat [Y + X]), (n + 1, flat [(Y - X) * (Y + X)]), (n + 1 + 1, flat [(Ta * Tb) * (Ta * Tb)]), (w6.heap.size, flat [dd])] w9 := u9
  clear u9 H7
  clear zx7 zy7
  refine k_end ?_
  go_simp
  go_upto_region 9 with (fail)
  refine wp_seq_atS (opsAt Tryd.f84 9) ((true, 0) :: (true, 1) :: (false, 2) :: []) (fun _ => True) (by kernel_rfl) (by kernel_rfl) trivial ?_
  refine k_pure (by kernel_rfl) (d := (some 53)) (by kernel_rfl) (v := .pointer (some ⟨n + 1 + 1, 0, none⟩)) (fun _ => by kernel_rfl) ?_
  refine k_pure (by kernel_rfl) (d := (some 54)) (by kernel_rfl) (v := .pointer (some ⟨n + 1 + 1, 0, none⟩)) (fun _ => by kernel_rfl) ?_
  refine k_callR (by kernel_rfl) (d := (some 55)) (by kernel_rfl) (f := 90) (args := #[.pointer (some ⟨n + 1 + 1, 0, none⟩), .pointer (some ⟨n + 1 + 1, 0, none⟩), .pointer (some ⟨w6.heap.size, 0, none⟩)]) (fun _ => by kernel_rfl) (sqMul H8 (i := 3) rfl (k1 := 0) rfl (Nat.lt_of_lt_of_eq (by decide : 0 < 1) rfl) (H8.atz 3 0 rfl rfl rfl) (H8.atz 4 0 rfl rfl rfl) (z := ((Ta * Tb) * (Ta * Tb)) * dd) rfl) (fun _ w10 q10 => ⟨.tuple #[], q10.1, trivial, ?_⟩)
  have u10 := q10.2
  clear q10
  have H9 : Sto w [(b1, flat [X, Y, Z, Ta, Tb]), (n, flat [Y + X]), (n + 1, flat [(Y - X) * (Y + X)]), (n + 1 + 1, flat [((Ta * Tb) * (Ta * Tb)) * dd]), (w6.heap.size, flat [dd])] w10 := u10
  clear u10 H8
  refine k_end ?_
  go_simp
  go_upto_region 10 with (fail)
  refine wp_seq_atS (opsAt Tryd.f84 10) ((true, 0) :: (true, 1) :: (true, 2) :: (true, 3) :: (false, 4) :: []) (fun _ => True) (by kernel_rfl) (by kernel_rfl) trivial ?_
  refine k_pure (by kernel_rfl) (d := (some 56)) (by kernel_rfl) (v := .pointer (some ⟨n, 0, none⟩)) (fun _ => by kernel_rfl) ?_
  refine k_pure (by kernel_rfl) (d := (some 57)) (by kernel_rfl) (v := .pointer (some ⟨b1, 0, none⟩)) (fun _ => by kernel_rfl) ?_
  refine k_pure (by kernel_rfl) (d := (some 58)) (by kernel_rfl) (v := .pointer (some ⟨b1, 0, none⟩)) (fun _ => by kernel_rfl) ?_
  refine k_pure (by kernel_rfl) (d := (some 59)) (by kernel_rfl) (v := .pointer (some ⟨b1, 64, none⟩)) (fun _ => by kernel_rfl) ?_
  refine k_callR (by kernel_rfl) (d := (some 60)) (by kernel_rfl) (f := 89) (args := #[.pointer (some ⟨n, 0, none⟩), .pointer (some ⟨b1, 64, none⟩)]) (fun _ => by kernel_rfl) (sqSqr H9 (i := 1) rfl (k1 := 0) rfl (Nat.lt_of_lt_of_eq (by decide : 0 < 1) rfl) (H9.atz 0 2 rfl rfl rfl) (z := Z * Z) rfl) (fun _ w11 q11 => ⟨.tuple #[], q11.1, trivial, ?_⟩)
  have u11 := q11.2
  clear q11
  have H10 : Sto w [(b1, flat [X, Y, Z, Ta, Tb]), (n, flat [Z * Z]), (n + 1, flat [(Y - X) * (Y + X)]), (n + 1 + 1, flat [((Ta * Tb) * (Ta * Tb)) * dd]), (w6.heap.size, flat [dd])] w11 := u11
  clear u11 H9
  refine k_end ?_
  go_simp
  go_upto_region 11 with (fail)
  refine wp_seq_atS (opsAt Tryd.f84 11) ((true, 0) :: (true, 1) :: (true, 2) :: (false, 3) :: []) (fun _ => True) (by kernel_rfl) (by kernel_rfl) trivial ?_
  refine k_pure (by kernel_rfl) (d := (some 61)) (by kernel_rfl) (v := .pointer (some ⟨n + 1 + 1, 0, none⟩)) (fun _ => by kernel_rfl) ?_
  refine k_pure (by kernel_rfl) (d := (some 62)) (by kernel_rfl) (v := .pointer (some ⟨n + 1 + 1, 0, none⟩)) (fun _ => by kernel_rfl) ?_
  refine k_pure (by kernel_rfl) (d := (some 63)) (by kernel_rfl) (v := .pointer (some ⟨n, 0, none⟩)) (fun _ => by kernel_rfl) ?_
  refine k_callR (by kernel_rfl) (d := (some 64)) (by kernel_rfl) (f := 92) (args := #[.pointer (some ⟨n + 1 + 1, 0, none⟩), .pointer (some ⟨n + 1 + 1, 0, none⟩), .pointer (some ⟨n, 0, none⟩)]) (fun _ => by kernel_rfl) (sqAdd H10 (i := 3) rfl (k1 := 0) rfl (Nat.lt_of_lt_of_eq (by decide : 0 < 1) rfl) (H10.atz 3 0 rfl rfl rfl) (H10.atz 1 0 rfl rfl rfl) (z := (((Ta * Tb) * (Ta * Tb)) * dd) + (Z * Z)) rfl) (fun _ w12 q12 => ⟨.tuple #[], q12.1, trivial, ?_⟩)
  have u12 := q12.2
  clear q12
  have H11 : Sto w [(b1, flat [X, Y, Z, Ta, Tb]), (n, flat [Z * Z]), (n + 1, flat [(Y - X) * (Y + X)]), (n + 1 + 1, flat [(((Ta * Tb) * (Ta * Tb)) * dd) + (Z * Z)]), (w6.heap.size, flat [dd])] w12 := u12
  clear u12 H10
  refine k_end ?_
  go_simp
  go_upto_region 12 with (fail)
  refine wp_seq_atS (opsAt Tryd.f84 12) ((true, 0) :: (true, 1) :: (true, 2) :: (false, 3) :: []) (fun _ => True) (by kernel_rfl) (by kernel_rfl) trivial ?_
  refine k_pure (by kernel_rfl) (d := (some 65)) (by kernel_rfl) (v := .pointer (some ⟨n, 0, none⟩)) (fun _ => by kernel_rfl) ?_
  refine k_pure (by kernel_rfl) (d := (some 66)) (by kernel_rfl) (v := .pointer (some ⟨n + 1, 0, none⟩)) (fun _ => by kernel_rfl) ?_
  refine k_pure (by kernel_rfl) (d := (some 67)) (by kernel_rfl) (v := .pointer (some ⟨n + 1 + 1, 0, none⟩)) (fun _ => by kernel_rfl) ?_
  refine k_callR (by kernel_rfl) (d := (some 68)) (by kernel_rfl) (f := 91) (args := #[.pointer (some ⟨n, 0, none⟩), .pointer (some ⟨n + 1, 0, none⟩), .pointer (some ⟨n + 1 + 1, 0, none⟩)]) (fun _ => by kernel_rfl) (sqSub H11 (i := 1) rfl (k1 := 0) rfl (Nat.lt_of_lt_of_eq (by decide : 0 < 1) rfl) (H11.atz 2 0 rfl rfl rfl) (H11.atz 3 0 rfl rfl rfl) (z := ((Y - X) * (Y + X)) - ((((Ta * Tb) * (Ta * Tb)) * dd) + (Z * Z))) rfl) (fun _ w13 q13 => ⟨.tuple #[], q13.1, trivial, ?_⟩)
  have u13 := q13.2
  clear q13
  have H12 : Sto w [(b1, flat [X, Y, Z, Ta, Tb]), (n, flat [((Y - X) * (Y + X)) - ((((Ta * Tb) * (Ta * Tb)) * dd) + (Z * Z))]), (n + 1, flat [(Y - X) * (Y + X)]), (n + 1 + 1, flat [(((Ta * Tb) * (Ta * Tb)) * dd) + (Z * Z)]), (w6.heap.size, flat [dd])] w13 := u13
  clear u13 H11
  refine k_end ?_
  go_simp
  go_upto_region 13 with (fail)
  refine wp_seq_atS (opsAt Tryd.f84 13) ((true, 0) :: (false, 1) :: (true, 2) :: []) (fun _ => True) (by kernel_rfl) (by kernel_rfl) trivial ?_
  refine k_pure (by kernel_rfl) (d := (some 69)) (by kernel_rfl) (v := .pointer (some ⟨n, 0, none⟩)) (fun _ => by kernel_rfl) ?_
  refine k_callR (by kernel_rfl) (d := (some 70)) (by kernel_rfl) (f := 97) (args := #[.pointer (some ⟨n, 0, none⟩)]) (fun _ => by kernel_rfl) (sqZeroT H1Q.out (hm.sto H12 (ksC (Nat.ne_of_gt (Nat.lt_of_lt_of_le (by decide) hg)) (ksC (Nat.ne_of_gt (by omega)) (ksC (Nat.ne_of_gt (by omega)) (ksC (Nat.ne_of_gt (by omega)) (ksC (Nat.ne_of_gt (by omega)) ks0)))))) (by omega) H12 (i := 1) rfl (k1 := 0) rfl rfl) (fun _ w14 q14 => ⟨.bool true, q14.1, trivial, ?_⟩)
  have u14 := q14.2
  clear q14
  have H13 : Sto w [(b1, flat [X, Y, Z, Ta, Tb]), (n, flat [((Y - X) * (Y + X)) - ((((Ta * Tb) * (Ta * Tb)) * dd) + (Z * Z))]), (n + 1, flat [(Y - X) * (Y + X)]), (n + 1 + 1, flat [(((Ta * Tb) * (Ta * Tb)) * dd) + (Z * Z)]), (w6.heap.size, flat [dd])] w14 := u14
  clear u14 H12
  refine k_pure (by kernel_rfl) (d := (some 8)) (by kernel_rfl) (v := .bool true) (fun _ => by kernel_rfl) ?_
  refine k_end ?_
  go_simp
  go_upto_region 14 with (fail)
  refine wp_region_atS (opsAt Tryd.f84 14) ((true, 0) :: (true, 1) :: (true, 2) :: (true, 3) :: (true, 4) :: (true, 5) :: (true, 6) :: (false, 7) :: []) (fun _ => True) (by kernel_rfl) rfl (by kernel_rfl) (fun _ _ d _ _ h => by cases d <;> exact h) (by kernel_rfl) (by kernel_rfl) trivial ?_
  refine k_pure (by kernel_rfl) (d := (some 71)) (by kernel_rfl) (v := .pointer (some ⟨n + 1, 0, none⟩)) (fun _ => by kernel_rfl) ?_
  refine k_pure (by kernel_rfl) (d := (some 72)) (by kernel_rfl) (v := .pointer (some ⟨b1, 0, none⟩)) (fun _ => by kernel_rfl) ?_
  refine k_pure (by kernel_rfl) (d := (some 73)) (by kernel_rfl) (v := .pointer (some ⟨b1, 0, none⟩)) (fun _ => by kernel_rfl) ?_
  refine k_pure (by kernel_rfl) (d := (some 74)) (by kernel_rfl) (v := .pointer (some ⟨b1, 96, none⟩)) (fun _ => by kernel_rfl) ?_
  refine k_pure (by kernel_rfl) (d := (some 75)) (by kernel_rfl) (v := .pointer (some ⟨b1, 0, none⟩)) (fun _ => by kernel_rfl) ?_
  refine k_pure (by kernel_rfl) (d := (some 76)) (by kernel_rfl) (v := .pointer (some ⟨b1, 0, none⟩)) (fun _ => by kernel_rfl) ?_
  refine k_pure (by kernel_rfl) (d := (some 77)) (by kernel_rfl) (v := .pointer (some ⟨b1, 128, none⟩)) (fun _ => by kernel_rfl) ?_
  refine k_callR (by kernel_rfl) (d := (some 78)) (by kernel_rfl) (f := 90) (args := #[.pointer (some ⟨n + 1, 0, none⟩), .pointer (some ⟨b1, 96, none⟩), .pointer (some ⟨b1, 128, none⟩)]) (fun _ => by kernel_rfl) (sqMul H13.drew (i := 2) rfl (k1 := 0) rfl (Nat.lt_of_lt_of_eq (by decide : 0 < 1) rfl) (H13.drew.atz 0 3 rfl rfl rfl) (H13.drew.atz 0 4 rfl rfl rfl) (z := Ta * Tb) rfl) (fun _ w15 q15 => ⟨.tuple #[], q15.1, trivial, ?_⟩)
  have u15 := q15.2
  clear q15
  have H14 : Sto w [(b1, flat [X, Y, Z, Ta, Tb]), (n, flat [((Y - X) * (Y + X)) - ((((Ta * Tb) * (Ta * Tb)) * dd) + (Z * Z))]), (n + 1, flat [Ta * Tb]), (n + 1 + 1, flat [(((Ta * Tb) * (Ta * Tb)) * dd) + (Z * Z)]), (w6.heap.size, flat [dd])] w15 := u15
  clear u15 H13
  refine k_end ?_
  go_simp
  go_upto_region 15 with (fail)
  refine wp_seq_atS (opsAt Tryd.f84 15) ((true, 0) :: (true, 1) :: (true, 2) :: (true, 3) :: (true, 4) :: (false, 5) :: []) (fun _ => True) (by kernel_rfl) (by kernel_rfl) trivial ?_
  refine k_pure (by kernel_rfl) (d := (some 79)) (by kernel_rfl) (v := .pointer (some ⟨n + 1, 0, none⟩)) (fun _ => by kernel_rfl) ?_
  refine k_pure (by kernel_rfl) (d := (some 80)) (by kernel_rfl) (v := .pointer (some ⟨n + 1, 0, none⟩)) (fun _ => by kernel_rfl) ?_
  refine k_pure (by kernel_rfl) (d := (some 81)) (by kernel_rfl) (v := .pointer (some ⟨b1, 0, none⟩)) (fun _ => by kernel_rfl) ?_
  refine k_pure (by kernel_rfl) (d := (some 82)) (by kernel_rfl) (v := .pointer (some ⟨b1, 0, none⟩)) (fun _ => by kernel_rfl) ?_
  refine k_pure (by kernel_rfl) (d := (some 83)) (by kernel_rfl) (v := .pointer (some ⟨b1, 64, none⟩)) (fun _ => by kernel_rfl) ?_
  refine k_callR (by kernel_rfl) (d := (some 84)) (by kernel_rfl) (f := 90) (args := #[.pointer (some ⟨n + 1, 0, none⟩), .pointer (some ⟨n + 1, 0, none⟩), .pointer (some ⟨b1, 64, none⟩)]) (fun _ => by kernel_rfl) (sqMul H14 (i := 2) rfl (k1 := 0) rfl (Nat.lt_of_lt_of_eq (by decide : 0 < 1) rfl) (H14.atz 2 0 rfl rfl rfl) (H14.atz 0 2 rfl rfl rfl) (z := (Ta * Tb) * Z) rfl) (fun _ w16 q16 => ⟨.tuple #[], q16.1, trivial, ?_⟩)
  have u16 := q16.2
  clear q16
  have H15 : Sto w [(b1, flat [X, Y, Z, Ta, Tb]), (n, flat [((Y - X) * (Y + X)) - ((((Ta * Tb) * (Ta * Tb)) * dd) + (Z * Z))]), (n + 1, flat [(Ta * Tb) * Z]), (n + 1 + 1, flat [(((Ta * Tb) * (Ta * Tb)) * dd) + (Z * Z)]), (w6.heap.size, flat [dd])] w16 := u16
  clear u16 H14
  refine k_end ?_
  go_simp
  go_upto_region 16 with (fail)
  refine wp_region_atS (opsAt Tryd.f84 16) ((true, 0) :: (true, 1) :: (true, 2) :: (true, 3) :: (true, 4) :: (true, 5) :: (true, 6) :: (false, 7) :: []) (fun _ => True) (by kernel_rfl) rfl (by kernel_rfl) (fun _ _ d _ _ h => by cases d <;> exact h) (by kernel_rfl) (by kernel_rfl) trivial ?_
  refine k_pure (by kernel_rfl) (d := (some 85)) (by kernel_rfl) (v := .pointer (some ⟨n + 1 + 1, 0, none⟩)) (fun _ => by kernel_rfl) ?_
  refine k_pure (by kernel_rfl) (d := (some 86)) (by kernel_rfl) (v := .pointer (some ⟨b1, 0, none⟩)) (fun _ => by kernel_rfl) ?_
  refine k_pure (by kernel_rfl) (d := (some 87)) (by kernel_rfl) (v := .pointer (some ⟨b1, 0, none⟩)) (fun _ => by kernel_rfl) ?_
  refine k_pure (by kernel_rfl) (d := (some 88)) (by kernel_rfl) (v := .pointer (some ⟨b1, 0, none⟩)) (fun _ => by kernel_rfl) ?_
  refine k_pure (by kernel_rfl) (d := (some 89)) (by kernel_rfl) (v := .pointer (some ⟨b1, 0, none⟩)) (fun _ => by kernel_rfl) ?_
  refine k_pure (by kernel_rfl) (d := (some 90)) (by kernel_rfl) (v := .pointer (some ⟨b1, 0, none⟩)) (fun _ => by kernel_rfl) ?_
  refine k_pure (by kernel_rfl) (d := (some 91)) (by kernel_rfl) (v := .pointer (some ⟨b1, 32, none⟩)) (fun _ => by kernel_rfl) ?_
  refine k_callR (by kernel_rfl) (d := (some 92)) (by kernel_rfl) (f := 90) (args := #[.pointer (some ⟨n + 1 + 1, 0, none⟩), .pointer (some ⟨b1, 0, none⟩), .pointer (some ⟨b1, 32, none⟩)]) (fun _ => by kernel_rfl) (sqMul H15.drew (i := 3) rfl (k1 := 0) rfl (Nat.lt_of_lt_of_eq (by decide : 0 < 1) rfl) (H15.drew.atz 0 0 rfl rfl rfl) (H15.drew.atz 0 1 rfl rfl rfl) (z := X * Y) rfl) (fun _ w17 q17 => ⟨.tuple #[], q17.1, trivial, ?_⟩)
  have u17 := q17.2
  clear q17
  have H16 : Sto w [(b1, flat [X, Y, Z, Ta, Tb]), (n, flat [((Y - X) * (Y + X)) - ((((Ta * Tb) * (Ta * Tb)) * dd) + (Z * Z))]), (n + 1, flat [(Ta * Tb) * Z]), (n + 1 + 1, flat [X * Y]), (w6.heap.size, flat [dd])] w17 := u17
  clear u17 H15
  refine k_end ?_
  go_simp
  go_upto_region 17 with (fail)
  refine wp_seq_atS (opsAt Tryd.f84 17) ((true, 0) :: (true, 1) :: (true, 2) :: (false, 3) :: []) (fun _ => True) (by kernel_rfl) (by kernel_rfl) trivial ?_
  refine k_pure (by kernel_rfl) (d := (some 93)) (by kernel_rfl) (v := .pointer (some ⟨n, 0, none⟩)) (fun _ => by kernel_rfl) ?_
  refine k_pure (by kernel_rfl) (d := (some 94)) (by kernel_rfl) (v := .pointer (some ⟨n + 1, 0, none⟩)) (fun _ => by kernel_rfl) ?_
  refine k_pure (by kernel_rfl) (d := (some 95)) (by kernel_rfl) (v := .pointer (some ⟨n + 1 + 1, 0, none⟩)) (fun _ => by kernel_rfl) ?_
  refine k_callR (by kernel_rfl) (d := (some 96)) (by kernel_rfl) (f := 91) (args := #[.pointer (some ⟨n, 0, none⟩), .pointer (some ⟨n + 1, 0, none⟩), .pointer (some ⟨n + 1 + 1, 0, none⟩)]) (fun _ => by kernel_rfl) (sqSub H16 (i := 1) rfl (k1 := 0) rfl (Nat.lt_of_lt_of_eq (by decide : 0 < 1) rfl) (H16.atz 2 0 rfl rfl rfl) (H16.atz 3 0 rfl rfl rfl) (z := ((Ta * Tb) * Z) - (X * Y)) rfl) (fun _ w18 q18 => ⟨.tuple #[], q18.1, trivial, ?_⟩)
  have u18 := q18.2
  clear q18
  have H17 : Sto w [(b1, flat [X, Y, Z, Ta, Tb]), (n, flat [((Ta * Tb) * Z) - (X * Y)]), (n + 1, flat [(Ta * Tb) * Z]), (n + 1 + 1, flat [X * Y]), (w6.heap.size, flat [dd])] w18 := u18
  clear u18 H16
  refine k_end ?_
  go_simp
  go_upto_region 18 with (fail)
  refine wp_seq_atS (opsAt Tryd.f84 18) ((true, 0) :: (false, 1) :: (true, 2) :: []) (fun _ => True) (by kernel_rfl) (by kernel_rfl) trivial ?_
  refine k_pure (by kernel_rfl) (d := (some 97)) (by kernel_rfl) (v := .pointer (some ⟨n, 0, none⟩)) (fun _ => by kernel_rfl) ?_
  refine k_callR (by kernel_rfl) (d := (some 98)) (by kernel_rfl) (f := 97) (args := #[.pointer (some ⟨n, 0, none⟩)]) (fun _ => by kernel_rfl) (sqZeroT H2Q.out (hm.sto H17 (ksC (Nat.ne_of_gt (Nat.lt_of_lt_of_le (by decide) hg)) (ksC (Nat.ne_of_gt (by omega)) (ksC (Nat.ne_of_gt (by omega)) (ksC (Nat.ne_of_gt (by omega)) (ksC (Nat.ne_of_gt (by omega)) ks0)))))) (by omega) H17 (i := 1) rfl (k1 := 0) rfl rfl) (fun _ w19 q19 => ⟨.bool true, q19.1, trivial, ?_⟩)
  have u19 := q19.2
  clear q19
  have H18 : Sto w [(b1, flat [X, Y, Z, Ta, Tb]), (n, flat [((Ta * Tb) * Z) - (X * Y)]), (n + 1, flat [(Ta * Tb) * Z]), (n + 1 + 1, flat [X * Y]), (w6.heap.size, flat [dd])] w19 := u19
  clear u19 H17
  refine k_pure (by kernel_rfl) (d := (some 9)) (by kernel_rfl) (v := .bool true) (fun _ => by kernel_rfl) ?_
  refine k_end ?_
  go_simp
  go_upto_region 19 with (fail)
  refine wp_seq_atS (opsAt Tryd.f84 19) ((true, 0) :: (true, 1) :: (true, 2) :: (true, 3) :: (true, 4) :: (true, 5) :: (true, 6) :: (true, 7) :: []) (fun _ => True) (by kernel_rfl) (by kernel_rfl) trivial ?_
  refine k_pure (by kernel_rfl) (d := (some 99)) (by kernel_rfl) (v := .bool true) (fun _ => by kernel_rfl) ?_
  refine k_pure (by kernel_rfl) (d := (some 100)) (by kernel_rfl) (v := .bool true) (fun _ => by kernel_rfl) ?_
  refine k_pure (by kernel_rfl) (d := (some 101)) (by kernel_rfl) (v := .bool true) (fun _ => by kernel_rfl) ?_
  refine k_pure (by kernel_rfl) (d := (some 102)) (by kernel_rfl) (v := .bool true) (fun _ => by kernel_rfl) ?_
  refine k_pure (by kernel_rfl) (d := (some 103)) (by kernel_rfl) (v := .bool true) (fun _ => by kernel_rfl) ?_
  refine k_pure (by kernel_rfl) (d := (some 104)) (by kernel_rfl) (v := .bool true) (fun _ => by kernel_rfl) ?_
  refine k_pure (by kernel_rfl) (d := (some 105)) (by kernel_rfl) (v := .bool true) (fun _ => by kernel_rfl) ?_
  refine k_pure (by kernel_rfl) (d := (some 2)) (by kernel_rfl) (v := .bool true) (fun _ => by kernel_rfl) ?_
  refine k_end ?_
  go_simp
  have HF := Lib.hid H18
  clear H18
  go_wp2_with fail
  exact bodyPost_ret_by (by kernel_rfl) (by kernel_rfl) ⟨rfl, HF.out.end1 (tsC (by omega) (tsC (by omega) (tsC (by omega) (tsC (by omega) ts0))))⟩
set_option maxRecDepth 100000 in
set_option maxHeartbeats 1000000 in
theorem isIdP (hm : ModW w) (hg : 5 ≤ w.heap.size) (ha : AtL w b2 0 [X, Y]) :
    Calls Tryd.prog 51 #[.pointer (some ⟨b2, 0, none⟩)] w fun e w' => e = .returned (.bool (idB X (X * Y) (Y - 1))) ∧ Below w.heap.size w w' := by
  have HA := Lib.hid ha
  clear ha
  go_enter Tryd.func51, Tryd.ntmps51
  go_upto_region 2 with (fail)
  have HG6 := hg
  have HB2 := HA.out.lt
  have HGM := hm.lt
  refine wp_gen (fun W => Sto w [(w.heap.size, flat [0, 0, 0, 0, 0])] W) ((Sto.zero w).new (l := List.replicate 10 0) rfl (by rfl) zeroL rfl) ?_
  intro W0 H0
  obtain ⟨n, hn⟩ : ∃ n, w.heap.size = n := ⟨_, rfl⟩
  rw [hn] at H0 ⊢
  have HN : Hid (w.heap.size = n) := Lib.hid hn
  have HNL : w.heap.size ≤ n := Nat.le_of_eq hn
  clear hn
  have H0 : Sto w [(n, flat [0, 0, 0, 0, 0])] W0 := H0
  refine wp_seq_atS (opsAt Tryd.f51 2) ((true, 0) :: (false, 1) :: []) (fun _ => True) (by kernel_rfl) (by kernel_rfl) trivial ?_
  refine k_pure (by kernel_rfl) (d := (some 4)) (by kernel_rfl) (v := .pointer (some ⟨b2, 0, none⟩)) (fun _ => by kernel_rfl) ?_
  refine k_callR (by kernel_rfl) (d := (some 5)) (by kernel_rfl) (f := 76) (args := #[.pointer (some ⟨b2, 0, none⟩), .pointer (some ⟨n, 0, none⟩)]) (fun _ => by kernel_rfl) (up1 H0 (i := 0) rfl (toR1 (H0.blk 0 _ _ rfl) ((HA.out).sto H0 (ksC (by omega) ks0)) (by omega))) (fun _ w1 q1 => ⟨.tuple #[], q1.1, trivial, ?_⟩)
  have u1 := q1.2
  clear q1
  have H1 : Sto w [(n, flat [X, Y, 1, X, Y])] w1 := u1
  clear u1 H0
  refine k_end ?_
  go_simp
  go_upto_region 3 with (fail)
  refine wp_seq_atS (opsAt Tryd.f51 3) ((false, 0) :: (true, 1) :: []) (fun _ => True) (by kernel_rfl) (by kernel_rfl) trivial ?_
  refine k_callR (by kernel_rfl) (d := (some 6)) (by kernel_rfl) (f := 77) (args := #[.pointer (some ⟨n, 0, none⟩)]) (fun _ => by kernel_rfl) (up1 H1 (i := 0) rfl (isIdR1 (hm.sto H1 (ksC (Nat.ne_of_gt (by omega)) ks0)) (by omega) (H1.blk 0 _ _ rfl))) (fun _ w2 q2 => ⟨.bool (idB X (X * Y) (Y - 1)), q2.1, trivial, ?_⟩)
  have u2 := q2.2
  clear q2
  have H2 : Sto w [(n, flat [X, Y, 1, X, Y])] w2 := u2
  clear u2 H1
  refine k_pure (by kernel_rfl) (d := (some 2)) (by kernel_rfl) (v := .bool (idB X (X * Y) (Y - 1))) (fun _ => by kernel_rfl) ?_
  refine k_end ?_
  go_simp
  have HF := Lib.hid H2
  clear H2
  go_wp2_with fail
  exact bodyPost_ret_by (by kernel_rfl) (by kernel_rfl) ⟨rfl, HF.out.below (tsC (by omega) ts0)⟩
set_option maxRecDepth 100000 in
set_option maxHeartbeats 1000000 in
theorem onCP0 (hm : ModW w) (hg : 5 ≤ w.heap.size) (hd : AtZ w 0 0 dd) (ha : AtL w b2 0 [X, Y]) (h : ¬ OnC X Y) :
    Calls Tryd.prog 70 #[.pointer (some ⟨b2, 0, none⟩)] w fun e w' => e = .returned (.bool false) ∧ Below w.heap.size w w' := by
  have HA := Lib.hid ha
  clear ha
  go_enter Tryd.func70, Tryd.ntmps70
  go_upto_region 2 with (fail)
  have HG6 := hg
  have HB2 := HA.out.lt
  have HGM := hm.lt
  have HG0 := hd.q.fst.lt
  refine wp_gen (fun W => Sto w [(w.heap.size, flat [0, 0, 0, 0, 0])] W) ((Sto.zero w).new (l := List.replicate 10 0) rfl (by rfl) zeroL rfl) ?_
  intro W0 H0
  obtain ⟨n, hn⟩ : ∃ n, w.heap.size = n := ⟨_, rfl⟩
  rw [hn] at H0 ⊢
  have HN : Hid (w.heap.size = n) := Lib.hid hn
  have HNL : w.heap.size ≤ n := Nat.le_of_eq hn
  clear hn
  have H0 : Sto w [(n, flat [0, 0, 0, 0, 0])] W0 := H0
  refine wp_seq_atS (opsAt Tryd.f70 2) ((true, 0) :: (false, 1) :: []) (fun _ => True) (by kernel_rfl) (by kernel_rfl) trivial ?_
  refine k_pure (by kernel_rfl) (d := (some 4)) (by kernel_rfl) (v := .pointer (some ⟨b2, 0, none⟩)) (fun _ => by kernel_rfl) ?_
  refine k_callR (by kernel_rfl) (d := (some 5)) (by kernel_rfl) (f := 76) (args := #[.pointer (some ⟨b2, 0, none⟩), .pointer (some ⟨n, 0, none⟩)]) (fun _ => by kernel_rfl) (up1 H0 (i := 0) rfl (toR1 (H0.blk 0 _ _ rfl) ((HA.out).sto H0 (ksC (by omega) ks0)) (by omega))) (fun _ w1 q1 => ⟨.tuple #[], q1.1, trivial, ?_⟩)
  have u1 := q1.2
  clear q1
  have H1 : Sto w [(n, flat [X, Y, 1, X, Y])] w1 := u1
  clear u1 H0
  refine k_end ?_
  go_simp
  go_upto_region 3 with (fail)
  refine wp_seq_atS (opsAt Tryd.f70 3) ((false, 0) :: (true, 1) :: []) (fun _ => True) (by kernel_rfl) (by kernel_rfl) trivial ?_
  refine k_callR (by kernel_rfl) (d := (some 6)) (by kernel_rfl) (f := 84) (args := #[.pointer (some ⟨n, 0, none⟩)]) (fun _ => by kernel_rfl) (up1 H1 (i := 0) rfl (onC0 (hm.sto H1 (ksC (Nat.ne_of_gt (by omega)) ks0)) (by omega) (hd.sto H1 (ksC (by omega) ks0)) (H1.blk 0 _ _ rfl) qone_ne_zero (fun e => h ((oncurve_iff _ _).1 e)) (by rw [qmul_one, qsub_self]))) (fun _ w2 q2 => ⟨.bool false, q2.1, trivial, ?_⟩)
  have u2 := q2.2
  clear q2
  have H2 : Sto w [(n, flat [X, Y, 1, X, Y])] w2 := u2
  clear u2 H1
  refine k_pure (by kernel_rfl) (d := (some 2)) (by kernel_rfl) (v := .bool false) (fun _ => by kernel_rfl) ?_
  refine k_end ?_
  go_simp
  have HF := Lib.hid H2
  clear H2
  go_wp2_with fail
  exact bodyPost_ret_by (by kernel_rfl) (by kernel_rfl) ⟨rfl, HF.out.below (tsC (by omega) ts0)⟩
set_option maxRecDepth 100000 in
set_option maxHeartbeats 1000000 in
theorem onCP1 (hm : ModW w) (hg : 5 ≤ w.heap.size) (hd : AtZ w 0 0 dd) (ha : AtL w b2 0 [X, Y]) (h : OnC X Y) :
    Calls Tryd.prog 70 #[.pointer (some ⟨b2, 0, none⟩)] w fun e w' => e = .returned (.bool true) ∧ Below w.heap.size w w' := by
  have HA := Lib.hid ha
  clear ha
  go_enter Tryd.func70, Tryd.ntmps70
  go_upto_region 2 with (fail)
  have HG6 := hg
  have HB2 := HA.out.lt
  have HGM := hm.lt
  have HG0 := hd.q.fst.lt
  refine wp_gen (fun W => Sto w [(w.heap.size, flat [0, 0, 0, 0, 0])] W) ((Sto.zero w).new (l := List.replicate 10 0) rfl (by rfl) zeroL rfl) ?_
  intro W0 H0
  obtain ⟨n, hn⟩ : ∃ n, w.heap.size = n := ⟨_, rfl⟩
  rw [hn] at H0 ⊢
  have HN : Hid (w.heap.size = n) := Lib.hid hn
  have HNL : w.heap.size ≤ n := Nat.le_of_eq hn
  clear hn
  have H0 : Sto w [(n, flat [0, 0, 0, 0, 0])] W0 := H0
  refine wp_seq_atS (opsAt Tryd.f70 2) ((true, 0) :: (false, 1) :: []) (fun _ => True) (by kernel_rfl) (by kernel_rfl) trivial ?_
  refine k_pure (by kernel_rfl) (d := (some 4)) (by kernel_rfl) (v := .pointer (some ⟨b2, 0, none⟩)) (fun _ => by kernel_rfl) ?_
  refine k_callR (by kernel_rfl) (d := (some 5)) (by kernel_rfl) (f := 76) (args := #[.pointer (some ⟨b2, 0, none⟩), .pointer (some ⟨n, 0, none⟩)]) (fun _ => by kernel_rfl) (up1 H0 (i := 0) rfl (toR1 (H0.blk 0 _ _ rfl) ((HA.out).sto H0 (ksC (by omega) ks0)) (by omega))) (fun _ w1 q1 => ⟨.tuple #[], q1.1, trivial, ?_⟩)
  have u1 := q1.2
  clear q1
  have H1 : Sto w [(n, flat [X, Y, 1, X, Y])] w1 := u1
  clear u1 H0
  refine k_end ?_
  go_simp
  go_upto_region 3 with (fail)
  refine wp_seq_atS (opsAt Tryd.f70 3) ((false, 0) :: (true, 1) :: []) (fun _ => True) (by kernel_rfl) (by kernel_rfl) trivial ?_
  refine k_callR (by kernel_rfl) (d := (some 6)) (by kernel_rfl) (f := 84) (args := #[.pointer (some ⟨n, 0, none⟩)]) (fun _ => by kernel_rfl) (up1 H1 (i := 0) rfl (onC1 (hm.sto H1 (ksC (Nat.ne_of_gt (by omega)) ks0)) (by omega) (hd.sto H1 (ksC (by omega) ks0)) (H1.blk 0 _ _ rfl) qone_ne_zero ((oncurve_iff _ _).2 h) (by rw [qmul_one, qsub_self]))) (fun _ w2 q2 => ⟨.bool true, q2.1, trivial, ?_⟩)
  have u2 := q2.2
  clear q2
  have H2 : Sto w [(n, flat [X, Y, 1, X, Y])] w2 := u2
  clear u2 H1
  refine k_pure (by kernel_rfl) (d := (some 2)) (by kernel_rfl) (v := .bool true) (fun _ => by kernel_rfl) ?_
  refine k_end ?_
  go_simp
  have HF := Lib.hid H2
  clear H2
  go_wp2_with fail
  exact bodyPost_ret_by (by kernel_rfl) (by kernel_rfl) ⟨rfl, HF.out.below (tsC (by omega) ts0)⟩
set_option maxRecDepth 100000 in
set_option maxHeartbeats 1000000 in
theorem setIdP {v0 v1 : Zq} (hm : ModW w) (hg : 5 ≤ b1) (h1 : FpsZ w b1 (flat [v0, v1])) :
    Calls Tryd.prog 54 #[.pointer (some ⟨b1, 0, none⟩)] w fun e w' => e = .returned (.tuple #[]) ∧ UpdZ w w' b1 (flat [Pt.zero.x, Pt.zero.y]) := by
  go_enter Tryd.func54, Tryd.ntmps54
  go_upto_region 1 with (fail)
  have HB1 := h1.lt
  have HGM := hm.lt
  refine wp_gen (fun W => Sto w [(b1, flat [v0, v1]), (w.heap.size, flat [0, 0, 0, 0, 0])] W) ((Sto.one h1).new (l := List.replicate 10 0) rfl (by rfl) zeroL rfl) ?_
  intro W0 H0
  obtain ⟨n, hn⟩ : ∃ n, w.heap.size = n := ⟨_, rfl⟩
  rw [hn] at H0 ⊢
  have HN : Hid (w.heap.size = n) := Lib.hid hn
  have HNL : w.heap.size ≤ n := Nat.le_of_eq hn
  clear hn
  have H0 : Sto w [(b1, flat [v0, v1]), (n, flat [0, 0, 0, 0, 0])] W0 := H0
  refine wp_seq_atS (opsAt Tryd.f54 1) ((false, 0) :: []) (fun _ => True) (by kernel_rfl) (by kernel_rfl) trivial ?_
  refine k_callR (by kernel_rfl) (d := (some 3)) (by kernel_rfl) (f := 78) (args := #[.pointer (some ⟨n, 0, none⟩)]) (fun _ => by kernel_rfl) (upE H0 (i := 1) rfl (ptSetId (H0.blk 1 _ _ rfl) rfl)) (fun _ w1 q1 => ⟨.tuple #[], q1.1, trivial, ?_⟩)
  obtain ⟨L1, hL1, u1⟩ := q1.2
  clear q1
  have H1 : Sto w [(b1, flat [v0, v1]), (n, flat L1)] w1 := u1
  clear u1 H0
  refine k_end ?_
  go_simp
  go_upto_region 2 with (fail)
  refine wp_seq_atS (opsAt Tryd.f54 2) ((true, 0) :: (false, 1) :: []) (fun _ => True) (by kernel_rfl) (by kernel_rfl) trivial ?_
  refine k_pure (by kernel_rfl) (d := (some 4)) (by kernel_rfl) (v := .pointer (some ⟨b1, 0, none⟩)) (fun _ => by kernel_rfl) ?_
  refine k_callR (by kernel_rfl) (d := (some 5)) (by kernel_rfl) (f := 79) (args := #[.pointer (some ⟨b1, 0, none⟩), .pointer (some ⟨n, 0, none⟩)]) (fun _ => by kernel_rfl) (up2E H1 (i := 0) (j := 1) rfl rfl (by decide) (ptFromR1 (hm.sto H1 (ksC (Nat.ne_of_gt (Nat.lt_of_lt_of_le (by decide) hg)) (ksC (Nat.ne_of_gt (by omega)) ks0))) hg (by omega) (H1.ne 0 1 _ _ _ _ rfl rfl (by decide)) (H1.blk 0 _ _ rfl) (H1.blk 1 _ _ rfl) hL1)) (fun _ w2 q2 => ⟨.tuple #[], q2.1, trivial, ?_⟩)
  obtain ⟨L2, hL2, u2⟩ := q2.2
  clear q2
  have H2 : Sto w [(b1, flat [Pt.zero.x, Pt.zero.y]), (n, flat L2)] w2 := u2
  clear u2 H1
  refine k_end ?_
  go_simp
  have HF := Lib.hid H2
  clear H2
  go_wp2_with fail
  go_end0
  exact ⟨rfl, HF.out.end1 (tsC (by omega) ts0)⟩
set_option maxRecDepth 100000 in
set_option maxHeartbeats 1000000 in
theorem setGenP {v0 v1 gx gy : Zq} (hg : 5 ≤ b1) (hx : AtZ w 2 0 gx) (hy : AtZ w 3 0 gy) (h1 : FpsZ w b1 (flat [v0, v1])) :
    Calls Tryd.prog 69 #[.pointer (some ⟨b1, 0, none⟩)] w fun e w' => e = .returned (.tuple #[]) ∧ UpdZ w w' b1 (flat [gx, gy]) := by
  go_enter Tryd.func69, Tryd.ntmps69
  go_upto_region 0 with (fail)
  have H0 : Sto w [(b1, flat [v0, v1])] w := (Sto.one h1)
  refine wp_seq_atS (opsAt Tryd.f69 0) ((true, 0) :: (false, 1) :: (true, 2) :: (true, 3) :: (false, 4) :: []) (fun _ => True) (by kernel_rfl) (by kernel_rfl) trivial ?_
  refine k_pure (by kernel_rfl) (d := (some 2)) (by kernel_rfl) (v := .pointer (some ⟨b1, 0, none⟩)) (fun _ => by kernel_rfl) ?_
  refine k_loadZ (by kernel_rfl) (d := (some 3)) (by kernel_rfl) (ty := 83) (x := (.global 2)) (by kernel_rfl) (b := 2) (o := 0) (z := gx) (by kernel_rfl) ((hx).sto H0 (ksC (Nat.ne_of_gt (Nat.lt_of_lt_of_le (by decide) hg)) ks0)) Tryd.underlying83 rfl (by kernel_rfl) trivial (fun x1 y1 lx1 ly1 zx1 zy1 => ?_)
  refine k_pure (by kernel_rfl) (d := (some 4)) (by kernel_rfl) (v := .pointer (some ⟨b1, 0, none⟩)) (fun _ => by kernel_rfl) ?_
  refine k_pure (by kernel_rfl) (d := (some 5)) (by kernel_rfl) (v := .pointer (some ⟨b1, 0, none⟩)) (fun _ => by kernel_rfl) ?_
  refine k_storeZ (by kernel_rfl) (d := none) (by kernel_rfl) (ty := 83) (x := (.tmp 5)) (y := (.tmp 3)) (by kernel_rfl) (b := b1) (o := 0) (k := 2 * 0) (u := x1) (v := y1) (by kernel_rfl) (by kernel_rfl) (H0.blk 0 _ _ rfl) (k2 rfl) (flat_lt (Nat.lt_of_lt_of_eq (by decide : 0 < 2) rfl)) lx1 ly1 zx1 zy1 (by kernel_rfl) (fun w2 u2 => ⟨trivial, ?_⟩)
  have u2 := H0.upd (i := 0) rfl u2
  rw [flat_set] at u2
  have H1 : Sto w [(b1, flat [gx, v1])] w2 := u2
  clear u2 H0
  clear zx1 zy1
  refine k_end ?_
  go_simp
  go_upto_region 1 with (fail)
  refine wp_seq_atS (opsAt Tryd.f69 1) ((true, 0) :: (false, 1) :: (true, 2) :: (true, 3) :: (false, 4) :: []) (fun _ => True) (by kernel_rfl) (by kernel_rfl) trivial ?_
  refine k_pure (by kernel_rfl) (d := (some 6)) (by kernel_rfl) (v := .pointer (some ⟨b1, 0, none⟩)) (fun _ => by kernel_rfl) ?_
  refine k_loadZ (by kernel_rfl) (d := (some 7)) (by kernel_rfl) (ty := 83) (x := (.global 3)) (by kernel_rfl) (b := 3) (o := 0) (z := gy) (by kernel_rfl) ((hy).sto H1 (ksC (Nat.ne_of_gt (Nat.lt_of_lt_of_le (by decide) hg)) ks0)) Tryd.underlying83 rfl (by kernel_rfl) trivial (fun x3 y3 lx3 ly3 zx3 zy3 => ?_)
  refine k_pure (by kernel_rfl) (d := (some 8)) (by kernel_rfl) (v := .pointer (some ⟨b1, 0, none⟩)) (fun _ => by kernel_rfl) ?_
  refine k_pure (by kernel_rfl) (d := (some 9)) (by kernel_rfl) (v := .pointer (some ⟨b1, 32, none⟩)) (fun _ => by kernel_rfl) ?_
  refine k_storeZ (by kernel_rfl) (d := none) (by kernel_rfl) (ty := 83) (x := (.tmp 9)) (y := (.tmp 7)) (by kernel_rfl) (b := b1) (o := 32) (k := 2 * 1) (u := x3) (v := y3) (by kernel_rfl) (by kernel_rfl) (H1.blk 0 _ _ rfl) (k2 rfl) (flat_lt (Nat.lt_of_lt_of_eq (by decide : 1 < 2) rfl)) lx3 ly3 zx3 zy3 (by kernel_rfl) (fun w4 u4 => ⟨trivial, ?_⟩)
  have u4 := H1.upd (i := 0) rfl u4
  rw [flat_set] at u4
  have H2 : Sto w [(b1, flat [gx, gy])] w4 := u4
  clear u4 H1
  clear zx3 zy3
  refine k_end ?_
  go_simp
  have HF := Lib.hid H2
  clear H2
  go_wp2_with fail
  go_end0
  exact ⟨rfl, HF.out.end1 ts0⟩
end
end Go.Proofs.YtfkfljohhabldaaDoor
namespace Go.FourQ
open Go.RowKit
/-- Elements by some bytes of them. -/
theorem four_list {l : List Nat} {x y : Zq} (h : l.map zp = flat [x, y]) : ∃ a b c d, l = [a, b, c, d] ∧ zp a = x.re ∧ zp b = x.im ∧ zp c = y.re ∧ zp d = y.im := by
  have hl : l.length = 4 := by have := congrArg List.length h; rwa [List.length_map, flat_length] at this
  match l, hl, h with
  | [a, b, c, d], _, h =>
    simp only [List.map, flat, List.cons.injEq, and_true] at h
    exact ⟨a, b, c, d, rfl, h.1, h.2.1, h.2.2.1, h.2.2.2⟩
theorem UpdZ.four {w w' : World} {b : Nat} {x y : Zq} (u : UpdZ w w' b (flat [x, y])) : ∃ p q r s, (LowB p ∧ LowB q ∧ LowB r ∧ LowB s) ∧ (zp p = x.re ∧ zp q = x.im ∧ zp r = y.re ∧ zp s = y.im) ∧ Upd w w' b [p, q, r, s] := by
  obtain ⟨l, hl, hm, hlow⟩ := u.blk
  obtain ⟨p, q, r, s, rfl, h1, h2, h3, h4⟩ := four_list hm
  exact ⟨p, q, r, s, ⟨hlow p (by simp), hlow q (by simp), hlow r (by simp), hlow s (by simp)⟩, ⟨h1, h2, h3, h4⟩, ⟨u.os, u.tape, u.output, u.size, hl, u.other⟩⟩
theorem low4 (x y : Zq) : ∀ v ∈ [x.re.val, x.im.val, y.re.val, y.im.val], LowB v := fun v hv => by
  simp only [List.mem_cons, List.not_mem_nil, or_false] at hv
  have lv : ∀ t : Zp, LowB t.val := fun t => Nat.lt_trans t.lt (by decide +kernel)
  rcases hv with rfl | rfl | rfl | rfl <;> exact lv _
/-- A row of canonical bytes. -/
theorem row_fps {w : World} {b : Nat} {x y : Zq} {T : TypeId} (h : w.heap[b]? = some (.cells (fps [x.re.val, x.im.val, y.re.val, y.im.val]) T (0, 0))) : FpsZ w b (flat [x, y]) := by
  have := FpsZ.ofFps ⟨T, h⟩ (low4 x y)
  rwa [show [x.re.val, x.im.val, y.re.val, y.im.val].map zp = flat [x, y] by simp only [List.map, flat, zp_val]] at this
theorem row_zero {w : World} {b : Nat} {T : TypeId} (h : w.heap[b]? = some (.cells (fps [0, 0, 0, 0]) T (0, 0))) : FpsZ w b (flat [0, 0]) :=
  FpsZ.ofFps (l := [0, 0, 0, 0]) ⟨T, h⟩ (fun v hv => by rw [show v = 0 by simpa using hv]; exact low_zero)
end Go.FourQ
namespace Go.Proofs.YtfkfljohhabldaaDoor
open Go.RowKit Go.FourQ
set_option maxRecDepth 100000 in
set_option maxHeartbeats 1000000 in
theorem made_c {w : World} {a b c d : Nat} : Calls Tryd.prog 50 #[.agg (fps [a, b, c, d])] w fun e w' => ∃ n, e = .returned (.pointer (some ⟨n, 0, none⟩)) ∧ w.heap.size ≤ n ∧ (∃ T, w'.heap[n]? = some (.cells (fps [a, b, c, d]) T (0, 0))) ∧ Below w.heap.size w w' := by
  go_enter Tryd.func50, Tryd.ntmps50
  go_upto_region 1 with (fail)
  refine wp_gen (fun WW => Kept w [(w.heap.size, (fps [a, b, c, d]))] [] WW) (Kept.zero (nb_alloc (Below.refl _ _) _) (rowsC (row_as (hp1_0 (w := w) _) (by kernel_rfl)) rows0)) ?_
  intro W0 K0
  have K1 : Kept w [(w.heap.size, (fps [a, b, c, d]))] [] W0 := Kept.mks K0.nb (rowsC (K0.at 0 rfl) rows0) rooms0
  refine wp_region_atS (opsAt Tryd.f50 1) ((true, 0) :: (true, 1) :: (true, 3) :: (true, 4) :: (false, 2) :: (false, 5) :: (true, 6) :: (false, 7) :: (true, 8) :: []) (Kept w [(w.heap.size, (fps [a, b, c, d]))] []) (by kernel_rfl) rfl (by kernel_rfl) (fun _ _ d _ _ h => by cases d <;> exact h) (by kernel_rfl) (by kernel_rfl) K1.drew ?_
  have K2 := K1.drew
  have DK2 : W0.heap.size ≤ W0.drew.heap.size := Nat.le_refl _
  refine k_pure (by kernel_rfl) (d := (some 3)) (by kernel_rfl) (v := .pointer (some ⟨w.heap.size, 0, none⟩)) (fun _ => by kernel_rfl) ?_
  refine k_part (by kernel_rfl) (d := (some 4)) (by kernel_rfl) (ty := 33) (x := (.tmp 3)) (by kernel_rfl) (b := w.heap.size) (off := 0) (by kernel_rfl) (all := (fps [a, b, c, d])) (cs := (fps [a, b])) (fun _ hs => hs.at 0 rfl) (fpsub2 (k := 0) rfl rfl) Tryd.underlying33 rfl (by kernel_rfl) ?_
  refine k_pure (by kernel_rfl) (d := (some 6)) (by kernel_rfl) (v := .pointer (some ⟨w.heap.size, 32, none⟩)) (fun _ => by kernel_rfl) ?_
  refine k_part (by kernel_rfl) (d := (some 7)) (by kernel_rfl) (ty := 33) (x := (.tmp 6)) (by kernel_rfl) (b := w.heap.size) (off := 32) (by kernel_rfl) (all := (fps [a, b, c, d])) (cs := (fps [c, d])) (fun _ hs => hs.at 0 rfl) (fpsub2 (k := 2) rfl rfl) Tryd.underlying33 rfl (by kernel_rfl) ?_
  refine k_call (by kernel_rfl) (d := (some 5)) (by kernel_rfl) (f := 64) (args := #[.agg (fps [a, b])]) (v := .agg (fps [a, b])) (fun _ => by kernel_rfl) (both_c) (fun w3 hb3 => ⟨K2.go hb3, ?_⟩)
  have K3 := K2.go hb3
  have L3 := hb3.size
  refine k_call (by kernel_rfl) (d := (some 8)) (by kernel_rfl) (f := 64) (args := #[.agg (fps [c, d])]) (v := .agg (fps [c, d])) (fun _ => by kernel_rfl) (both_c) (fun w4 hb4 => ⟨K3.go hb4, ?_⟩)
  have K4 := K3.go hb4
  have L4 := hb4.size
  refine k_pure (by kernel_rfl) (d := (some 9)) (by kernel_rfl) (v := .agg (fps [a, b, c, d])) (fun _ => by kernel_rfl) ?_
  refine k_make (by kernel_rfl) (d := (some 10)) (by kernel_rfl) (v := .pointer (some ⟨w4.heap.size, 0, none⟩)) (w' := w4.alloc (.cells (fps [a, b, c, d]) 85)) (by kernel_rfl) (K4.go ((Below.refl _ _).alloc (Nat.le_refl _) _)) ?_
  intro w5 hw5 K5
  have G5_n : w5.heap[w4.heap.size]? = some (.cells (fps [a, b, c, d]) 85 (0, 0)) := hw5 ▸ heap_alloc_new _ _
  have S5 : w4.heap.size < w5.heap.size := lt_of_heap G5_n
  have R5_0 : w.heap.size < w4.heap.size := (by obtain ⟨T, h⟩ := K4.at 0 rfl; exact lt_of_heap h)
  have Z5 : w.heap.size ≤ w4.heap.size := K4.nb.size
  clear hw5
  refine k_pure (by kernel_rfl) (d := (some 2)) (by kernel_rfl) (v := .pointer (some ⟨w4.heap.size, 0, none⟩)) (fun _ => by kernel_rfl) ?_
  have K6 : Kept w [(w.heap.size, (fps [a, b, c, d])), (w4.heap.size, (fps [a, b, c, d]))] [] w5 := Kept.zero K5.nb (rowsC (K5.at 0 rfl) (rowsC ⟨_, G5_n⟩ rows0))
  clear G5_n
  refine k_end ?_
  go_simp
  go_wp2_with fail
  exact bodyPost_ret_by (by kernel_rfl) (by kernel_rfl) ⟨_, rfl, (by omega), K6.at 1 rfl, K6.nb⟩
set_option maxRecDepth 100000 in
set_option maxHeartbeats 1000000 in
theorem plain_c {w : World} {a b c d b2 : Nat} {x y : Zq} (hm : ModW w) (hB : ∃ T, w.heap[b2]? = some (.cells (fps [a, b, c, d]) T (0, 0))) (hl : LowB a ∧ LowB b ∧ LowB c ∧ LowB d) (hz : zp a = x.re ∧ zp b = x.im ∧ zp c = y.re ∧ zp d = y.im) :
    Calls Tryd.prog 55 #[.pointer (some ⟨b2, 0, none⟩)] w fun e w' => e = .returned (.agg (fps [x.re.val, x.im.val, y.re.val, y.im.val])) ∧ Below w.heap.size w w' := by
  have HB2 : b2 < w.heap.size := by obtain ⟨T, h⟩ := hB; exact lt_of_heap h
  go_enter Tryd.func55, Tryd.ntmps55
  go_upto_region 1 with (fail)
  refine wp_gen (fun WW => Kept w [(b2, (fps [a, b, c, d])), (w.heap.size, (fps [0, 0, 0, 0]))] [] WW) (Kept.zero (nb_alloc (Below.refl _ _) _) (rowsC (by obtain ⟨T, h⟩ := hB; exact ⟨T, (hp_alloc h _)⟩) (rowsC (row_as (hp1_0 (w := w) _) (by kernel_rfl)) rows0))) ?_
  intro W0 K0
  have O1K1 := K0.at 1 rfl
  obtain ⟨T1K1, O1K1⟩ := O1K1
  have K1 : Kept w [(b2, (fps [a, b, c, d]))] [(w.heap.size, 64)] W0 := Kept.mks K0.nb (rowsC (K0.at 0 rfl) rows0) (roomsC (by kernel_rfl) O1K1 rooms0)
  refine wp_region_atS (opsAt Tryd.f55 1) ((true, 0) :: (true, 1) :: (true, 2) :: (true, 3) :: (true, 5) :: (true, 6) :: (true, 7) :: (true, 8) :: (false, 4) :: (false, 9) :: (true, 10) :: (false, 11) :: []) (Kept w [(b2, (fps [a, b, c, d]))] [(w.heap.size, 64)]) (by kernel_rfl) rfl (by kernel_rfl) (fun _ _ d _ _ h => by cases d <;> exact h) (by kernel_rfl) (by kernel_rfl) K1.drew ?_
  have K2 := K1.drew
  have DK2 : W0.heap.size ≤ W0.drew.heap.size := Nat.le_refl _
  have GO1K1 : W0.drew.heap[w.heap.size]? = some (.cells (fps [0, 0, 0, 0]) _ (0, 0)) := O1K1
  refine k_pure (by kernel_rfl) (d := (some 3)) (by kernel_rfl) (v := .pointer (some ⟨b2, 0, none⟩)) (fun _ => by kernel_rfl) ?_
  refine k_pure (by kernel_rfl) (d := (some 4)) (by kernel_rfl) (v := .pointer (some ⟨b2, 0, none⟩)) (fun _ => by kernel_rfl) ?_
  refine k_pure (by kernel_rfl) (d := (some 5)) (by kernel_rfl) (v := .pointer (some ⟨b2, 0, none⟩)) (fun _ => by kernel_rfl) ?_
  refine k_part (by kernel_rfl) (d := (some 6)) (by kernel_rfl) (ty := 83) (x := (.tmp 5)) (by kernel_rfl) (b := b2) (off := 0) (by kernel_rfl) (all := (fps [a, b, c, d])) (cs := (fps [a, b])) (fun _ hs => hs.at 0 rfl) (fpsub2 (k := 0) rfl rfl) Tryd.underlying83 rfl (by kernel_rfl) ?_
  refine k_pure (by kernel_rfl) (d := (some 8)) (by kernel_rfl) (v := .pointer (some ⟨b2, 0, none⟩)) (fun _ => by kernel_rfl) ?_
  refine k_pure (by kernel_rfl) (d := (some 9)) (by kernel_rfl) (v := .pointer (some ⟨b2, 0, none⟩)) (fun _ => by kernel_rfl) ?_
  refine k_pure (by kernel_rfl) (d := (some 10)) (by kernel_rfl) (v := .pointer (some ⟨b2, 32, none⟩)) (fun _ => by kernel_rfl) ?_
  refine k_part (by kernel_rfl) (d := (some 11)) (by kernel_rfl) (ty := 83) (x := (.tmp 10)) (by kernel_rfl) (b := b2) (off := 32) (by kernel_rfl) (all := (fps [a, b, c, d])) (cs := (fps [c, d])) (fun _ hs => hs.at 0 rfl) (fpsub2 (k := 2) rfl rfl) Tryd.underlying83 rfl (by kernel_rfl) ?_
  refine k_call (by kernel_rfl) (d := (some 7)) (by kernel_rfl) (f := 62) (args := #[.agg (fps [a, b])]) (v := .agg (fps [x.re.val, x.im.val])) (fun _ => by kernel_rfl) (lowsZ_c (hm.nb K2.nb) hl.1 hl.2.1 hz.1 hz.2.1) (fun w3 hb3 => ⟨K2.go hb3, ?_⟩)
  have K3 := K2.go hb3
  have G3_10 := nb_heap GO1K1 _ hb3
  have L3 := hb3.size
  refine k_call (by kernel_rfl) (d := (some 12)) (by kernel_rfl) (f := 62) (args := #[.agg (fps [c, d])]) (v := .agg (fps [y.re.val, y.im.val])) (fun _ => by kernel_rfl) (lowsZ_c (hm.nb K3.nb) hl.2.2.1 hl.2.2.2 hz.2.2.1 hz.2.2.2) (fun w4 hb4 => ⟨K3.go hb4, ?_⟩)
  have K4 := K3.go hb4
  have G4_10 := nb_heap G3_10 _ hb4
  have L4 := hb4.size
  refine k_pure (by kernel_rfl) (d := (some 13)) (by kernel_rfl) (v := .agg (fps [x.re.val, x.im.val, y.re.val, y.im.val])) (fun _ => by kernel_rfl) ?_
  refine k_put (by kernel_rfl) (d := none) (by kernel_rfl) (ty := 35) (x := (.tmp 2)) (y := (.tmp 13)) (by kernel_rfl) (g := w.heap.size) (cells := (fps [x.re.val, x.im.val, y.re.val, y.im.val])) (by kernel_rfl) (by kernel_rfl) G4_10 (by kernel_rfl) (by kernel_rfl) (all_fps _) (K4.puti (n := 64) (by kernel_rfl) (by omega) (neC (by omega) ne0) (nsE ns0)) ?_
  intro w5 hw5 K5
  have G5_s : w5.heap[w.heap.size]? = some (.cells (fps [x.re.val, x.im.val, y.re.val, y.im.val]) _ (0, 0)) := hw5 ▸ setRow_heap _ _ _ _ _ _ G4_10
  have L5 : w4.heap.size ≤ w5.heap.size := by rw [hw5]; exact Nat.le_of_eq (size_setRow _ _ _).symm
  clear hw5
  have K6 : Kept w [(b2, (fps [a, b, c, d])), (w.heap.size, (fps [x.re.val, x.im.val, y.re.val, y.im.val]))] [] w5 := Kept.zero K5.nb (rowsC (K5.at 0 rfl) (rowsC ⟨_, G5_s⟩ rows0))
  clear O1K1 G5_s G4_10 G3_10 GO1K1
  refine k_end ?_
  go_simp
  go_wp2_with fail
  obtain ⟨TR, hR⟩ := K6.at 1 rfl
  exact bodyPost_ret_by (results_cell_row rfl _ _ (w.heap.size) _ (fps [x.re.val, x.im.val, y.re.val, y.im.val]) _ _ rfl hR Tryd.underlying35 rfl (by kernel_rfl)) rfl ⟨rfl, K6.nb⟩
set_option maxRecDepth 100000 in
set_option maxHeartbeats 1000000 in
theorem implIsId {w : World} {x y : Zq} (hm : ModW w) (hg : 5 ≤ w.heap.size) :
    Calls Tryd.prog 16 #[.agg (fps [x.re.val, x.im.val, y.re.val, y.im.val])] w fun e w' => e = .returned (.bool (idB x (x * y) (y - 1))) ∧ Below w.heap.size w w' := by
  go_enter Tryd.func16, Tryd.ntmps16
  go_upto_region 1 with (fail)
  refine wp_gen (fun WW => Kept w [(w.heap.size, (fps [x.re.val, x.im.val, y.re.val, y.im.val]))] [] WW) (Kept.zero (nb_alloc (Below.refl _ _) _) (rowsC (row_as (hp1_0 (w := w) _) (by kernel_rfl)) rows0)) ?_
  intro W0 K0
  have K1 : Kept w [(w.heap.size, (fps [x.re.val, x.im.val, y.re.val, y.im.val]))] [] W0 := Kept.mks K0.nb (rowsC (K0.at 0 rfl) rows0) rooms0
  refine wp_seq_atS (opsAt Tryd.f16 1) ((true, 0) :: (false, 1) :: (false, 2) :: (true, 3) :: []) (Kept w [(w.heap.size, (fps [x.re.val, x.im.val, y.re.val, y.im.val]))] []) (by kernel_rfl) (by kernel_rfl) K1 ?_
  refine k_row (by kernel_rfl) (d := (some 3)) (by kernel_rfl) (ty := 35) (x := (.tmp 1)) (by kernel_rfl) (b := w.heap.size) (by kernel_rfl) (cs := (fps [x.re.val, x.im.val, y.re.val, y.im.val])) (fun _ hs => hs.at 0 rfl) Tryd.underlying35 rfl (by kernel_rfl) ?_
  refine k_callR (by kernel_rfl) (d := (some 4)) (by kernel_rfl) (f := 50) (args := #[.agg (fps [x.re.val, x.im.val, y.re.val, y.im.val])]) (fun _ => by kernel_rfl) (made_c) (fun _ w2 ⟨n2, he2, hge2, ⟨T2, F2⟩, hb2⟩ => ⟨_, he2, K1.go hb2, ?_⟩)
  have K2 := K1.go hb2
  have R2_0 : w.heap.size < W0.heap.size := (by obtain ⟨T, h⟩ := K1.at 0 rfl; exact lt_of_heap h)
  have Z2 : w.heap.size ≤ W0.heap.size := K1.nb.size
  have L2 := hb2.size
  have S2 := lt_of_heap F2
  refine k_call (by kernel_rfl) (d := (some 5)) (by kernel_rfl) (f := 51) (args := #[.pointer (some ⟨n2, 0, none⟩)]) (v := .bool (idB x (x * y) (y - 1))) (fun _ => by kernel_rfl) (isIdP (hm.nb K2.nb) (Nat.le_trans hg K2.nb.size) (row_fps F2).atL) (fun w3 hb3 => ⟨K2.go hb3, ?_⟩)
  have K3 := K2.go hb3
  have G3_10 := nb_heap F2 _ hb3
  have L3 := hb3.size
  refine k_pure (by kernel_rfl) (d := (some 2)) (by kernel_rfl) (v := .bool (idB x (x * y) (y - 1))) (fun _ => by kernel_rfl) ?_
  have K4 : Kept w [(w.heap.size, (fps [x.re.val, x.im.val, y.re.val, y.im.val])), (n2, (fps [x.re.val, x.im.val, y.re.val, y.im.val]))] [] w3 := Kept.zero K3.nb (rowsC (K3.at 0 rfl) (rowsC ⟨_, G3_10⟩ rows0))
  clear F2 G3_10
  refine k_end ?_
  go_simp
  go_wp2_with fail
  exact bodyPost_ret_by (by kernel_rfl) (by kernel_rfl) ⟨rfl, K4.nb⟩
set_option maxRecDepth 100000 in
set_option maxHeartbeats 1000000 in
theorem implOn1 {w : World} {x y : Zq} (hm : ModW w) (hg : 5 ≤ w.heap.size) (hd : AtZ w 0 0 dd) (h : OnC x y) :
    Calls Tryd.prog 37 #[.agg (fps [x.re.val, x.im.val, y.re.val, y.im.val])] w fun e w' => e = .returned (.bool true) ∧ Below w.heap.size w w' := by
  go_enter Tryd.func37, Tryd.ntmps37
  go_upto_region 1 with (fail)
  refine wp_gen (fun WW => Kept w [(w.heap.size, (fps [x.re.val, x.im.val, y.re.val, y.im.val]))] [] WW) (Kept.zero (nb_alloc (Below.refl _ _) _) (rowsC (row_as (hp1_0 (w := w) _) (by kernel_rfl)) rows0)) ?_
  intro W0 K0
  have K1 : Kept w [(w.heap.size, (fps [x.re.val, x.im.val, y.re.val, y.im.val]))] [] W0 := Kept.mks K0.nb (rowsC (K0.at 0 rfl) rows0) rooms0
  refine wp_seq_atS (opsAt Tryd.f37 1) ((true, 0) :: (false, 1) :: (false, 2) :: (true, 3) :: []) (Kept w [(w.heap.size, (fps [x.re.val, x.im.val, y.re.val, y.im.val]))] []) (by kernel_rfl) (by kernel_rfl) K1 ?_
  refine k_row (by kernel_rfl) (d := (some 3)) (by kernel_rfl) (ty := 35) (x := (.tmp 1)) (by kernel_rfl) (b := w.heap.size) (by kernel_rfl) (cs := (fps [x.re.val, x.im.val, y.re.val, y.im.val])) (fun _ hs => hs.at 0 rfl) Tryd.underlying35 rfl (by kernel_rfl) ?_
  refine k_callR (by kernel_rfl) (d := (some 4)) (by kernel_rfl) (f := 50) (args := #[.agg (fps [x.re.val, x.im.val, y.re.val, y.im.val])]) (fun _ => by kernel_rfl) (made_c) (fun _ w2 ⟨n2, he2, hge2, ⟨T2, F2⟩, hb2⟩ => ⟨_, he2, K1.go hb2, ?_⟩)
  have K2 := K1.go hb2
  have R2_0 : w.heap.size < W0.heap.size := (by obtain ⟨T, h⟩ := K1.at 0 rfl; exact lt_of_heap h)
  have Z2 : w.heap.size ≤ W0.heap.size := K1.nb.size
  have L2 := hb2.size
  have S2 := lt_of_heap F2
  refine k_call (by kernel_rfl) (d := (some 5)) (by kernel_rfl) (f := 70) (args := #[.pointer (some ⟨n2, 0, none⟩)]) (v := .bool true) (fun _ => by kernel_rfl) (onCP1 (hm.nb K2.nb) (Nat.le_trans hg K2.nb.size) (hd.nb K2.nb) (row_fps F2).atL h) (fun w3 hb3 => ⟨K2.go hb3, ?_⟩)
  have K3 := K2.go hb3
  have G3_10 := nb_heap F2 _ hb3
  have L3 := hb3.size
  refine k_pure (by kernel_rfl) (d := (some 2)) (by kernel_rfl) (v := .bool true) (fun _ => by kernel_rfl) ?_
  have K4 : Kept w [(w.heap.size, (fps [x.re.val, x.im.val, y.re.val, y.im.val])), (n2, (fps [x.re.val, x.im.val, y.re.val, y.im.val]))] [] w3 := Kept.zero K3.nb (rowsC (K3.at 0 rfl) (rowsC ⟨_, G3_10⟩ rows0))
  clear F2 G3_10
  refine k_end ?_
  go_simp
  go_wp2_with fail
  exact bodyPost_ret_by (by kernel_rfl) (by kernel_rfl) ⟨rfl, K4.nb⟩
section
variable {w : World} {b1 b2 b3 : Nat} {x y gx gy X Y : Zq} {p q : Pt}
theorem addP_u (hX : (p + q).x = X) (hY : (p + q).y = Y) (hm : ModW w) (hg : 5 ≤ b1) (hd : AtZ w 0 0 dd) (h1 : FpsZ w b1 (flat [0, 0])) (ha : AtL w b2 0 [p.x, p.y]) (hb : AtL w b3 0 [q.x, q.y]) (hne2 : b2 ≠ b1) (hne3 : b3 ≠ b1) :
    Calls Tryd.prog 56 #[.pointer (some ⟨b1, 0, none⟩), .pointer (some ⟨b2, 0, none⟩), .pointer (some ⟨b3, 0, none⟩)] w fun e w' => ∃ a b c d, e = .returned (.tuple #[]) ∧ (LowB a ∧ LowB b ∧ LowB c ∧ LowB d) ∧ (zp a = X.re ∧ zp b = X.im ∧ zp c = Y.re ∧ zp d = Y.im) ∧ Upd w w' b1 [a, b, c, d] :=
  (ptAddP hm hg hd h1 ha hb hne2 hne3).mono fun _ _ q => by subst hX hY; obtain ⟨a, b, c, d, h1, h2, h3⟩ := q.2.four; exact ⟨a, b, c, d, q.1, h1, h2, h3⟩
theorem idP_u (hX : Pt.zero.x = X) (hY : Pt.zero.y = Y) (hm : ModW w) (hg : 5 ≤ b1) (h1 : FpsZ w b1 (flat [0, 0])) :
    Calls Tryd.prog 54 #[.pointer (some ⟨b1, 0, none⟩)] w fun e w' => ∃ a b c d, e = .returned (.tuple #[]) ∧ (LowB a ∧ LowB b ∧ LowB c ∧ LowB d) ∧ (zp a = X.re ∧ zp b = X.im ∧ zp c = Y.re ∧ zp d = Y.im) ∧ Upd w w' b1 [a, b, c, d] :=
  (setIdP hm hg h1).mono fun _ _ q => by subst hX hY; obtain ⟨a, b, c, d, h1, h2, h3⟩ := q.2.four; exact ⟨a, b, c, d, q.1, h1, h2, h3⟩
theorem genP_u (hg : 5 ≤ b1) (hx : AtZ w 2 0 gx) (hy : AtZ w 3 0 gy) (h1 : FpsZ w b1 (flat [0, 0])) :
    Calls Tryd.prog 69 #[.pointer (some ⟨b1, 0, none⟩)] w fun e w' => ∃ a b c d, e = .returned (.tuple #[]) ∧ (LowB a ∧ LowB b ∧ LowB c ∧ LowB d) ∧ (zp a = gx.re ∧ zp b = gx.im ∧ zp c = gy.re ∧ zp d = gy.im) ∧ Upd w w' b1 [a, b, c, d] :=
  (setGenP hg hx hy h1).mono fun _ _ q => by obtain ⟨a, b, c, d, h1, h2, h3⟩ := q.2.four; exact ⟨a, b, c, d, q.1, h1, h2, h3⟩
end
set_option maxRecDepth 100000 in
set_option maxHeartbeats 1000000 in
theorem implPlus {w : World} {p q : Pt} {X Y : Zq} (hX : (p + q).x = X) (hY : (p + q).y = Y) (hm : ModW w) (hg : 5 ≤ w.heap.size) (hd : AtZ w 0 0 dd) :
    Calls Tryd.prog 22 #[.agg (fps [(p.x).re.val, (p.x).im.val, (p.y).re.val, (p.y).im.val]), .agg (fps [(q.x).re.val, (q.x).im.val, (q.y).re.val, (q.y).im.val])] w fun e w' => e = .returned (.agg (fps [X.re.val, X.im.val, Y.re.val, Y.im.val])) ∧ Below w.heap.size w w' := by
  have HX := Lib.hid hX; have HY := Lib.hid hY
  clear hX hY
  go_enter Tryd.func22, Tryd.ntmps22
  go_upto_region 2 with (fail)
  refine wp_gen (fun WW => Kept w [(w.heap.size, (fps [(p.x).re.val, (p.x).im.val, (p.y).re.val, (p.y).im.val])), (w.heap.size + 1, (fps [(q.x).re.val, (q.x).im.val, (q.y).re.val, (q.y).im.val])), (w.heap.size + 1 + 1, (fps [0, 0, 0, 0])), (w.heap.size + 1 + 1 + 1, (fps [0, 0, 0, 0]))] [] WW) (Kept.zero (nb_alloc (nb_alloc (nb_alloc (nb_alloc (Below.refl _ _) _) _) _) _) (rowsC (row_as (hp4_0 (w := w) _ _ _ _) (by kernel_rfl)) (rowsC (row_as (hp4_1 (w := w) _ _ _ _) (by kernel_rfl)) (rowsC (row_as (hp4_2 (w := w) _ _ _ _) (by kernel_rfl)) (rowsC (row_as (hp4_3 (w := w) _ _ _ _) (by kernel_rfl)) rows0))))) ?_
  intro W0 K0
  have O3K1 := K0.at 3 rfl
  obtain ⟨T3K1, O3K1⟩ := O3K1
  have K1 : Kept w [(w.heap.size, (fps [(p.x).re.val, (p.x).im.val, (p.y).re.val, (p.y).im.val])), (w.heap.size + 1, (fps [(q.x).re.val, (q.x).im.val, (q.y).re.val, (q.y).im.val])), (w.heap.size + 1 + 1, (fps [0, 0, 0, 0]))] [(w.heap.size + 1 + 1 + 1, 64)] W0 := Kept.mks K0.nb (rowsC (K0.at 0 rfl) (rowsC (K0.at 1 rfl) (rowsC (K0.at 2 rfl) rows0))) (roomsC (by kernel_rfl) O3K1 rooms0)
  refine wp_region_atS (opsAt Tryd.f22 2) ((true, 0) :: (true, 2) :: (false, 1) :: (false, 3) :: (false, 4) :: []) (Kept w [(w.heap.size, (fps [(p.x).re.val, (p.x).im.val, (p.y).re.val, (p.y).im.val])), (w.heap.size + 1, (fps [(q.x).re.val, (q.x).im.val, (q.y).re.val, (q.y).im.val])), (w.heap.size + 1 + 1, (fps [0, 0, 0, 0]))] [(w.heap.size + 1 + 1 + 1, 64)]) (by kernel_rfl) rfl (by kernel_rfl) (fun _ _ d _ _ h => by cases d <;> exact h) (by kernel_rfl) (by kernel_rfl) K1.drew ?_
  have K2 := K1.drew
  have DK2 : W0.heap.size ≤ W0.drew.heap.size := Nat.le_refl _
  have GO3K1 : W0.drew.heap[w.heap.size + 1 + 1 + 1]? = some (.cells (fps [0, 0, 0, 0]) _ (0, 0)) := O3K1
  refine k_row (by kernel_rfl) (d := (some 6)) (by kernel_rfl) (ty := 35) (x := (.tmp 2)) (by kernel_rfl) (b := w.heap.size) (by kernel_rfl) (cs := (fps [(p.x).re.val, (p.x).im.val, (p.y).re.val, (p.y).im.val])) (fun _ hs => hs.at 0 rfl) Tryd.underlying35 rfl (by kernel_rfl) ?_
  refine k_row (by kernel_rfl) (d := (some 8)) (by kernel_rfl) (ty := 35) (x := (.tmp 3)) (by kernel_rfl) (b := w.heap.size + 1) (by kernel_rfl) (cs := (fps [(q.x).re.val, (q.x).im.val, (q.y).re.val, (q.y).im.val])) (fun _ hs => hs.at 1 rfl) Tryd.underlying35 rfl (by kernel_rfl) ?_
  refine k_callR (by kernel_rfl) (d := (some 7)) (by kernel_rfl) (f := 50) (args := #[.agg (fps [(p.x).re.val, (p.x).im.val, (p.y).re.val, (p.y).im.val])]) (fun _ => by kernel_rfl) (made_c) (fun _ w3 ⟨n3, he3, hge3, ⟨T3, F3⟩, hb3⟩ => ⟨_, he3, K2.go hb3, ?_⟩)
  have K3 := K2.go hb3
  have M3_0 := lt_of_heap GO3K1
  have R3_0 : w.heap.size < W0.drew.heap.size := (by obtain ⟨T, h⟩ := K2.at 0 rfl; exact lt_of_heap h)
  have R3_1 : w.heap.size + 1 < W0.drew.heap.size := (by obtain ⟨T, h⟩ := K2.at 1 rfl; exact lt_of_heap h)
  have R3_2 : w.heap.size + 1 + 1 < W0.drew.heap.size := (by obtain ⟨T, h⟩ := K2.at 2 rfl; exact lt_of_heap h)
  have Z3 : w.heap.size ≤ W0.drew.heap.size := K2.nb.size
  have G3_10 := nb_heap GO3K1 _ hb3
  have L3 := hb3.size
  have S3 := lt_of_heap F3
  refine k_callR (by kernel_rfl) (d := (some 9)) (by kernel_rfl) (f := 50) (args := #[.agg (fps [(q.x).re.val, (q.x).im.val, (q.y).re.val, (q.y).im.val])]) (fun _ => by kernel_rfl) (made_c) (fun _ w4 ⟨n4, he4, hge4, ⟨T4, F4⟩, hb4⟩ => ⟨_, he4, K3.go hb4, ?_⟩)
  have K4 := K3.go hb4
  have M4_0 := lt_of_heap G3_10
  have M4_1 := lt_of_heap F3
  have R4_0 : w.heap.size < w3.heap.size := (by obtain ⟨T, h⟩ := K3.at 0 rfl; exact lt_of_heap h)
  have R4_1 : w.heap.size + 1 < w3.heap.size := (by obtain ⟨T, h⟩ := K3.at 1 rfl; exact lt_of_heap h)
  have R4_2 : w.heap.size + 1 + 1 < w3.heap.size := (by obtain ⟨T, h⟩ := K3.at 2 rfl; exact lt_of_heap h)
  have Z4 : w.heap.size ≤ w3.heap.size := K3.nb.size
  have G4_20 := nb_heap G3_10 _ hb4
  have G4_21 := nb_heap F3 _ hb4
  have L4 := hb4.size
  have S4 := lt_of_heap F4
  refine k_callR (by kernel_rfl) (d := (some 10)) (by kernel_rfl) (f := 56) (args := #[.pointer (some ⟨w.heap.size + 1 + 1 + 1, 0, none⟩), .pointer (some ⟨n3, 0, none⟩), .pointer (some ⟨n4, 0, none⟩)]) (fun _ => by kernel_rfl) (addP_u HX.out HY.out (hm.nb K4.nb) (by omega) (hd.nb K4.nb) (row_zero G4_20) (row_fps G4_21).atL (row_fps F4).atL (by omega) (by omega)) (fun _ w5 ⟨p5, q5, r5, s5, he5, hl5, hz5, hb5⟩ => ⟨_, he5, K4.updz (n := 64) hb5 rfl (by omega) (neC (by omega) (neC (by omega) (neC (by omega) ne0))) (nsE ns0), ?_⟩)
  have K5 := K4.updz (n := 64) hb5 rfl (by omega) (neC (by omega) (neC (by omega) (neC (by omega) ne0))) (nsE ns0)
  have V5_1 : w5.heap[n3]? = some (.cells (fps [(p.x).re.val, (p.x).im.val, (p.y).re.val, (p.y).im.val]) _ (0, 0)) := (hb5.other _ (lt_of_heap G4_21) (by omega)).trans G4_21
  have V5_2 : w5.heap[n4]? = some (.cells (fps [(q.x).re.val, (q.x).im.val, (q.y).re.val, (q.y).im.val]) _ (0, 0)) := (hb5.other _ (lt_of_heap F4) (by omega)).trans F4
  replace hz5 := Lib.hid hz5
  obtain ⟨TU5, V5_u⟩ := hb5.blk
  have L5 := hb5.size
  have K6 : Kept w [(w.heap.size, (fps [(p.x).re.val, (p.x).im.val, (p.y).re.val, (p.y).im.val])), (w.heap.size + 1, (fps [(q.x).re.val, (q.x).im.val, (q.y).re.val, (q.y).im.val])), (w.heap.size + 1 + 1, (fps [0, 0, 0, 0])), (w.heap.size + 1 + 1 + 1, (fps [p5, q5, r5, s5])), (n3, (fps [(p.x).re.val, (p.x).im.val, (p.y).re.val, (p.y).im.val])), (n4, (fps [(q.x).re.val, (q.x).im.val, (q.y).re.val, (q.y).im.val]))] [] w5 := Kept.zero K5.nb (rowsC (K5.at 0 rfl) (rowsC (K5.at 1 rfl) (rowsC (K5.at 2 rfl) (rowsC ⟨_, V5_u⟩ (rowsC ⟨_, V5_1⟩ (rowsC ⟨_, V5_2⟩ rows0))))))
  clear O3K1 F4 F3 V5_u V5_2 V5_1 G4_21 G4_20 G3_10 GO3K1
  refine k_end ?_
  go_simp
  go_upto_region 3 with (fail)
  have O2K7 := K6.at 2 rfl
  obtain ⟨T2K7, O2K7⟩ := O2K7
  have K7 : Kept w [(w.heap.size, (fps [(p.x).re.val, (p.x).im.val, (p.y).re.val, (p.y).im.val])), (w.heap.size + 1, (fps [(q.x).re.val, (q.x).im.val, (q.y).re.val, (q.y).im.val])), (w.heap.size + 1 + 1 + 1, (fps [p5, q5, r5, s5])), (n3, (fps [(p.x).re.val, (p.x).im.val, (p.y).re.val, (p.y).im.val])), (n4, (fps [(q.x).re.val, (q.x).im.val, (q.y).re.val, (q.y).im.val]))] [(w.heap.size + 1 + 1, 64)] w5 := Kept.mks K6.nb (rowsC (K6.at 0 rfl) (rowsC (K6.at 1 rfl) (rowsC (K6.at 3 rfl) (rowsC (K6.at 4 rfl) (rowsC (K6.at 5 rfl) rows0))))) (roomsC (by kernel_rfl) O2K7 rooms0)
  refine wp_seq_atS (opsAt Tryd.f22 3) ((false, 0) :: (false, 1) :: []) (Kept w [(w.heap.size, (fps [(p.x).re.val, (p.x).im.val, (p.y).re.val, (p.y).im.val])), (w.heap.size + 1, (fps [(q.x).re.val, (q.x).im.val, (q.y).re.val, (q.y).im.val])), (w.heap.size + 1 + 1 + 1, (fps [p5, q5, r5, s5])), (n3, (fps [(p.x).re.val, (p.x).im.val, (p.y).re.val, (p.y).im.val])), (n4, (fps [(q.x).re.val, (q.x).im.val, (q.y).re.val, (q.y).im.val]))] [(w.heap.size + 1 + 1, 64)]) (by kernel_rfl) (by kernel_rfl) K7 ?_
  refine k_call (by kernel_rfl) (d := (some 11)) (by kernel_rfl) (f := 55) (args := #[.pointer (some ⟨w.heap.size + 1 + 1 + 1, 0, none⟩)]) (v := .agg (fps [X.re.val, X.im.val, Y.re.val, Y.im.val])) (fun _ => by kernel_rfl) (plain_c (hm.nb K7.nb) (K7.at 2 rfl) hl5 hz5.out) (fun w8 hb8 => ⟨K7.go hb8, ?_⟩)
  have K8 := K7.go hb8
  have G8_10 := nb_heap O2K7 _ hb8
  have L8 := hb8.size
  refine k_put (by kernel_rfl) (d := none) (by kernel_rfl) (ty := 35) (x := (.tmp 4)) (y := (.tmp 11)) (by kernel_rfl) (g := w.heap.size + 1 + 1) (cells := (fps [X.re.val, X.im.val, Y.re.val, Y.im.val])) (by kernel_rfl) (by kernel_rfl) G8_10 (by kernel_rfl) (by kernel_rfl) (all_fps _) (K8.puti (n := 64) (by kernel_rfl) (by omega) (neC (by omega) (neC (by omega) (neC (by omega) (neC (by omega) (neC (by omega) ne0))))) (nsE ns0)) ?_
  intro w9 hw9 K9
  have G9_s : w9.heap[w.heap.size + 1 + 1]? = some (.cells (fps [X.re.val, X.im.val, Y.re.val, Y.im.val]) _ (0, 0)) := hw9 ▸ setRow_heap _ _ _ _ _ _ G8_10
  have L9 : w8.heap.size ≤ w9.heap.size := by rw [hw9]; exact Nat.le_of_eq (size_setRow _ _ _).symm
  clear hw9
  have K10 : Kept w [(w.heap.size, (fps [(p.x).re.val, (p.x).im.val, (p.y).re.val, (p.y).im.val])), (w.heap.size + 1, (fps [(q.x).re.val, (q.x).im.val, (q.y).re.val, (q.y).im.val])), (w.heap.size + 1 + 1, (fps [X.re.val, X.im.val, Y.re.val, Y.im.val])), (w.heap.size + 1 + 1 + 1, (fps [p5, q5, r5, s5])), (n3, (fps [(p.x).re.val, (p.x).im.val, (p.y).re.val, (p.y).im.val])), (n4, (fps [(q.x).re.val, (q.x).im.val, (q.y).re.val, (q.y).im.val]))] [] w9 := Kept.zero K9.nb (rowsC (K9.at 0 rfl) (rowsC (K9.at 1 rfl) (rowsC ⟨_, G9_s⟩ (rowsC (K9.at 2 rfl) (rowsC (K9.at 3 rfl) (rowsC (K9.at 4 rfl) rows0))))))
  clear O2K7 G9_s G8_10
  refine k_end ?_
  go_simp
  go_wp2_with fail
  obtain ⟨TR, hR⟩ := K10.at 2 rfl
  exact bodyPost_ret_by (results_cell_row rfl _ _ (w.heap.size + 1 + 1) _ (fps [X.re.val, X.im.val, Y.re.val, Y.im.val]) _ _ rfl hR Tryd.underlying35 rfl (by kernel_rfl)) rfl ⟨rfl, K10.nb⟩
set_option maxRecDepth 100000 in
set_option maxHeartbeats 1000000 in
theorem implIdentity {w : World} {X Y : Zq} (hX : Pt.zero.x = X) (hY : Pt.zero.y = Y) (hm : ModW w) (hg : 5 ≤ w.heap.size) :
    Calls Tryd.prog 20 #[] w fun e w' => e = .returned (.agg (fps [X.re.val, X.im.val, Y.re.val, Y.im.val])) ∧ Below w.heap.size w w' := by
  have HX := Lib.hid hX; have HY := Lib.hid hY
  clear hX hY
  go_enter Tryd.func20, Tryd.ntmps20
  go_upto_region 2 with (fail)
  refine wp_gen (fun WW => Kept w [(w.heap.size, (fps [0, 0, 0, 0])), (w.heap.size + 1, (fps [0, 0, 0, 0]))] [] WW) (Kept.zero (nb_alloc (nb_alloc (Below.refl _ _) _) _) (rowsC (row_as (hp2_0 (w := w) _ _) (by kernel_rfl)) (rowsC (row_as (hp2_1 (w := w) _ _) (by kernel_rfl)) rows0))) ?_
  intro W0 K0
  have O1K1 := K0.at 1 rfl
  obtain ⟨T1K1, O1K1⟩ := O1K1
  have K1 : Kept w [(w.heap.size, (fps [0, 0, 0, 0]))] [(w.heap.size + 1, 64)] W0 := Kept.mks K0.nb (rowsC (K0.at 0 rfl) rows0) (roomsC (by kernel_rfl) O1K1 rooms0)
  refine wp_seq_atS (opsAt Tryd.f20 2) ((false, 0) :: []) (Kept w [(w.heap.size, (fps [0, 0, 0, 0]))] [(w.heap.size + 1, 64)]) (by kernel_rfl) (by kernel_rfl) K1 ?_
  refine k_callR (by kernel_rfl) (d := (some 2)) (by kernel_rfl) (f := 54) (args := #[.pointer (some ⟨w.heap.size + 1, 0, none⟩)]) (fun _ => by kernel_rfl) (idP_u HX.out HY.out (hm.nb K1.nb) (by omega) (row_zero O1K1)) (fun _ w2 ⟨p2, q2, r2, s2, he2, hl2, hz2, hb2⟩ => ⟨_, he2, K1.updz (n := 64) hb2 rfl (by omega) (neC (by omega) ne0) (nsE ns0), ?_⟩)
  have K2 := K1.updz (n := 64) hb2 rfl (by omega) (neC (by omega) ne0) (nsE ns0)
  replace hz2 := Lib.hid hz2
  obtain ⟨TU2, V2_u⟩ := hb2.blk
  have L2 := hb2.size
  have K3 : Kept w [(w.heap.size, (fps [0, 0, 0, 0])), (w.heap.size + 1, (fps [p2, q2, r2, s2]))] [] w2 := Kept.zero K2.nb (rowsC (K2.at 0 rfl) (rowsC ⟨_, V2_u⟩ rows0))
  clear O1K1 V2_u
  refine k_end ?_
  go_simp
  go_upto_region 3 with (fail)
  have O0K4 := K3.at 0 rfl
  obtain ⟨T0K4, O0K4⟩ := O0K4
  have K4 : Kept w [(w.heap.size + 1, (fps [p2, q2, r2, s2]))] [(w.heap.size, 64)] w2 := Kept.mks K3.nb (rowsC (K3.at 1 rfl) rows0) (roomsC (by kernel_rfl) O0K4 rooms0)
  refine wp_seq_atS (opsAt Tryd.f20 3) ((false, 0) :: (false, 1) :: []) (Kept w [(w.heap.size + 1, (fps [p2, q2, r2, s2]))] [(w.heap.size, 64)]) (by kernel_rfl) (by kernel_rfl) K4 ?_
  refine k_call (by kernel_rfl) (d := (some 3)) (by kernel_rfl) (f := 55) (args := #[.pointer (some ⟨w.heap.size + 1, 0, none⟩)]) (v := .agg (fps [X.re.val, X.im.val, Y.re.val, Y.im.val])) (fun _ => by kernel_rfl) (plain_c (hm.nb K4.nb) (K4.at 0 rfl) hl2 hz2.out) (fun w5 hb5 => ⟨K4.go hb5, ?_⟩)
  have K5 := K4.go hb5
  have G5_10 := nb_heap O0K4 _ hb5
  have L5 := hb5.size
  refine k_put (by kernel_rfl) (d := none) (by kernel_rfl) (ty := 35) (x := (.tmp 0)) (y := (.tmp 3)) (by kernel_rfl) (g := w.heap.size) (cells := (fps [X.re.val, X.im.val, Y.re.val, Y.im.val])) (by kernel_rfl) (by kernel_rfl) G5_10 (by kernel_rfl) (by kernel_rfl) (all_fps _) (K5.puti (n := 64) (by kernel_rfl) (by omega) (neC (by omega) ne0) (nsE ns0)) ?_
  intro w6 hw6 K6
  have G6_s : w6.heap[w.heap.size]? = some (.cells (fps [X.re.val, X.im.val, Y.re.val, Y.im.val]) _ (0, 0)) := hw6 ▸ setRow_heap _ _ _ _ _ _ G5_10
  have L6 : w5.heap.size ≤ w6.heap.size := by rw [hw6]; exact Nat.le_of_eq (size_setRow _ _ _).symm
  clear hw6
  have K7 : Kept w [(w.heap.size, (fps [X.re.val, X.im.val, Y.re.val, Y.im.val])), (w.heap.size + 1, (fps [p2, q2, r2, s2]))] [] w6 := Kept.zero K6.nb (rowsC ⟨_, G6_s⟩ (rowsC (K6.at 0 rfl) rows0))
  clear O0K4 G6_s G5_10
  refine k_end ?_
  go_simp
  go_wp2_with fail
  obtain ⟨TR, hR⟩ := K7.at 0 rfl
  exact bodyPost_ret_by (results_cell_row rfl _ _ (w.heap.size) _ (fps [X.re.val, X.im.val, Y.re.val, Y.im.val]) _ _ rfl hR Tryd.underlying35 rfl (by kernel_rfl)) rfl ⟨rfl, K7.nb⟩
set_option maxRecDepth 100000 in
set_option maxHeartbeats 1000000 in
theorem implGenerator {w : World} {gx gy : Zq} (hm : ModW w) (hg : 5 ≤ w.heap.size) (hx : AtZ w 2 0 gx) (hy : AtZ w 3 0 gy) :
    Calls Tryd.prog 35 #[] w fun e w' => e = .returned (.agg (fps [gx.re.val, gx.im.val, gy.re.val, gy.im.val])) ∧ Below w.heap.size w w' := by
  go_enter Tryd.func35, Tryd.ntmps35
  go_upto_region 2 with (fail)
  refine wp_gen (fun WW => Kept w [(w.heap.size, (fps [0, 0, 0, 0])), (w.heap.size + 1, (fps [0, 0, 0, 0]))] [] WW) (Kept.zero (nb_alloc (nb_alloc (Below.refl _ _) _) _) (rowsC (row_as (hp2_0 (w := w) _ _) (by kernel_rfl)) (rowsC (row_as (hp2_1 (w := w) _ _) (by kernel_rfl)) rows0))) ?_
  intro W0 K0
  have O1K1 := K0.at 1 rfl
  obtain ⟨T1K1, O1K1⟩ := O1K1
  have K1 : Kept w [(w.heap.size, (fps [0, 0, 0, 0]))] [(w.heap.size + 1, 64)] W0 := Kept.mks K0.nb (rowsC (K0.at 0 rfl) rows0) (roomsC (by kernel_rfl) O1K1 rooms0)
  refine wp_seq_atS (opsAt Tryd.f35 2) ((false, 0) :: []) (Kept w [(w.heap.size, (fps [0, 0, 0, 0]))] [(w.heap.size + 1, 64)]) (by kernel_rfl) (by kernel_rfl) K1 ?_
  refine k_callR (by kernel_rfl) (d := (some 2)) (by kernel_rfl) (f := 69) (args := #[.pointer (some ⟨w.heap.size + 1, 0, none⟩)]) (fun _ => by kernel_rfl) (genP_u (by omega) (hx.nb K1.nb) (hy.nb K1.nb) (row_zero O1K1)) (fun _ w2 ⟨p2, q2, r2, s2, he2, hl2, hz2, hb2⟩ => ⟨_, he2, K1.updz (n := 64) hb2 rfl (by omega) (neC (by omega) ne0) (nsE ns0), ?_⟩)
  have K2 := K1.updz (n := 64) hb2 rfl (by omega) (neC (by omega) ne0) (nsE ns0)
  replace hz2 := Lib.hid hz2
  obtain ⟨TU2, V2_u⟩ := hb2.blk
  have L2 := hb2.size
  have K3 : Kept w [(w.heap.size, (fps [0, 0, 0, 0])), (w.heap.size + 1, (fps [p2, q2, r2, s2]))] [] w2 := Kept.zero K2.nb (rowsC (K2.at 0 rfl) (rowsC ⟨_, V2_u⟩ rows0))
  clear O1K1 V2_u
  refine k_end ?_
  go_simp
  go_upto_region 3 with (fail)
  have O0K4 := K3.at 0 rfl
  obtain ⟨T0K4, O0K4⟩ := O0K4
  have K4 : Kept w [(w.heap.size + 1, (fps [p2, q2, r2, s2]))] [(w.heap.size, 64)] w2 := Kept.mks K3.nb (rowsC (K3.at 1 rfl) rows0) (roomsC (by kernel_rfl) O0K4 rooms0)
  refine wp_seq_atS (opsAt Tryd.f35 3) ((false, 0) :: (false, 1) :: []) (Kept w [(w.heap.size + 1, (fps [p2, q2, r2, s2]))] [(w.heap.size, 64)]) (by kernel_rfl) (by kernel_rfl) K4 ?_
  refine k_call (by kernel_rfl) (d := (some 3)) (by kernel_rfl) (f := 55) (args := #[.pointer (some ⟨w.heap.size + 1, 0, none⟩)]) (v := .agg (fps [gx.re.val, gx.im.val, gy.re.val, gy.im.val])) (fun _ => by kernel_rfl) (plain_c (hm.nb K4.nb) (K4.at 0 rfl) hl2 hz2.out) (fun w5 hb5 => ⟨K4.go hb5, ?_⟩)
  have K5 := K4.go hb5
  have G5_10 := nb_heap O0K4 _ hb5
  have L5 := hb5.size
  refine k_put (by kernel_rfl) (d := none) (by kernel_rfl) (ty := 35) (x := (.tmp 0)) (y := (.tmp 3)) (by kernel_rfl) (g := w.heap.size) (cells := (fps [gx.re.val, gx.im.val, gy.re.val, gy.im.val])) (by kernel_rfl) (by kernel_rfl) G5_10 (by kernel_rfl) (by kernel_rfl) (all_fps _) (K5.puti (n := 64) (by kernel_rfl) (by omega) (neC (by omega) ne0) (nsE ns0)) ?_
  intro w6 hw6 K6
  have G6_s : w6.heap[w.heap.size]? = some (.cells (fps [gx.re.val, gx.im.val, gy.re.val, gy.im.val]) _ (0, 0)) := hw6 ▸ setRow_heap _ _ _ _ _ _ G5_10
  have L6 : w5.heap.size ≤ w6.heap.size := by rw [hw6]; exact Nat.le_of_eq (size_setRow _ _ _).symm
  clear hw6
  have K7 : Kept w [(w.heap.size, (fps [gx.re.val, gx.im.val, gy.re.val, gy.im.val])), (w.heap.size + 1, (fps [p2, q2, r2, s2]))] [] w6 := Kept.zero K6.nb (rowsC ⟨_, G6_s⟩ (rowsC (K6.at 0 rfl) rows0))
  clear O0K4 G6_s G5_10
  refine k_end ?_
  go_simp
  go_wp2_with fail
  obtain ⟨TR, hR⟩ := K7.at 0 rfl
  exact bodyPost_ret_by (results_cell_row rfl _ _ (w.heap.size) _ (fps [gx.re.val, gx.im.val, gy.re.val, gy.im.val]) _ _ rfl hR Tryd.underlying35 rfl (by kernel_rfl)) rfl ⟨rfl, K7.nb⟩
set_option maxRecDepth 100000 in
set_option maxHeartbeats 1000000 in
theorem zzD {w : World} {a b : Nat} (hv : ∃ T, w.heap[0]? = some (.cells (fps [a, b]) T (0, 0))) :
    Calls Tryd.prog 66 #[] w fun e w' => e = .returned (.agg (fps [a, b])) ∧ Below w.heap.size w w' := by
  have HB2 : 0 < w.heap.size := by obtain ⟨T, h⟩ := hv; exact lt_of_heap h
  go_enter Tryd.func66, Tryd.ntmps66
  go_upto_region 1 with (fail)
  refine wp_gen (fun WW => Kept w [(0, (fps [a, b])), (w.heap.size, (fps [0, 0]))] [] WW) (Kept.zero (nb_alloc (Below.refl _ _) _) (rowsC (by obtain ⟨T, h⟩ := hv; exact ⟨T, (hp_alloc h _)⟩) (rowsC (row_as (hp1_0 (w := w) _) (by kernel_rfl)) rows0))) ?_
  intro W0 K0
  have O1K1 := K0.at 1 rfl
  obtain ⟨T1K1, O1K1⟩ := O1K1
  have K1 : Kept w [(0, (fps [a, b]))] [(w.heap.size, 32)] W0 := Kept.mks K0.nb (rowsC (K0.at 0 rfl) rows0) (roomsC (by kernel_rfl) O1K1 rooms0)
  refine wp_seq_atS (opsAt Tryd.f66 1) ((true, 0) :: (false, 1) :: []) (Kept w [(0, (fps [a, b]))] [(w.heap.size, 32)]) (by kernel_rfl) (by kernel_rfl) K1 ?_
  refine k_row (by kernel_rfl) (d := (some 1)) (by kernel_rfl) (ty := 83) (x := (.global 0)) (by kernel_rfl) (b := 0) (by kernel_rfl) (cs := (fps [a, b])) (fun _ hs => hs.at 0 rfl) Tryd.underlying83 rfl (by kernel_rfl) ?_
  refine k_put (by kernel_rfl) (d := none) (by kernel_rfl) (ty := 83) (x := (.tmp 0)) (y := (.tmp 1)) (by kernel_rfl) (g := w.heap.size) (cells := (fps [a, b])) (by kernel_rfl) (by kernel_rfl) O1K1 (by kernel_rfl) (by kernel_rfl) (all_fps _) (K1.puti (n := 32) (by kernel_rfl) (by omega) (neC (by omega) ne0) (nsE ns0)) ?_
  intro w2 hw2 K2
  have G2_s : w2.heap[w.heap.size]? = some (.cells (fps [a, b]) _ (0, 0)) := hw2 ▸ setRow_heap _ _ _ _ _ _ O1K1
  have L2 : W0.heap.size ≤ w2.heap.size := by rw [hw2]; exact Nat.le_of_eq (size_setRow _ _ _).symm
  clear hw2
  have K3 : Kept w [(0, (fps [a, b])), (w.heap.size, (fps [a, b]))] [] w2 := Kept.zero K2.nb (rowsC (K2.at 0 rfl) (rowsC ⟨_, G2_s⟩ rows0))
  clear O1K1 G2_s
  refine k_end ?_
  go_simp
  go_wp2_with fail
  obtain ⟨TR, hR⟩ := K3.at 1 rfl
  exact bodyPost_ret_by (results_cell_row rfl _ _ (w.heap.size) _ (fps [a, b]) _ _ rfl hR Tryd.underlying83 rfl (by kernel_rfl)) rfl ⟨rfl, K3.nb⟩
set_option maxRecDepth 100000 in
set_option maxHeartbeats 1000000 in
theorem implD {w : World} {a b : Nat} {x : Zq} (hm : ModW w) (hv : ∃ T, w.heap[0]? = some (.cells (fps [a, b]) T (0, 0))) (ha : LowB a) (hb : LowB b) (hx : zp a = x.re) (hy : zp b = x.im) :
    Calls Tryd.prog 31 #[] w fun e w' => e = .returned (.agg (fps [x.re.val, x.im.val])) ∧ Below w.heap.size w w' := by
  go_enter Tryd.func31, Tryd.ntmps31
  go_upto_region 1 with (fail)
  refine wp_gen (fun WW => Kept w [(w.heap.size, (fps [0, 0]))] [] WW) (Kept.zero (nb_alloc (Below.refl _ _) _) (rowsC (row_as (hp1_0 (w := w) _) (by kernel_rfl)) rows0)) ?_
  intro W0 K0
  have O0K1 := K0.at 0 rfl
  obtain ⟨T0K1, O0K1⟩ := O0K1
  have K1 : Kept w [] [(w.heap.size, 32)] W0 := Kept.mks K0.nb rows0 (roomsC (by kernel_rfl) O0K1 rooms0)
  refine wp_seq_atS (opsAt Tryd.f31 1) ((false, 0) :: (false, 1) :: (false, 2) :: []) (Kept w [] [(w.heap.size, 32)]) (by kernel_rfl) (by kernel_rfl) K1 ?_
  refine k_call (by kernel_rfl) (d := (some 1)) (by kernel_rfl) (f := 66) (args := #[]) (v := .agg (fps [a, b])) (fun _ => by kernel_rfl) (zzD (by obtain ⟨T, h⟩ := hv; exact ⟨T, nb_heap h _ K1.nb⟩)) (fun w2 hb2 => ⟨K1.go hb2, ?_⟩)
  have K2 := K1.go hb2
  have G2_10 := nb_heap O0K1 _ hb2
  have L2 := hb2.size
  refine k_call (by kernel_rfl) (d := (some 2)) (by kernel_rfl) (f := 62) (args := #[.agg (fps [a, b])]) (v := .agg (fps [x.re.val, x.im.val])) (fun _ => by kernel_rfl) (lowsZ_c (hm.nb K2.nb) ha hb hx hy) (fun w3 hb3 => ⟨K2.go hb3, ?_⟩)
  have K3 := K2.go hb3
  have G3_10 := nb_heap G2_10 _ hb3
  have L3 := hb3.size
  refine k_put (by kernel_rfl) (d := none) (by kernel_rfl) (ty := 33) (x := (.tmp 0)) (y := (.tmp 2)) (by kernel_rfl) (g := w.heap.size) (cells := (fps [x.re.val, x.im.val])) (by kernel_rfl) (by kernel_rfl) G3_10 (by kernel_rfl) (by kernel_rfl) (all_fps _) (K3.puti (n := 32) (by kernel_rfl) (by omega) ne0 (nsE ns0)) ?_
  intro w4 hw4 K4
  have G4_s : w4.heap[w.heap.size]? = some (.cells (fps [x.re.val, x.im.val]) _ (0, 0)) := hw4 ▸ setRow_heap _ _ _ _ _ _ G3_10
  have L4 : w3.heap.size ≤ w4.heap.size := by rw [hw4]; exact Nat.le_of_eq (size_setRow _ _ _).symm
  clear hw4
  have K5 : Kept w [(w.heap.size, (fps [x.re.val, x.im.val]))] [] w4 := Kept.zero K4.nb (rowsC ⟨_, G4_s⟩ rows0)
  clear O0K1 G4_s G3_10 G2_10
  refine k_end ?_
  go_simp
  go_wp2_with fail
  obtain ⟨TR, hR⟩ := K5.at 0 rfl
  exact bodyPost_ret_by (results_cell_row rfl _ _ (w.heap.size) _ (fps [x.re.val, x.im.val]) _ _ rfl hR Tryd.underlying33 rfl (by kernel_rfl)) rfl ⟨rfl, K5.nb⟩
end Go.Proofs.YtfkfljohhabldaaDoor
namespace Go.FourQ
open Go.RowKit
instance (x y : Zq) : Decidable (OnC x y) := inferInstanceAs (Decidable (_ = _))
abbrev P4 := Nat × Nat × Nat × Nat
def P4.l (p : P4) : List Nat := [p.1, p.2.1, p.2.2.1, p.2.2.2]
def fl : List P4 → List Nat
  | [] => []
  | p :: l => p.1 :: p.2.1 :: p.2.2.1 :: p.2.2.2 :: fl l
theorem fl_get : ∀ {l : List P4} {k : Nat} {p : P4}, l[k]? = some p → ∀ i x, p.l[i]? = some x → (fl l)[4 * k + i]? = some x
  | [], k, p, h => by simp at h
  | q :: l, 0, p, h => fun i x hx => by
    obtain rfl : q = p := by simpa using h
    rw [Nat.mul_zero, Nat.zero_add]
    rcases i with _ | _ | _ | _ | i
    · exact hx
    · exact hx
    · exact hx
    · exact hx
    · simp [P4.l] at hx
  | q :: l, k + 1, p, h => fun i x hx => by
    have := fl_get (l := l) (k := k) (p := p) (by simpa using h) i x hx
    rw [show 4 * (k + 1) + i = 4 * k + i + 1 + 1 + 1 + 1 by omega]
    exact this
/-- Canonical coordinates of a point. -/
def onB (p : P4) : Bool := decide ((p.1 = (zp p.1).val ∧ p.2.1 = (zp p.2.1).val) ∧ (p.2.2.1 = (zp p.2.2.1).val ∧ p.2.2.2 = (zp p.2.2.2).val) ∧ OnC ⟨zp p.1, zp p.2.1⟩ ⟨zp p.2.2.1, zp p.2.2.2⟩)
def onAll (l : List P4) : Bool := l.all onB
theorem onAll_drop {l : List P4} {k : Nat} {p : P4} (h : l[k]? = some p) : onAll (l.drop k) = (onB p && onAll (l.drop (k + 1))) := by
  have hk := (List.getElem?_eq_some_iff.1 h).1
  rw [List.drop_eq_getElem_cons hk]
  have e : l[k] = p := by rw [List.getElem?_eq_getElem hk] at h; exact Option.some.inj h
  rw [e]; rfl
end Go.FourQ
namespace Go.Proofs.YtfkfljohhabldaaDoor
open Go.RowKit Go.FourQ
theorem isQ_f {w : World} {a b : Nat} {x : Zq} (ha : a < 256 ^ 16) (hb : b < 256 ^ 16) (h : ¬ (a = x.re.val ∧ b = x.im.val)) :
    Calls Tryd.prog 30 #[.agg (fps [a, b]), .agg (dgQ x.re.val x.im.val)] w fun e w' => e = .returned (.bool false) ∧ Below w.heap.size w w' := by
  have := isQ_c (w := w) (x0 := x.re) (x1 := x.im) ha hb
  have e : (decide (a = x.re.val) && decide (b = x.im.val)) = false := by
    rw [← Bool.not_eq_true, Bool.and_eq_true, decide_eq_true_eq, decide_eq_true_eq]; exact h
  rwa [e] at this
set_option maxRecDepth 100000 in
set_option maxHeartbeats 1000000 in
theorem told_t {w : World} {x y X Y Z : Zq} (h1 : x * Z = X) (h2 : y * Z = Y) :
    Calls Tryd.prog 21 #[.agg (fps [x.re.val, x.im.val, y.re.val, y.im.val]), .agg (dgL [X.re.val, X.im.val, Y.re.val, Y.im.val, Z.re.val, Z.im.val])] w fun e w' => e = .returned (.bool true) ∧ Below w.heap.size w w' := by
  go_enter Tryd.func21, Tryd.ntmps21
  go_upto_region 1 with (fail)
  refine wp_gen (fun WW => Kept w [(w.heap.size, (fps [x.re.val, x.im.val, y.re.val, y.im.val])), (w.heap.size + 1, (dgL [X.re.val, X.im.val, Y.re.val, Y.im.val, Z.re.val, Z.im.val]))] [] WW) (Kept.zero (nb_alloc (nb_alloc (Below.refl _ _) _) _) (rowsC (row_as (hp2_0 (w := w) _ _) (by kernel_rfl)) (rowsC (row_as (hp2_1 (w := w) _ _) (by kernel_rfl)) rows0))) ?_
  intro W0 K0
  have K1 : Kept w [(w.heap.size, (fps [x.re.val, x.im.val, y.re.val, y.im.val])), (w.heap.size + 1, (dgL [X.re.val, X.im.val, Y.re.val, Y.im.val, Z.re.val, Z.im.val]))] [] W0 := Kept.mks K0.nb (rowsC (K0.at 0 rfl) (rowsC (K0.at 1 rfl) rows0)) rooms0
  refine wp_region_atS (opsAt Tryd.f21 1) ((true, 0) :: (true, 1) :: (true, 2) :: (true, 3) :: (false, 4) :: (false, 5) :: (true, 6) :: (true, 7) :: (true, 8) :: (true, 9) :: (true, 10) :: (false, 11) :: (false, 12) :: (true, 13) :: (true, 14) :: (true, 15) :: (true, 16) :: (true, 17) :: (true, 19) :: (true, 20) :: (false, 18) :: (false, 21) :: (false, 22) :: (true, 23) :: (true, 24) :: []) (Kept w [(w.heap.size, (fps [x.re.val, x.im.val, y.re.val, y.im.val])), (w.heap.size + 1, (dgL [X.re.val, X.im.val, Y.re.val, Y.im.val, Z.re.val, Z.im.val]))] []) (by kernel_rfl) rfl (by kernel_rfl) (fun _ _ d _ _ h => by cases d <;> exact h) (by kernel_rfl) (by kernel_rfl) K1.drew ?_
  have K2 := K1.drew
  have DK2 : W0.heap.size ≤ W0.drew.heap.size := Nat.le_refl _
  refine k_pure (by kernel_rfl) (d := (some 5)) (by kernel_rfl) (v := .pointer (some ⟨w.heap.size, 0, none⟩)) (fun _ => by kernel_rfl) ?_
  refine k_part (by kernel_rfl) (d := (some 6)) (by kernel_rfl) (ty := 33) (x := (.tmp 5)) (by kernel_rfl) (b := w.heap.size) (off := 0) (by kernel_rfl) (all := (fps [x.re.val, x.im.val, y.re.val, y.im.val])) (cs := (fps [x.re.val, x.im.val])) (fun _ hs => hs.at 0 rfl) (fpsub2 (k := 0) rfl rfl) Tryd.underlying33 rfl (by kernel_rfl) ?_
  refine k_pure (by kernel_rfl) (d := (some 7)) (by kernel_rfl) (v := .pointer (some ⟨w.heap.size, 0, none⟩)) (fun _ => by kernel_rfl) ?_
  refine k_part (by kernel_rfl) (d := (some 8)) (by kernel_rfl) (ty := 33) (x := (.tmp 7)) (by kernel_rfl) (b := w.heap.size) (off := 0) (by kernel_rfl) (all := (fps [x.re.val, x.im.val, y.re.val, y.im.val])) (cs := (fps [x.re.val, x.im.val])) (fun _ hs => hs.at 0 rfl) (fpsub2 (k := 0) rfl rfl) Tryd.underlying33 rfl (by kernel_rfl) ?_
  refine k_call (by kernel_rfl) (d := (some 9)) (by kernel_rfl) (f := 19) (args := #[.agg (fps [x.re.val, x.im.val])]) (v := .agg (dgQ x.re.val x.im.val)) (fun _ => by kernel_rfl) (ofQ_q) (fun w3 hb3 => ⟨K2.go hb3, ?_⟩)
  have K3 := K2.go hb3
  have L3 := hb3.size
  refine k_call (by kernel_rfl) (d := (some 10)) (by kernel_rfl) (f := 30) (args := #[.agg (fps [x.re.val, x.im.val]), .agg (dgQ x.re.val x.im.val)]) (v := .bool true) (fun _ => by kernel_rfl) (isQ_true rfl rfl) (fun w4 hb4 => ⟨K3.go hb4, ?_⟩)
  have K4 := K3.go hb4
  have L4 := hb4.size
  refine k_pure (by kernel_rfl) (d := (some 11)) (by kernel_rfl) (v := .bool true) (fun _ => by kernel_rfl) ?_
  refine k_pure (by kernel_rfl) (d := (some 12)) (by kernel_rfl) (v := .pointer (some ⟨w.heap.size, 32, none⟩)) (fun _ => by kernel_rfl) ?_
  refine k_part (by kernel_rfl) (d := (some 13)) (by kernel_rfl) (ty := 33) (x := (.tmp 12)) (by kernel_rfl) (b := w.heap.size) (off := 32) (by kernel_rfl) (all := (fps [x.re.val, x.im.val, y.re.val, y.im.val])) (cs := (fps [y.re.val, y.im.val])) (fun _ hs => hs.at 0 rfl) (fpsub2 (k := 2) rfl rfl) Tryd.underlying33 rfl (by kernel_rfl) ?_
  refine k_pure (by kernel_rfl) (d := (some 14)) (by kernel_rfl) (v := .pointer (some ⟨w.heap.size, 32, none⟩)) (fun _ => by kernel_rfl) ?_
  refine k_part (by kernel_rfl) (d := (some 15)) (by kernel_rfl) (ty := 33) (x := (.tmp 14)) (by kernel_rfl) (b := w.heap.size) (off := 32) (by kernel_rfl) (all := (fps [x.re.val, x.im.val, y.re.val, y.im.val])) (cs := (fps [y.re.val, y.im.val])) (fun _ hs => hs.at 0 rfl) (fpsub2 (k := 2) rfl rfl) Tryd.underlying33 rfl (by kernel_rfl) ?_
  refine k_call (by kernel_rfl) (d := (some 16)) (by kernel_rfl) (f := 19) (args := #[.agg (fps [y.re.val, y.im.val])]) (v := .agg (dgQ y.re.val y.im.val)) (fun _ => by kernel_rfl) (ofQ_q) (fun w5 hb5 => ⟨K4.go hb5, ?_⟩)
  have K5 := K4.go hb5
  have L5 := hb5.size
  refine k_call (by kernel_rfl) (d := (some 17)) (by kernel_rfl) (f := 30) (args := #[.agg (fps [y.re.val, y.im.val]), .agg (dgQ y.re.val y.im.val)]) (v := .bool true) (fun _ => by kernel_rfl) (isQ_true rfl rfl) (fun w6 hb6 => ⟨K5.go hb6, ?_⟩)
  have K6 := K5.go hb6
  have L6 := hb6.size
  refine k_pure (by kernel_rfl) (d := (some 18)) (by kernel_rfl) (v := .bool true) (fun _ => by kernel_rfl) ?_
  refine k_pure (by kernel_rfl) (d := (some 19)) (by kernel_rfl) (v := .bool true) (fun _ => by kernel_rfl) ?_
  refine k_row (by kernel_rfl) (d := (some 20)) (by kernel_rfl) (ty := 41) (x := (.tmp 3)) (by kernel_rfl) (b := w.heap.size + 1) (by kernel_rfl) (cs := (dgL [X.re.val, X.im.val, Y.re.val, Y.im.val, Z.re.val, Z.im.val])) (fun _ hs => hs.at 1 rfl) Tryd.underlying41 rfl (by kernel_rfl) ?_
  refine k_pure (by kernel_rfl) (d := (some 21)) (by kernel_rfl) (v := .pointer (some ⟨w.heap.size, 0, none⟩)) (fun _ => by kernel_rfl) ?_
  refine k_part (by kernel_rfl) (d := (some 22)) (by kernel_rfl) (ty := 33) (x := (.tmp 21)) (by kernel_rfl) (b := w.heap.size) (off := 0) (by kernel_rfl) (all := (fps [x.re.val, x.im.val, y.re.val, y.im.val])) (cs := (fps [x.re.val, x.im.val])) (fun _ hs => hs.at 0 rfl) (fpsub2 (k := 0) rfl rfl) Tryd.underlying33 rfl (by kernel_rfl) ?_
  refine k_pure (by kernel_rfl) (d := (some 24)) (by kernel_rfl) (v := .pointer (some ⟨w.heap.size, 32, none⟩)) (fun _ => by kernel_rfl) ?_
  refine k_part (by kernel_rfl) (d := (some 25)) (by kernel_rfl) (ty := 33) (x := (.tmp 24)) (by kernel_rfl) (b := w.heap.size) (off := 32) (by kernel_rfl) (all := (fps [x.re.val, x.im.val, y.re.val, y.im.val])) (cs := (fps [y.re.val, y.im.val])) (fun _ hs => hs.at 0 rfl) (fpsub2 (k := 2) rfl rfl) Tryd.underlying33 rfl (by kernel_rfl) ?_
  refine k_call (by kernel_rfl) (d := (some 23)) (by kernel_rfl) (f := 19) (args := #[.agg (fps [x.re.val, x.im.val])]) (v := .agg (dgQ x.re.val x.im.val)) (fun _ => by kernel_rfl) (ofQ_q) (fun w7 hb7 => ⟨K6.go hb7, ?_⟩)
  have K7 := K6.go hb7
  have L7 := hb7.size
  refine k_call (by kernel_rfl) (d := (some 26)) (by kernel_rfl) (f := 19) (args := #[.agg (fps [y.re.val, y.im.val])]) (v := .agg (dgQ y.re.val y.im.val)) (fun _ => by kernel_rfl) (ofQ_q) (fun w8 hb8 => ⟨K7.go hb8, ?_⟩)
  have K8 := K7.go hb8
  have L8 := hb8.size
  refine k_call (by kernel_rfl) (d := (some 27)) (by kernel_rfl) (f := 18) (args := #[.agg (dgL [X.re.val, X.im.val, Y.re.val, Y.im.val, Z.re.val, Z.im.val]), .agg (dgQ x.re.val x.im.val), .agg (dgQ y.re.val y.im.val)]) (v := .bool true) (fun _ => by kernel_rfl) (isP0 h1 h2) (fun w9 hb9 => ⟨K8.go hb9, ?_⟩)
  have K9 := K8.go hb9
  have L9 := hb9.size
  refine k_pure (by kernel_rfl) (d := (some 28)) (by kernel_rfl) (v := .bool true) (fun _ => by kernel_rfl) ?_
  refine k_pure (by kernel_rfl) (d := (some 4)) (by kernel_rfl) (v := .bool true) (fun _ => by kernel_rfl) ?_
  have K10 : Kept w [(w.heap.size, (fps [x.re.val, x.im.val, y.re.val, y.im.val])), (w.heap.size + 1, (dgL [X.re.val, X.im.val, Y.re.val, Y.im.val, Z.re.val, Z.im.val]))] [] w9 := Kept.zero K9.nb (rowsC (K9.at 0 rfl) (rowsC (K9.at 1 rfl) rows0))
  refine k_end ?_
  go_simp
  go_wp2_with fail
  exact bodyPost_ret_by (by kernel_rfl) (by kernel_rfl) ⟨rfl, K10.nb⟩
set_option maxRecDepth 100000 in
set_option maxHeartbeats 4000000 in
theorem on_c {w : World} {b0 : Nat} {l : List P4} (h : Fps w b0 (fl l)) (hl : ∀ p ∈ l, p.1 < 256 ^ 16 ∧ p.2.1 < 256 ^ 16 ∧ p.2.2.1 < 256 ^ 16 ∧ p.2.2.2 < 256 ^ 16) (hlen : l.length < 1000) :
    Calls Tryd.prog 15 #[.slice (some ⟨b0, 0, none⟩) l.length l.length] w fun e w' => e = .returned (.bool (onAll l)) ∧ Below w.heap.size w w' := by
  have HL := Lib.hid hl
  obtain ⟨r, hr⟩ : ∃ r, onAll l = r := ⟨_, rfl⟩
  rw [hr]
  have HR := Lib.hid hr
  clear hr hl
  go_enter Tryd.func15, Tryd.ntmps15
  go_wp2_with fail
  go_loopw [7] (fun i wr => ∃ k : Nat, k ≤ l.length ∧ i = .int .i64 k ∧ Below w.heap.size w wr ∧ Hid (onAll (l.drop k) = r)) (fun i _ => l.length - (intOf i).toNat)
  case atStart => exact ⟨0, Nat.zero_le _, rfl, Below.refl _ _, HR.out⟩
  case round =>
    obtain ⟨k, hk, rfl, hbel, hr⟩ := hrel
    by_cases hlt : k < l.length
    · obtain ⟨⟨a, b, c, d⟩, hx⟩ : ∃ x, l[k]? = some x := ⟨_, List.getElem?_eq_getElem hlt⟩
      obtain ⟨ha, hb, hc, hd⟩ := HL.out _ (List.mem_of_getElem? hx)
      have hdr := onAll_drop hx
      rw [hr.out] at hdr
      have hf : Fps wr b0 (fl l) := h.of_heap (hbel.block b0 h.lt)
      have hcell : ∀ j v, (fps [a, b, c, d])[j]? = some v → wr.cell? ⟨b0, k * 64 + j, none⟩ = some v := hf.cells (k := 4 * k) (by omega) (fun i x hi => fl_get hx i x hi)
      have HC := Lib.hid hcell
      have HRT := Lib.hid hr.out
      clear hcell hf hx hr
      obtain ⟨X, eX⟩ : ∃ X : Zq, X = ⟨zp a, zp b⟩ := ⟨_, rfl⟩
      obtain ⟨Y, eY⟩ : ∃ Y : Zq, Y = ⟨zp c, zp d⟩ := ⟨_, rfl⟩
      have OX := fun {w : World} => ofQ_b (w := w) ha hb eX
      have OY := fun {w : World} => ofQ_b (w := w) hc hd eY
      have eB : onB (a, b, c, d) = decide ((a = X.re.val ∧ b = X.im.val) ∧ (c = Y.re.val ∧ d = Y.im.val) ∧ OnC X Y) := by subst eX eY; rfl
      have HB := Lib.hid eB; have HDR := Lib.hid hdr
      clear eX eY eB hdr
      by_cases hX : a = X.re.val ∧ b = X.im.val
      · by_cases hY : c = Y.re.val ∧ d = Y.im.val
        · by_cases hP : OnC X Y
          · have HDL : Hid (onAll (l.drop (k + 1)) = r) := Lib.hid (by rw [HDR.out, HB.out, decide_eq_true ⟨hX, hY, hP⟩, Bool.true_and])
            have HX := Lib.hid hX; have HY := Lib.hid hY
            clear hX hY
            go_upto_region 4 with (first | (refine wpList_load_at rfl 35 _ rfl b0 (k * 64) rfl (fps [a, b, c, d]) _ HC.out Tryd.underlying35 rfl (by kernel_rfl) ?_) | (refine wpList_store_row rfl 35 _ _ rfl _ (fps [a, b, c, d]) rfl rfl _ _ (heap_alloc_new _ _) (by kernel_rfl) (by kernel_rfl) (all_fps _) ?_; rw [setRow_alloc_new]))
            obtain ⟨WB, hWB⟩ : ∃ WB : World, WB = wr := ⟨_, rfl⟩
            have HWB := Lib.hid hWB
            clear hWB
            refine wp_gen (fun W => Kept WB [(wr.heap.size, (fps [a, b, c, d]))] [] W) (HWB.out ▸ Kept.zero (nb_alloc (Below.refl _ _) _) (rowsC ⟨_, heap_alloc_new _ _⟩ rows0)) ?_
            intro W0 K0
            have K11 : Kept WB [(wr.heap.size, (fps [a, b, c, d]))] [] W0 := Kept.mks K0.nb (rowsC (K0.at 0 rfl) rows0) rooms0
            refine wp_region_atS (opsAt Tryd.f15 4) ((true, 0) :: (true, 1) :: (true, 2) :: (true, 3) :: (false, 4) :: (false, 5) :: (true, 6) :: (true, 7) :: (true, 8) :: (true, 9) :: (true, 10) :: (true, 11) :: (false, 12) :: (false, 13) :: (true, 14) :: (true, 15) :: (true, 16) :: (true, 17) :: (true, 18) :: (true, 20) :: (true, 21) :: (false, 19) :: (false, 22) :: (false, 23) :: (true, 24) :: (true, 25) :: []) (Kept WB [(wr.heap.size, (fps [a, b, c, d]))] []) (by kernel_rfl) rfl (by kernel_rfl) (fun _ _ d _ _ h => by cases d <;> exact h) (by kernel_rfl) (by kernel_rfl) K11.drew ?_
            have K12 := K11.drew
            have DK12 : W0.heap.size ≤ W0.drew.heap.size := Nat.le_refl _
            refine k_pure (by kernel_rfl) (d := (some 11)) (by kernel_rfl) (v := .pointer (some ⟨wr.heap.size, 0, none⟩)) (fun _ => by kernel_rfl) ?_
            refine k_part (by kernel_rfl) (d := (some 12)) (by kernel_rfl) (ty := 33) (x := (.tmp 11)) (by kernel_rfl) (b := wr.heap.size) (off := 0) (by kernel_rfl) (all := (fps [a, b, c, d])) (cs := (fps [a, b])) (fun _ hs => hs.at 0 rfl) (fpsub2 (k := 0) rfl rfl) Tryd.underlying33 rfl (by kernel_rfl) ?_
            refine k_pure (by kernel_rfl) (d := (some 13)) (by kernel_rfl) (v := .pointer (some ⟨wr.heap.size, 0, none⟩)) (fun _ => by kernel_rfl) ?_
            refine k_part (by kernel_rfl) (d := (some 14)) (by kernel_rfl) (ty := 33) (x := (.tmp 13)) (by kernel_rfl) (b := wr.heap.size) (off := 0) (by kernel_rfl) (all := (fps [a, b, c, d])) (cs := (fps [a, b])) (fun _ hs => hs.at 0 rfl) (fpsub2 (k := 0) rfl rfl) Tryd.underlying33 rfl (by kernel_rfl) ?_
            refine k_call (by kernel_rfl) (d := (some 15)) (by kernel_rfl) (f := 19) (args := #[.agg (fps [a, b])]) (v := .agg (dgQ X.re.val X.im.val)) (fun _ => by kernel_rfl) (OX) (fun w13 hb13 => ⟨K12.go hb13, ?_⟩)
            have K13 := K12.go hb13
            have L13 := hb13.size
            refine k_call (by kernel_rfl) (d := (some 16)) (by kernel_rfl) (f := 30) (args := #[.agg (fps [a, b]), .agg (dgQ X.re.val X.im.val)]) (v := .bool true) (fun _ => by kernel_rfl) (isQ_true HX.out.1 HX.out.2) (fun w14 hb14 => ⟨K13.go hb14, ?_⟩)
            have K14 := K13.go hb14
            have L14 := hb14.size
            refine k_pure (by kernel_rfl) (d := (some 17)) (by kernel_rfl) (v := .bool false) (fun _ => by kernel_rfl) ?_
            refine k_pure (by kernel_rfl) (d := (some 18)) (by kernel_rfl) (v := .bool false) (fun _ => by kernel_rfl) ?_
            refine k_pure (by kernel_rfl) (d := (some 19)) (by kernel_rfl) (v := .pointer (some ⟨wr.heap.size, 32, none⟩)) (fun _ => by kernel_rfl) ?_
            refine k_part (by kernel_rfl) (d := (some 20)) (by kernel_rfl) (ty := 33) (x := (.tmp 19)) (by kernel_rfl) (b := wr.heap.size) (off := 32) (by kernel_rfl) (all := (fps [a, b, c, d])) (cs := (fps [c, d])) (fun _ hs => hs.at 0 rfl) (fpsub2 (k := 2) rfl rfl) Tryd.underlying33 rfl (by kernel_rfl) ?_
            refine k_pure (by kernel_rfl) (d := (some 21)) (by kernel_rfl) (v := .pointer (some ⟨wr.heap.size, 32, none⟩)) (fun _ => by kernel_rfl) ?_
            refine k_part (by kernel_rfl) (d := (some 22)) (by kernel_rfl) (ty := 33) (x := (.tmp 21)) (by kernel_rfl) (b := wr.heap.size) (off := 32) (by kernel_rfl) (all := (fps [a, b, c, d])) (cs := (fps [c, d])) (fun _ hs => hs.at 0 rfl) (fpsub2 (k := 2) rfl rfl) Tryd.underlying33 rfl (by kernel_rfl) ?_
            refine k_call (by kernel_rfl) (d := (some 23)) (by kernel_rfl) (f := 19) (args := #[.agg (fps [c, d])]) (v := .agg (dgQ Y.re.val Y.im.val)) (fun _ => by kernel_rfl) (OY) (fun w15 hb15 => ⟨K14.go hb15, ?_⟩)
            have K15 := K14.go hb15
            have L15 := hb15.size
            refine k_call (by kernel_rfl) (d := (some 24)) (by kernel_rfl) (f := 30) (args := #[.agg (fps [c, d]), .agg (dgQ Y.re.val Y.im.val)]) (v := .bool true) (fun _ => by kernel_rfl) (isQ_true HY.out.1 HY.out.2) (fun w16 hb16 => ⟨K15.go hb16, ?_⟩)
            have K16 := K15.go hb16
            have L16 := hb16.size
            refine k_pure (by kernel_rfl) (d := (some 25)) (by kernel_rfl) (v := .bool false) (fun _ => by kernel_rfl) ?_
            refine k_pure (by kernel_rfl) (d := (some 26)) (by kernel_rfl) (v := .bool false) (fun _ => by kernel_rfl) ?_
            refine k_pure (by kernel_rfl) (d := (some 27)) (by kernel_rfl) (v := .bool false) (fun _ => by kernel_rfl) ?_
            refine k_pure (by kernel_rfl) (d := (some 28)) (by kernel_rfl) (v := .pointer (some ⟨wr.heap.size, 0, none⟩)) (fun _ => by kernel_rfl) ?_
            refine k_part (by kernel_rfl) (d := (some 29)) (by kernel_rfl) (ty := 33) (x := (.tmp 28)) (by kernel_rfl) (b := wr.heap.size) (off := 0) (by kernel_rfl) (all := (fps [a, b, c, d])) (cs := (fps [a, b])) (fun _ hs => hs.at 0 rfl) (fpsub2 (k := 0) rfl rfl) Tryd.underlying33 rfl (by kernel_rfl) ?_
            refine k_pure (by kernel_rfl) (d := (some 31)) (by kernel_rfl) (v := .pointer (some ⟨wr.heap.size, 32, none⟩)) (fun _ => by kernel_rfl) ?_
            refine k_part (by kernel_rfl) (d := (some 32)) (by kernel_rfl) (ty := 33) (x := (.tmp 31)) (by kernel_rfl) (b := wr.heap.size) (off := 32) (by kernel_rfl) (all := (fps [a, b, c, d])) (cs := (fps [c, d])) (fun _ hs => hs.at 0 rfl) (fpsub2 (k := 2) rfl rfl) Tryd.underlying33 rfl (by kernel_rfl) ?_
            refine k_call (by kernel_rfl) (d := (some 30)) (by kernel_rfl) (f := 19) (args := #[.agg (fps [a, b])]) (v := .agg (dgQ X.re.val X.im.val)) (fun _ => by kernel_rfl) (OX) (fun w17 hb17 => ⟨K16.go hb17, ?_⟩)
            have K17 := K16.go hb17
            have L17 := hb17.size
            refine k_call (by kernel_rfl) (d := (some 33)) (by kernel_rfl) (f := 19) (args := #[.agg (fps [c, d])]) (v := .agg (dgQ Y.re.val Y.im.val)) (fun _ => by kernel_rfl) (OY) (fun w18 hb18 => ⟨K17.go hb18, ?_⟩)
            have K18 := K17.go hb18
            have L18 := hb18.size
            refine k_call (by kernel_rfl) (d := (some 34)) (by kernel_rfl) (f := 38) (args := #[.agg (dgQ X.re.val X.im.val), .agg (dgQ Y.re.val Y.im.val)]) (v := .bool true) (fun _ => by kernel_rfl) (isPoint_t hP) (fun w19 hb19 => ⟨K18.go hb19, ?_⟩)
            have K19 := K18.go hb19
            have L19 := hb19.size
            refine k_pure (by kernel_rfl) (d := (some 35)) (by kernel_rfl) (v := .bool false) (fun _ => by kernel_rfl) ?_
            refine k_pure (by kernel_rfl) (d := (some 36)) (by kernel_rfl) (v := .bool false) (fun _ => by kernel_rfl) ?_
            have K20 : Kept WB [(wr.heap.size, (fps [a, b, c, d]))] [] w19 := Kept.zero K19.nb (rowsC (K19.at 0 rfl) rows0)
            refine k_end ?_
            go_simp
            go_wp2_with fail
            exact ⟨⟨k + 1, by omega, by go_num, hbel.trans ((HWB.out ▸ K20.nb).mono hbel.size), HDL.out⟩, by simp [intOf]; omega⟩
          · have hrf : r = false := by rw [HDR.out, HB.out, decide_eq_false (fun h => hP h.2.2), Bool.false_and]
            subst hrf
            have HX := Lib.hid hX; have HY := Lib.hid hY
            clear hX hY
            go_upto_region 4 with (first | (refine wpList_load_at rfl 35 _ rfl b0 (k * 64) rfl (fps [a, b, c, d]) _ HC.out Tryd.underlying35 rfl (by kernel_rfl) ?_) | (refine wpList_store_row rfl 35 _ _ rfl _ (fps [a, b, c, d]) rfl rfl _ _ (heap_alloc_new _ _) (by kernel_rfl) (by kernel_rfl) (all_fps _) ?_; rw [setRow_alloc_new]))
            obtain ⟨WB, hWB⟩ : ∃ WB : World, WB = wr := ⟨_, rfl⟩
            have HWB := Lib.hid hWB
            clear hWB
            refine wp_gen (fun W => Kept WB [(wr.heap.size, (fps [a, b, c, d]))] [] W) (HWB.out ▸ Kept.zero (nb_alloc (Below.refl _ _) _) (rowsC ⟨_, heap_alloc_new _ _⟩ rows0)) ?_
            intro W0 K0
            have K11 : Kept WB [(wr.heap.size, (fps [a, b, c, d]))] [] W0 := Kept.mks K0.nb (rowsC (K0.at 0 rfl) rows0) rooms0
            refine wp_region_atS (opsAt Tryd.f15 4) ((true, 0) :: (true, 1) :: (true, 2) :: (true, 3) :: (false, 4) :: (false, 5) :: (true, 6) :: (true, 7) :: (true, 8) :: (true, 9) :: (true, 10) :: (true, 11) :: (false, 12) :: (false, 13) :: (true, 14) :: (true, 15) :: (true, 16) :: (true, 17) :: (true, 18) :: (true, 20) :: (true, 21) :: (false, 19) :: (false, 22) :: (false, 23) :: (true, 24) :: (true, 25) :: []) (Kept WB [(wr.heap.size, (fps [a, b, c, d]))] []) (by kernel_rfl) rfl (by kernel_rfl) (fun _ _ d _ _ h => by cases d <;> exact h) (by kernel_rfl) (by kernel_rfl) K11.drew ?_
            have K12 := K11.drew
            have DK12 : W0.heap.size ≤ W0.drew.heap.size := Nat.le_refl _
            refine k_pure (by kernel_rfl) (d := (some 11)) (by kernel_rfl) (v := .pointer (some ⟨wr.heap.size, 0, none⟩)) (fun _ => by kernel_rfl) ?_
            refine k_part (by kernel_rfl) (d := (some 12)) (by kernel_rfl) (ty := 33) (x := (.tmp 11)) (by kernel_rfl) (b := wr.heap.size) (off := 0) (by kernel_rfl) (all := (fps [a, b, c, d])) (cs := (fps [a, b])) (fun _ hs => hs.at 0 rfl) (fpsub2 (k := 0) rfl rfl) Tryd.underlying33 rfl (by kernel_rfl) ?_
            refine k_pure (by kernel_rfl) (d := (some 13)) (by kernel_rfl) (v := .pointer (some ⟨wr.heap.size, 0, none⟩)) (fun _ => by kernel_rfl) ?_
            refine k_part (by kernel_rfl) (d := (some 14)) (by kernel_rfl) (ty := 33) (x := (.tmp 13)) (by kernel_rfl) (b := wr.heap.size) (off := 0) (by kernel_rfl) (all := (fps [a, b, c, d])) (cs := (fps [a, b])) (fun _ hs => hs.at 0 rfl) (fpsub2 (k := 0) rfl rfl) Tryd.underlying33 rfl (by kernel_rfl) ?_
            refine k_call (by kernel_rfl) (d := (some 15)) (by kernel_rfl) (f := 19) (args := #[.agg (fps [a, b])]) (v := .agg (dgQ X.re.val X.im.val)) (fun _ => by kernel_rfl) (OX) (fun w13 hb13 => ⟨K12.go hb13, ?_⟩)
            have K13 := K12.go hb13
            have L13 := hb13.size
            refine k_call (by kernel_rfl) (d := (some 16)) (by kernel_rfl) (f := 30) (args := #[.agg (fps [a, b]), .agg (dgQ X.re.val X.im.val)]) (v := .bool true) (fun _ => by kernel_rfl) (isQ_true HX.out.1 HX.out.2) (fun w14 hb14 => ⟨K13.go hb14, ?_⟩)
            have K14 := K13.go hb14
            have L14 := hb14.size
            refine k_pure (by kernel_rfl) (d := (some 17)) (by kernel_rfl) (v := .bool false) (fun _ => by kernel_rfl) ?_
            refine k_pure (by kernel_rfl) (d := (some 18)) (by kernel_rfl) (v := .bool false) (fun _ => by kernel_rfl) ?_
            refine k_pure (by kernel_rfl) (d := (some 19)) (by kernel_rfl) (v := .pointer (some ⟨wr.heap.size, 32, none⟩)) (fun _ => by kernel_rfl) ?_
            refine k_part (by kernel_rfl) (d := (some 20)) (by kernel_rfl) (ty := 33) (x := (.tmp 19)) (by kernel_rfl) (b := wr.heap.size) (off := 32) (by kernel_rfl) (all := (fps [a, b, c, d])) (cs := (fps [c, d])) (fun _ hs => hs.at 0 rfl) (fpsub2 (k := 2) rfl rfl) Tryd.underlying33 rfl (by kernel_rfl) ?_
            refine k_pure (by kernel_rfl) (d := (some 21)) (by kernel_rfl) (v := .pointer (some ⟨wr.heap.size, 32, none⟩)) (fun _ => by kernel_rfl) ?_
            refine k_part (by kernel_rfl) (d := (some 22)) (by kernel_rfl) (ty := 33) (x := (.tmp 21)) (by kernel_rfl) (b := wr.heap.size) (off := 32) (by kernel_rfl) (all := (fps [a, b, c, d])) (cs := (fps [c, d])) (fun _ hs => hs.at 0 rfl) (fpsub2 (k := 2) rfl rfl) Tryd.underlying33 rfl (by kernel_rfl) ?_
            refine k_call (by kernel_rfl) (d := (some 23)) (by kernel_rfl) (f := 19) (args := #[.agg (fps [c, d])]) (v := .agg (dgQ Y.re.val Y.im.val)) (fun _ => by kernel_rfl) (OY) (fun w15 hb15 => ⟨K14.go hb15, ?_⟩)
            have K15 := K14.go hb15
            have L15 := hb15.size
            refine k_call (by kernel_rfl) (d := (some 24)) (by kernel_rfl) (f := 30) (args := #[.agg (fps [c, d]), .agg (dgQ Y.re.val Y.im.val)]) (v := .bool true) (fun _ => by kernel_rfl) (isQ_true HY.out.1 HY.out.2) (fun w16 hb16 => ⟨K15.go hb16, ?_⟩)
            have K16 := K15.go hb16
            have L16 := hb16.size
            refine k_pure (by kernel_rfl) (d := (some 25)) (by kernel_rfl) (v := .bool false) (fun _ => by kernel_rfl) ?_
            refine k_pure (by kernel_rfl) (d := (some 26)) (by kernel_rfl) (v := .bool false) (fun _ => by kernel_rfl) ?_
            refine k_pure (by kernel_rfl) (d := (some 27)) (by kernel_rfl) (v := .bool false) (fun _ => by kernel_rfl) ?_
            refine k_pure (by kernel_rfl) (d := (some 28)) (by kernel_rfl) (v := .pointer (some ⟨wr.heap.size, 0, none⟩)) (fun _ => by kernel_rfl) ?_
            refine k_part (by kernel_rfl) (d := (some 29)) (by kernel_rfl) (ty := 33) (x := (.tmp 28)) (by kernel_rfl) (b := wr.heap.size) (off := 0) (by kernel_rfl) (all := (fps [a, b, c, d])) (cs := (fps [a, b])) (fun _ hs => hs.at 0 rfl) (fpsub2 (k := 0) rfl rfl) Tryd.underlying33 rfl (by kernel_rfl) ?_
            refine k_pure (by kernel_rfl) (d := (some 31)) (by kernel_rfl) (v := .pointer (some ⟨wr.heap.size, 32, none⟩)) (fun _ => by kernel_rfl) ?_
            refine k_part (by kernel_rfl) (d := (some 32)) (by kernel_rfl) (ty := 33) (x := (.tmp 31)) (by kernel_rfl) (b := wr.heap.size) (off := 32) (by kernel_rfl) (all := (fps [a, b, c, d])) (cs := (fps [c, d])) (fun _ hs => hs.at 0 rfl) (fpsub2 (k := 2) rfl rfl) Tryd.underlying33 rfl (by kernel_rfl) ?_
            refine k_call (by kernel_rfl) (d := (some 30)) (by kernel_rfl) (f := 19) (args := #[.agg (fps [a, b])]) (v := .agg (dgQ X.re.val X.im.val)) (fun _ => by kernel_rfl) (OX) (fun w17 hb17 => ⟨K16.go hb17, ?_⟩)
            have K17 := K16.go hb17
            have L17 := hb17.size
            refine k_call (by kernel_rfl) (d := (some 33)) (by kernel_rfl) (f := 19) (args := #[.agg (fps [c, d])]) (v := .agg (dgQ Y.re.val Y.im.val)) (fun _ => by kernel_rfl) (OY) (fun w18 hb18 => ⟨K17.go hb18, ?_⟩)
            have K18 := K17.go hb18
            have L18 := hb18.size
            refine k_call (by kernel_rfl) (d := (some 34)) (by kernel_rfl) (f := 38) (args := #[.agg (dgQ X.re.val X.im.val), .agg (dgQ Y.re.val Y.im.val)]) (v := .bool false) (fun _ => by kernel_rfl) (isPoint_f hP) (fun w19 hb19 => ⟨K18.go hb19, ?_⟩)
            have K19 := K18.go hb19
            have L19 := hb19.size
            refine k_pure (by kernel_rfl) (d := (some 35)) (by kernel_rfl) (v := .bool true) (fun _ => by kernel_rfl) ?_
            refine k_pure (by kernel_rfl) (d := (some 36)) (by kernel_rfl) (v := .bool true) (fun _ => by kernel_rfl) ?_
            have K20 : Kept WB [(wr.heap.size, (fps [a, b, c, d]))] [] w19 := Kept.zero K19.nb (rowsC (K19.at 0 rfl) rows0)
            refine k_end ?_
            go_simp
            go_wp2_with fail
            go_ret
            exact ⟨rfl, hbel.trans ((HWB.out ▸ K20.nb).mono hbel.size)⟩
        · have hrf : r = false := by rw [HDR.out, HB.out, decide_eq_false (fun h => hY h.2.1), Bool.false_and]
          subst hrf
          have HX := Lib.hid hX
          clear hX
          go_upto_region 4 with (first | (refine wpList_load_at rfl 35 _ rfl b0 (k * 64) rfl (fps [a, b, c, d]) _ HC.out Tryd.underlying35 rfl (by kernel_rfl) ?_) | (refine wpList_store_row rfl 35 _ _ rfl _ (fps [a, b, c, d]) rfl rfl _ _ (heap_alloc_new _ _) (by kernel_rfl) (by kernel_rfl) (all_fps _) ?_; rw [setRow_alloc_new]))
          obtain ⟨WB, hWB⟩ : ∃ WB : World, WB = wr := ⟨_, rfl⟩
          have HWB := Lib.hid hWB
          clear hWB
          refine wp_gen (fun W => Kept WB [(wr.heap.size, (fps [a, b, c, d]))] [] W) (HWB.out ▸ Kept.zero (nb_alloc (Below.refl _ _) _) (rowsC ⟨_, heap_alloc_new _ _⟩ rows0)) ?_
          intro W0 K0
          have K11 : Kept WB [(wr.heap.size, (fps [a, b, c, d]))] [] W0 := Kept.mks K0.nb (rowsC (K0.at 0 rfl) rows0) rooms0
          refine wp_region_atS (opsAt Tryd.f15 4) ((true, 0) :: (true, 1) :: (true, 2) :: (true, 3) :: (false, 4) :: (false, 5) :: (true, 6) :: (true, 7) :: (true, 8) :: (true, 9) :: (true, 10) :: (true, 11) :: (false, 12) :: (false, 13) :: (true, 14) :: (true, 15) :: (true, 16) :: (true, 17) :: (true, 18) :: (true, 20) :: (true, 21) :: (false, 19) :: (false, 22) :: (false, 23) :: (true, 24) :: (true, 25) :: []) (Kept WB [(wr.heap.size, (fps [a, b, c, d]))] []) (by kernel_rfl) rfl (by kernel_rfl) (fun _ _ d _ _ h => by cases d <;> exact h) (by kernel_rfl) (by kernel_rfl) K11.drew ?_
          have K12 := K11.drew
          have DK12 : W0.heap.size ≤ W0.drew.heap.size := Nat.le_refl _
          refine k_pure (by kernel_rfl) (d := (some 11)) (by kernel_rfl) (v := .pointer (some ⟨wr.heap.size, 0, none⟩)) (fun _ => by kernel_rfl) ?_
          refine k_part (by kernel_rfl) (d := (some 12)) (by kernel_rfl) (ty := 33) (x := (.tmp 11)) (by kernel_rfl) (b := wr.heap.size) (off := 0) (by kernel_rfl) (all := (fps [a, b, c, d])) (cs := (fps [a, b])) (fun _ hs => hs.at 0 rfl) (fpsub2 (k := 0) rfl rfl) Tryd.underlying33 rfl (by kernel_rfl) ?_
          refine k_pure (by kernel_rfl) (d := (some 13)) (by kernel_rfl) (v := .pointer (some ⟨wr.heap.size, 0, none⟩)) (fun _ => by kernel_rfl) ?_
          refine k_part (by kernel_rfl) (d := (some 14)) (by kernel_rfl) (ty := 33) (x := (.tmp 13)) (by kernel_rfl) (b := wr.heap.size) (off := 0) (by kernel_rfl) (all := (fps [a, b, c, d])) (cs := (fps [a, b])) (fun _ hs => hs.at 0 rfl) (fpsub2 (k := 0) rfl rfl) Tryd.underlying33 rfl (by kernel_rfl) ?_
          refine k_call (by kernel_rfl) (d := (some 15)) (by kernel_rfl) (f := 19) (args := #[.agg (fps [a, b])]) (v := .agg (dgQ X.re.val X.im.val)) (fun _ => by kernel_rfl) (OX) (fun w13 hb13 => ⟨K12.go hb13, ?_⟩)
          have K13 := K12.go hb13
          have L13 := hb13.size
          refine k_call (by kernel_rfl) (d := (some 16)) (by kernel_rfl) (f := 30) (args := #[.agg (fps [a, b]), .agg (dgQ X.re.val X.im.val)]) (v := .bool true) (fun _ => by kernel_rfl) (isQ_true HX.out.1 HX.out.2) (fun w14 hb14 => ⟨K13.go hb14, ?_⟩)
          have K14 := K13.go hb14
          have L14 := hb14.size
          refine k_pure (by kernel_rfl) (d := (some 17)) (by kernel_rfl) (v := .bool false) (fun _ => by kernel_rfl) ?_
          refine k_pure (by kernel_rfl) (d := (some 18)) (by kernel_rfl) (v := .bool false) (fun _ => by kernel_rfl) ?_
          refine k_pure (by kernel_rfl) (d := (some 19)) (by kernel_rfl) (v := .pointer (some ⟨wr.heap.size, 32, none⟩)) (fun _ => by kernel_rfl) ?_
          refine k_part (by kernel_rfl) (d := (some 20)) (by kernel_rfl) (ty := 33) (x := (.tmp 19)) (by kernel_rfl) (b := wr.heap.size) (off := 32) (by kernel_rfl) (all := (fps [a, b, c, d])) (cs := (fps [c, d])) (fun _ hs => hs.at 0 rfl) (fpsub2 (k := 2) rfl rfl) Tryd.underlying33 rfl (by kernel_rfl) ?_
          refine k_pure (by kernel_rfl) (d := (some 21)) (by kernel_rfl) (v := .pointer (some ⟨wr.heap.size, 32, none⟩)) (fun _ => by kernel_rfl) ?_
          refine k_part (by kernel_rfl) (d := (some 22)) (by kernel_rfl) (ty := 33) (x := (.tmp 21)) (by kernel_rfl) (b := wr.heap.size) (off := 32) (by kernel_rfl) (all := (fps [a, b, c, d])) (cs := (fps [c, d])) (fun _ hs => hs.at 0 rfl) (fpsub2 (k := 2) rfl rfl) Tryd.underlying33 rfl (by kernel_rfl) ?_
          refine k_call (by kernel_rfl) (d := (some 23)) (by kernel_rfl) (f := 19) (args := #[.agg (fps [c, d])]) (v := .agg (dgQ Y.re.val Y.im.val)) (fun _ => by kernel_rfl) (OY) (fun w15 hb15 => ⟨K14.go hb15, ?_⟩)
          have K15 := K14.go hb15
          have L15 := hb15.size
          refine k_call (by kernel_rfl) (d := (some 24)) (by kernel_rfl) (f := 30) (args := #[.agg (fps [c, d]), .agg (dgQ Y.re.val Y.im.val)]) (v := .bool false) (fun _ => by kernel_rfl) (isQ_f hc hd hY) (fun w16 hb16 => ⟨K15.go hb16, ?_⟩)
          have K16 := K15.go hb16
          have L16 := hb16.size
          refine k_pure (by kernel_rfl) (d := (some 25)) (by kernel_rfl) (v := .bool true) (fun _ => by kernel_rfl) ?_
          refine k_pure (by kernel_rfl) (d := (some 26)) (by kernel_rfl) (v := .bool true) (fun _ => by kernel_rfl) ?_
          refine k_pure (by kernel_rfl) (d := (some 27)) (by kernel_rfl) (v := .bool true) (fun _ => by kernel_rfl) ?_
          refine k_skip (by kernel_rfl) (d := (some 28)) (by kernel_rfl) ?_
          refine k_skip (by kernel_rfl) (d := (some 29)) (by kernel_rfl) ?_
          refine k_skip (by kernel_rfl) (d := (some 31)) (by kernel_rfl) ?_
          refine k_skip (by kernel_rfl) (d := (some 32)) (by kernel_rfl) ?_
          refine k_skip' K16 (by kernel_rfl) (d := (some 30)) (by kernel_rfl) ?_
          refine k_skip' K16 (by kernel_rfl) (d := (some 33)) (by kernel_rfl) ?_
          refine k_skip' K16 (by kernel_rfl) (d := (some 34)) (by kernel_rfl) ?_
          refine k_skip (by kernel_rfl) (d := (some 35)) (by kernel_rfl) ?_
          refine k_pure (by kernel_rfl) (d := (some 36)) (by kernel_rfl) (v := .bool true) (fun _ => by kernel_rfl) ?_
          have K17 : Kept WB [(wr.heap.size, (fps [a, b, c, d]))] [] w16 := Kept.zero K16.nb (rowsC (K16.at 0 rfl) rows0)
          refine k_end ?_
          go_simp
          go_wp2_with fail
          go_ret
          exact ⟨rfl, hbel.trans ((HWB.out ▸ K17.nb).mono hbel.size)⟩
      · have hrf : r = false := by rw [HDR.out, HB.out, decide_eq_false (fun h => hX h.1), Bool.false_and]
        subst hrf
        go_upto_region 4 with (first | (refine wpList_load_at rfl 35 _ rfl b0 (k * 64) rfl (fps [a, b, c, d]) _ HC.out Tryd.underlying35 rfl (by kernel_rfl) ?_) | (refine wpList_store_row rfl 35 _ _ rfl _ (fps [a, b, c, d]) rfl rfl _ _ (heap_alloc_new _ _) (by kernel_rfl) (by kernel_rfl) (all_fps _) ?_; rw [setRow_alloc_new]))
        obtain ⟨WB, hWB⟩ : ∃ WB : World, WB = wr := ⟨_, rfl⟩
        have HWB := Lib.hid hWB
        clear hWB
        refine wp_gen (fun W => Kept WB [(wr.heap.size, (fps [a, b, c, d]))] [] W) (HWB.out ▸ Kept.zero (nb_alloc (Below.refl _ _) _) (rowsC ⟨_, heap_alloc_new _ _⟩ rows0)) ?_
        intro W0 K0
        have K11 : Kept WB [(wr.heap.size, (fps [a, b, c, d]))] [] W0 := Kept.mks K0.nb (rowsC (K0.at 0 rfl) rows0) rooms0
        refine wp_region_atS (opsAt Tryd.f15 4) ((true, 0) :: (true, 1) :: (true, 2) :: (true, 3) :: (false, 4) :: (false, 5) :: (true, 6) :: (true, 7) :: (true, 8) :: (true, 9) :: (true, 10) :: (true, 11) :: (false, 12) :: (false, 13) :: (true, 14) :: (true, 15) :: (true, 16) :: (true, 17) :: (true, 18) :: (true, 20) :: (true, 21) :: (false, 19) :: (false, 22) :: (false, 23) :: (true, 24) :: (true, 25) :: []) (Kept WB [(wr.heap.size, (fps [a, b, c, d]))] []) (by kernel_rfl) rfl (by kernel_rfl) (fun _ _ d _ _ h => by cases d <;> exact h) (by kernel_rfl) (by kernel_rfl) K11.drew ?_
        have K12 := K11.drew
        have DK12 : W0.heap.size ≤ W0.drew.heap.size := Nat.le_refl _
        refine k_pure (by kernel_rfl) (d := (some 11)) (by kernel_rfl) (v := .pointer (some ⟨wr.heap.size, 0, none⟩)) (fun _ => by kernel_rfl) ?_
        refine k_part (by kernel_rfl) (d := (some 12)) (by kernel_rfl) (ty := 33) (x := (.tmp 11)) (by kernel_rfl) (b := wr.heap.size) (off := 0) (by kernel_rfl) (all := (fps [a, b, c, d])) (cs := (fps [a, b])) (fun _ hs => hs.at 0 rfl) (fpsub2 (k := 0) rfl rfl) Tryd.underlying33 rfl (by kernel_rfl) ?_
        refine k_pure (by kernel_rfl) (d := (some 13)) (by kernel_rfl) (v := .pointer (some ⟨wr.heap.size, 0, none⟩)) (fun _ => by kernel_rfl) ?_
        refine k_part (by kernel_rfl) (d := (some 14)) (by kernel_rfl) (ty := 33) (x := (.tmp 13)) (by kernel_rfl) (b := wr.heap.size) (off := 0) (by kernel_rfl) (all := (fps [a, b, c, d])) (cs := (fps [a, b])) (fun _ hs => hs.at 0 rfl) (fpsub2 (k := 0) rfl rfl) Tryd.underlying33 rfl (by kernel_rfl) ?_
        refine k_call (by kernel_rfl) (d := (some 15)) (by kernel_rfl) (f := 19) (args := #[.agg (fps [a, b])]) (v := .agg (dgQ X.re.val X.im.val)) (fun _ => by kernel_rfl) (OX) (fun w13 hb13 => ⟨K12.go hb13, ?_⟩)
        have K13 := K12.go hb13
        have L13 := hb13.size
        refine k_call (by kernel_rfl) (d := (some 16)) (by kernel_rfl) (f := 30) (args := #[.agg (fps [a, b]), .agg (dgQ X.re.val X.im.val)]) (v := .bool false) (fun _ => by kernel_rfl) (isQ_f ha hb hX) (fun w14 hb14 => ⟨K13.go hb14, ?_⟩)
        have K14 := K13.go hb14
        have L14 := hb14.size
        refine k_pure (by kernel_rfl) (d := (some 17)) (by kernel_rfl) (v := .bool true) (fun _ => by kernel_rfl) ?_
        refine k_pure (by kernel_rfl) (d := (some 18)) (by kernel_rfl) (v := .bool true) (fun _ => by kernel_rfl) ?_
        refine k_skip (by kernel_rfl) (d := (some 19)) (by kernel_rfl) ?_
        refine k_skip (by kernel_rfl) (d := (some 20)) (by kernel_rfl) ?_
        refine k_skip (by kernel_rfl) (d := (some 21)) (by kernel_rfl) ?_
        refine k_skip (by kernel_rfl) (d := (some 22)) (by kernel_rfl) ?_
        refine k_skip' K14 (by kernel_rfl) (d := (some 23)) (by kernel_rfl) ?_
        refine k_skip' K14 (by kernel_rfl) (d := (some 24)) (by kernel_rfl) ?_
        refine k_skip (by kernel_rfl) (d := (some 25)) (by kernel_rfl) ?_
        refine k_pure (by kernel_rfl) (d := (some 26)) (by kernel_rfl) (v := .bool true) (fun _ => by kernel_rfl) ?_
        refine k_pure (by kernel_rfl) (d := (some 27)) (by kernel_rfl) (v := .bool true) (fun _ => by kernel_rfl) ?_
        refine k_skip (by kernel_rfl) (d := (some 28)) (by kernel_rfl) ?_
        refine k_skip (by kernel_rfl) (d := (some 29)) (by kernel_rfl) ?_
        refine k_skip (by kernel_rfl) (d := (some 31)) (by kernel_rfl) ?_
        refine k_skip (by kernel_rfl) (d := (some 32)) (by kernel_rfl) ?_
        refine k_skip' K14 (by kernel_rfl) (d := (some 30)) (by kernel_rfl) ?_
        refine k_skip' K14 (by kernel_rfl) (d := (some 33)) (by kernel_rfl) ?_
        refine k_skip' K14 (by kernel_rfl) (d := (some 34)) (by kernel_rfl) ?_
        refine k_skip (by kernel_rfl) (d := (some 35)) (by kernel_rfl) ?_
        refine k_pure (by kernel_rfl) (d := (some 36)) (by kernel_rfl) (v := .bool true) (fun _ => by kernel_rfl) ?_
        have K15 : Kept WB [(wr.heap.size, (fps [a, b, c, d]))] [] w14 := Kept.zero K14.nb (rowsC (K14.at 0 rfl) rows0)
        refine k_end ?_
        go_simp
        go_wp2_with fail
        go_ret
        exact ⟨rfl, hbel.trans ((HWB.out ▸ K15.nb).mono hbel.size)⟩
    · have hkl : k = l.length := by omega
      have hrt : r = true := by rw [← hr.out, hkl, List.drop_length]; rfl
      subst hrt
      clear hr
      subst hkl
      go_wp2_with fail
      go_ret
      exact ⟨rfl, hbel⟩
end Go.Proofs.YtfkfljohhabldaaDoor
namespace Go.FourQ
open Go.RowKit
theorem eqFields2 {P : Program} {w : World} {d : Nat} {xs ys : Array Value} {f g : Field} {u1 u2 v1 v2 : Value} (n1 : f.name ≠ "_") (n2 : g.name ≠ "_")
    (p1 : (part f.type xs f.offset).run P w = .ok u1 w) (p2 : (part f.type ys f.offset).run P w = .ok u2 w) (p3 : (part g.type xs g.offset).run P w = .ok v1 w) (p4 : (part g.type ys g.offset).run P w = .ok v2 w)
    (q1 : (Op.equalIn d f.type u1 u2).run P w = .ok true w) (q2 : (Op.equalIn d g.type v1 v2).run P w = .ok true w) : (Op.eqFields d xs ys [f, g]).run P w = .ok true w := by
  unfold Op.eqFields
  rw [if_pos n1, Sem.run_bind, p1, Result.andThen_ok, Sem.run_bind, p2, Result.andThen_ok, Sem.run_bind, q1, Result.andThen_ok]
  rw [if_neg (by decide)]
  unfold Op.eqFields
  rw [if_pos n2, Sem.run_bind, p3, Result.andThen_ok, Sem.run_bind, p4, Result.andThen_ok, Sem.run_bind, q2, Result.andThen_ok]
  rw [if_neg (by decide)]
  rfl
end Go.FourQ
namespace Go.Proofs.YtfkfljohhabldaaDoor
open Go.RowKit Go.FourQ
theorem eqIn_fq {a b : Nat} (ha : a < 256 ^ 16) (hb : b < 256 ^ 16) (n : Nat) (w : World) :
    (Op.equalIn (n + 3) 33 (.agg (fps [a, b])) (.agg (fps [a, b]))).run Tryd.prog w = .ok true w := by
  have := run_eq_pair (P := Tryd.prog) (n + 2) Tryd.underlying33 (s := 16) (by kernel_rfl) Tryd.underlying22 rfl (xs := fps [a, b]) (ys := fps [a, b]) (x0 := fpC a) (x1 := fpC b) (y0 := fpC a) (y1 := fpC b) (by kernel_rfl) (by kernel_rfl) (by kernel_rfl) (by kernel_rfl) w
    (run_eqIn_fpC Tryd.underlying22 (by kernel_rfl) Tryd.underlying5 ha ha n w) (run_eqIn_fpC Tryd.underlying22 (by kernel_rfl) Tryd.underlying5 hb hb n w)
  rwa [decide_eq_true rfl, decide_eq_true rfl] at this
theorem eqPt {a b c d : Nat} (ha : a < 256 ^ 16) (hb : b < 256 ^ 16) (hc : c < 256 ^ 16) (hd : d < 256 ^ 16) (w : World) :
    (binOp .eql 35 (.agg (fps [a, b, c, d])) (.agg (fps [a, b, c, d]))).run Tryd.prog w = .ok (.bool true) w := by
  refine run_eql_agg w _ _ _ _ ?_
  rw [run_equalIn_struct w 9999 _ _ _ (by rw [Tryd.underlying35]; simp only [Program.fieldsOf, Tryd.underlying35]) (by kernel_rfl)]
  have hf : (Tryd.prog.fieldsOf 35).toList.map (fun f => (f.name, f.type, f.offset)) = [("X", 33, 0), ("Y", 33, 32)] := by kernel_rfl
  have hl : (Tryd.prog.fieldsOf 35).toList.length = 2 := by kernel_rfl
  generalize (Tryd.prog.fieldsOf 35).toList = fs at hf hl
  match fs, hl, hf with
  | [f, g], _, hf =>
    simp only [List.map, List.cons.injEq, Prod.mk.injEq, and_true] at hf
    obtain ⟨⟨n1, t1, o1⟩, n2, t2, o2⟩ := hf
    have hsz : (Tryd.prog.info? 33).map (·.size) = some 32 := by kernel_rfl
    have p1 := run_part_agg (P := Tryd.prog) (o := 0) (cs := fps [a, b, c, d]) Tryd.underlying33 rfl hsz w
    have p3 := run_part_agg (P := Tryd.prog) (o := 32) (cs := fps [a, b, c, d]) Tryd.underlying33 rfl hsz w
    rw [show (fps [a, b, c, d]).extract 0 (0 + 32) = fps [a, b] by kernel_rfl] at p1
    rw [show (fps [a, b, c, d]).extract 32 (32 + 32) = fps [c, d] by kernel_rfl] at p3
    rw [← t1, ← o1] at p1
    rw [← t2, ← o2] at p3
    have q1 := eqIn_fq ha hb 9996 w
    have q2 := eqIn_fq hc hd 9996 w
    rw [← t1] at q1
    rw [← t2] at q2
    exact eqFields2 (by rw [n1]; decide) (by rw [n2]; decide) p1 p1 p3 p3 q1 q2
theorem eqPt_t {x y : Zq} (w : World) : (binOp .eql 35 (.agg (fps [x.re.val, x.im.val, y.re.val, y.im.val])) (.agg (fps [x.re.val, x.im.val, y.re.val, y.im.val]))).run Tryd.prog w = .ok (.bool true) w :=
  eqPt (lt16 _) (lt16 _) (lt16 _) (lt16 _) w
end Go.Proofs.YtfkfljohhabldaaDoor
namespace Go.FourQ
open Go.ChangeShapes Go.WideShapes Go.ChangeAt Go.RowKit
section
variable {H : Type} {enc : TypeId × Value → H} {P : Program}
def rowed (P : Program) (ts : List TypeId) : Bool := ts.all fun t => P.readableRec t && decide (t < P.types.size)
theorem trodAll_nb (hl : laidOutB P = true) {W W' : World} (hb : Below W.heap.size W W') :
    ∀ {ts : List TypeId} {vs : List Value} {ds : List (DataW H)} {ps : List MemPlace}, rowed P ts = true → (∀ x ∈ ps, x.block < W.heap.size) → DataW.TrodAll enc P W 0 (fun _ => true) true ts vs ds ps →
      DataW.TrodAll enc P W' 0 (fun b => decide (b < W.heap.size)) true ts vs ds ps
  | [], [], [], _, _, _, h => h
  | [], [], _ :: _, _, _, _, h => h.elim
  | [], _ :: _, _, _, _, _, h => h.elim
  | _ :: _, [], _, _, _, _, h => h.elim
  | _ :: _, _ :: _, [], _, _, _, h => h.elim
  | t :: ts, v :: vs, d :: ds, ps, hr, hlt, h => by
    obtain ⟨p, q, h1, h2, e⟩ := h
    simp only [rowed, List.all_cons, Bool.and_eq_true, decide_eq_true_eq] at hr
    exact ⟨p, q, Below.trod hl hr.1.1 hr.1.2 h1 hb (fun x hx => hlt x (by rw [e]; simp [hx])),
      trodAll_nb hl hb (by simpa [rowed] using hr.2) (fun x hx => hlt x (by rw [e]; simp [hx])) h2, e⟩
theorem post_true {f : Func} {s : ChangeSpec} {apart : Bool} {W W' : World} {args : Array Value} {ds gs : List (DataW H)} {before : List MemPlace} {tb : TypeId}
    (hl : laidOutB P = true) (hv : varsRowed P s.vars = true) (hp : rowed P f.params.toList = true) (hrt : f.resultTypes = #[tb]) (htb : P.underlying tb = some .bool)
    (hW : DataW.Whole enc P f.params.toList s.vars apart W args.toList ds gs before)
    (hs : s.fn H (ds ++ gs) = { results := [.lit (.bool true)], args := ds, vars := gs }) (hb : Below W.heap.size W W') :
    s.post enc P f apart true false false W args (.bool true) W' := by
  have hW' := hW
  have hlt := hW.lt
  obtain ⟨p, q, hA, hV, rfl, hfz, hnd⟩ := hW
  refine ⟨ds, gs, p ++ q, [], p, q, hW', ?_, ?_, ?_, hb.frame _, fun h => by cases h⟩
  · rw [hs, hrt]; exact trodAll_mk1 (shut_bool htb true)
  · rw [hs]; exact trodAll_nb hl hb hp (fun x hx => hlt x (by simp [hx])) hA
  · rw [hs]; exact Below.trodVars hl hb hv hV
end
def ofBytes : List Nat → Nat
  | [] => 0
  | b :: l => b + 256 * ofBytes l
theorem ofBytes_lt : ∀ (l : List Nat), (∀ b ∈ l, b < 256) → ofBytes l < 256 ^ l.length
  | [], _ => by simp [ofBytes]
  | b :: l, h => by
    have h1 := ofBytes_lt l fun c hc => h c (by simp [hc])
    have h2 := h b (by simp)
    simp only [ofBytes, List.length_cons, Nat.pow_succ]
    omega
theorem ofBytes_get : ∀ (l : List Nat), (∀ b ∈ l, b < 256) → ∀ i, i < l.length → ofBytes l / 256 ^ i % 256 = l.getD i 0
  | [], _, i, h => by simp at h
  | b :: l, hl, 0, _ => by
    have h2 := hl b (by simp)
    simp only [ofBytes, Nat.pow_zero, Nat.div_one, List.getD_cons_zero]
    omega
  | b :: l, hl, i + 1, h => by
    have h2 := hl b (by simp)
    have e : ofBytes (b :: l) / 256 ^ (i + 1) = ofBytes l / 256 ^ i := by
      rw [Nat.pow_succ', ← Nat.div_div_eq_div_mul]
      congr 1
      simp only [ofBytes]
      omega
    rw [e, List.getD_cons_succ]
    exact ofBytes_get l (fun c hc => hl c (by simp [hc])) i (by simpa using h)
theorem bytes_fpC (cs : List Value) (hlen : cs.length = 16) (h : ∀ i, i < 16 → ∃ n : Int, cs[i]? = some (.int .u8 n) ∧ (Lit.int .u8 n).wf = true) : ∃ x, x < 256 ^ 16 ∧ cs = (fpC x).toList := by
  let f : Value → Nat := fun v => match v with | .int .u8 n => n.toNat | _ => 0
  have hb : ∀ i, i < 16 → cs[i]? = some (.int .u8 (((cs.map f).getD i 0 : Nat) : Int)) ∧ (cs.map f).getD i 0 < 256 := fun i hi => by
    obtain ⟨n, hn, hw⟩ := h i hi
    have hw := bounds_u8 hw
    have e : (cs.map f).getD i 0 = n.toNat := by
      rw [List.getD, List.getElem?_map, hn]; rfl
    rw [e]
    refine ⟨?_, by omega⟩
    rw [hn]
    congr 2
    omega
  have hlt : ∀ b ∈ cs.map f, b < 256 := fun b hm => by
    obtain ⟨i, hi, rfl⟩ := List.getElem_of_mem hm
    have := (hb i (by simpa [hlen] using hi)).2
    rwa [List.getD_eq_getElem?_getD, List.getElem?_eq_getElem hi] at this
  refine ⟨ofBytes (cs.map f), ?_, ?_⟩
  · have := ofBytes_lt _ hlt
    rwa [List.length_map, hlen] at this
  · refine List.ext_getElem? fun i => ?_
    rcases Nat.lt_or_ge i 16 with hi | hi
    · rw [(hb i hi).1, Array.getElem?_toList, fpC_get _ _ hi, byteV, ofBytes_get _ hlt i (by simpa [hlen] using hi)]
    · rw [List.getElem?_eq_none (by omega), List.getElem?_eq_none (by simpa [size_fpC] using hi)]
section
variable {H : Type} {enc : TypeId × Value → H} {P : Program} {w : World}
theorem trod_fp {base : Nat} {spare : Nat → Bool} {held : Bool} {fuel : Nat} {t e : TypeId} {cs : List Value} {x : DataW H × List MemPlace} (ht : P.underlying t = some (.array 16 e)) (he : P.underlying e = some (.int .u8)) (c : P.cellsOf e = 1) (ct : P.cellsOf t = 16)
    (h : DataW.trod enc P w base spare held fuel t cs = some x) : ∃ y, y < 256 ^ 16 ∧ cs = (fpC y).toList := by
  obtain ⟨xs, m, _, _, hl, hxl, hel⟩ := DataW.trod_array ht h
  rw [ct] at hl
  refine bytes_fpC cs hl fun i hi => ?_
  have hE := hel i hi
  rw [c, Nat.mul_one, List.getElem?_eq_getElem (by omega)] at hE
  obtain ⟨n, e1, _, hw⟩ := DataW.trod_int he hE
  refine ⟨n, ?_, hw⟩
  have h0 : ((cs.drop i).take 1)[0]? = some (.int .u8 n) := by rw [e1]; rfl
  simpa using h0
end
end Go.FourQ
namespace Go.Proofs.YtfkfljohhabldaaDoor
open Go.RowKit Go.FourQ Go.ChangeAt
theorem own : ownKnob Tryd.prog.godebug = none := by kernel_rfl
theorem gMod : Tryd.prog.globalNamed "loop.example/pub-g03039/pub/circl/fourq.modulusP" = some 4 := by kernel_rfl
theorem gModType : (Tryd.prog.globals[4]?).map (·.type) = some 73 := by kernel_rfl
theorem cellsFp : Tryd.prog.cellsOf 73 = 16 := by kernel_rfl
theorem cellsU8 : Tryd.prog.cellsOf 5 = 1 := by kernel_rfl
theorem cellsA16 : Tryd.prog.cellsOf 22 = 16 := by kernel_rfl
theorem laidOut : laidOutB Tryd.prog = true := by kernel_rfl
theorem modW_of {W : World} {rest : List (String × DataW Unit)} (h : laidMet Tryd.prog (("loop.example/pub-g03039/pub/circl/fourq.modulusP", Rows.laid_loop_example_pub_g03039_pub_circl_fourq_modulusP) :: rest) W) : ModW W := by
  have t : Lib.TabIs Tryd.prog W "loop.example/pub-g03039/pub/circl/fourq.modulusP" .u8 [255, 255, 255, 255, 255, 255, 255, 255, 255, 255, 255, 255, 255, 255, 255, 127] :=
    Lib.tabIs_of_head gMod gModType Tryd.underlying73 Tryd.underlying5 cellsU8 cellsFp h
  unfold Lib.TabIs World.var? at t
  rw [gMod] at t
  simp only [Option.bind_some] at t
  split at t
  · rename_i cs T fr hc
    have e : cs = fpC pp := (Option.some.inj t).trans (by kernel_rfl)
    exact ⟨T, fr, by rw [hc, e]⟩
  · cases t
end Go.Proofs.YtfkfljohhabldaaDoor
namespace Go.FourQ
open Go.RowKit Go.ChangeAt
theorem laid_tail {P : Program} {W : World} {a : String × DataW Unit} {rest : List (String × DataW Unit)} (h : laidMet P (a :: rest) W) : laidMet P rest W := by
  obtain ⟨n, d⟩ := a
  obtain ⟨ps, ⟨g, t, cs, fuel, p, q, _, _, _, _, hr, rfl⟩, hn, hc⟩ := h
  exact ⟨q, hr, (List.nodup_append.1 hn).2.1, fun b off hb => hc b off (by simp [hb])⟩
theorem take_drop_full {α : Type} (l : List α) (n : Nat) (h : l.length = n + n) : l.take n ++ (l.drop n).take n = l := by
  rw [List.take_of_length_le (l := l.drop n) (by rw [List.length_drop]; omega), List.take_append_drop]
theorem cells_of_pair {H : Type} {enc : TypeId × Value → H} {P : Program} {w : World} {base : Nat} {sp : Nat → Bool} {held : Bool} {fuel : Nat} {t u e : TypeId} {cs : List Value} {z0 z1 : List Int} {p : List MemPlace}
    (ht : P.underlying t = some (.array 2 u)) (hu : P.underlying u = some (.array 16 e)) (he : P.underlying e = some (.int .u8)) (ce : P.cellsOf e = 1) (cu : P.cellsOf u = 16) (ct : P.cellsOf t = 32)
    (h : DataW.trod enc P w base sp held fuel t cs = some (.agg [Lib.tabData .u8 z0, Lib.tabData .u8 z1], p)) : cs = (z0 ++ z1).map fun z => Value.int .u8 z := by
  obtain ⟨xs, m, _, hx, hl, hxl, hel⟩ := DataW.trod_array ht h
  have e0 := hel 0 (by omega)
  have e1 := hel 1 (by omega)
  rw [cu, Nat.zero_mul, List.drop_zero] at e0
  rw [cu, Nat.one_mul] at e1
  match xs, hxl with
  | [x0, x1], _ =>
    simp only [Prod.mk.injEq, DataW.agg.injEq, List.map, List.cons.injEq, and_true] at hx
    obtain ⟨⟨h0, h1⟩, _⟩ := hx
    obtain ⟨y0, p0⟩ := x0
    obtain ⟨y1, p1⟩ := x1
    subst h0 h1
    have c0 := Lib.cells_of_tab hu he ce cu (e0.trans rfl)
    have c1 := Lib.cells_of_tab hu he ce cu (e1.trans rfl)
    rw [List.map_append, ← c0, ← c1]
    exact (take_drop_full cs 16 (by rw [hl, ct])).symm
theorem gv_of_laid {P : Program} {W : World} {name : String} {z0 z1 : List Int} {rest : List (String × DataW Unit)} {g : Nat} {t u e : TypeId}
    (hg : P.globalNamed name = some g) (hty : (P.globals[g]?).map (·.type) = some t) (ht : P.underlying t = some (.array 2 u)) (hu : P.underlying u = some (.array 16 e)) (he : P.underlying e = some (.int .u8)) (ce : P.cellsOf e = 1) (cu : P.cellsOf u = 16) (ct : P.cellsOf t = 32)
    (h : laidMet P ((name, .agg [Lib.tabData .u8 z0, Lib.tabData .u8 z1]) :: rest) W) : GV W g ((z0 ++ z1).map fun z => Value.int .u8 z).toArray := by
  obtain ⟨ps, ⟨g', t', cs, fuel, p, q, hg', ht', hvar, hd, _, rfl⟩, _, hc⟩ := h
  obtain rfl := Option.some.inj (hg.symm.trans hg')
  obtain rfl := Option.some.inj (hty.symm.trans ht')
  have hcs := cells_of_pair ht hu he ce cu ct hd
  obtain ⟨xs, m, _, hx, hl, hxl, hel⟩ := DataW.trod_array ht hd
  have hsz : cs.size = 32 := by rw [← ct, ← hl]; simp
  obtain ⟨⟨c, T, hT⟩, _⟩ := hc g 0 (List.mem_append.2 (.inl (List.mem_append.2 (.inl (List.mem_map.2 ⟨0, List.mem_range.2 (by omega), rfl⟩)))))
  refine ⟨T, ?_⟩
  unfold World.var? at hvar
  rw [hg] at hvar
  simp only [Option.bind_some, hT] at hvar
  rw [hT, ← hcs, Option.some.inj hvar]
/-- A variable that is one array of 64-bit words. -/
theorem gv_of_tab {P : Program} {W : World} {name : String} {k : IntKind} {zs : List Int} {rest : List (String × DataW Unit)} {g n : Nat} {t e : TypeId}
    (hg : P.globalNamed name = some g) (hty : (P.globals[g]?).map (·.type) = some t) (ht : P.underlying t = some (.array n e)) (he : P.underlying e = some (.int k)) (ce : P.cellsOf e = 1) (ct : P.cellsOf t = n) (hn : 0 < n)
    (h : laidMet P ((name, Lib.tabData k zs) :: rest) W) : GV W g (zs.map fun z => Value.int k z).toArray := by
  obtain ⟨ps, ⟨g', t', cs, fuel, p, q, hg', ht', hvar, hd, _, rfl⟩, _, hc⟩ := h
  obtain rfl := Option.some.inj (hg.symm.trans hg')
  obtain rfl := Option.some.inj (hty.symm.trans ht')
  have hcs := Lib.cells_of_tab ht he ce ct hd
  obtain ⟨xs, m, _, hx, hl, hxl, hel⟩ := DataW.trod_array ht hd
  have hsz : cs.size = n := by rw [← ct, ← hl]; simp
  obtain ⟨⟨c, T, hT⟩, _⟩ := hc g 0 (List.mem_append.2 (.inl (List.mem_append.2 (.inl (List.mem_map.2 ⟨0, List.mem_range.2 (by omega), rfl⟩)))))
  refine ⟨T, ?_⟩
  unfold World.var? at hvar
  rw [hg] at hvar
  simp only [Option.bind_some, hT] at hvar
  rw [hT, ← hcs, Option.some.inj hvar]
theorem atz_of {w : World} {b a c : Nat} (ha : LowB a) (hc : LowB c) (h : GV w b (fps [a, c])) : AtZ w b 0 ⟨zp a, zp c⟩ :=
  FpsZ.atz (L := [⟨zp a, zp c⟩]) (k := 0) (FpsZ.ofFps (l := [a, c]) h (fun v hv => by
    rcases List.mem_cons.1 hv with rfl | hv
    · exact ha
    · rw [List.mem_singleton.1 hv]; exact hc)) rfl rfl
end Go.FourQ
namespace Go.FourQ
open Go.ChangeShapes Go.WideShapes Go.RowKit Go.ChangeAt
section
variable {H : Type} {enc : TypeId × Value → H} {P : Program} {w : World}
theorem fps_toList (x : Nat) (l : List Nat) : (fps (x :: l)).toList = (fpC x).toList ++ (fps l).toList := by simp [fps]
theorem arr_of_list {cs : Array Value} {l : List Nat} (h : cs.toList = (fps l).toList) : cs = fps l := by cases cs; cases hq : fps l; simp_all
theorem trod_fq {base : Nat} {spare : Nat → Bool} {held : Bool} {fuel : Nat} {t u e : TypeId} {cs : List Value} {x : DataW H × List MemPlace} (ht : P.underlying t = some (.array 2 u)) (hu : P.underlying u = some (.array 16 e)) (he : P.underlying e = some (.int .u8)) (c : P.cellsOf e = 1) (cu : P.cellsOf u = 16)
    (ct : P.cellsOf t = 32) (h : DataW.trod enc P w base spare held fuel t cs = some x) : ∃ x y, x < 256 ^ 16 ∧ y < 256 ^ 16 ∧ cs = (fps [x, y]).toList := by
  obtain ⟨xs, m, _, _, hl, hxl, hel⟩ := DataW.trod_array ht h
  have h0 := hel 0 (by omega)
  have h1 := hel 1 (by omega)
  rw [cu, List.getElem?_eq_getElem (by omega)] at h0 h1
  obtain ⟨x, hx, ex⟩ := trod_fp hu he c cu h0
  obtain ⟨y, hy, ey⟩ := trod_fp hu he c cu h1
  refine ⟨x, y, hx, hy, ?_⟩
  rw [ct] at hl
  rw [fps_toList, fps_toList, ← ex, ← ey]
  simp only [Nat.zero_mul, Nat.one_mul, List.drop_zero]
  rw [show (fps []).toList = [] from rfl, List.append_nil, List.take_of_length_le (l := List.drop 16 _) (by rw [List.length_drop]; omega)]
  exact (List.take_append_drop 16 cs).symm
/-- A point: four elements. -/
theorem open_pt {r : Reach} {b0 base : Nat} {spare : Nat → Bool} {held : Bool} {t tq u e : TypeId} {n0 n1 : Field} {v : Value} {d : DataW H} {p : List MemPlace} (hs : P.underlying t = some (.struct #[n0, n1])) (t0 : n0.type = tq) (t1 : n1.type = tq) (o0 : n0.offset = 0) (o1 : n1.offset = 32)
    (ht : P.underlying tq = some (.array 2 u)) (hu : P.underlying u = some (.array 16 e)) (he : P.underlying e = some (.int .u8)) (c : P.cellsOf e = 1) (cu : P.cellsOf u = 16) (ct : P.cellsOf tq = 32) (cs' : P.cellsOf t = 64)
    (hv : Value.okWide P w r b0 t v) (h : DataW.Trod enc P w base spare held t v d p) : ∃ a b c d, a < 256 ^ 16 ∧ b < 256 ^ 16 ∧ c < 256 ^ 16 ∧ d < 256 ^ 16 ∧ v = .agg (fps [a, b, c, d]) := by
  simp only [Value.okWide, hs] at hv
  obtain ⟨cs, rfl, _, _⟩ := hv
  obtain ⟨fuel, hf⟩ := h
  obtain ⟨y0, y1, n, _, hl, h0, h1⟩ := trod_struct2 hs hf
  rw [t0, o0, ct] at h0
  rw [t1, o1, ct] at h1
  obtain ⟨a, b, ha, hb, e0⟩ := trod_fq ht hu he c cu ct h0
  obtain ⟨a', b', ha', hb', e1⟩ := trod_fq ht hu he c cu ct h1
  refine ⟨a, b, a', b', ha, hb, ha', hb', congrArg Value.agg (arr_of_list ?_)⟩
  rw [cs'] at hl
  have hl' : cs.toList.length = 64 := hl
  rw [fps_toList, fps_toList, ← List.append_assoc, ← e1.symm.symm, show (fpC a).toList ++ (fpC b).toList = (fps [a, b]).toList by rw [fps_toList, fps_toList]; simp [fps], ← e0]
  change cs.toList = List.take 32 (List.drop 0 cs.toList) ++ List.take 32 (List.drop 32 cs.toList)
  rw [List.drop_zero, List.take_of_length_le (l := List.drop 32 _) (by rw [List.length_drop]; omega)]
  exact (List.take_append_drop 32 cs.toList).symm
end
end Go.FourQ
