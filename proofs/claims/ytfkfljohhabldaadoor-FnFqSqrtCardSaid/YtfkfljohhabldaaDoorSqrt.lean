/- fqSqrt in memory. Elements below 2^127; modulusP holds the prime. -/
import Derived.Test.YtfkfljohhabldaaDoorSel
import Derived.Test.YtfkfljohhabldaaDoorSqrtM
namespace Go.FourQ
theorem zero1 : ∀ v ∈ [0], LowB v := fun v hv => by rw [show v = 0 by simpa using hv]; exact low_zero
theorem keys8 {c b1 n : Nat} (h1 : c ≠ b1) (hn : c < n) {M0 M1 M2 M3 M4 M5 M6 M7 : List Zp} :
    ∀ p ∈ [(b1, M0), (n, M1), (n + 1, M2), (n + 1 + 1, M3), (n + 1 + 1 + 1, M4), (n + 1 + 1 + 1 + 1, M5), (n + 1 + 1 + 1 + 1 + 1, M6), (n + 1 + 1 + 1 + 1 + 1 + 1, M7)], p.1 ≠ c := fun p hp => by
  simp only [List.mem_cons, List.not_mem_nil, or_false] at hp
  rcases hp with rfl | rfl | rfl | rfl | rfl | rfl | rfl | rfl <;> (simp only; omega)
theorem keys9 {c b1 n p8 : Nat} (h1 : c ≠ b1) (hn : c < n) (h8 : n ≤ p8) {M0 M1 M2 M3 M4 M5 M6 M7 M8 : List Zp} :
    ∀ p ∈ [(b1, M0), (n, M1), (n + 1, M2), (n + 1 + 1, M3), (n + 1 + 1 + 1, M4), (n + 1 + 1 + 1 + 1, M5), (n + 1 + 1 + 1 + 1 + 1, M6), (n + 1 + 1 + 1 + 1 + 1 + 1, M7), (p8, M8)], p.1 ≠ c := fun p hp => by
  simp only [List.mem_cons, List.not_mem_nil, or_false] at hp
  rcases hp with rfl | rfl | rfl | rfl | rfl | rfl | rfl | rfl | rfl <;> (simp only; omega)
theorem keys10 {c b1 n p8 p9 : Nat} (h1 : c ≠ b1) (hn : c < n) (h8 : n ≤ p8) (h9 : n ≤ p9) {M0 M1 M2 M3 M4 M5 M6 M7 M8 M9 : List Zp} :
    ∀ p ∈ [(b1, M0), (n, M1), (n + 1, M2), (n + 1 + 1, M3), (n + 1 + 1 + 1, M4), (n + 1 + 1 + 1 + 1, M5), (n + 1 + 1 + 1 + 1 + 1, M6), (n + 1 + 1 + 1 + 1 + 1 + 1, M7), (p8, M8), (p9, M9)], p.1 ≠ c := fun p hp => by
  simp only [List.mem_cons, List.not_mem_nil, or_false] at hp
  rcases hp with rfl | rfl | rfl | rfl | rfl | rfl | rfl | rfl | rfl | rfl <;> (simp only; omega)
theorem keysT {n p8 p9 : Nat} (h8 : n ≤ p8) (h9 : n ≤ p9) {M1 M2 M3 M4 M5 M6 M7 M8 M9 : List Zp} :
    ∀ p ∈ [(n, M1), (n + 1, M2), (n + 1 + 1, M3), (n + 1 + 1 + 1, M4), (n + 1 + 1 + 1 + 1, M5), (n + 1 + 1 + 1 + 1 + 1, M6), (n + 1 + 1 + 1 + 1 + 1 + 1, M7), (p8, M8), (p9, M9)], n ≤ p.1 := fun p hp => by
  simp only [List.mem_cons, List.not_mem_nil, or_false] at hp
  rcases hp with rfl | rfl | rfl | rfl | rfl | rfl | rfl | rfl | rfl <;> (simp only; omega)
end Go.FourQ
namespace Go.Proofs.YtfkfljohhabldaaDoor
open Go.RowKit Go.FourQ

section
variable {w : World} {b1 b2 b3 o1 o2 o3 k1 : Nat} {L1 : List Zp} {u0 u1 v0 v1 a b g X S t T r q c0 c1 K d0 d1 f0 f1 p0 p1 : Zp}

set_option maxRecDepth 100000 in
set_option maxHeartbeats 1000000 in
theorem fqSqrtW {sg : Int} (hm : ModW w) (hg : 4 < b1) (h1 : FpsZ w b1 L1) (hU : AtQ w b2 o2 u0 u1) (hV : AtQ w b3 o3 v0 v1) (e1 : o1 = 16 * k1) (i1 : k1 + 1 < L1.length) (dU : b2 ≠ b1) (dV : b3 ≠ b1) (ha : u0 * v0 + u1 * v1 = a) (hb : v0 * v0 + v1 * v1 = b) (hgg : u1 * v0 - u0 * v1 = g) (hx : a * a + g * g = X) (hS : X.pow (1 * 2 ^ 125) = S) (ht : (if isz (a + S).val = 1 then a - S else a + S) = t) (htt : t + t = T) (hr : (b * b * b * T).pow 42535295865117307932921825928971026431 = r) (hq : r * b = q) (hc0 : q * T * half = c0) (hc1 : q * g = c1) (hk : (c0 + c0) * (c0 + c0) * b - T = K) (hd0 : (if nz K.val = 1 then c1 else c0) = d0) (hd1 : (if nz K.val = 1 then c0 else c1) = d1) (hf0 : (if df (sgnQ d0 d1) sg = 1 then -d0 else d0) = f0) (hf1 : (if df (sgnQ d0 d1) sg = 1 then -d1 else d1) = f1) (hself : cl L1 k1 p0 p1 = L1) :
    Calls Tryd.prog 83 #[.pointer (some ⟨b1, o1, none⟩), .pointer (some ⟨b2, o2, none⟩), .pointer (some ⟨b3, o3, none⟩), .int .i64 sg] w fun e w' => e = .returned (.tuple #[]) ∧ UpdZ w w' b1 (cl L1 k1 f0 f1) := by
  have E1 := Lib.hid e1
  have I1 := Lib.hid i1
  have HA := Lib.hid ha
  have HB := Lib.hid hb
  have HGG := Lib.hid hgg
  have HX := Lib.hid hx
  have HS := Lib.hid hS
  have HT := Lib.hid ht
  have HTT := Lib.hid htt
  have HR := Lib.hid hr
  have HQ := Lib.hid hq
  have HC0 := Lib.hid hc0
  have HC1 := Lib.hid hc1
  have HK := Lib.hid hk
  have HD0 := Lib.hid hd0
  have HD1 := Lib.hid hd1
  have HF0 := Lib.hid hf0
  have HF1 := Lib.hid hf1
  have HSELF := Lib.hid hself
  clear e1 i1 ha hb hgg hx hS ht htt hr hq hc0 hc1 hk hd0 hd1 hf0 hf1 hself
  go_enter Tryd.func83, Tryd.ntmps83
  go_upto_region 2 with (fail)
  have HN2 := hU.fst.lt
  have HN3 := hV.fst.lt
  have HN1 := h1.lt
  have HG := hm.lt
  have H0 : Sto w [(b1, L1), (w.heap.size, [0]), (w.heap.size + 1, [0]), (w.heap.size + 1 + 1, [0]), (w.heap.size + 1 + 1 + 1, [0]), (w.heap.size + 1 + 1 + 1 + 1, [0]), (w.heap.size + 1 + 1 + 1 + 1 + 1, [0]), (w.heap.size + 1 + 1 + 1 + 1 + 1 + 1, [0])] (((((((w.alloc (.cells #[.int .u8 0, .int .u8 0, .int .u8 0, .int .u8 0, .int .u8 0, .int .u8 0, .int .u8 0, .int .u8 0, .int .u8 0, .int .u8 0, .int .u8 0, .int .u8 0, .int .u8 0, .int .u8 0, .int .u8 0, .int .u8 0] 73)).alloc (.cells #[.int .u8 0, .int .u8 0, .int .u8 0, .int .u8 0, .int .u8 0, .int .u8 0, .int .u8 0, .int .u8 0, .int .u8 0, .int .u8 0, .int .u8 0, .int .u8 0, .int .u8 0, .int .u8 0, .int .u8 0, .int .u8 0] 73)).alloc (.cells #[.int .u8 0, .int .u8 0, .int .u8 0, .int .u8 0, .int .u8 0, .int .u8 0, .int .u8 0, .int .u8 0, .int .u8 0, .int .u8 0, .int .u8 0, .int .u8 0, .int .u8 0, .int .u8 0, .int .u8 0, .int .u8 0] 73)).alloc (.cells #[.int .u8 0, .int .u8 0, .int .u8 0, .int .u8 0, .int .u8 0, .int .u8 0, .int .u8 0, .int .u8 0, .int .u8 0, .int .u8 0, .int .u8 0, .int .u8 0, .int .u8 0, .int .u8 0, .int .u8 0, .int .u8 0] 73)).alloc (.cells #[.int .u8 0, .int .u8 0, .int .u8 0, .int .u8 0, .int .u8 0, .int .u8 0, .int .u8 0, .int .u8 0, .int .u8 0, .int .u8 0, .int .u8 0, .int .u8 0, .int .u8 0, .int .u8 0, .int .u8 0, .int .u8 0] 73)).alloc (.cells #[.int .u8 0, .int .u8 0, .int .u8 0, .int .u8 0, .int .u8 0, .int .u8 0, .int .u8 0, .int .u8 0, .int .u8 0, .int .u8 0, .int .u8 0, .int .u8 0, .int .u8 0, .int .u8 0, .int .u8 0, .int .u8 0] 73)).alloc (.cells #[.int .u8 0, .int .u8 0, .int .u8 0, .int .u8 0, .int .u8 0, .int .u8 0, .int .u8 0, .int .u8 0, .int .u8 0, .int .u8 0, .int .u8 0, .int .u8 0, .int .u8 0, .int .u8 0, .int .u8 0, .int .u8 0] 73)) := ((((((((Sto.one h1).new (l := [0]) rfl zero_fps.symm zero1 rfl).new (l := [0]) (by simp) zero_fps.symm zero1 rfl).new (l := [0]) (by simp) zero_fps.symm zero1 rfl).new (l := [0]) (by simp) zero_fps.symm zero1 rfl).new (l := [0]) (by simp) zero_fps.symm zero1 rfl).new (l := [0]) (by simp) zero_fps.symm zero1 rfl).new (l := [0]) (by simp) zero_fps.symm zero1 rfl)
  obtain ⟨W0, hW⟩ : ∃ W0 : World, W0 = (((((((w.alloc (.cells #[.int .u8 0, .int .u8 0, .int .u8 0, .int .u8 0, .int .u8 0, .int .u8 0, .int .u8 0, .int .u8 0, .int .u8 0, .int .u8 0, .int .u8 0, .int .u8 0, .int .u8 0, .int .u8 0, .int .u8 0, .int .u8 0] 73)).alloc (.cells #[.int .u8 0, .int .u8 0, .int .u8 0, .int .u8 0, .int .u8 0, .int .u8 0, .int .u8 0, .int .u8 0, .int .u8 0, .int .u8 0, .int .u8 0, .int .u8 0, .int .u8 0, .int .u8 0, .int .u8 0, .int .u8 0] 73)).alloc (.cells #[.int .u8 0, .int .u8 0, .int .u8 0, .int .u8 0, .int .u8 0, .int .u8 0, .int .u8 0, .int .u8 0, .int .u8 0, .int .u8 0, .int .u8 0, .int .u8 0, .int .u8 0, .int .u8 0, .int .u8 0, .int .u8 0] 73)).alloc (.cells #[.int .u8 0, .int .u8 0, .int .u8 0, .int .u8 0, .int .u8 0, .int .u8 0, .int .u8 0, .int .u8 0, .int .u8 0, .int .u8 0, .int .u8 0, .int .u8 0, .int .u8 0, .int .u8 0, .int .u8 0, .int .u8 0] 73)).alloc (.cells #[.int .u8 0, .int .u8 0, .int .u8 0, .int .u8 0, .int .u8 0, .int .u8 0, .int .u8 0, .int .u8 0, .int .u8 0, .int .u8 0, .int .u8 0, .int .u8 0, .int .u8 0, .int .u8 0, .int .u8 0, .int .u8 0] 73)).alloc (.cells #[.int .u8 0, .int .u8 0, .int .u8 0, .int .u8 0, .int .u8 0, .int .u8 0, .int .u8 0, .int .u8 0, .int .u8 0, .int .u8 0, .int .u8 0, .int .u8 0, .int .u8 0, .int .u8 0, .int .u8 0, .int .u8 0] 73)).alloc (.cells #[.int .u8 0, .int .u8 0, .int .u8 0, .int .u8 0, .int .u8 0, .int .u8 0, .int .u8 0, .int .u8 0, .int .u8 0, .int .u8 0, .int .u8 0, .int .u8 0, .int .u8 0, .int .u8 0, .int .u8 0, .int .u8 0] 73)) := ⟨_, rfl⟩
  rw [← hW] at H0 ⊢
  clear hW
  obtain ⟨n, hn⟩ : ∃ n, w.heap.size = n := ⟨_, rfl⟩
  rw [hn] at H0 HN1 HN2 HN3 HG ⊢
  replace hn := Lib.hid hn
  refine wp_region_atS (opsAt Tryd.f83 2) ((true, 0) :: (true, 1) :: (true, 2) :: (true, 3) :: (true, 4) :: (true, 5) :: (true, 6) :: (false, 7) :: []) (fun _ => True) (by kernel_rfl) rfl (by kernel_rfl) (fun _ _ d _ _ h => by cases d <;> exact h) (by kernel_rfl) (by kernel_rfl) trivial ?_
  refine k_pure (by kernel_rfl) (d := (some 33)) (by kernel_rfl) (v := .pointer (some ⟨n + 1 + 1 + 1 + 1, 0, none⟩)) (fun _ => by kernel_rfl) ?_
  refine k_pure (by kernel_rfl) (d := (some 34)) (by kernel_rfl) (v := .pointer (some ⟨b2, o2, none⟩)) (fun _ => by kernel_rfl) ?_
  refine k_pure (by kernel_rfl) (d := (some 35)) (by kernel_rfl) (v := .pointer (some ⟨b2, o2, none⟩)) (fun _ => by kernel_rfl) ?_
  refine k_pure (by kernel_rfl) (d := (some 36)) (by kernel_rfl) (v := .pointer (some ⟨b2, o2, none⟩)) (fun _ => by kernel_rfl) ?_
  refine k_pure (by kernel_rfl) (d := (some 37)) (by kernel_rfl) (v := .pointer (some ⟨b3, o3, none⟩)) (fun _ => by kernel_rfl) ?_
  refine k_pure (by kernel_rfl) (d := (some 38)) (by kernel_rfl) (v := .pointer (some ⟨b3, o3, none⟩)) (fun _ => by kernel_rfl) ?_
  refine k_pure (by kernel_rfl) (d := (some 39)) (by kernel_rfl) (v := .pointer (some ⟨b3, o3, none⟩)) (fun _ => by kernel_rfl) ?_
  refine k_callR (by kernel_rfl) (d := (some 40)) (by kernel_rfl) (f := 102) (args := #[.pointer (some ⟨n + 1 + 1 + 1 + 1, 0, none⟩), .pointer (some ⟨b2, o2, none⟩), .pointer (some ⟨b3, o3, none⟩)]) (fun _ => by kernel_rfl) (stMul H0.drew (i := 5) rfl (k1 := 0) rfl (by simp) (hU.fst.sto H0 (keys8 dU HN2)).drew (hV.fst.sto H0 (keys8 dV HN3)).drew (z := u0 * v0) rfl) (fun _ w1 q1 => ⟨.tuple #[], q1.1, trivial, ?_⟩)
  have u1 := q1.2
  clear q1
  refine k_end ?_
  go_simp
  go_upto_region 3 with (fail)
  have H1 : Sto w [(b1, L1), (n, [0]), (n + 1, [0]), (n + 1 + 1, [0]), (n + 1 + 1 + 1, [0]), (n + 1 + 1 + 1 + 1, [u0 * v0]), (n + 1 + 1 + 1 + 1 + 1, [0]), (n + 1 + 1 + 1 + 1 + 1 + 1, [0])] w1 := u1
  clear u1 H0
  refine wp_region_atS (opsAt Tryd.f83 3) ((true, 0) :: (true, 1) :: (true, 2) :: (true, 3) :: (true, 4) :: (true, 5) :: (true, 6) :: (false, 7) :: []) (fun _ => True) (by kernel_rfl) rfl (by kernel_rfl) (fun _ _ d _ _ h => by cases d <;> exact h) (by kernel_rfl) (by kernel_rfl) trivial ?_
  refine k_pure (by kernel_rfl) (d := (some 41)) (by kernel_rfl) (v := .pointer (some ⟨n, 0, none⟩)) (fun _ => by kernel_rfl) ?_
  refine k_pure (by kernel_rfl) (d := (some 42)) (by kernel_rfl) (v := .pointer (some ⟨b2, o2, none⟩)) (fun _ => by kernel_rfl) ?_
  refine k_pure (by kernel_rfl) (d := (some 43)) (by kernel_rfl) (v := .pointer (some ⟨b2, o2, none⟩)) (fun _ => by kernel_rfl) ?_
  refine k_pure (by kernel_rfl) (d := (some 44)) (by kernel_rfl) (v := .pointer (some ⟨b2, o2 + 16, none⟩)) (fun _ => by kernel_rfl) ?_
  refine k_pure (by kernel_rfl) (d := (some 45)) (by kernel_rfl) (v := .pointer (some ⟨b3, o3, none⟩)) (fun _ => by kernel_rfl) ?_
  refine k_pure (by kernel_rfl) (d := (some 46)) (by kernel_rfl) (v := .pointer (some ⟨b3, o3, none⟩)) (fun _ => by kernel_rfl) ?_
  refine k_pure (by kernel_rfl) (d := (some 47)) (by kernel_rfl) (v := .pointer (some ⟨b3, o3 + 16, none⟩)) (fun _ => by kernel_rfl) ?_
  refine k_callR (by kernel_rfl) (d := (some 48)) (by kernel_rfl) (f := 102) (args := #[.pointer (some ⟨n, 0, none⟩), .pointer (some ⟨b2, o2 + 16, none⟩), .pointer (some ⟨b3, o3 + 16, none⟩)]) (fun _ => by kernel_rfl) (stMul H1.drew (i := 1) rfl (k1 := 0) rfl (by simp) (hU.snd.sto H1 (keys8 dU HN2)).drew (hV.snd.sto H1 (keys8 dV HN3)).drew (z := u1 * v1) rfl) (fun _ w2 q2 => ⟨.tuple #[], q2.1, trivial, ?_⟩)
  have u2 := q2.2
  clear q2
  refine k_end ?_
  go_simp
  go_upto_region 4 with (fail)
  have H2 : Sto w [(b1, L1), (n, [u1 * v1]), (n + 1, [0]), (n + 1 + 1, [0]), (n + 1 + 1 + 1, [0]), (n + 1 + 1 + 1 + 1, [u0 * v0]), (n + 1 + 1 + 1 + 1 + 1, [0]), (n + 1 + 1 + 1 + 1 + 1 + 1, [0])] w2 := u2
  clear u2 H1
  refine wp_seq_atS (opsAt Tryd.f83 4) ((true, 0) :: (true, 1) :: (true, 2) :: (false, 3) :: []) (fun _ => True) (by kernel_rfl) (by kernel_rfl) trivial ?_
  refine k_pure (by kernel_rfl) (d := (some 49)) (by kernel_rfl) (v := .pointer (some ⟨n + 1 + 1 + 1 + 1, 0, none⟩)) (fun _ => by kernel_rfl) ?_
  refine k_pure (by kernel_rfl) (d := (some 50)) (by kernel_rfl) (v := .pointer (some ⟨n + 1 + 1 + 1 + 1, 0, none⟩)) (fun _ => by kernel_rfl) ?_
  refine k_pure (by kernel_rfl) (d := (some 51)) (by kernel_rfl) (v := .pointer (some ⟨n, 0, none⟩)) (fun _ => by kernel_rfl) ?_
  refine k_callR (by kernel_rfl) (d := (some 52)) (by kernel_rfl) (f := 103) (args := #[.pointer (some ⟨n + 1 + 1 + 1 + 1, 0, none⟩), .pointer (some ⟨n + 1 + 1 + 1 + 1, 0, none⟩), .pointer (some ⟨n, 0, none⟩)]) (fun _ => by kernel_rfl) (stAdd H2 (i := 5) rfl (k1 := 0) rfl (by simp) (H2.at 5 0 rfl rfl rfl) (H2.at 1 0 rfl rfl rfl) (z := a) HA.out) (fun _ w3 q3 => ⟨.tuple #[], q3.1, trivial, ?_⟩)
  have u3 := q3.2
  clear q3
  refine k_end ?_
  go_simp
  go_upto_region 5 with (fail)
  have H3 : Sto w [(b1, L1), (n, [u1 * v1]), (n + 1, [0]), (n + 1 + 1, [0]), (n + 1 + 1 + 1, [0]), (n + 1 + 1 + 1 + 1, [a]), (n + 1 + 1 + 1 + 1 + 1, [0]), (n + 1 + 1 + 1 + 1 + 1 + 1, [0])] w3 := u3
  clear u3 H2
  refine wp_seq_atS (opsAt Tryd.f83 5) ((true, 0) :: (true, 1) :: (true, 2) :: (true, 3) :: (false, 4) :: []) (fun _ => True) (by kernel_rfl) (by kernel_rfl) trivial ?_
  refine k_pure (by kernel_rfl) (d := (some 53)) (by kernel_rfl) (v := .pointer (some ⟨n + 1 + 1 + 1 + 1 + 1, 0, none⟩)) (fun _ => by kernel_rfl) ?_
  refine k_pure (by kernel_rfl) (d := (some 54)) (by kernel_rfl) (v := .pointer (some ⟨b3, o3, none⟩)) (fun _ => by kernel_rfl) ?_
  refine k_pure (by kernel_rfl) (d := (some 55)) (by kernel_rfl) (v := .pointer (some ⟨b3, o3, none⟩)) (fun _ => by kernel_rfl) ?_
  refine k_pure (by kernel_rfl) (d := (some 56)) (by kernel_rfl) (v := .pointer (some ⟨b3, o3, none⟩)) (fun _ => by kernel_rfl) ?_
  refine k_callR (by kernel_rfl) (d := (some 57)) (by kernel_rfl) (f := 104) (args := #[.pointer (some ⟨n + 1 + 1 + 1 + 1 + 1, 0, none⟩), .pointer (some ⟨b3, o3, none⟩)]) (fun _ => by kernel_rfl) (stSqr H3 (i := 6) rfl (k1 := 0) rfl (by simp) (hV.fst.sto H3 (keys8 dV HN3)) (z := v0 * v0) rfl) (fun _ w4 q4 => ⟨.tuple #[], q4.1, trivial, ?_⟩)
  have u4 := q4.2
  clear q4
  refine k_end ?_
  go_simp
  go_upto_region 6 with (fail)
  have H4 : Sto w [(b1, L1), (n, [u1 * v1]), (n + 1, [0]), (n + 1 + 1, [0]), (n + 1 + 1 + 1, [0]), (n + 1 + 1 + 1 + 1, [a]), (n + 1 + 1 + 1 + 1 + 1, [v0 * v0]), (n + 1 + 1 + 1 + 1 + 1 + 1, [0])] w4 := u4
  clear u4 H3
  refine wp_seq_atS (opsAt Tryd.f83 6) ((true, 0) :: (true, 1) :: (true, 2) :: (true, 3) :: (false, 4) :: []) (fun _ => True) (by kernel_rfl) (by kernel_rfl) trivial ?_
  refine k_pure (by kernel_rfl) (d := (some 58)) (by kernel_rfl) (v := .pointer (some ⟨n, 0, none⟩)) (fun _ => by kernel_rfl) ?_
  refine k_pure (by kernel_rfl) (d := (some 59)) (by kernel_rfl) (v := .pointer (some ⟨b3, o3, none⟩)) (fun _ => by kernel_rfl) ?_
  refine k_pure (by kernel_rfl) (d := (some 60)) (by kernel_rfl) (v := .pointer (some ⟨b3, o3, none⟩)) (fun _ => by kernel_rfl) ?_
  refine k_pure (by kernel_rfl) (d := (some 61)) (by kernel_rfl) (v := .pointer (some ⟨b3, o3 + 16, none⟩)) (fun _ => by kernel_rfl) ?_
  refine k_callR (by kernel_rfl) (d := (some 62)) (by kernel_rfl) (f := 104) (args := #[.pointer (some ⟨n, 0, none⟩), .pointer (some ⟨b3, o3 + 16, none⟩)]) (fun _ => by kernel_rfl) (stSqr H4 (i := 1) rfl (k1 := 0) rfl (by simp) (hV.snd.sto H4 (keys8 dV HN3)) (z := v1 * v1) rfl) (fun _ w5 q5 => ⟨.tuple #[], q5.1, trivial, ?_⟩)
  have u5 := q5.2
  clear q5
  refine k_end ?_
  go_simp
  go_upto_region 7 with (fail)
  have H5 : Sto w [(b1, L1), (n, [v1 * v1]), (n + 1, [0]), (n + 1 + 1, [0]), (n + 1 + 1 + 1, [0]), (n + 1 + 1 + 1 + 1, [a]), (n + 1 + 1 + 1 + 1 + 1, [v0 * v0]), (n + 1 + 1 + 1 + 1 + 1 + 1, [0])] w5 := u5
  clear u5 H4
  refine wp_seq_atS (opsAt Tryd.f83 7) ((true, 0) :: (true, 1) :: (true, 2) :: (false, 3) :: []) (fun _ => True) (by kernel_rfl) (by kernel_rfl) trivial ?_
  refine k_pure (by kernel_rfl) (d := (some 63)) (by kernel_rfl) (v := .pointer (some ⟨n + 1 + 1 + 1 + 1 + 1, 0, none⟩)) (fun _ => by kernel_rfl) ?_
  refine k_pure (by kernel_rfl) (d := (some 64)) (by kernel_rfl) (v := .pointer (some ⟨n + 1 + 1 + 1 + 1 + 1, 0, none⟩)) (fun _ => by kernel_rfl) ?_
  refine k_pure (by kernel_rfl) (d := (some 65)) (by kernel_rfl) (v := .pointer (some ⟨n, 0, none⟩)) (fun _ => by kernel_rfl) ?_
  refine k_callR (by kernel_rfl) (d := (some 66)) (by kernel_rfl) (f := 103) (args := #[.pointer (some ⟨n + 1 + 1 + 1 + 1 + 1, 0, none⟩), .pointer (some ⟨n + 1 + 1 + 1 + 1 + 1, 0, none⟩), .pointer (some ⟨n, 0, none⟩)]) (fun _ => by kernel_rfl) (stAdd H5 (i := 6) rfl (k1 := 0) rfl (by simp) (H5.at 6 0 rfl rfl rfl) (H5.at 1 0 rfl rfl rfl) (z := b) HB.out) (fun _ w6 q6 => ⟨.tuple #[], q6.1, trivial, ?_⟩)
  have u6 := q6.2
  clear q6
  refine k_end ?_
  go_simp
  go_upto_region 8 with (fail)
  have H6 : Sto w [(b1, L1), (n, [v1 * v1]), (n + 1, [0]), (n + 1 + 1, [0]), (n + 1 + 1 + 1, [0]), (n + 1 + 1 + 1 + 1, [a]), (n + 1 + 1 + 1 + 1 + 1, [b]), (n + 1 + 1 + 1 + 1 + 1 + 1, [0])] w6 := u6
  clear u6 H5
  refine wp_region_atS (opsAt Tryd.f83 8) ((true, 0) :: (true, 1) :: (true, 2) :: (true, 3) :: (true, 4) :: (true, 5) :: (true, 6) :: (false, 7) :: []) (fun _ => True) (by kernel_rfl) rfl (by kernel_rfl) (fun _ _ d _ _ h => by cases d <;> exact h) (by kernel_rfl) (by kernel_rfl) trivial ?_
  refine k_pure (by kernel_rfl) (d := (some 67)) (by kernel_rfl) (v := .pointer (some ⟨n + 1 + 1 + 1 + 1 + 1 + 1, 0, none⟩)) (fun _ => by kernel_rfl) ?_
  refine k_pure (by kernel_rfl) (d := (some 68)) (by kernel_rfl) (v := .pointer (some ⟨b2, o2, none⟩)) (fun _ => by kernel_rfl) ?_
  refine k_pure (by kernel_rfl) (d := (some 69)) (by kernel_rfl) (v := .pointer (some ⟨b2, o2, none⟩)) (fun _ => by kernel_rfl) ?_
  refine k_pure (by kernel_rfl) (d := (some 70)) (by kernel_rfl) (v := .pointer (some ⟨b2, o2 + 16, none⟩)) (fun _ => by kernel_rfl) ?_
  refine k_pure (by kernel_rfl) (d := (some 71)) (by kernel_rfl) (v := .pointer (some ⟨b3, o3, none⟩)) (fun _ => by kernel_rfl) ?_
  refine k_pure (by kernel_rfl) (d := (some 72)) (by kernel_rfl) (v := .pointer (some ⟨b3, o3, none⟩)) (fun _ => by kernel_rfl) ?_
  refine k_pure (by kernel_rfl) (d := (some 73)) (by kernel_rfl) (v := .pointer (some ⟨b3, o3, none⟩)) (fun _ => by kernel_rfl) ?_
  refine k_callR (by kernel_rfl) (d := (some 74)) (by kernel_rfl) (f := 102) (args := #[.pointer (some ⟨n + 1 + 1 + 1 + 1 + 1 + 1, 0, none⟩), .pointer (some ⟨b2, o2 + 16, none⟩), .pointer (some ⟨b3, o3, none⟩)]) (fun _ => by kernel_rfl) (stMul H6.drew (i := 7) rfl (k1 := 0) rfl (by simp) (hU.snd.sto H6 (keys8 dU HN2)).drew (hV.fst.sto H6 (keys8 dV HN3)).drew (z := u1 * v0) rfl) (fun _ w7 q7 => ⟨.tuple #[], q7.1, trivial, ?_⟩)
  have u7 := q7.2
  clear q7
  refine k_end ?_
  go_simp
  go_upto_region 9 with (fail)
  have H7 : Sto w [(b1, L1), (n, [v1 * v1]), (n + 1, [0]), (n + 1 + 1, [0]), (n + 1 + 1 + 1, [0]), (n + 1 + 1 + 1 + 1, [a]), (n + 1 + 1 + 1 + 1 + 1, [b]), (n + 1 + 1 + 1 + 1 + 1 + 1, [u1 * v0])] w7 := u7
  clear u7 H6
  refine wp_region_atS (opsAt Tryd.f83 9) ((true, 0) :: (true, 1) :: (true, 2) :: (true, 3) :: (true, 4) :: (true, 5) :: (true, 6) :: (false, 7) :: []) (fun _ => True) (by kernel_rfl) rfl (by kernel_rfl) (fun _ _ d _ _ h => by cases d <;> exact h) (by kernel_rfl) (by kernel_rfl) trivial ?_
  refine k_pure (by kernel_rfl) (d := (some 75)) (by kernel_rfl) (v := .pointer (some ⟨n, 0, none⟩)) (fun _ => by kernel_rfl) ?_
  refine k_pure (by kernel_rfl) (d := (some 76)) (by kernel_rfl) (v := .pointer (some ⟨b2, o2, none⟩)) (fun _ => by kernel_rfl) ?_
  refine k_pure (by kernel_rfl) (d := (some 77)) (by kernel_rfl) (v := .pointer (some ⟨b2, o2, none⟩)) (fun _ => by kernel_rfl) ?_
  refine k_pure (by kernel_rfl) (d := (some 78)) (by kernel_rfl) (v := .pointer (some ⟨b2, o2, none⟩)) (fun _ => by kernel_rfl) ?_
  refine k_pure (by kernel_rfl) (d := (some 79)) (by kernel_rfl) (v := .pointer (some ⟨b3, o3, none⟩)) (fun _ => by kernel_rfl) ?_
  refine k_pure (by kernel_rfl) (d := (some 80)) (by kernel_rfl) (v := .pointer (some ⟨b3, o3, none⟩)) (fun _ => by kernel_rfl) ?_
  refine k_pure (by kernel_rfl) (d := (some 81)) (by kernel_rfl) (v := .pointer (some ⟨b3, o3 + 16, none⟩)) (fun _ => by kernel_rfl) ?_
  refine k_callR (by kernel_rfl) (d := (some 82)) (by kernel_rfl) (f := 102) (args := #[.pointer (some ⟨n, 0, none⟩), .pointer (some ⟨b2, o2, none⟩), .pointer (some ⟨b3, o3 + 16, none⟩)]) (fun _ => by kernel_rfl) (stMul H7.drew (i := 1) rfl (k1 := 0) rfl (by simp) (hU.fst.sto H7 (keys8 dU HN2)).drew (hV.snd.sto H7 (keys8 dV HN3)).drew (z := u0 * v1) rfl) (fun _ w8 q8 => ⟨.tuple #[], q8.1, trivial, ?_⟩)
  have u8 := q8.2
  clear q8
  refine k_end ?_
  go_simp
  go_upto_region 10 with (fail)
  have H8 : Sto w [(b1, L1), (n, [u0 * v1]), (n + 1, [0]), (n + 1 + 1, [0]), (n + 1 + 1 + 1, [0]), (n + 1 + 1 + 1 + 1, [a]), (n + 1 + 1 + 1 + 1 + 1, [b]), (n + 1 + 1 + 1 + 1 + 1 + 1, [u1 * v0])] w8 := u8
  clear u8 H7
  refine wp_seq_atS (opsAt Tryd.f83 10) ((true, 0) :: (true, 1) :: (true, 2) :: (false, 3) :: []) (fun _ => True) (by kernel_rfl) (by kernel_rfl) trivial ?_
  refine k_pure (by kernel_rfl) (d := (some 83)) (by kernel_rfl) (v := .pointer (some ⟨n + 1 + 1 + 1 + 1 + 1 + 1, 0, none⟩)) (fun _ => by kernel_rfl) ?_
  refine k_pure (by kernel_rfl) (d := (some 84)) (by kernel_rfl) (v := .pointer (some ⟨n + 1 + 1 + 1 + 1 + 1 + 1, 0, none⟩)) (fun _ => by kernel_rfl) ?_
  refine k_pure (by kernel_rfl) (d := (some 85)) (by kernel_rfl) (v := .pointer (some ⟨n, 0, none⟩)) (fun _ => by kernel_rfl) ?_
  refine k_callR (by kernel_rfl) (d := (some 86)) (by kernel_rfl) (f := 105) (args := #[.pointer (some ⟨n + 1 + 1 + 1 + 1 + 1 + 1, 0, none⟩), .pointer (some ⟨n + 1 + 1 + 1 + 1 + 1 + 1, 0, none⟩), .pointer (some ⟨n, 0, none⟩)]) (fun _ => by kernel_rfl) (stSub H8 (i := 7) rfl (k1 := 0) rfl (by simp) (H8.at 7 0 rfl rfl rfl) (H8.at 1 0 rfl rfl rfl) (z := g) HGG.out) (fun _ w9 q9 => ⟨.tuple #[], q9.1, trivial, ?_⟩)
  have u9 := q9.2
  clear q9
  refine k_end ?_
  go_simp
  go_upto_region 11 with (fail)
  have H9 : Sto w [(b1, L1), (n, [u0 * v1]), (n + 1, [0]), (n + 1 + 1, [0]), (n + 1 + 1 + 1, [0]), (n + 1 + 1 + 1 + 1, [a]), (n + 1 + 1 + 1 + 1 + 1, [b]), (n + 1 + 1 + 1 + 1 + 1 + 1, [g])] w9 := u9
  clear u9 H8
  refine wp_seq_atS (opsAt Tryd.f83 11) ((true, 0) :: (true, 1) :: (false, 2) :: []) (fun _ => True) (by kernel_rfl) (by kernel_rfl) trivial ?_
  refine k_pure (by kernel_rfl) (d := (some 87)) (by kernel_rfl) (v := .pointer (some ⟨n, 0, none⟩)) (fun _ => by kernel_rfl) ?_
  refine k_pure (by kernel_rfl) (d := (some 88)) (by kernel_rfl) (v := .pointer (some ⟨n + 1 + 1 + 1 + 1, 0, none⟩)) (fun _ => by kernel_rfl) ?_
  refine k_callR (by kernel_rfl) (d := (some 89)) (by kernel_rfl) (f := 104) (args := #[.pointer (some ⟨n, 0, none⟩), .pointer (some ⟨n + 1 + 1 + 1 + 1, 0, none⟩)]) (fun _ => by kernel_rfl) (stSqr H9 (i := 1) rfl (k1 := 0) rfl (by simp) (H9.at 5 0 rfl rfl rfl) (z := a * a) rfl) (fun _ w10 q10 => ⟨.tuple #[], q10.1, trivial, ?_⟩)
  have u10 := q10.2
  clear q10
  refine k_end ?_
  go_simp
  go_upto_region 12 with (fail)
  have H10 : Sto w [(b1, L1), (n, [a * a]), (n + 1, [0]), (n + 1 + 1, [0]), (n + 1 + 1 + 1, [0]), (n + 1 + 1 + 1 + 1, [a]), (n + 1 + 1 + 1 + 1 + 1, [b]), (n + 1 + 1 + 1 + 1 + 1 + 1, [g])] w10 := u10
  clear u10 H9
  refine wp_seq_atS (opsAt Tryd.f83 12) ((true, 0) :: (true, 1) :: (false, 2) :: []) (fun _ => True) (by kernel_rfl) (by kernel_rfl) trivial ?_
  refine k_pure (by kernel_rfl) (d := (some 90)) (by kernel_rfl) (v := .pointer (some ⟨n + 1, 0, none⟩)) (fun _ => by kernel_rfl) ?_
  refine k_pure (by kernel_rfl) (d := (some 91)) (by kernel_rfl) (v := .pointer (some ⟨n + 1 + 1 + 1 + 1 + 1 + 1, 0, none⟩)) (fun _ => by kernel_rfl) ?_
  refine k_callR (by kernel_rfl) (d := (some 92)) (by kernel_rfl) (f := 104) (args := #[.pointer (some ⟨n + 1, 0, none⟩), .pointer (some ⟨n + 1 + 1 + 1 + 1 + 1 + 1, 0, none⟩)]) (fun _ => by kernel_rfl) (stSqr H10 (i := 2) rfl (k1 := 0) rfl (by simp) (H10.at 7 0 rfl rfl rfl) (z := g * g) rfl) (fun _ w11 q11 => ⟨.tuple #[], q11.1, trivial, ?_⟩)
  have u11 := q11.2
  clear q11
  refine k_end ?_
  go_simp
  go_upto_region 13 with (fail)
  have H11 : Sto w [(b1, L1), (n, [a * a]), (n + 1, [g * g]), (n + 1 + 1, [0]), (n + 1 + 1 + 1, [0]), (n + 1 + 1 + 1 + 1, [a]), (n + 1 + 1 + 1 + 1 + 1, [b]), (n + 1 + 1 + 1 + 1 + 1 + 1, [g])] w11 := u11
  clear u11 H10
  refine wp_seq_atS (opsAt Tryd.f83 13) ((true, 0) :: (true, 1) :: (true, 2) :: (false, 3) :: []) (fun _ => True) (by kernel_rfl) (by kernel_rfl) trivial ?_
  refine k_pure (by kernel_rfl) (d := (some 93)) (by kernel_rfl) (v := .pointer (some ⟨n, 0, none⟩)) (fun _ => by kernel_rfl) ?_
  refine k_pure (by kernel_rfl) (d := (some 94)) (by kernel_rfl) (v := .pointer (some ⟨n, 0, none⟩)) (fun _ => by kernel_rfl) ?_
  refine k_pure (by kernel_rfl) (d := (some 95)) (by kernel_rfl) (v := .pointer (some ⟨n + 1, 0, none⟩)) (fun _ => by kernel_rfl) ?_
  refine k_callR (by kernel_rfl) (d := (some 96)) (by kernel_rfl) (f := 103) (args := #[.pointer (some ⟨n, 0, none⟩), .pointer (some ⟨n, 0, none⟩), .pointer (some ⟨n + 1, 0, none⟩)]) (fun _ => by kernel_rfl) (stAdd H11 (i := 1) rfl (k1 := 0) rfl (by simp) (H11.at 1 0 rfl rfl rfl) (H11.at 2 0 rfl rfl rfl) (z := X) HX.out) (fun _ w12 q12 => ⟨.tuple #[], q12.1, trivial, ?_⟩)
  have u12 := q12.2
  clear q12
  refine k_end ?_
  go_simp
  go_upto_region 15 with (fail)
  have H12 : Sto w [(b1, L1), (n, [X]), (n + 1, [g * g]), (n + 1 + 1, [0]), (n + 1 + 1 + 1, [0]), (n + 1 + 1 + 1 + 1, [a]), (n + 1 + 1 + 1 + 1 + 1, [b]), (n + 1 + 1 + 1 + 1 + 1 + 1, [g])] w12 := u12
  clear u12 H11
  have HL : Hid (Sto w [(b1, L1), (n, [X.pow (1 * 2 ^ 0)]), (n + 1, [g * g]), (n + 1 + 1, [0]), (n + 1 + 1 + 1, [0]), (n + 1 + 1 + 1 + 1, [a]), (n + 1 + 1 + 1 + 1 + 1, [b]), (n + 1 + 1 + 1 + 1 + 1 + 1, [g])] w12) := Lib.hid (by have := H12; rw [← zpow_one X] at this; exact this)
  clear H12
  go_wp2_with fail
  go_loopw [15] (fun iv wr => ∃ k : Nat, k ≤ 125 ∧ iv = .int .i64 k ∧ Hid (Sto w [(b1, L1), (n, [X.pow (1 * 2 ^ k)]), (n + 1, [g * g]), (n + 1 + 1, [0]), (n + 1 + 1 + 1, [0]), (n + 1 + 1 + 1 + 1, [a]), (n + 1 + 1 + 1 + 1 + 1, [b]), (n + 1 + 1 + 1 + 1 + 1 + 1, [g])] wr)) (fun i _ => 125 - (intOf i).toNat)
  case atStart => exact ⟨0, Nat.zero_le _, rfl, Lib.hid HL.out⟩
  case round =>
    obtain ⟨k, hk, rfl, hs⟩ := hrel
    clear HL
    by_cases hlt : k < 125
    · go_wp2_with fail
      refine (stSqr hs.out (i := 1) rfl (k1 := 0) rfl (by simp) (hs.out.at 1 0 rfl rfl rfl) (pw_step X 1 k)).mono ?_
      rintro e w' ⟨rfl, hL⟩
      have HL := Lib.hid hL
      clear hL
      go_wp2_with fail
      exact ⟨⟨k + 1, by omega, by go_num, Lib.hid HL.out⟩, by simp [intOf]; omega⟩
    · have hk : k = 125 := by omega
      have hS0 : X.pow (1 * 2 ^ k) = S := by rw [hk]; exact HS.out
      have hk' : ¬ (k : Int) < 125 := by omega
      have H20 : Sto w [(b1, L1), (n, [S]), (n + 1, [g * g]), (n + 1 + 1, [0]), (n + 1 + 1 + 1, [0]), (n + 1 + 1 + 1 + 1, [a]), (n + 1 + 1 + 1 + 1 + 1, [b]), (n + 1 + 1 + 1 + 1 + 1 + 1, [g])] wr := by have := hs.out; rw [hS0] at this; exact this
      clear hs hS0 hk
      go_upto_region 18 with (fail)
      refine wp_seq_atS (opsAt Tryd.f83 18) ((true, 0) :: (true, 1) :: (true, 2) :: (false, 3) :: []) (fun _ => True) (by kernel_rfl) (by kernel_rfl) trivial ?_
      refine k_pure (by kernel_rfl) (d := (some 104)) (by kernel_rfl) (v := .pointer (some ⟨n + 1 + 1, 0, none⟩)) (fun _ => by kernel_rfl) ?_
      refine k_pure (by kernel_rfl) (d := (some 105)) (by kernel_rfl) (v := .pointer (some ⟨n + 1 + 1 + 1 + 1, 0, none⟩)) (fun _ => by kernel_rfl) ?_
      refine k_pure (by kernel_rfl) (d := (some 106)) (by kernel_rfl) (v := .pointer (some ⟨n, 0, none⟩)) (fun _ => by kernel_rfl) ?_
      refine k_callR (by kernel_rfl) (d := (some 107)) (by kernel_rfl) (f := 103) (args := #[.pointer (some ⟨n + 1 + 1, 0, none⟩), .pointer (some ⟨n + 1 + 1 + 1 + 1, 0, none⟩), .pointer (some ⟨n, 0, none⟩)]) (fun _ => by kernel_rfl) (stAdd H20 (i := 3) rfl (k1 := 0) rfl (by simp) (H20.at 5 0 rfl rfl rfl) (H20.at 1 0 rfl rfl rfl) (z := a + S) rfl) (fun _ w13 q13 => ⟨.tuple #[], q13.1, trivial, ?_⟩)
      have u13 := q13.2
      clear q13
      refine k_end ?_
      go_simp
      go_upto_region 19 with (fail)
      have H21 : Sto w [(b1, L1), (n, [S]), (n + 1, [g * g]), (n + 1 + 1, [a + S]), (n + 1 + 1 + 1, [0]), (n + 1 + 1 + 1 + 1, [a]), (n + 1 + 1 + 1 + 1 + 1, [b]), (n + 1 + 1 + 1 + 1 + 1 + 1, [g])] w13 := u13
      clear u13 H20
      refine wp_seq_atS (opsAt Tryd.f83 19) ((true, 0) :: (true, 1) :: (true, 2) :: (false, 3) :: []) (fun _ => True) (by kernel_rfl) (by kernel_rfl) trivial ?_
      refine k_pure (by kernel_rfl) (d := (some 108)) (by kernel_rfl) (v := .pointer (some ⟨n + 1, 0, none⟩)) (fun _ => by kernel_rfl) ?_
      refine k_pure (by kernel_rfl) (d := (some 109)) (by kernel_rfl) (v := .pointer (some ⟨n + 1 + 1 + 1 + 1, 0, none⟩)) (fun _ => by kernel_rfl) ?_
      refine k_pure (by kernel_rfl) (d := (some 110)) (by kernel_rfl) (v := .pointer (some ⟨n, 0, none⟩)) (fun _ => by kernel_rfl) ?_
      refine k_callR (by kernel_rfl) (d := (some 111)) (by kernel_rfl) (f := 105) (args := #[.pointer (some ⟨n + 1, 0, none⟩), .pointer (some ⟨n + 1 + 1 + 1 + 1, 0, none⟩), .pointer (some ⟨n, 0, none⟩)]) (fun _ => by kernel_rfl) (stSub H21 (i := 2) rfl (k1 := 0) rfl (by simp) (H21.at 5 0 rfl rfl rfl) (H21.at 1 0 rfl rfl rfl) (z := a - S) rfl) (fun _ w14 q14 => ⟨.tuple #[], q14.1, trivial, ?_⟩)
      have u14 := q14.2
      clear q14
      refine k_end ?_
      go_simp
      go_upto_region 20 with (fail)
      have H22 : Sto w [(b1, L1), (n, [S]), (n + 1, [a - S]), (n + 1 + 1, [a + S]), (n + 1 + 1 + 1, [0]), (n + 1 + 1 + 1 + 1, [a]), (n + 1 + 1 + 1 + 1 + 1, [b]), (n + 1 + 1 + 1 + 1 + 1 + 1, [g])] w14 := u14
      clear u14 H21
      refine wp_region_atS (opsAt Tryd.f83 20) ((true, 0) :: (true, 2) :: (true, 3) :: (true, 4) :: (true, 5) :: (true, 6) :: (true, 7) :: (false, 1) :: (false, 8) :: []) (fun _ => True) (by kernel_rfl) rfl (by kernel_rfl) (fun _ _ d _ _ h => by cases d <;> exact h) (by kernel_rfl) (by kernel_rfl) trivial ?_
      refine k_pure (by kernel_rfl) (d := (some 112)) (by kernel_rfl) (v := .pointer (some ⟨n + 1 + 1, 0, none⟩)) (fun _ => by kernel_rfl) ?_
      refine k_pure (by kernel_rfl) (d := (some 114)) (by kernel_rfl) (v := .pointer (some ⟨n + 1 + 1, 0, none⟩)) (fun _ => by kernel_rfl) ?_
      refine k_pure (by kernel_rfl) (d := (some 115)) (by kernel_rfl) (v := .pointer (some ⟨n + 1 + 1, 0, none⟩)) (fun _ => by kernel_rfl) ?_
      refine k_pure (by kernel_rfl) (d := (some 116)) (by kernel_rfl) (v := .slice (some ⟨n + 1 + 1, 0, none⟩) 16 16) (fun _ => by kernel_rfl) ?_
      refine k_pure (by kernel_rfl) (d := (some 117)) (by kernel_rfl) (v := .pointer (some ⟨n + 1, 0, none⟩)) (fun _ => by kernel_rfl) ?_
      refine k_pure (by kernel_rfl) (d := (some 118)) (by kernel_rfl) (v := .pointer (some ⟨n + 1, 0, none⟩)) (fun _ => by kernel_rfl) ?_
      refine k_pure (by kernel_rfl) (d := (some 119)) (by kernel_rfl) (v := .slice (some ⟨n + 1, 0, none⟩) 16 16) (fun _ => by kernel_rfl) ?_
      refine k_callR (by kernel_rfl) (d := (some 113)) (by kernel_rfl) (f := 107) (args := #[.pointer (some ⟨n + 1 + 1, 0, none⟩)]) (fun _ => by kernel_rfl) (stZeroCT (hm.sto H22 (keys8 (Nat.ne_of_lt hg) HG)).drew H22.drew (i := 3) rfl (k1 := 0) rfl rfl) (fun _ w15 q15 => ⟨.int .i64 (isz (a + S).val), q15.1, trivial, ?_⟩)
      have u15 := q15.2
      clear q15
      have H20b : Sto w [(b1, L1), (n, [S]), (n + 1, [a - S]), (n + 1 + 1, [a + S]), (n + 1 + 1 + 1, [0]), (n + 1 + 1 + 1 + 1, [a]), (n + 1 + 1 + 1 + 1 + 1, [b]), (n + 1 + 1 + 1 + 1 + 1 + 1, [g])] w15 := u15
      clear u15 H22
      refine k_callR (by kernel_rfl) (d := (some 120)) (by kernel_rfl) (f := 106) (args := #[.int .i64 (isz (a + S).val), .slice (some ⟨n + 1 + 1, 0, none⟩) 16 16, .slice (some ⟨n + 1, 0, none⟩) 16 16]) (fun _ => by kernel_rfl) (stSel (isz01 _) H20b (i := 3) rfl (k1 := 0) rfl rfl (H20b.at 2 0 rfl rfl rfl) (.inl (H20b.ne 2 3 _ _ _ _ rfl rfl (by decide)))) (fun _ w16 q16 => ⟨.tuple #[], q16.1, trivial, ?_⟩)
      have u16 := q16.2
      clear q16
      refine k_end ?_
      go_simp
      go_upto_region 21 with (fail)
      have H23 : Sto w [(b1, L1), (n, [S]), (n + 1, [a - S]), (n + 1 + 1, [(if isz (a + S).val = 1 then a - S else a + S)]), (n + 1 + 1 + 1, [0]), (n + 1 + 1 + 1 + 1, [a]), (n + 1 + 1 + 1 + 1 + 1, [b]), (n + 1 + 1 + 1 + 1 + 1 + 1, [g])] w16 := u16
      clear u16 H20b
      rw [HT.out] at H23
      refine wp_seq_atS (opsAt Tryd.f83 21) ((true, 0) :: (true, 1) :: (true, 2) :: (false, 3) :: []) (fun _ => True) (by kernel_rfl) (by kernel_rfl) trivial ?_
      refine k_pure (by kernel_rfl) (d := (some 121)) (by kernel_rfl) (v := .pointer (some ⟨n + 1 + 1, 0, none⟩)) (fun _ => by kernel_rfl) ?_
      refine k_pure (by kernel_rfl) (d := (some 122)) (by kernel_rfl) (v := .pointer (some ⟨n + 1 + 1, 0, none⟩)) (fun _ => by kernel_rfl) ?_
      refine k_pure (by kernel_rfl) (d := (some 123)) (by kernel_rfl) (v := .pointer (some ⟨n + 1 + 1, 0, none⟩)) (fun _ => by kernel_rfl) ?_
      refine k_callR (by kernel_rfl) (d := (some 124)) (by kernel_rfl) (f := 103) (args := #[.pointer (some ⟨n + 1 + 1, 0, none⟩), .pointer (some ⟨n + 1 + 1, 0, none⟩), .pointer (some ⟨n + 1 + 1, 0, none⟩)]) (fun _ => by kernel_rfl) (stAdd H23 (i := 3) rfl (k1 := 0) rfl (by simp) (H23.at 3 0 rfl rfl rfl) (H23.at 3 0 rfl rfl rfl) (z := T) HTT.out) (fun _ w17 q17 => ⟨.tuple #[], q17.1, trivial, ?_⟩)
      have u17 := q17.2
      clear q17
      refine k_end ?_
      go_simp
      go_upto_region 22 with (fail)
      have H24 : Sto w [(b1, L1), (n, [S]), (n + 1, [a - S]), (n + 1 + 1, [T]), (n + 1 + 1 + 1, [0]), (n + 1 + 1 + 1 + 1, [a]), (n + 1 + 1 + 1 + 1 + 1, [b]), (n + 1 + 1 + 1 + 1 + 1 + 1, [g])] w17 := u17
      clear u17 H23
      refine wp_seq_atS (opsAt Tryd.f83 22) ((true, 0) :: (true, 1) :: (false, 2) :: []) (fun _ => True) (by kernel_rfl) (by kernel_rfl) trivial ?_
      refine k_pure (by kernel_rfl) (d := (some 125)) (by kernel_rfl) (v := .pointer (some ⟨n + 1 + 1 + 1, 0, none⟩)) (fun _ => by kernel_rfl) ?_
      refine k_pure (by kernel_rfl) (d := (some 126)) (by kernel_rfl) (v := .pointer (some ⟨n + 1 + 1 + 1 + 1 + 1, 0, none⟩)) (fun _ => by kernel_rfl) ?_
      refine k_callR (by kernel_rfl) (d := (some 127)) (by kernel_rfl) (f := 104) (args := #[.pointer (some ⟨n + 1 + 1 + 1, 0, none⟩), .pointer (some ⟨n + 1 + 1 + 1 + 1 + 1, 0, none⟩)]) (fun _ => by kernel_rfl) (stSqr H24 (i := 4) rfl (k1 := 0) rfl (by simp) (H24.at 6 0 rfl rfl rfl) (z := b * b) rfl) (fun _ w18 q18 => ⟨.tuple #[], q18.1, trivial, ?_⟩)
      have u18 := q18.2
      clear q18
      refine k_end ?_
      go_simp
      go_upto_region 23 with (fail)
      have H25 : Sto w [(b1, L1), (n, [S]), (n + 1, [a - S]), (n + 1 + 1, [T]), (n + 1 + 1 + 1, [b * b]), (n + 1 + 1 + 1 + 1, [a]), (n + 1 + 1 + 1 + 1 + 1, [b]), (n + 1 + 1 + 1 + 1 + 1 + 1, [g])] w18 := u18
      clear u18 H24
      refine wp_seq_atS (opsAt Tryd.f83 23) ((true, 0) :: (true, 1) :: (true, 2) :: (false, 3) :: []) (fun _ => True) (by kernel_rfl) (by kernel_rfl) trivial ?_
      refine k_pure (by kernel_rfl) (d := (some 128)) (by kernel_rfl) (v := .pointer (some ⟨n + 1 + 1 + 1, 0, none⟩)) (fun _ => by kernel_rfl) ?_
      refine k_pure (by kernel_rfl) (d := (some 129)) (by kernel_rfl) (v := .pointer (some ⟨n + 1 + 1 + 1, 0, none⟩)) (fun _ => by kernel_rfl) ?_
      refine k_pure (by kernel_rfl) (d := (some 130)) (by kernel_rfl) (v := .pointer (some ⟨n + 1 + 1 + 1 + 1 + 1, 0, none⟩)) (fun _ => by kernel_rfl) ?_
      refine k_callR (by kernel_rfl) (d := (some 131)) (by kernel_rfl) (f := 102) (args := #[.pointer (some ⟨n + 1 + 1 + 1, 0, none⟩), .pointer (some ⟨n + 1 + 1 + 1, 0, none⟩), .pointer (some ⟨n + 1 + 1 + 1 + 1 + 1, 0, none⟩)]) (fun _ => by kernel_rfl) (stMul H25 (i := 4) rfl (k1 := 0) rfl (by simp) (H25.at 4 0 rfl rfl rfl) (H25.at 6 0 rfl rfl rfl) (z := b * b * b) rfl) (fun _ w19 q19 => ⟨.tuple #[], q19.1, trivial, ?_⟩)
      have u19 := q19.2
      clear q19
      refine k_end ?_
      go_simp
      go_upto_region 24 with (fail)
      have H26 : Sto w [(b1, L1), (n, [S]), (n + 1, [a - S]), (n + 1 + 1, [T]), (n + 1 + 1 + 1, [b * b * b]), (n + 1 + 1 + 1 + 1, [a]), (n + 1 + 1 + 1 + 1 + 1, [b]), (n + 1 + 1 + 1 + 1 + 1 + 1, [g])] w19 := u19
      clear u19 H25
      refine wp_seq_atS (opsAt Tryd.f83 24) ((true, 0) :: (true, 1) :: (true, 2) :: (false, 3) :: []) (fun _ => True) (by kernel_rfl) (by kernel_rfl) trivial ?_
      refine k_pure (by kernel_rfl) (d := (some 132)) (by kernel_rfl) (v := .pointer (some ⟨n + 1 + 1 + 1, 0, none⟩)) (fun _ => by kernel_rfl) ?_
      refine k_pure (by kernel_rfl) (d := (some 133)) (by kernel_rfl) (v := .pointer (some ⟨n + 1 + 1 + 1, 0, none⟩)) (fun _ => by kernel_rfl) ?_
      refine k_pure (by kernel_rfl) (d := (some 134)) (by kernel_rfl) (v := .pointer (some ⟨n + 1 + 1, 0, none⟩)) (fun _ => by kernel_rfl) ?_
      refine k_callR (by kernel_rfl) (d := (some 135)) (by kernel_rfl) (f := 102) (args := #[.pointer (some ⟨n + 1 + 1 + 1, 0, none⟩), .pointer (some ⟨n + 1 + 1 + 1, 0, none⟩), .pointer (some ⟨n + 1 + 1, 0, none⟩)]) (fun _ => by kernel_rfl) (stMul H26 (i := 4) rfl (k1 := 0) rfl (by simp) (H26.at 4 0 rfl rfl rfl) (H26.at 3 0 rfl rfl rfl) (z := b * b * b * T) rfl) (fun _ w20 q20 => ⟨.tuple #[], q20.1, trivial, ?_⟩)
      have u20 := q20.2
      clear q20
      refine k_end ?_
      go_simp
      go_upto_region 25 with (fail)
      have H27 : Sto w [(b1, L1), (n, [S]), (n + 1, [a - S]), (n + 1 + 1, [T]), (n + 1 + 1 + 1, [b * b * b * T]), (n + 1 + 1 + 1 + 1, [a]), (n + 1 + 1 + 1 + 1 + 1, [b]), (n + 1 + 1 + 1 + 1 + 1 + 1, [g])] w20 := u20
      clear u20 H26
      refine wp_seq_atS (opsAt Tryd.f83 25) ((true, 0) :: (true, 1) :: (false, 2) :: []) (fun _ => True) (by kernel_rfl) (by kernel_rfl) trivial ?_
      refine k_pure (by kernel_rfl) (d := (some 136)) (by kernel_rfl) (v := .pointer (some ⟨n + 1 + 1 + 1, 0, none⟩)) (fun _ => by kernel_rfl) ?_
      refine k_pure (by kernel_rfl) (d := (some 137)) (by kernel_rfl) (v := .pointer (some ⟨n + 1 + 1 + 1, 0, none⟩)) (fun _ => by kernel_rfl) ?_
      refine k_callR (by kernel_rfl) (d := (some 138)) (by kernel_rfl) (f := 108) (args := #[.pointer (some ⟨n + 1 + 1 + 1, 0, none⟩), .pointer (some ⟨n + 1 + 1 + 1, 0, none⟩)]) (fun _ => by kernel_rfl) (stTwo H27 (i := 4) rfl (k1 := 0) rfl (by simp) (H27.at 4 0 rfl rfl rfl) (z := r) HR.out) (fun _ w21 q21 => ⟨.tuple #[], q21.1, trivial, ?_⟩)
      have u21 := q21.2
      clear q21
      refine k_end ?_
      go_simp
      go_upto_region 26 with (fail)
      have H28 : Sto w [(b1, L1), (n, [S]), (n + 1, [a - S]), (n + 1 + 1, [T]), (n + 1 + 1 + 1, [r]), (n + 1 + 1 + 1 + 1, [a]), (n + 1 + 1 + 1 + 1 + 1, [b]), (n + 1 + 1 + 1 + 1 + 1 + 1, [g])] w21 := u21
      clear u21 H27
      have H29 : Sto w [(b1, cl L1 k1 p0 p1), (n, [S]), (n + 1, [a - S]), (n + 1 + 1, [T]), (n + 1 + 1 + 1, [r]), (n + 1 + 1 + 1 + 1, [a]), (n + 1 + 1 + 1 + 1 + 1, [b]), (n + 1 + 1 + 1 + 1 + 1 + 1, [g])] w21 := by rw [HSELF.out]; exact H28
      clear H28
      refine wp_seq_atS (opsAt Tryd.f83 26) ((true, 0) :: (true, 1) :: (true, 2) :: (true, 3) :: (true, 4) :: (false, 5) :: []) (fun _ => True) (by kernel_rfl) (by kernel_rfl) trivial ?_
      refine k_pure (by kernel_rfl) (d := (some 139)) (by kernel_rfl) (v := .pointer (some ⟨b1, o1, none⟩)) (fun _ => by kernel_rfl) ?_
      refine k_pure (by kernel_rfl) (d := (some 140)) (by kernel_rfl) (v := .pointer (some ⟨b1, o1, none⟩)) (fun _ => by kernel_rfl) ?_
      refine k_pure (by kernel_rfl) (d := (some 141)) (by kernel_rfl) (v := .pointer (some ⟨b1, o1 + 16, none⟩)) (fun _ => by kernel_rfl) ?_
      refine k_pure (by kernel_rfl) (d := (some 142)) (by kernel_rfl) (v := .pointer (some ⟨n + 1 + 1 + 1, 0, none⟩)) (fun _ => by kernel_rfl) ?_
      refine k_pure (by kernel_rfl) (d := (some 143)) (by kernel_rfl) (v := .pointer (some ⟨n + 1 + 1 + 1 + 1 + 1, 0, none⟩)) (fun _ => by kernel_rfl) ?_
      refine k_callR (by kernel_rfl) (d := (some 144)) (by kernel_rfl) (f := 102) (args := #[.pointer (some ⟨b1, o1 + 16, none⟩), .pointer (some ⟨n + 1 + 1 + 1, 0, none⟩), .pointer (some ⟨n + 1 + 1 + 1 + 1 + 1, 0, none⟩)]) (fun _ => by kernel_rfl) (stMul H29 (i := 0) rfl (k1 := k1 + 1) (e16 E1.out) (cl_lt1 I1.out _ _) (H29.at 4 0 rfl rfl rfl) (H29.at 6 0 rfl rfl rfl) (z := q) HQ.out) (fun _ w22 q22 => ⟨.tuple #[], q22.1, trivial, ?_⟩)
      have u22 := q22.2
      clear q22
      refine k_end ?_
      go_simp
      go_upto_region 27 with (fail)
      have H30 : Sto w [(b1, cl L1 k1 p0 q), (n, [S]), (n + 1, [a - S]), (n + 1 + 1, [T]), (n + 1 + 1 + 1, [r]), (n + 1 + 1 + 1 + 1, [a]), (n + 1 + 1 + 1 + 1 + 1, [b]), (n + 1 + 1 + 1 + 1 + 1 + 1, [g])] w22 := by have := u22; rw [cl_snd] at this; exact this
      clear u22 H29
      refine wp_region_atS (opsAt Tryd.f83 27) ((true, 0) :: (true, 1) :: (true, 2) :: (true, 3) :: (true, 4) :: (true, 5) :: (true, 6) :: (false, 7) :: []) (fun _ => True) (by kernel_rfl) rfl (by kernel_rfl) (fun _ _ d _ _ h => by cases d <;> exact h) (by kernel_rfl) (by kernel_rfl) trivial ?_
      refine k_pure (by kernel_rfl) (d := (some 145)) (by kernel_rfl) (v := .pointer (some ⟨b1, o1, none⟩)) (fun _ => by kernel_rfl) ?_
      refine k_pure (by kernel_rfl) (d := (some 146)) (by kernel_rfl) (v := .pointer (some ⟨b1, o1, none⟩)) (fun _ => by kernel_rfl) ?_
      refine k_pure (by kernel_rfl) (d := (some 147)) (by kernel_rfl) (v := .pointer (some ⟨b1, o1, none⟩)) (fun _ => by kernel_rfl) ?_
      refine k_pure (by kernel_rfl) (d := (some 148)) (by kernel_rfl) (v := .pointer (some ⟨b1, o1, none⟩)) (fun _ => by kernel_rfl) ?_
      refine k_pure (by kernel_rfl) (d := (some 149)) (by kernel_rfl) (v := .pointer (some ⟨b1, o1, none⟩)) (fun _ => by kernel_rfl) ?_
      refine k_pure (by kernel_rfl) (d := (some 150)) (by kernel_rfl) (v := .pointer (some ⟨b1, o1 + 16, none⟩)) (fun _ => by kernel_rfl) ?_
      refine k_pure (by kernel_rfl) (d := (some 151)) (by kernel_rfl) (v := .pointer (some ⟨n + 1 + 1, 0, none⟩)) (fun _ => by kernel_rfl) ?_
      refine k_callR (by kernel_rfl) (d := (some 152)) (by kernel_rfl) (f := 102) (args := #[.pointer (some ⟨b1, o1, none⟩), .pointer (some ⟨b1, o1 + 16, none⟩), .pointer (some ⟨n + 1 + 1, 0, none⟩)]) (fun _ => by kernel_rfl) (stMul H30.drew (i := 0) rfl (k1 := k1) E1.out (cl_lt0 I1.out _ _) (H30.at 0 (k1 + 1) rfl (cl_get1 I1.out _ _) (e16 E1.out)).drew (H30.at 3 0 rfl rfl rfl).drew (z := q * T) rfl) (fun _ w23 q23 => ⟨.tuple #[], q23.1, trivial, ?_⟩)
      have u23 := q23.2
      clear q23
      refine k_end ?_
      go_simp
      go_upto_region 28 with (fail)
      have H31 : Sto w [(b1, cl L1 k1 (q * T) q), (n, [S]), (n + 1, [a - S]), (n + 1 + 1, [T]), (n + 1 + 1 + 1, [r]), (n + 1 + 1 + 1 + 1, [a]), (n + 1 + 1 + 1 + 1 + 1, [b]), (n + 1 + 1 + 1 + 1 + 1 + 1, [g])] w23 := by have := u23; rw [cl_fst] at this; exact this
      clear u23 H30
      refine wp_region_atS (opsAt Tryd.f83 28) ((true, 0) :: (true, 1) :: (true, 2) :: (true, 3) :: (true, 4) :: (true, 5) :: (false, 6) :: []) (fun _ => True) (by kernel_rfl) rfl (by kernel_rfl) (fun _ _ d _ _ h => by cases d <;> exact h) (by kernel_rfl) (by kernel_rfl) trivial ?_
      refine k_pure (by kernel_rfl) (d := (some 153)) (by kernel_rfl) (v := .pointer (some ⟨b1, o1, none⟩)) (fun _ => by kernel_rfl) ?_
      refine k_pure (by kernel_rfl) (d := (some 154)) (by kernel_rfl) (v := .pointer (some ⟨b1, o1, none⟩)) (fun _ => by kernel_rfl) ?_
      refine k_pure (by kernel_rfl) (d := (some 155)) (by kernel_rfl) (v := .pointer (some ⟨b1, o1, none⟩)) (fun _ => by kernel_rfl) ?_
      refine k_pure (by kernel_rfl) (d := (some 156)) (by kernel_rfl) (v := .pointer (some ⟨b1, o1, none⟩)) (fun _ => by kernel_rfl) ?_
      refine k_pure (by kernel_rfl) (d := (some 157)) (by kernel_rfl) (v := .pointer (some ⟨b1, o1, none⟩)) (fun _ => by kernel_rfl) ?_
      refine k_pure (by kernel_rfl) (d := (some 158)) (by kernel_rfl) (v := .pointer (some ⟨b1, o1, none⟩)) (fun _ => by kernel_rfl) ?_
      refine k_callR (by kernel_rfl) (d := (some 159)) (by kernel_rfl) (f := 109) (args := #[.pointer (some ⟨b1, o1, none⟩), .pointer (some ⟨b1, o1, none⟩)]) (fun _ => by kernel_rfl) (stHlf H31.drew (i := 0) rfl (k1 := k1) E1.out (cl_lt0 I1.out _ _) (H31.at 0 k1 rfl (cl_get0 I1.out _ _) E1.out).drew (z := c0) HC0.out) (fun _ w24 q24 => ⟨.tuple #[], q24.1, trivial, ?_⟩)
      have u24 := q24.2
      clear q24
      refine k_end ?_
      go_simp
      go_upto_region 29 with (fail)
      have H32 : Sto w [(b1, cl L1 k1 c0 q), (n, [S]), (n + 1, [a - S]), (n + 1 + 1, [T]), (n + 1 + 1 + 1, [r]), (n + 1 + 1 + 1 + 1, [a]), (n + 1 + 1 + 1 + 1 + 1, [b]), (n + 1 + 1 + 1 + 1 + 1 + 1, [g])] w24 := by have := u24; rw [cl_fst] at this; exact this
      clear u24 H31
      refine wp_region_atS (opsAt Tryd.f83 29) ((true, 0) :: (true, 1) :: (true, 2) :: (true, 3) :: (true, 4) :: (true, 5) :: (true, 6) :: (false, 7) :: []) (fun _ => True) (by kernel_rfl) rfl (by kernel_rfl) (fun _ _ d _ _ h => by cases d <;> exact h) (by kernel_rfl) (by kernel_rfl) trivial ?_
      refine k_pure (by kernel_rfl) (d := (some 160)) (by kernel_rfl) (v := .pointer (some ⟨b1, o1, none⟩)) (fun _ => by kernel_rfl) ?_
      refine k_pure (by kernel_rfl) (d := (some 161)) (by kernel_rfl) (v := .pointer (some ⟨b1, o1, none⟩)) (fun _ => by kernel_rfl) ?_
      refine k_pure (by kernel_rfl) (d := (some 162)) (by kernel_rfl) (v := .pointer (some ⟨b1, o1 + 16, none⟩)) (fun _ => by kernel_rfl) ?_
      refine k_pure (by kernel_rfl) (d := (some 163)) (by kernel_rfl) (v := .pointer (some ⟨b1, o1, none⟩)) (fun _ => by kernel_rfl) ?_
      refine k_pure (by kernel_rfl) (d := (some 164)) (by kernel_rfl) (v := .pointer (some ⟨b1, o1, none⟩)) (fun _ => by kernel_rfl) ?_
      refine k_pure (by kernel_rfl) (d := (some 165)) (by kernel_rfl) (v := .pointer (some ⟨b1, o1 + 16, none⟩)) (fun _ => by kernel_rfl) ?_
      refine k_pure (by kernel_rfl) (d := (some 166)) (by kernel_rfl) (v := .pointer (some ⟨n + 1 + 1 + 1 + 1 + 1 + 1, 0, none⟩)) (fun _ => by kernel_rfl) ?_
      refine k_callR (by kernel_rfl) (d := (some 167)) (by kernel_rfl) (f := 102) (args := #[.pointer (some ⟨b1, o1 + 16, none⟩), .pointer (some ⟨b1, o1 + 16, none⟩), .pointer (some ⟨n + 1 + 1 + 1 + 1 + 1 + 1, 0, none⟩)]) (fun _ => by kernel_rfl) (stMul H32.drew (i := 0) rfl (k1 := k1 + 1) (e16 E1.out) (cl_lt1 I1.out _ _) (H32.at 0 (k1 + 1) rfl (cl_get1 I1.out _ _) (e16 E1.out)).drew (H32.at 7 0 rfl rfl rfl).drew (z := c1) HC1.out) (fun _ w25 q25 => ⟨.tuple #[], q25.1, trivial, ?_⟩)
      have u25 := q25.2
      clear q25
      refine k_end ?_
      go_simp
      go_upto_region 30 with (fail)
      have H33 : Sto w [(b1, cl L1 k1 c0 c1), (n, [S]), (n + 1, [a - S]), (n + 1 + 1, [T]), (n + 1 + 1 + 1, [r]), (n + 1 + 1 + 1 + 1, [a]), (n + 1 + 1 + 1 + 1 + 1, [b]), (n + 1 + 1 + 1 + 1 + 1 + 1, [g])] w25 := by have := u25; rw [cl_snd] at this; exact this
      clear u25 H32
      refine wp_region_atS (opsAt Tryd.f83 30) ((true, 0) :: (true, 1) :: (true, 2) :: (true, 3) :: (true, 4) :: (true, 5) :: (true, 6) :: (false, 7) :: []) (fun _ => True) (by kernel_rfl) rfl (by kernel_rfl) (fun _ _ d _ _ h => by cases d <;> exact h) (by kernel_rfl) (by kernel_rfl) trivial ?_
      refine k_pure (by kernel_rfl) (d := (some 168)) (by kernel_rfl) (v := .pointer (some ⟨n, 0, none⟩)) (fun _ => by kernel_rfl) ?_
      refine k_pure (by kernel_rfl) (d := (some 169)) (by kernel_rfl) (v := .pointer (some ⟨b1, o1, none⟩)) (fun _ => by kernel_rfl) ?_
      refine k_pure (by kernel_rfl) (d := (some 170)) (by kernel_rfl) (v := .pointer (some ⟨b1, o1, none⟩)) (fun _ => by kernel_rfl) ?_
      refine k_pure (by kernel_rfl) (d := (some 171)) (by kernel_rfl) (v := .pointer (some ⟨b1, o1, none⟩)) (fun _ => by kernel_rfl) ?_
      refine k_pure (by kernel_rfl) (d := (some 172)) (by kernel_rfl) (v := .pointer (some ⟨b1, o1, none⟩)) (fun _ => by kernel_rfl) ?_
      refine k_pure (by kernel_rfl) (d := (some 173)) (by kernel_rfl) (v := .pointer (some ⟨b1, o1, none⟩)) (fun _ => by kernel_rfl) ?_
      refine k_pure (by kernel_rfl) (d := (some 174)) (by kernel_rfl) (v := .pointer (some ⟨b1, o1, none⟩)) (fun _ => by kernel_rfl) ?_
      refine k_callR (by kernel_rfl) (d := (some 175)) (by kernel_rfl) (f := 103) (args := #[.pointer (some ⟨n, 0, none⟩), .pointer (some ⟨b1, o1, none⟩), .pointer (some ⟨b1, o1, none⟩)]) (fun _ => by kernel_rfl) (stAdd H33.drew (i := 1) rfl (k1 := 0) rfl (by simp) (H33.at 0 k1 rfl (cl_get0 I1.out _ _) E1.out).drew (H33.at 0 k1 rfl (cl_get0 I1.out _ _) E1.out).drew (z := c0 + c0) rfl) (fun _ w26 q26 => ⟨.tuple #[], q26.1, trivial, ?_⟩)
      have u26 := q26.2
      clear q26
      refine k_end ?_
      go_simp
      go_upto_region 31 with (fail)
      have H34 : Sto w [(b1, cl L1 k1 c0 c1), (n, [c0 + c0]), (n + 1, [a - S]), (n + 1 + 1, [T]), (n + 1 + 1 + 1, [r]), (n + 1 + 1 + 1 + 1, [a]), (n + 1 + 1 + 1 + 1 + 1, [b]), (n + 1 + 1 + 1 + 1 + 1 + 1, [g])] w26 := u26
      clear u26 H33
      refine wp_seq_atS (opsAt Tryd.f83 31) ((true, 0) :: (true, 1) :: (false, 2) :: []) (fun _ => True) (by kernel_rfl) (by kernel_rfl) trivial ?_
      refine k_pure (by kernel_rfl) (d := (some 176)) (by kernel_rfl) (v := .pointer (some ⟨n, 0, none⟩)) (fun _ => by kernel_rfl) ?_
      refine k_pure (by kernel_rfl) (d := (some 177)) (by kernel_rfl) (v := .pointer (some ⟨n, 0, none⟩)) (fun _ => by kernel_rfl) ?_
      refine k_callR (by kernel_rfl) (d := (some 178)) (by kernel_rfl) (f := 104) (args := #[.pointer (some ⟨n, 0, none⟩), .pointer (some ⟨n, 0, none⟩)]) (fun _ => by kernel_rfl) (stSqr H34 (i := 1) rfl (k1 := 0) rfl (by simp) (H34.at 1 0 rfl rfl rfl) (z := (c0 + c0) * (c0 + c0)) rfl) (fun _ w27 q27 => ⟨.tuple #[], q27.1, trivial, ?_⟩)
      have u27 := q27.2
      clear q27
      refine k_end ?_
      go_simp
      go_upto_region 32 with (fail)
      have H35 : Sto w [(b1, cl L1 k1 c0 c1), (n, [(c0 + c0) * (c0 + c0)]), (n + 1, [a - S]), (n + 1 + 1, [T]), (n + 1 + 1 + 1, [r]), (n + 1 + 1 + 1 + 1, [a]), (n + 1 + 1 + 1 + 1 + 1, [b]), (n + 1 + 1 + 1 + 1 + 1 + 1, [g])] w27 := u27
      clear u27 H34
      refine wp_seq_atS (opsAt Tryd.f83 32) ((true, 0) :: (true, 1) :: (true, 2) :: (false, 3) :: []) (fun _ => True) (by kernel_rfl) (by kernel_rfl) trivial ?_
      refine k_pure (by kernel_rfl) (d := (some 179)) (by kernel_rfl) (v := .pointer (some ⟨n, 0, none⟩)) (fun _ => by kernel_rfl) ?_
      refine k_pure (by kernel_rfl) (d := (some 180)) (by kernel_rfl) (v := .pointer (some ⟨n, 0, none⟩)) (fun _ => by kernel_rfl) ?_
      refine k_pure (by kernel_rfl) (d := (some 181)) (by kernel_rfl) (v := .pointer (some ⟨n + 1 + 1 + 1 + 1 + 1, 0, none⟩)) (fun _ => by kernel_rfl) ?_
      refine k_callR (by kernel_rfl) (d := (some 182)) (by kernel_rfl) (f := 102) (args := #[.pointer (some ⟨n, 0, none⟩), .pointer (some ⟨n, 0, none⟩), .pointer (some ⟨n + 1 + 1 + 1 + 1 + 1, 0, none⟩)]) (fun _ => by kernel_rfl) (stMul H35 (i := 1) rfl (k1 := 0) rfl (by simp) (H35.at 1 0 rfl rfl rfl) (H35.at 6 0 rfl rfl rfl) (z := (c0 + c0) * (c0 + c0) * b) rfl) (fun _ w28 q28 => ⟨.tuple #[], q28.1, trivial, ?_⟩)
      have u28 := q28.2
      clear q28
      refine k_end ?_
      go_simp
      go_upto_region 33 with (fail)
      have H36 : Sto w [(b1, cl L1 k1 c0 c1), (n, [(c0 + c0) * (c0 + c0) * b]), (n + 1, [a - S]), (n + 1 + 1, [T]), (n + 1 + 1 + 1, [r]), (n + 1 + 1 + 1 + 1, [a]), (n + 1 + 1 + 1 + 1 + 1, [b]), (n + 1 + 1 + 1 + 1 + 1 + 1, [g])] w28 := u28
      clear u28 H35
      refine wp_seq_atS (opsAt Tryd.f83 33) ((true, 0) :: (true, 1) :: (true, 2) :: (false, 3) :: []) (fun _ => True) (by kernel_rfl) (by kernel_rfl) trivial ?_
      refine k_pure (by kernel_rfl) (d := (some 183)) (by kernel_rfl) (v := .pointer (some ⟨n, 0, none⟩)) (fun _ => by kernel_rfl) ?_
      refine k_pure (by kernel_rfl) (d := (some 184)) (by kernel_rfl) (v := .pointer (some ⟨n, 0, none⟩)) (fun _ => by kernel_rfl) ?_
      refine k_pure (by kernel_rfl) (d := (some 185)) (by kernel_rfl) (v := .pointer (some ⟨n + 1 + 1, 0, none⟩)) (fun _ => by kernel_rfl) ?_
      refine k_callR (by kernel_rfl) (d := (some 186)) (by kernel_rfl) (f := 105) (args := #[.pointer (some ⟨n, 0, none⟩), .pointer (some ⟨n, 0, none⟩), .pointer (some ⟨n + 1 + 1, 0, none⟩)]) (fun _ => by kernel_rfl) (stSub H36 (i := 1) rfl (k1 := 0) rfl (by simp) (H36.at 1 0 rfl rfl rfl) (H36.at 3 0 rfl rfl rfl) (z := K) HK.out) (fun _ w29 q29 => ⟨.tuple #[], q29.1, trivial, ?_⟩)
      have u29 := q29.2
      clear q29
      refine k_end ?_
      go_simp
      go_upto_region 34 with (fail)
      have H37 : Sto w [(b1, cl L1 k1 c0 c1), (n, [K]), (n + 1, [a - S]), (n + 1 + 1, [T]), (n + 1 + 1 + 1, [r]), (n + 1 + 1 + 1 + 1, [a]), (n + 1 + 1 + 1 + 1 + 1, [b]), (n + 1 + 1 + 1 + 1 + 1 + 1, [g])] w29 := u29
      clear u29 H36
      obtain ⟨l, x0, x1, hF, hl0, hl1, hz0, hz1, hy0, hy1⟩ := (H37.blk 0 _ _ rfl).two2 (cl_get0 I1.out c0 c1) (cl_get1 I1.out c0 c1)
      replace hF := Lib.hid hF
      replace hl0 := Lib.hid hl0
      replace hl1 := Lib.hid hl1
      replace hz0 := Lib.hid hz0
      replace hz1 := Lib.hid hz1
      replace hy0 := Lib.hid hy0
      replace hy1 := Lib.hid hy1
      refine wp_region_atS (opsAt Tryd.f83 34) ((true, 0) :: (true, 1) :: (true, 2) :: (true, 3) :: (true, 4) :: (true, 5) :: (true, 6) :: (true, 7) :: (true, 8) :: (false, 9) :: (true, 10) :: []) (fun w' => Fps w' b1 l) (by kernel_rfl) rfl (by kernel_rfl) (fun _ _ d _ _ h => by cases d <;> exact h) (by kernel_rfl) (by kernel_rfl) hF.out ?_
      refine k_pure (by kernel_rfl) (d := (some 187)) (by kernel_rfl) (v := .pointer (some ⟨b1, o1, none⟩)) (fun _ => by kernel_rfl) ?_
      refine k_pure (by kernel_rfl) (d := (some 188)) (by kernel_rfl) (v := .pointer (some ⟨b1, o1, none⟩)) (fun _ => by kernel_rfl) ?_
      refine k_pure (by kernel_rfl) (d := (some 189)) (by kernel_rfl) (v := .pointer (some ⟨b1, o1 + 16, none⟩)) (fun _ => by kernel_rfl) ?_
      refine k_load (by kernel_rfl) (d := (some 190)) (by kernel_rfl) (ty := 73) (x := (.tmp 189)) (by kernel_rfl) (b := b1) (off := o1 + 16) (by kernel_rfl) (cs := fpC x1) (fun w' hs => hs.cells1 (e16 E1.out) hl1.out) Tryd.underlying73 rfl (by kernel_rfl) ?_
      refine k_pure (by kernel_rfl) (d := (some 191)) (by kernel_rfl) (v := .pointer (some ⟨b1, o1, none⟩)) (fun _ => by kernel_rfl) ?_
      refine k_pure (by kernel_rfl) (d := (some 192)) (by kernel_rfl) (v := .pointer (some ⟨b1, o1, none⟩)) (fun _ => by kernel_rfl) ?_
      refine k_pure (by kernel_rfl) (d := (some 193)) (by kernel_rfl) (v := .pointer (some ⟨b1, o1, none⟩)) (fun _ => by kernel_rfl) ?_
      refine k_load (by kernel_rfl) (d := (some 194)) (by kernel_rfl) (ty := 73) (x := (.tmp 193)) (by kernel_rfl) (b := b1) (off := o1) (by kernel_rfl) (cs := fpC x0) (fun w' hs => hs.cells1 E1.out hl0.out) Tryd.underlying73 rfl (by kernel_rfl) ?_
      refine k_pure (by kernel_rfl) (d := (some 195)) (by kernel_rfl) (v := .agg (fps [x1, x0])) (fun _ => by kernel_rfl) ?_
      refine k_make (by kernel_rfl) (d := (some 196)) (by kernel_rfl) (v := .pointer (some ⟨w29.heap.size, 0, none⟩)) (w' := w29.drew.alloc (.cells (fps [x1, x0]) 83)) (by kernel_rfl) (hF.out.alloc _) ?_
      intro wB hwB hSB
      refine k_pure (by kernel_rfl) (d := (some 16)) (by kernel_rfl) (v := .pointer (some ⟨w29.heap.size, 0, none⟩)) (fun _ => by kernel_rfl) ?_
      have HN8 : n ≤ w29.heap.size := by have := (H37.blk 1 _ _ rfl).lt; omega
      have H38 : Sto w [(b1, cl L1 k1 c0 c1), (n, [K]), (n + 1, [a - S]), (n + 1 + 1, [T]), (n + 1 + 1 + 1, [r]), (n + 1 + 1 + 1 + 1, [a]), (n + 1 + 1 + 1 + 1 + 1, [b]), (n + 1 + 1 + 1 + 1 + 1 + 1, [g]), (w29.heap.size, [c1, c0])] wB := by rw [hwB]; exact H37.drew.new (l := [x1, x0]) rfl rfl (all2L hy1.out hy0.out) (by rw [List.map, List.map, List.map, hz1.out, hz0.out])
      clear hwB hSB H37 hF hl0 hl1 hz0 hz1 hy0 hy1
      refine k_end ?_
      go_simp
      go_upto_region 35 with (fail)
      refine wp_seq_atS (opsAt Tryd.f83 35) ((true, 0) :: (true, 1) :: (true, 2) :: (false, 3) :: (true, 4) :: (false, 5) :: []) (fun _ => True) (by kernel_rfl) (by kernel_rfl) trivial ?_
      refine k_pure (by kernel_rfl) (d := (some 197)) (by kernel_rfl) (v := .pointer (some ⟨b1, o1, none⟩)) (fun _ => by kernel_rfl) ?_
      refine k_pure (by kernel_rfl) (d := (some 198)) (by kernel_rfl) (v := .pointer (some ⟨w29.heap.size, 0, none⟩)) (fun _ => by kernel_rfl) ?_
      refine k_pure (by kernel_rfl) (d := (some 199)) (by kernel_rfl) (v := .pointer (some ⟨n, 0, none⟩)) (fun _ => by kernel_rfl) ?_
      refine k_callR (by kernel_rfl) (d := (some 200)) (by kernel_rfl) (f := 107) (args := #[.pointer (some ⟨n, 0, none⟩)]) (fun _ => by kernel_rfl) (stZeroCT (hm.sto H38 (keys9 (Nat.ne_of_lt hg) HG HN8)) H38 (i := 1) rfl (k1 := 0) rfl rfl) (fun _ w30 q30 => ⟨.int .i64 (isz K.val), q30.1, trivial, ?_⟩)
      have u30 := q30.2
      clear q30
      have H35b : Sto w [(b1, cl L1 k1 c0 c1), (n, [K]), (n + 1, [a - S]), (n + 1 + 1, [T]), (n + 1 + 1 + 1, [r]), (n + 1 + 1 + 1 + 1, [a]), (n + 1 + 1 + 1 + 1 + 1, [b]), (n + 1 + 1 + 1 + 1 + 1 + 1, [g]), (w29.heap.size, [c1, c0])] w30 := u30
      clear u30 H38
      refine k_pure (by kernel_rfl) (d := (some 201)) (by kernel_rfl) (v := .int .i64 (nz K.val)) (fun _ => by kernel_rfl) ?_
      refine k_callR (by kernel_rfl) (d := (some 202)) (by kernel_rfl) (f := 110) (args := #[.pointer (some ⟨b1, o1, none⟩), .pointer (some ⟨w29.heap.size, 0, none⟩), .int .i64 (nz K.val)]) (fun _ => by kernel_rfl) (stCmov (nz01 _) H35b (i := 0) rfl E1.out (cl_get0 I1.out _ _) (cl_get1 I1.out _ _) ⟨H35b.at 8 0 rfl rfl rfl, H35b.at 8 1 rfl rfl rfl⟩ (.inl (H35b.ne 8 0 _ _ _ _ rfl rfl (by decide))) (.inl (H35b.ne 8 0 _ _ _ _ rfl rfl (by decide))) (.inl (H35b.ne 8 0 _ _ _ _ rfl rfl (by decide)))) (fun _ w31 q31 => ⟨.tuple #[], q31.1, trivial, ?_⟩)
      have u31 := q31.2
      clear q31
      refine k_end ?_
      go_simp
      go_upto_region 36 with (fail)
      have H39 : Sto w [(b1, cl L1 k1 d0 d1), (n, [K]), (n + 1, [a - S]), (n + 1 + 1, [T]), (n + 1 + 1 + 1, [r]), (n + 1 + 1 + 1 + 1, [a]), (n + 1 + 1 + 1 + 1 + 1, [b]), (n + 1 + 1 + 1 + 1 + 1 + 1, [g]), (w29.heap.size, [c1, c0])] w31 := by have := u31; rw [cl_fst, cl_snd, HD0.out, HD1.out] at this; exact this
      clear u31 H35b
      refine wp_seq_atS (opsAt Tryd.f83 36) ((true, 0) :: (false, 1) :: (true, 2) :: (true, 3) :: (true, 4) :: (false, 5) :: (true, 6) :: (true, 7) :: []) (fun _ => True) (by kernel_rfl) (by kernel_rfl) trivial ?_
      refine k_pure (by kernel_rfl) (d := (some 203)) (by kernel_rfl) (v := .pointer (some ⟨b1, o1, none⟩)) (fun _ => by kernel_rfl) ?_
      refine k_callR (by kernel_rfl) (d := (some 204)) (by kernel_rfl) (f := 86) (args := #[.pointer (some ⟨b1, o1, none⟩)]) (fun _ => by kernel_rfl) (stSgnQ (hm.sto H39 (keys9 (Nat.ne_of_lt hg) HG HN8)) hg H39 (i := 0) rfl E1.out (cl_get0 I1.out _ _) (cl_get1 I1.out _ _)) (fun _ w32 q32 => ⟨.int .i64 (sgnQ d0 d1), q32.1, trivial, ?_⟩)
      have u32 := q32.2
      clear q32
      have H36b : Sto w [(b1, cl L1 k1 d0 d1), (n, [K]), (n + 1, [a - S]), (n + 1 + 1, [T]), (n + 1 + 1 + 1, [r]), (n + 1 + 1 + 1 + 1, [a]), (n + 1 + 1 + 1 + 1 + 1, [b]), (n + 1 + 1 + 1 + 1 + 1 + 1, [g]), (w29.heap.size, [c1, c0])] w32 := u32
      clear u32 H39
      refine k_pure (by kernel_rfl) (d := (some 205)) (by kernel_rfl) (v := .int .i32 (IntKind.i32.wrap (sgnQ d0 d1))) (fun _ => by kernel_rfl) ?_
      refine k_pure (by kernel_rfl) (d := (some 206)) (by kernel_rfl) (v := .int .i64 sg) (fun _ => by kernel_rfl) ?_
      refine k_pure (by kernel_rfl) (d := (some 207)) (by kernel_rfl) (v := .int .i32 (IntKind.i32.wrap sg)) (fun _ => by kernel_rfl) ?_
      refine k_callR (by kernel_rfl) (d := (some 208)) (by kernel_rfl) (f := 111) (args := #[.int .i32 (IntKind.i32.wrap (sgnQ d0 d1)), .int .i32 (IntKind.i32.wrap sg)]) (fun _ => by kernel_rfl) (ctEqS _ _ H36b) (fun _ w33 q33 => ⟨.int .i64 (ceq (IntKind.i32.wrap (sgnQ d0 d1)) (IntKind.i32.wrap sg)), q33.1, trivial, ?_⟩)
      have u33 := q33.2
      clear q33
      refine k_pure (by kernel_rfl) (d := (some 209)) (by kernel_rfl) (v := .int .i64 (df (sgnQ d0 d1) sg)) (fun _ => by kernel_rfl) ?_
      refine k_pure (by kernel_rfl) (d := (some 17)) (by kernel_rfl) (v := .int .i64 (df (sgnQ d0 d1) sg)) (fun _ => by kernel_rfl) ?_
      refine k_end ?_
      go_simp
      go_upto_region 38 with (fail)
      have H37 : Sto w [(b1, cl L1 k1 d0 d1), (n, [K]), (n + 1, [a - S]), (n + 1 + 1, [T]), (n + 1 + 1 + 1, [r]), (n + 1 + 1 + 1 + 1, [a]), (n + 1 + 1 + 1 + 1 + 1, [b]), (n + 1 + 1 + 1 + 1 + 1 + 1, [g]), (w29.heap.size, [c1, c0])] w33 := u33
      clear u33 H36b
      have HN9 : n ≤ w33.heap.size := by have := (H37.blk 1 _ _ rfl).lt; omega
      have H38 : Sto w [(b1, cl L1 k1 d0 d1), (n, [K]), (n + 1, [a - S]), (n + 1 + 1, [T]), (n + 1 + 1 + 1, [r]), (n + 1 + 1 + 1 + 1, [a]), (n + 1 + 1 + 1 + 1 + 1, [b]), (n + 1 + 1 + 1 + 1 + 1 + 1, [g]), (w29.heap.size, [c1, c0]), (w33.heap.size, [0, 0])] (w33.alloc (.cells #[.int .u8 0, .int .u8 0, .int .u8 0, .int .u8 0, .int .u8 0, .int .u8 0, .int .u8 0, .int .u8 0, .int .u8 0, .int .u8 0, .int .u8 0, .int .u8 0, .int .u8 0, .int .u8 0, .int .u8 0, .int .u8 0, .int .u8 0, .int .u8 0, .int .u8 0, .int .u8 0, .int .u8 0, .int .u8 0, .int .u8 0, .int .u8 0, .int .u8 0, .int .u8 0, .int .u8 0, .int .u8 0, .int .u8 0, .int .u8 0, .int .u8 0, .int .u8 0] 83)) := H37.new (l := [0, 0]) rfl zero_fps2.symm (all2L low_zero low_zero) rfl
      obtain ⟨W37, hW⟩ : ∃ W37 : World, W37 = (w33.alloc (.cells #[.int .u8 0, .int .u8 0, .int .u8 0, .int .u8 0, .int .u8 0, .int .u8 0, .int .u8 0, .int .u8 0, .int .u8 0, .int .u8 0, .int .u8 0, .int .u8 0, .int .u8 0, .int .u8 0, .int .u8 0, .int .u8 0, .int .u8 0, .int .u8 0, .int .u8 0, .int .u8 0, .int .u8 0, .int .u8 0, .int .u8 0, .int .u8 0, .int .u8 0, .int .u8 0, .int .u8 0, .int .u8 0, .int .u8 0, .int .u8 0, .int .u8 0, .int .u8 0] 83)) := ⟨_, rfl⟩
      rw [← hW] at H38 ⊢
      clear hW H37
      refine wp_seq_atS (opsAt Tryd.f83 38) ((true, 0) :: (true, 1) :: (false, 2) :: []) (fun _ => True) (by kernel_rfl) (by kernel_rfl) trivial ?_
      refine k_pure (by kernel_rfl) (d := (some 212)) (by kernel_rfl) (v := .pointer (some ⟨w33.heap.size, 0, none⟩)) (fun _ => by kernel_rfl) ?_
      refine k_pure (by kernel_rfl) (d := (some 213)) (by kernel_rfl) (v := .pointer (some ⟨b1, o1, none⟩)) (fun _ => by kernel_rfl) ?_
      refine k_callR (by kernel_rfl) (d := (some 214)) (by kernel_rfl) (f := 112) (args := #[.pointer (some ⟨w33.heap.size, 0, none⟩), .pointer (some ⟨b1, o1, none⟩)]) (fun _ => by kernel_rfl) (stNegQ (hm.sto H38 (keys10 (Nat.ne_of_lt hg) HG HN8 HN9)) (Nat.lt_of_lt_of_le HG HN9) H38 (i := 9) rfl (k1 := 0) rfl (by simp) ⟨(H38.at 0 k1 rfl (cl_get0 I1.out _ _) E1.out), (H38.at 0 (k1 + 1) rfl (cl_get1 I1.out _ _) (e16 E1.out))⟩ (.inl (H38.ne 0 9 _ _ _ _ rfl rfl (by decide)))) (fun _ w34 q34 => ⟨.tuple #[], q34.1, trivial, ?_⟩)
      have u34 := q34.2
      clear q34
      refine k_end ?_
      go_simp
      go_upto_region 39 with (fail)
      have H39 : Sto w [(b1, cl L1 k1 d0 d1), (n, [K]), (n + 1, [a - S]), (n + 1 + 1, [T]), (n + 1 + 1 + 1, [r]), (n + 1 + 1 + 1 + 1, [a]), (n + 1 + 1 + 1 + 1 + 1, [b]), (n + 1 + 1 + 1 + 1 + 1 + 1, [g]), (w29.heap.size, [c1, c0]), (w33.heap.size, [-d0, -d1])] w34 := u34
      clear u34 H38
      refine wp_seq_atS (opsAt Tryd.f83 39) ((true, 0) :: (true, 1) :: (true, 2) :: (false, 3) :: []) (fun _ => True) (by kernel_rfl) (by kernel_rfl) trivial ?_
      refine k_pure (by kernel_rfl) (d := (some 215)) (by kernel_rfl) (v := .pointer (some ⟨b1, o1, none⟩)) (fun _ => by kernel_rfl) ?_
      refine k_pure (by kernel_rfl) (d := (some 216)) (by kernel_rfl) (v := .pointer (some ⟨w33.heap.size, 0, none⟩)) (fun _ => by kernel_rfl) ?_
      refine k_pure (by kernel_rfl) (d := (some 217)) (by kernel_rfl) (v := .int .i64 (df (sgnQ d0 d1) sg)) (fun _ => by kernel_rfl) ?_
      refine k_callR (by kernel_rfl) (d := (some 218)) (by kernel_rfl) (f := 110) (args := #[.pointer (some ⟨b1, o1, none⟩), .pointer (some ⟨w33.heap.size, 0, none⟩), .int .i64 (df (sgnQ d0 d1) sg)]) (fun _ => by kernel_rfl) (stCmov (df01 _ _) H39 (i := 0) rfl E1.out (cl_get0 I1.out _ _) (cl_get1 I1.out _ _) ⟨H39.at 9 0 rfl rfl rfl, H39.at 9 1 rfl rfl rfl⟩ (.inl (H39.ne 9 0 _ _ _ _ rfl rfl (by decide))) (.inl (H39.ne 9 0 _ _ _ _ rfl rfl (by decide))) (.inl (H39.ne 9 0 _ _ _ _ rfl rfl (by decide)))) (fun _ w35 q35 => ⟨.tuple #[], q35.1, trivial, ?_⟩)
      have u35 := q35.2
      clear q35
      refine k_end ?_
      go_simp
      have H40 : Hid (Sto w [(b1, cl L1 k1 f0 f1), (n, [K]), (n + 1, [a - S]), (n + 1 + 1, [T]), (n + 1 + 1 + 1, [r]), (n + 1 + 1 + 1 + 1, [a]), (n + 1 + 1 + 1 + 1 + 1, [b]), (n + 1 + 1 + 1 + 1 + 1 + 1, [g]), (w29.heap.size, [c1, c0]), (w33.heap.size, [-d0, -d1])] w35) := Lib.hid (by have := u35; rw [cl_fst, cl_snd, HF0.out, HF1.out] at this; exact this)
      clear u35 H39
      go_wp2_with fail
      go_end0
      exact ⟨rfl, H40.out.end1 (fun p hp => hn.out.symm ▸ keysT HN8 HN9 p hp)⟩

end
end Go.Proofs.YtfkfljohhabldaaDoor
