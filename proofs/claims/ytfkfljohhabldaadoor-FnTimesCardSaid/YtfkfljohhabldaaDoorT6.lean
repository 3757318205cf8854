/- Part 6 of what the laws lean on: arithmetic, walks through the functions, the curve. -/
import Derived.Test.YtfkfljohhabldaaDoorT5
namespace Go.FourQ
theorem zero1 : ∀ v ∈ [0], LowB v := fun v hv => by rw [show v = 0 by simpa using hv]; exact low_zero
theorem keys8 {c b1 n : Nat} (h1 : c ≠ b1) (hn : c < n) {M0 M1 M2 M3 M4 M5 M6 M7 : List Zp} :
   ∀ p ∈ [(b1, M0), (n, M1), (n + 1, M2), (n + 1 + 1, M3), (n + 1 + 1 + 1, M4), (n + 1 + 1 + 1 + 1, M5), (n + 1 + 1 + 1 + 1 + 1, M6), (n + 1 + 1 + 1 + 1 + 1 + 1, M7)], p.1 ≠ c := fun p hp => by
 simp only [List.mem_cons, List.not_mem_nil, or_false] at hp
 rcases hp with rfl | rfl | rfl | rfl | rfl | rfl | rfl | rfl <;> (simp only; omega)
theorem keys9 {c b1 n p8 : Nat} (h1 : c ≠ b1) (hn : c < n) (h8 : n ≤ p8) {M0 M1 M2 M3 M4 M5 M6 M7 M8 : List Zp} :
   ∀ p ∈ [(b1, M0), (n, M1), (n + 1, M2), (n + 1 + 1, M3), (n + 1 + 1 + 1, M4), (n + 1 + 1 + 1 + 1, M5), (n + 1 + 1 + 1 + 1 + 1, M6), (n + 1 + 1 + 1 + 1 + 1 + 1, M7), (p8, M8)], p.1 ≠ c := fun p hp => by
 simp only [List.mem_cons, List.not_mem_nil, or_false] at hp
 rcases hp with rfl | rfl | rfl | rfl | rfl | rfl | rfl | rfl | rfl <;> (simp only; omega)
theorem keys10 {c b1 n p8 p9 : Nat} (h1 : c ≠ b1) (hn : c < n) (h8 : n ≤ p8) (h9 : n ≤ p9) {M0 M1 M2 M3 M4 M5 M6 M7 M8 M9 : List Zp} :
   ∀ p ∈ [(b1, M0), (n, M1), (n + 1, M2), (n + 1 + 1, M3), (n + 1 + 1 + 1, M4), (n + 1 + 1 + 1 + 1, M5), (n + 1 + 1 + 1 + 1 + 1, M6), (n + 1 + 1 + 1 + 1 + 1 + 1, M7), (p8, M8), (p9, M9)], p.1 ≠ c := fun p hp => by
 simp only [List.mem_cons, List.not_mem_nil, or_false] at hp
 rcases hp with rfl | rfl | rfl | rfl | rfl | rfl | rfl | rfl | rfl | rfl <;> (simp only; omega)
theorem keysT {n p8 p9 : Nat} (h8 : n ≤ p8) (h9 : n ≤ p9) {M1 M2 M3 M4 M5 M6 M7 M8 M9 : List Zp} :
   ∀ p ∈ [(n, M1), (n + 1, M2), (n + 1 + 1, M3), (n + 1 + 1 + 1, M4), (n + 1 + 1 + 1 + 1, M5), (n + 1 + 1 + 1 + 1 + 1, M6), (n + 1 + 1 + 1 + 1 + 1 + 1, M7), (p8, M8), (p9, M9)], n ≤ p.1 := fun p hp => by
 simp only [List.mem_cons, List.not_mem_nil, or_false] at hp
 rcases hp with rfl | rfl | rfl | rfl | rfl | rfl | rfl | rfl | rfl <;> (simp only; omega)
end Go.FourQ
namespace Go.Proofs.YtfkfljohhabldaaDoor
open Go.RowKit Go.FourQ
section
variable {w : World} {b1 b2 b3 o1 o2 o3 k1 : Nat} {L1 : List Zp} {u0 u1 v0 v1 a b g X S t T r q c0 c1 K d0 d1 f0 f1 p0 p1 : Zp}
set_option maxRecDepth 100000 in
set_option maxHeartbeats 1000000 in
theorem fqSqrtW {sg : Int} (hm : ModW w) (hg : 4 < b1) (h1 : FpsZ w b1 L1) (hU : AtQ w b2 o2 u0 u1) (hV : AtQ w b3 o3 v0 v1) (e1 : o1 = 16 * k1) (i1 : k1 + 1 < L1.length) (dU : b2 ≠ b1) (dV : b3 ≠ b1) (ha : u0 * v0 + u1 * v1 = a) (hb : v0 * v0 + v1 * v1 = b) (hgg : u1 * v0 - u0 * v1 = g) (hx : a * a + g * g = X) (hS : X.pow (1 * 2 ^ 125) = S) (ht : (if isz (a + S).val = 1 then a - S else a + S) = t) (htt : t + t = T) (hr : (b * b * b * T).pow 42535295865117307932921825928971026431 = r) (hq : r * b = q) (hc0 : q * T * half = c0) (hc1 : q * g = c1) (hk : (c0 + c0) * (c0 + c0) * b - T = K) (hd0 : (if nz K.val = 1 then c1 else c0) = d0) (hd1 : (if nz K.val = 1 then c0 else c1) = d1) (hf0 : (if df (sgnQ d0 d1) sg = 1 then -d0 else d0) = f0) (hf1 : (if df (sgnQ d0 d1) sg = 1 then -d1 else d1) = f1) (hself : cl L1 k1 p0 p1 = L1) :
   Calls Tryd.prog 83 #[.pointer (some ⟨b1, o1, none⟩), .pointer (some ⟨b2, o2, none⟩), .pointer (some ⟨b3, o3, none⟩), .int .i64 sg] w fun e w' => e = .returned (.tuple #[]) ∧ UpdZ w w' b1 (cl L1 k1 f0 f1) := by
 have E1 := Lib.hid e1
 have I1 := Lib.hid i1
 have HA := Lib.hid ha
 have HB := Lib.hid hb
 have HGG := Lib.hid hgg
 have HX := Lib.hid hx
 have HS := Lib.hid hS
 have HT := Lib.hid ht
 have HTT := Lib.hid htt
 have HR := Lib.hid hr
 have HQ := Lib.hid hq
 have HC0 := Lib.hid hc0
 have HC1 := Lib.hid hc1
 have HK := Lib.hid hk
 have HD0 := Lib.hid hd0
 have HD1 := Lib.hid hd1
 have HF0 := Lib.hid hf0
 have HF1 := Lib.hid hf1
 have HSELF := Lib.hid hself
 clear e1 i1 ha hb hgg hx hS ht htt hr hq hc0 hc1 hk hd0 hd1 hf0 hf1 hself
 go_enter Tryd.func83, Tryd.ntmps83
 go_upto_region 2 with (fail)
 have HN2 := hU.fst.lt
 have HN3 := hV.fst.lt
 have HN1 := h1.lt
 have HG := hm.lt
 have H0 : Sto w [(b1, L1), (w.heap.size, [0]), (w.heap.size + 1, [0]), (w.heap.size + 1 + 1, [0]), (w.heap.size + 1 + 1 + 1, [0]), (w.heap.size + 1 + 1 + 1 + 1, [0]), (w.heap.size + 1 + 1 + 1 + 1 + 1, [0]), (w.heap.size + 1 + 1 + 1 + 1 + 1 + 1, [0])] (((((((w.alloc (.cells #[.int .u8 0, .int .u8 0, .int .u8 0, .int .u8 0, .int .u8 0, .int .u8 0, .int .u8 0, .int .u8 0, .int .u8 0, .int .u8 0, .int .u8 0, .int .u8 0, .int .u8 0, .int .u8 0, .int .u8 0, .int .u8 0] 73)).alloc (.cells #[.int .u8 0, .int .u8 0, .int .u8 0, .int .u8 0, .int .u8 0, .int .u8 0, .int .u8 0, .int .u8 0, .int .u8 0, .int .u8 0, .int .u8 0, .int .u8 0, .int .u8 0, .int .u8 0, .int .u8 0, .int .u8 0] 73)).alloc (.cells #[.int .u8 0, .int .u8 0, .int .u8 0, .int .u8 0, .int .u8 0, .int .u8 0, .int .u8 0, .int .u8 0, .int .u8 0, .int .u8 0, .int .u8 0, .int .u8 0, .int .u8 0, .int .u8 0, .int .u8 0, .int .u8 0] 73)).alloc (.cells #[.int .u8 0, .int .u8 0, .int .u8 0, .int .u8 0, .int .u8 0, .int .u8 0, .int .u8 0, .int .u8 0, .int .u8 0, .int .u8 0, .int .u8 0, .int .u8 0, .int .u8 0, .int .u8 0, .int .u8 0, .int .u8 0] 73)).alloc (.cells #[.int .u8 0, .int .u8 0, .int .u8 0, .int .u8 0, .int .u8 0, .int .u8 0, .int .u8 0, .int .u8 0, .int .u8 0, .int .u8 0, .int .u8 0, .int .u8 0, .int .u8 0, .int .u8 0, .int .u8 0, .int .u8 0] 73)).alloc (.cells #[.int .u8 0, .int .u8 0, .int .u8 0, .int .u8 0, .int .u8 0, .int .u8 0, .int .u8 0, .int .u8 0, .int .u8 0, .int .u8 0, .int .u8 0, .int .u8 0, .int .u8 0, .int .u8 0, .int .u8 0, .int .u8 0] 73)).alloc (.cells #[.int .u8 0, .int .u8 0, .int .u8 0, .int .u8 0, .int .u8 0, .int .u8 0, .int .u8 0, .int .u8 0, .int .u8 0, .int .u8 0, .int .u8 0, .int .u8 0, .int .u8 0, .int .u8 0, .int .u8 0, .int .u8 0] 73)) := ((((((((Sto.one h1).new (l := [0]) rfl zero_fps.symm zero1 rfl).new (l := [0]) (by simp) zero_fps.symm zero1 rfl).new (l := [0]) (by simp) zero_fps.symm zero1 rfl).new (l := [0]) (by simp) zero_fps.symm zero1 rfl).new (l := [0]) (by simp) zero_fps.symm zero1 rfl).new (l := [0]) (by simp) zero_fps.symm zero1 rfl).new (l := [0]) (by simp) zero_fps.symm zero1 rfl)
 obtain ⟨W0, hW⟩ : ∃ W0 : World, W0 = (((((((w.alloc (.cells #[.int .u8 0, .int .u8 0, .int .u8 0, .int .u8 0, .int .u8 0, .int .u8 0, .int .u8 0, .int .u8 0, .int .u8 0, .int .u8 0, .int .u8 0, .int .u8 0, .int .u8 0, .int .u8 0, .int .u8 0, .int .u8 0] 73)).alloc (.cells #[.int .u8 0, .int .u8 0, .int .u8 0, .int .u8 0, .int .u8 0, .int .u8 0, .int .u8 0, .int .u8 0, .int .u8 0, .int .u8 0, .int .u8 0, .int .u8 0, .int .u8 0, .int .u8 0, .int .u8 0, .int .u8 0] 73)).alloc (.cells #[.int .u8 0, .int .u8 0, .int .u8 0, .int .u8 0, .int .u8 0, .int .u8 0, .int .u8 0, .int .u8 0, .int .u8 0, .int .u8 0, .int .u8 0, .int .u8 0, .int .u8 0, .int .u8 0, .int .u8 0, .int .u8 0] 73)).alloc (.cells #[.int .u8 0, .int .u8 0, .int .u8 0, .int .u8 0, .int .u8 0, .int .u8 0, .int .u8 0, .int .u8 0, .int .u8 0, .int .u8 0, .int .u8 0, .int .u8 0, .int .u8 0, .int .u8 0, .int .u8 0, .int .u8 0] 73)).alloc (.cells #[.int .u8 0, .int .u8 0, .int .u8 0, .int .u8 0, .int .u8 0, .int .u8 0, .int .u8 0, .int .u8 0, .int .u8 0, .int .u8 0, .int .u8 0, .int .u8 0, .int .u8 0, .int .u8 0, .int .u8 0, .int .u8 0] 73)).alloc (.cells #[.int .u8 0, .int .u8 0, .int .u8 0, .int .u8 0, .int .u8 0, .int .u8 0, .int .u8 0, .int .u8 0, .int .u8 0, .int .u8 0, .int .u8 0, .int .u8 0, .int .u8 0, .int .u8 0, .int .u8 0, .int .u8 0] 73)).alloc (.cells #[.int .u8 0, .int .u8 0, .int .u8 0, .int .u8 0, .int .u8 0, .int .u8 0, .int .u8 0, .int .u8 0, .int .u8 0, .int .u8 0, .int .u8 0, .int .u8 0, .int .u8 0, .int .u8 0, .int .u8 0, .int .u8 0] 73)) := ⟨_, rfl⟩
 rw [← hW] at H0 ⊢
 clear hW
 obtain ⟨n, hn⟩ : ∃ n, w.heap.size = n := ⟨_, rfl⟩
 rw [hn] at H0 HN1 HN2 HN3 HG ⊢
 replace hn := Lib.hid hn
 refine wrA (opsAt Tryd.f83 2) ((true, 0) :: (true, 1) :: (true, 2) :: (true, 3) :: (true, 4) :: (true, 5) :: (true, 6) :: (false, 7) :: []) (fun _ => True) trivial ?_
 refine kp (d := some 33) (v := .pointer (some ⟨n + 1 + 1 + 1 + 1, 0, none⟩)) ?_
 refine kp (d := some 34) (v := .pointer (some ⟨b2, o2, none⟩)) ?_
 refine kp (d := some 35) (v := .pointer (some ⟨b2, o2, none⟩)) ?_
 refine kp (d := some 36) (v := .pointer (some ⟨b2, o2, none⟩)) ?_
 refine kp (d := some 37) (v := .pointer (some ⟨b3, o3, none⟩)) ?_
 refine kp (d := some 38) (v := .pointer (some ⟨b3, o3, none⟩)) ?_
 refine kp (d := some 39) (v := .pointer (some ⟨b3, o3, none⟩)) ?_
 refine kd (d := some 40) (f := 102) (args := #[.pointer (some ⟨n + 1 + 1 + 1 + 1, 0, none⟩), .pointer (some ⟨b2, o2, none⟩), .pointer (some ⟨b3, o3, none⟩)]) (stMul H0.drew (i := 5) rfl (k1 := 0) rfl (by simp) (hU.fst.sto H0 (keys8 dU HN2)).drew (hV.fst.sto H0 (keys8 dV HN3)).drew (z := u0 * v0) rfl) (fun _ w1 q1 => ⟨.tuple #[], q1.1, trivial, ?_⟩)
 have u1 := q1.2
 clear q1
 refine k_end ?_
 go_simp
 go_upto_region 3 with (fail)
 have H1 : Sto w [(b1, L1), (n, [0]), (n + 1, [0]), (n + 1 + 1, [0]), (n + 1 + 1 + 1, [0]), (n + 1 + 1 + 1 + 1, [u0 * v0]), (n + 1 + 1 + 1 + 1 + 1, [0]), (n + 1 + 1 + 1 + 1 + 1 + 1, [0])] w1 := u1
 clear u1 H0
 refine wrA (opsAt Tryd.f83 3) ((true, 0) :: (true, 1) :: (true, 2) :: (true, 3) :: (true, 4) :: (true, 5) :: (true, 6) :: (false, 7) :: []) (fun _ => True) trivial ?_
 refine kp (d := some 41) (v := .pointer (some ⟨n, 0, none⟩)) ?_
 refine kp (d := some 42) (v := .pointer (some ⟨b2, o2, none⟩)) ?_
 refine kp (d := some 43) (v := .pointer (some ⟨b2, o2, none⟩)) ?_
 refine kp (d := some 44) (v := .pointer (some ⟨b2, o2 + 16, none⟩)) ?_
 refine kp (d := some 45) (v := .pointer (some ⟨b3, o3, none⟩)) ?_
 refine kp (d := some 46) (v := .pointer (some ⟨b3, o3, none⟩)) ?_
 refine kp (d := some 47) (v := .pointer (some ⟨b3, o3 + 16, none⟩)) ?_
 refine kd (d := some 48) (f := 102) (args := #[.pointer (some ⟨n, 0, none⟩), .pointer (some ⟨b2, o2 + 16, none⟩), .pointer (some ⟨b3, o3 + 16, none⟩)]) (stMul H1.drew (i := 1) rfl (k1 := 0) rfl (by simp) (hU.snd.sto H1 (keys8 dU HN2)).drew (hV.snd.sto H1 (keys8 dV HN3)).drew (z := u1 * v1) rfl) (fun _ w2 q2 => ⟨.tuple #[], q2.1, trivial, ?_⟩)
 have u2 := q2.2
 clear q2
 refine k_end ?_
 go_simp
 go_upto_region 4 with (fail)
 have H2 : Sto w [(b1, L1), (n, [u1 * v1]), (n + 1, [0]), (n + 1 + 1, [0]), (n + 1 + 1 + 1, [0]), (n + 1 + 1 + 1 + 1, [u0 * v0]), (n + 1 + 1 + 1 + 1 + 1, [0]), (n + 1 + 1 + 1 + 1 + 1 + 1, [0])] w2 := u2
 clear u2 H1
 refine wsA (opsAt Tryd.f83 4) ((true, 0) :: (true, 1) :: (true, 2) :: (false, 3) :: []) (fun _ => True) trivial ?_
 refine kp (d := some 49) (v := .pointer (some ⟨n + 1 + 1 + 1 + 1, 0, none⟩)) ?_
 refine kp (d := some 50) (v := .pointer (some ⟨n + 1 + 1 + 1 + 1, 0, none⟩)) ?_
 refine kp (d := some 51) (v := .pointer (some ⟨n, 0, none⟩)) ?_
 refine kd (d := some 52) (f := 103) (args := #[.pointer (some ⟨n + 1 + 1 + 1 + 1, 0, none⟩), .pointer (some ⟨n + 1 + 1 + 1 + 1, 0, none⟩), .pointer (some ⟨n, 0, none⟩)]) (stAdd H2 (i := 5) rfl (k1 := 0) rfl (by simp) (H2.at 5 0 rfl rfl rfl) (H2.at 1 0 rfl rfl rfl) (z := a) HA.out) (fun _ w3 q3 => ⟨.tuple #[], q3.1, trivial, ?_⟩)
 have u3 := q3.2
 clear q3
 refine k_end ?_
 go_simp
 go_upto_region 5 with (fail)
 have H3 : Sto w [(b1, L1), (n, [u1 * v1]), (n + 1, [0]), (n + 1 + 1, [0]), (n + 1 + 1 + 1, [0]), (n + 1 + 1 + 1 + 1, [a]), (n + 1 + 1 + 1 + 1 + 1, [0]), (n + 1 + 1 + 1 + 1 + 1 + 1, [0])] w3 := u3
 clear u3 H2
 refine wsA (opsAt Tryd.f83 5) ((true, 0) :: (true, 1) :: (true, 2) :: (true, 3) :: (false, 4) :: []) (fun _ => True) trivial ?_
 refine kp (d := some 53) (v := .pointer (some ⟨n + 1 + 1 + 1 + 1 + 1, 0, none⟩)) ?_
 refine kp (d := some 54) (v := .pointer (some ⟨b3, o3, none⟩)) ?_
 refine kp (d := some 55) (v := .pointer (some ⟨b3, o3, none⟩)) ?_
 refine kp (d := some 56) (v := .pointer (some ⟨b3, o3, none⟩)) ?_
 refine kd (d := some 57) (f := 104) (args := #[.pointer (some ⟨n + 1 + 1 + 1 + 1 + 1, 0, none⟩), .pointer (some ⟨b3, o3, none⟩)]) (stSqr H3 (i := 6) rfl (k1 := 0) rfl (by simp) (hV.fst.sto H3 (keys8 dV HN3)) (z := v0 * v0) rfl) (fun _ w4 q4 => ⟨.tuple #[], q4.1, trivial, ?_⟩)
 have u4 := q4.2
 clear q4
 refine k_end ?_
 go_simp
 go_upto_region 6 with (fail)
 have H4 : Sto w [(b1, L1), (n, [u1 * v1]), (n + 1, [0]), (n + 1 + 1, [0]), (n + 1 + 1 + 1, [0]), (n + 1 + 1 + 1 + 1, [a]), (n + 1 + 1 + 1 + 1 + 1, [v0 * v0]), (n + 1 + 1 + 1 + 1 + 1 + 1, [0])] w4 := u4
 clear u4 H3
 refine wsA (opsAt Tryd.f83 6) ((true, 0) :: (true, 1) :: (true, 2) :: (true, 3) :: (false, 4) :: []) (fun _ => True) trivial ?_
 refine kp (d := some 58) (v := .pointer (some ⟨n, 0, none⟩)) ?_
 refine kp (d := some 59) (v := .pointer (some ⟨b3, o3, none⟩)) ?_
 refine kp (d := some 60) (v := .pointer (some ⟨b3, o3, none⟩)) ?_
 refine kp (d := some 61) (v := .pointer (some ⟨b3, o3 + 16, none⟩)) ?_
 refine kd (d := some 62) (f := 104) (args := #[.pointer (some ⟨n, 0, none⟩), .pointer (some ⟨b3, o3 + 16, none⟩)]) (stSqr H4 (i := 1) rfl (k1 := 0) rfl (by simp) (hV.snd.sto H4 (keys8 dV HN3)) (z := v1 * v1) rfl) (fun _ w5 q5 => ⟨.tuple #[], q5.1, trivial, ?_⟩)
 have u5 := q5.2
 clear q5
 refine k_end ?_
 go_simp
 go_upto_region 7 with (fail)
 have H5 : Sto w [(b1, L1), (n, [v1 * v1]), (n + 1, [0]), (n + 1 + 1, [0]), (n + 1 + 1 + 1, [0]), (n + 1 + 1 + 1 + 1, [a]), (n + 1 + 1 + 1 + 1 + 1, [v0 * v0]), (n + 1 + 1 + 1 + 1 + 1 + 1, [0])] w5 := u5
 clear u5 H4
 refine wsA (opsAt Tryd.f83 7) ((true, 0) :: (true, 1) :: (true, 2) :: (false, 3) :: []) (fun _ => True) trivial ?_
 refine kp (d := some 63) (v := .pointer (some ⟨n + 1 + 1 + 1 + 1 + 1, 0, none⟩)) ?_
 refine kp (d := some 64) (v := .pointer (some ⟨n + 1 + 1 + 1 + 1 + 1, 0, none⟩)) ?_
 refine kp (d := some 65) (v := .pointer (some ⟨n, 0, none⟩)) ?_
 refine kd (d := some 66) (f := 103) (args := #[.pointer (some ⟨n + 1 + 1 + 1 + 1 + 1, 0, none⟩), .pointer (some ⟨n + 1 + 1 + 1 + 1 + 1, 0, none⟩), .pointer (some ⟨n, 0, none⟩)]) (stAdd H5 (i := 6) rfl (k1 := 0) rfl (by simp) (H5.at 6 0 rfl rfl rfl) (H5.at 1 0 rfl rfl rfl) (z := b) HB.out) (fun _ w6 q6 => ⟨.tuple #[], q6.1, trivial, ?_⟩)
 have u6 := q6.2
 clear q6
 refine k_end ?_
 go_simp
 go_upto_region 8 with (fail)
 have H6 : Sto w [(b1, L1), (n, [v1 * v1]), (n + 1, [0]), (n + 1 + 1, [0]), (n + 1 + 1 + 1, [0]), (n + 1 + 1 + 1 + 1, [a]), (n + 1 + 1 + 1 + 1 + 1, [b]), (n + 1 + 1 + 1 + 1 + 1 + 1, [0])] w6 := u6
 clear u6 H5
 refine wrA (opsAt Tryd.f83 8) ((true, 0) :: (true, 1) :: (true, 2) :: (true, 3) :: (true, 4) :: (true, 5) :: (true, 6) :: (false, 7) :: []) (fun _ => True) trivial ?_
 refine kp (d := some 67) (v := .pointer (some ⟨n + 1 + 1 + 1 + 1 + 1 + 1, 0, none⟩)) ?_
 refine kp (d := some 68) (v := .pointer (some ⟨b2, o2, none⟩)) ?_
 refine kp (d := some 69) (v := .pointer (some ⟨b2, o2, none⟩)) ?_
 refine kp (d := some 70) (v := .pointer (some ⟨b2, o2 + 16, none⟩)) ?_
 refine kp (d := some 71) (v := .pointer (some ⟨b3, o3, none⟩)) ?_
 refine kp (d := some 72) (v := .pointer (some ⟨b3, o3, none⟩)) ?_
 refine kp (d := some 73) (v := .pointer (some ⟨b3, o3, none⟩)) ?_
 refine kd (d := some 74) (f := 102) (args := #[.pointer (some ⟨n + 1 + 1 + 1 + 1 + 1 + 1, 0, none⟩), .pointer (some ⟨b2, o2 + 16, none⟩), .pointer (some ⟨b3, o3, none⟩)]) (stMul H6.drew (i := 7) rfl (k1 := 0) rfl (by simp) (hU.snd.sto H6 (keys8 dU HN2)).drew (hV.fst.sto H6 (keys8 dV HN3)).drew (z := u1 * v0) rfl) (fun _ w7 q7 => ⟨.tuple #[], q7.1, trivial, ?_⟩)
 have u7 := q7.2
 clear q7
 refine k_end ?_
 go_simp
 go_upto_region 9 with (fail)
 have H7 : Sto w [(b1, L1), (n, [v1 * v1]), (n + 1, [0]), (n + 1 + 1, [0]), (n + 1 + 1 + 1, [0]), (n + 1 + 1 + 1 + 1, [a]), (n + 1 + 1 + 1 + 1 + 1, [b]), (n + 1 + 1 + 1 + 1 + 1 + 1, [u1 * v0])] w7 := u7
 clear u7 H6
 refine wrA (opsAt Tryd.f83 9) ((true, 0) :: (true, 1) :: (true, 2) :: (true, 3) :: (true, 4) :: (true, 5) :: (true, 6) :: (false, 7) :: []) (fun _ => True) trivial ?_
 refine kp (d := some 75) (v := .pointer (some ⟨n, 0, none⟩)) ?_
 refine kp (d := some 76) (v := .pointer (some ⟨b2, o2, none⟩)) ?_
 refine kp (d := some 77) (v := .pointer (some ⟨b2, o2, none⟩)) ?_
 refine kp (d := some 78) (v := .pointer (some ⟨b2, o2, none⟩)) ?_
 refine kp (d := some 79) (v := .pointer (some ⟨b3, o3, none⟩)) ?_
 refine kp (d := some 80) (v := .pointer (some ⟨b3, o3, none⟩)) ?_
 refine kp (d := some 81) (v := .pointer (some ⟨b3, o3 + 16, none⟩)) ?_
 refine kd (d := some 82) (f := 102) (args := #[.pointer (some ⟨n, 0, none⟩), .pointer (some ⟨b2, o2, none⟩), .pointer (some ⟨b3, o3 + 16, none⟩)]) (stMul H7.drew (i := 1) rfl (k1 := 0) rfl (by simp) (hU.fst.sto H7 (keys8 dU HN2)).drew (hV.snd.sto H7 (keys8 dV HN3)).drew (z := u0 * v1) rfl) (fun _ w8 q8 => ⟨.tuple #[], q8.1, trivial, ?_⟩)
 have u8 := q8.2
 clear q8
 refine k_end ?_
 go_simp
 go_upto_region 10 with (fail)
 have H8 : Sto w [(b1, L1), (n, [u0 * v1]), (n + 1, [0]), (n + 1 + 1, [0]), (n + 1 + 1 + 1, [0]), (n + 1 + 1 + 1 + 1, [a]), (n + 1 + 1 + 1 + 1 + 1, [b]), (n + 1 + 1 + 1 + 1 + 1 + 1, [u1 * v0])] w8 := u8
 clear u8 H7
 refine wsA (opsAt Tryd.f83 10) ((true, 0) :: (true, 1) :: (true, 2) :: (false, 3) :: []) (fun _ => True) trivial ?_
 refine kp (d := some 83) (v := .pointer (some ⟨n + 1 + 1 + 1 + 1 + 1 + 1, 0, none⟩)) ?_
 refine kp (d := some 84) (v := .pointer (some ⟨n + 1 + 1 + 1 + 1 + 1 + 1, 0, none⟩)) ?_
 refine kp (d := some 85) (v := .pointer (some ⟨n, 0, none⟩)) ?_
 refine kd (d := some 86) (f := 105) (args := #[.pointer (some ⟨n + 1 + 1 + 1 + 1 + 1 + 1, 0, none⟩), .pointer (some ⟨n + 1 + 1 + 1 + 1 + 1 + 1, 0, none⟩), .pointer (some ⟨n, 0, none⟩)]) (stSub H8 (i := 7) rfl (k1 := 0) rfl (by simp) (H8.at 7 0 rfl rfl rfl) (H8.at 1 0 rfl rfl rfl) (z := g) HGG.out) (fun _ w9 q9 => ⟨.tuple #[], q9.1, trivial, ?_⟩)
 have u9 := q9.2
 clear q9
 refine k_end ?_
 go_simp
 go_upto_region 11 with (fail)
 have H9 : Sto w [(b1, L1), (n, [u0 * v1]), (n + 1, [0]), (n + 1 + 1, [0]), (n + 1 + 1 + 1, [0]), (n + 1 + 1 + 1 + 1, [a]), (n + 1 + 1 + 1 + 1 + 1, [b]), (n + 1 + 1 + 1 + 1 + 1 + 1, [g])] w9 := u9
 clear u9 H8
 refine wsA (opsAt Tryd.f83 11) ((true, 0) :: (true, 1) :: (false, 2) :: []) (fun _ => True) trivial ?_
 refine kp (d := some 87) (v := .pointer (some ⟨n, 0, none⟩)) ?_
 refine kp (d := some 88) (v := .pointer (some ⟨n + 1 + 1 + 1 + 1, 0, none⟩)) ?_
 refine kd (d := some 89) (f := 104) (args := #[.pointer (some ⟨n, 0, none⟩), .pointer (some ⟨n + 1 + 1 + 1 + 1, 0, none⟩)]) (stSqr H9 (i := 1) rfl (k1 := 0) rfl (by simp) (H9.at 5 0 rfl rfl rfl) (z := a * a) rfl) (fun _ w10 q10 => ⟨.tuple #[], q10.1, trivial, ?_⟩)
 have u10 := q10.2
 clear q10
 refine k_end ?_
 go_simp
 go_upto_region 12 with (fail)
 have H10 : Sto w [(b1, L1), (n, [a * a]), (n + 1, [0]), (n + 1 + 1, [0]), (n + 1 + 1 + 1, [0]), (n + 1 + 1 + 1 + 1, [a]), (n + 1 + 1 + 1 + 1 + 1, [b]), (n + 1 + 1 + 1 + 1 + 1 + 1, [g])] w10 := u10
 clear u10 H9
 refine wsA (opsAt Tryd.f83 12) ((true, 0) :: (true, 1) :: (false, 2) :: []) (fun _ => True) trivial ?_
 refine kp (d := some 90) (v := .pointer (some ⟨n + 1, 0, none⟩)) ?_
 refine kp (d := some 91) (v := .pointer (some ⟨n + 1 + 1 + 1 + 1 + 1 + 1, 0, none⟩)) ?_
 refine kd (d := some 92) (f := 104) (args := #[.pointer (some ⟨n + 1, 0, none⟩), .pointer (some ⟨n + 1 + 1 + 1 + 1 + 1 + 1, 0, none⟩)]) (stSqr H10 (i := 2) rfl (k1 := 0) rfl (by simp) (H10.at 7 0 rfl rfl rfl) (z := g * g) rfl) (fun _ w11 q11 => ⟨.tuple #[], q11.1, trivial, ?_⟩)
 have u11 := q11.2
 clear q11
 refine k_end ?_
 go_simp
 go_upto_region 13 with (fail)
 have H11 : Sto w [(b1, L1), (n, [a * a]), (n + 1, [g * g]), (n + 1 + 1, [0]), (n + 1 + 1 + 1, [0]), (n + 1 + 1 + 1 + 1, [a]), (n + 1 + 1 + 1 + 1 + 1, [b]), (n + 1 + 1 + 1 + 1 + 1 + 1, [g])] w11 := u11
 clear u11 H10
 refine wsA (opsAt Tryd.f83 13) ((true, 0) :: (true, 1) :: (true, 2) :: (false, 3) :: []) (fun _ => True) trivial ?_
 refine kp (d := some 93) (v := .pointer (some ⟨n, 0, none⟩)) ?_
 refine kp (d := some 94) (v := .pointer (some ⟨n, 0, none⟩)) ?_
 refine kp (d := some 95) (v := .pointer (some ⟨n + 1, 0, none⟩)) ?_
 refine kd (d := some 96) (f := 103) (args := #[.pointer (some ⟨n, 0, none⟩), .pointer (some ⟨n, 0, none⟩), .pointer (some ⟨n + 1, 0, none⟩)]) (stAdd H11 (i := 1) rfl (k1 := 0) rfl (by simp) (H11.at 1 0 rfl rfl rfl) (H11.at 2 0 rfl rfl rfl) (z := X) HX.out) (fun _ w12 q12 => ⟨.tuple #[], q12.1, trivial, ?_⟩)
 have u12 := q12.2
 clear q12
 refine k_end ?_
 go_simp
 go_upto_region 15 with (fail)
 have H12 : Sto w [(b1, L1), (n, [X]), (n + 1, [g * g]), (n + 1 + 1, [0]), (n + 1 + 1 + 1, [0]), (n + 1 + 1 + 1 + 1, [a]), (n + 1 + 1 + 1 + 1 + 1, [b]), (n + 1 + 1 + 1 + 1 + 1 + 1, [g])] w12 := u12
 clear u12 H11
 have HL : Hid (Sto w [(b1, L1), (n, [X.pow (1 * 2 ^ 0)]), (n + 1, [g * g]), (n + 1 + 1, [0]), (n + 1 + 1 + 1, [0]), (n + 1 + 1 + 1 + 1, [a]), (n + 1 + 1 + 1 + 1 + 1, [b]), (n + 1 + 1 + 1 + 1 + 1 + 1, [g])] w12) := Lib.hid (by have := H12; rw [← zpow_one X] at this; exact this)
 clear H12
 go_wp2_with fail
 go_loopw [15] (fun iv wr => ∃ k : Nat, k ≤ 125 ∧ iv = .int .i64 k ∧ Hid (Sto w [(b1, L1), (n, [X.pow (1 * 2 ^ k)]), (n + 1, [g * g]), (n + 1 + 1, [0]), (n + 1 + 1 + 1, [0]), (n + 1 + 1 + 1 + 1, [a]), (n + 1 + 1 + 1 + 1 + 1, [b]), (n + 1 + 1 + 1 + 1 + 1 + 1, [g])] wr)) (fun i _ => 125 - (intOf i).toNat)
 case atStart => exact ⟨0, Nat.zero_le _, rfl, Lib.hid HL.out⟩
 case round =>
   obtain ⟨k, hk, rfl, hs⟩ := hrel
   clear HL
   by_cases hlt : k < 125
   · go_wp2_with fail
     refine (stSqr hs.out (i := 1) rfl (k1 := 0) rfl (by simp) (hs.out.at 1 0 rfl rfl rfl) (pw_step X 1 k)).mono ?_
     rintro e w' ⟨rfl, hL⟩
     have HL := Lib.hid hL
     clear hL
     go_wp2_with fail
     exact ⟨⟨k + 1, by omega, by go_num, Lib.hid HL.out⟩, by simp [intOf]; omega⟩
   · have hk : k = 125 := by omega
     have hS0 : X.pow (1 * 2 ^ k) = S := by rw [hk]; exact HS.out
     have hk' : ¬ (k : Int) < 125 := by omega
     have H20 : Sto w [(b1, L1), (n, [S]), (n + 1, [g * g]), (n + 1 + 1, [0]), (n + 1 + 1 + 1, [0]), (n + 1 + 1 + 1 + 1, [a]), (n + 1 + 1 + 1 + 1 + 1, [b]), (n + 1 + 1 + 1 + 1 + 1 + 1, [g])] wr := by have := hs.out; rw [hS0] at this; exact this
     clear hs hS0 hk
     go_upto_region 18 with (fail)
     refine wsA (opsAt Tryd.f83 18) ((true, 0) :: (true, 1) :: (true, 2) :: (false, 3) :: []) (fun _ => True) trivial ?_
     refine kp (d := some 104) (v := .pointer (some ⟨n + 1 + 1, 0, none⟩)) ?_
     refine kp (d := some 105) (v := .pointer (some ⟨n + 1 + 1 + 1 + 1, 0, none⟩)) ?_
     refine kp (d := some 106) (v := .pointer (some ⟨n, 0, none⟩)) ?_
     refine kd (d := some 107) (f := 103) (args := #[.pointer (some ⟨n + 1 + 1, 0, none⟩), .pointer (some ⟨n + 1 + 1 + 1 + 1, 0, none⟩), .pointer (some ⟨n, 0, none⟩)]) (stAdd H20 (i := 3) rfl (k1 := 0) rfl (by simp) (H20.at 5 0 rfl rfl rfl) (H20.at 1 0 rfl rfl rfl) (z := a + S) rfl) (fun _ w13 q13 => ⟨.tuple #[], q13.1, trivial, ?_⟩)
     have u13 := q13.2
     clear q13
     refine k_end ?_
     go_simp
     go_upto_region 19 with (fail)
     have H21 : Sto w [(b1, L1), (n, [S]), (n + 1, [g * g]), (n + 1 + 1, [a + S]), (n + 1 + 1 + 1, [0]), (n + 1 + 1 + 1 + 1, [a]), (n + 1 + 1 + 1 + 1 + 1, [b]), (n + 1 + 1 + 1 + 1 + 1 + 1, [g])] w13 := u13
     clear u13 H20
     refine wsA (opsAt Tryd.f83 19) ((true, 0) :: (true, 1) :: (true, 2) :: (false, 3) :: []) (fun _ => True) trivial ?_
     refine kp (d := some 108) (v := .pointer (some ⟨n + 1, 0, none⟩)) ?_
     refine kp (d := some 109) (v := .pointer (some ⟨n + 1 + 1 + 1 + 1, 0, none⟩)) ?_
     refine kp (d := some 110) (v := .pointer (some ⟨n, 0, none⟩)) ?_
     refine kd (d := some 111) (f := 105) (args := #[.pointer (some ⟨n + 1, 0, none⟩), .pointer (some ⟨n + 1 + 1 + 1 + 1, 0, none⟩), .pointer (some ⟨n, 0, none⟩)]) (stSub H21 (i := 2) rfl (k1 := 0) rfl (by simp) (H21.at 5 0 rfl rfl rfl) (H21.at 1 0 rfl rfl rfl) (z := a - S) rfl) (fun _ w14 q14 => ⟨.tuple #[], q14.1, trivial, ?_⟩)
     have u14 := q14.2
     clear q14
     refine k_end ?_
     go_simp
     go_upto_region 20 with (fail)
     have H22 : Sto w [(b1, L1), (n, [S]), (n + 1, [a - S]), (n + 1 + 1, [a + S]), (n + 1 + 1 + 1, [0]), (n + 1 + 1 + 1 + 1, [a]), (n + 1 + 1 + 1 + 1 + 1, [b]), (n + 1 + 1 + 1 + 1 + 1 + 1, [g])] w14 := u14
     clear u14 H21
     refine wrA (opsAt Tryd.f83 20) ((true, 0) :: (true, 2) :: (true, 3) :: (true, 4) :: (true, 5) :: (true, 6) :: (true, 7) :: (false, 1) :: (false, 8) :: []) (fun _ => True) trivial ?_
     refine kp (d := some 112) (v := .pointer (some ⟨n + 1 + 1, 0, none⟩)) ?_
     refine kp (d := some 114) (v := .pointer (some ⟨n + 1 + 1, 0, none⟩)) ?_
     refine kp (d := some 115) (v := .pointer (some ⟨n + 1 + 1, 0, none⟩)) ?_
     refine kp (d := some 116) (v := .slice (some ⟨n + 1 + 1, 0, none⟩) 16 16) ?_
     refine kp (d := some 117) (v := .pointer (some ⟨n + 1, 0, none⟩)) ?_
     refine kp (d := some 118) (v := .pointer (some ⟨n + 1, 0, none⟩)) ?_
     refine kp (d := some 119) (v := .slice (some ⟨n + 1, 0, none⟩) 16 16) ?_
     refine kd (d := some 113) (f := 107) (args := #[.pointer (some ⟨n + 1 + 1, 0, none⟩)]) (stZeroCT (hm.sto H22 (keys8 (Nat.ne_of_lt hg) HG)).drew H22.drew (i := 3) rfl (k1 := 0) rfl rfl) (fun _ w15 q15 => ⟨.int .i64 (isz (a + S).val), q15.1, trivial, ?_⟩)
     have u15 := q15.2
     clear q15
     have H20b : Sto w [(b1, L1), (n, [S]), (n + 1, [a - S]), (n + 1 + 1, [a + S]), (n + 1 + 1 + 1, [0]), (n + 1 + 1 + 1 + 1, [a]), (n + 1 + 1 + 1 + 1 + 1, [b]), (n + 1 + 1 + 1 + 1 + 1 + 1, [g])] w15 := u15
     clear u15 H22
     refine kd (d := some 120) (f := 106) (args := #[.int .i64 (isz (a + S).val), .slice (some ⟨n + 1 + 1, 0, none⟩) 16 16, .slice (some ⟨n + 1, 0, none⟩) 16 16]) (stSel (isz01 _) H20b (i := 3) rfl (k1 := 0) rfl rfl (H20b.at 2 0 rfl rfl rfl) (.inl (H20b.ne 2 3 _ _ _ _ rfl rfl (by decide)))) (fun _ w16 q16 => ⟨.tuple #[], q16.1, trivial, ?_⟩)
     have u16 := q16.2
     clear q16
     refine k_end ?_
     go_simp
     go_upto_region 21 with (fail)
     have H23 : Sto w [(b1, L1), (n, [S]), (n + 1, [a - S]), (n + 1 + 1, [(if isz (a + S).val = 1 then a - S else a + S)]), (n + 1 + 1 + 1, [0]), (n + 1 + 1 + 1 + 1, [a]), (n + 1 + 1 + 1 + 1 + 1, [b]), (n + 1 + 1 + 1 + 1 + 1 + 1, [g])] w16 := u16
     clear u16 H20b
     rw [HT.out] at H23
     refine wsA (opsAt Tryd.f83 21) ((true, 0) :: (true, 1) :: (true, 2) :: (false, 3) :: []) (fun _ => True) trivial ?_
     refine kp (d := some 121) (v := .pointer (some ⟨n + 1 + 1, 0, none⟩)) ?_
     refine kp (d := some 122) (v := .pointer (some ⟨n + 1 + 1, 0, none⟩)) ?_
     refine kp (d := some 123) (v := .pointer (some ⟨n + 1 + 1, 0, none⟩)) ?_
     refine kd (d := some 124) (f := 103) (args := #[.pointer (some ⟨n + 1 + 1, 0, none⟩), .pointer (some ⟨n + 1 + 1, 0, none⟩), .pointer (some ⟨n + 1 + 1, 0, none⟩)]) (stAdd H23 (i := 3) rfl (k1 := 0) rfl (by simp) (H23.at 3 0 rfl rfl rfl) (H23.at 3 0 rfl rfl rfl) (z := T) HTT.out) (fun _ w17 q17 => ⟨.tuple #[], q17.1, trivial, ?_⟩)
     have u17 := q17.2
     clear q17
     refine k_end ?_
     go_simp
     go_upto_region 22 with (fail)
     have H24 : Sto w [(b1, L1), (n, [S]), (n + 1, [a - S]), (n + 1 + 1, [T]), (n + 1 + 1 + 1, [0]), (n + 1 + 1 + 1 + 1, [a]), (n + 1 + 1 + 1 + 1 + 1, [b]), (n + 1 + 1 + 1 + 1 + 1 + 1, [g])] w17 := u17
     clear u17 H23
     refine wsA (opsAt Tryd.f83 22) ((true, 0) :: (true, 1) :: (false, 2) :: []) (fun _ => True) trivial ?_
     refine kp (d := some 125) (v := .pointer (some ⟨n + 1 + 1 + 1, 0, none⟩)) ?_
     refine kp (d := some 126) (v := .pointer (some ⟨n + 1 + 1 + 1 + 1 + 1, 0, none⟩)) ?_
     refine kd (d := some 127) (f := 104) (args := #[.pointer (some ⟨n + 1 + 1 + 1, 0, none⟩), .pointer (some ⟨n + 1 + 1 + 1 + 1 + 1, 0, none⟩)]) (stSqr H24 (i := 4) rfl (k1 := 0) rfl (by simp) (H24.at 6 0 rfl rfl rfl) (z := b * b) rfl) (fun _ w18 q18 => ⟨.tuple #[], q18.1, trivial, ?_⟩)
     have u18 := q18.2
     clear q18
     refine k_end ?_
     go_simp
     go_upto_region 23 with (fail)
     have H25 : Sto w [(b1, L1), (n, [S]), (n + 1, [a - S]), (n + 1 + 1, [T]), (n + 1 + 1 + 1, [b * b]), (n + 1 + 1 + 1 + 1, [a]), (n + 1 + 1 + 1 + 1 + 1, [b]), (n + 1 + 1 + 1 + 1 + 1 + 1, [g])] w18 := u18
     clear u18 H24
     refine wsA (opsAt Tryd.f83 23) ((true, 0) :: (true, 1) :: (true, 2) :: (false, 3) :: []) (fun _ => True) trivial ?_
     refine kp (d := some 128) (v := .pointer (some ⟨n + 1 + 1 + 1, 0, none⟩)) ?_
     refine kp (d := some 129) (v := .pointer (some ⟨n + 1 + 1 + 1, 0, none⟩)) ?_
     refine kp (d := some 130) (v := .pointer (some ⟨n + 1 + 1 + 1 + 1 + 1, 0, none⟩)) ?_
     refine kd (d := some 131) (f := 102) (args := #[.pointer (some ⟨n + 1 + 1 + 1, 0, none⟩), .pointer (some ⟨n + 1 + 1 + 1, 0, none⟩), .pointer (some ⟨n + 1 + 1 + 1 + 1 + 1, 0, none⟩)]) (stMul H25 (i := 4) rfl (k1 := 0) rfl (by simp) (H25.at 4 0 rfl rfl rfl) (H25.at 6 0 rfl rfl rfl) (z := b * b * b) rfl) (fun _ w19 q19 => ⟨.tuple #[], q19.1, trivial, ?_⟩)
     have u19 := q19.2
     clear q19
     refine k_end ?_
     go_simp
     go_upto_region 24 with (fail)
     have H26 : Sto w [(b1, L1), (n, [S]), (n + 1, [a - S]), (n + 1 + 1, [T]), (n + 1 + 1 + 1, [b * b * b]), (n + 1 + 1 + 1 + 1, [a]), (n + 1 + 1 + 1 + 1 + 1, [b]), (n + 1 + 1 + 1 + 1 + 1 + 1, [g])] w19 := u19
     clear u19 H25
     refine wsA (opsAt Tryd.f83 24) ((true, 0) :: (true, 1) :: (true, 2) :: (false, 3) :: []) (fun _ => True) trivial ?_
     refine kp (d := some 132) (v := .pointer (some ⟨n + 1 + 1 + 1, 0, none⟩)) ?_
     refine kp (d := some 133) (v := .pointer (some ⟨n + 1 + 1 + 1, 0, none⟩)) ?_
     refine kp (d := some 134) (v := .pointer (some ⟨n + 1 + 1, 0, none⟩)) ?_
     refine kd (d := some 135) (f := 102) (args := #[.pointer (some ⟨n + 1 + 1 + 1, 0, none⟩), .pointer (some ⟨n + 1 + 1 + 1, 0, none⟩), .pointer (some ⟨n + 1 + 1, 0, none⟩)]) (stMul H26 (i := 4) rfl (k1 := 0) rfl (by simp) (H26.at 4 0 rfl rfl rfl) (H26.at 3 0 rfl rfl rfl) (z := b * b * b * T) rfl) (fun _ w20 q20 => ⟨.tuple #[], q20.1, trivial, ?_⟩)
     have u20 := q20.2
     clear q20
     refine k_end ?_
     go_simp
     go_upto_region 25 with (fail)
     have H27 : Sto w [(b1, L1), (n, [S]), (n + 1, [a - S]), (n + 1 + 1, [T]), (n + 1 + 1 + 1, [b * b * b * T]), (n + 1 + 1 + 1 + 1, [a]), (n + 1 + 1 + 1 + 1 + 1, [b]), (n + 1 + 1 + 1 + 1 + 1 + 1, [g])] w20 := u20
     clear u20 H26
     refine wsA (opsAt Tryd.f83 25) ((true, 0) :: (true, 1) :: (false, 2) :: []) (fun _ => True) trivial ?_
     refine kp (d := some 136) (v := .pointer (some ⟨n + 1 + 1 + 1, 0, none⟩)) ?_
     refine kp (d := some 137) (v := .pointer (some ⟨n + 1 + 1 + 1, 0, none⟩)) ?_
     refine kd (d := some 138) (f := 108) (args := #[.pointer (some ⟨n + 1 + 1 + 1, 0, none⟩), .pointer (some ⟨n + 1 + 1 + 1, 0, none⟩)]) (stTwo H27 (i := 4) rfl (k1 := 0) rfl (by simp) (H27.at 4 0 rfl rfl rfl) (z := r) HR.out) (fun _ w21 q21 => ⟨.tuple #[], q21.1, trivial, ?_⟩)
     have u21 := q21.2
     clear q21
     refine k_end ?_
     go_simp
     go_upto_region 26 with (fail)
     have H28 : Sto w [(b1, L1), (n, [S]), (n + 1, [a - S]), (n + 1 + 1, [T]), (n + 1 + 1 + 1, [r]), (n + 1 + 1 + 1 + 1, [a]), (n + 1 + 1 + 1 + 1 + 1, [b]), (n + 1 + 1 + 1 + 1 + 1 + 1, [g])] w21 := u21
     clear u21 H27
     have H29 : Sto w [(b1, cl L1 k1 p0 p1), (n, [S]), (n + 1, [a - S]), (n + 1 + 1, [T]), (n + 1 + 1 + 1, [r]), (n + 1 + 1 + 1 + 1, [a]), (n + 1 + 1 + 1 + 1 + 1, [b]), (n + 1 + 1 + 1 + 1 + 1 + 1, [g])] w21 := by rw [HSELF.out]; exact H28
     clear H28
     refine wsA (opsAt Tryd.f83 26) ((true, 0) :: (true, 1) :: (true, 2) :: (true, 3) :: (true, 4) :: (false, 5) :: []) (fun _ => True) trivial ?_
     refine kp (d := some 139) (v := .pointer (some ⟨b1, o1, none⟩)) ?_
     refine kp (d := some 140) (v := .pointer (some ⟨b1, o1, none⟩)) ?_
     refine kp (d := some 141) (v := .pointer (some ⟨b1, o1 + 16, none⟩)) ?_
     refine kp (d := some 142) (v := .pointer (some ⟨n + 1 + 1 + 1, 0, none⟩)) ?_
     refine kp (d := some 143) (v := .pointer (some ⟨n + 1 + 1 + 1 + 1 + 1, 0, none⟩)) ?_
     refine kd (d := some 144) (f := 102) (args := #[.pointer (some ⟨b1, o1 + 16, none⟩), .pointer (some ⟨n + 1 + 1 + 1, 0, none⟩), .pointer (some ⟨n + 1 + 1 + 1 + 1 + 1, 0, none⟩)]) (stMul H29 (i := 0) rfl (k1 := k1 + 1) (e16 E1.out) (cl_lt1 I1.out _ _) (H29.at 4 0 rfl rfl rfl) (H29.at 6 0 rfl rfl rfl) (z := q) HQ.out) (fun _ w22 q22 => ⟨.tuple #[], q22.1, trivial, ?_⟩)
     have u22 := q22.2
     clear q22
     refine k_end ?_
     go_simp
     go_upto_region 27 with (fail)
     have H30 : Sto w [(b1, cl L1 k1 p0 q), (n, [S]), (n + 1, [a - S]), (n + 1 + 1, [T]), (n + 1 + 1 + 1, [r]), (n + 1 + 1 + 1 + 1, [a]), (n + 1 + 1 + 1 + 1 + 1, [b]), (n + 1 + 1 + 1 + 1 + 1 + 1, [g])] w22 := by have := u22; rw [cl_snd] at this; exact this
     clear u22 H29
     refine wrA (opsAt Tryd.f83 27) ((true, 0) :: (true, 1) :: (true, 2) :: (true, 3) :: (true, 4) :: (true, 5) :: (true, 6) :: (false, 7) :: []) (fun _ => True) trivial ?_
     refine kp (d := some 145) (v := .pointer (some ⟨b1, o1, none⟩)) ?_
     refine kp (d := some 146) (v := .pointer (some ⟨b1, o1, none⟩)) ?_
     refine kp (d := some 147) (v := .pointer (some ⟨b1, o1, none⟩)) ?_
     refine kp (d := some 148) (v := .pointer (some ⟨b1, o1, none⟩)) ?_
     refine kp (d := some 149) (v := .pointer (some ⟨b1, o1, none⟩)) ?_
     refine kp (d := some 150) (v := .pointer (some ⟨b1, o1 + 16, none⟩)) ?_
     refine kp (d := some 151) (v := .pointer (some ⟨n + 1 + 1, 0, none⟩)) ?_
     refine kd (d := some 152) (f := 102) (args := #[.pointer (some ⟨b1, o1, none⟩), .pointer (some ⟨b1, o1 + 16, none⟩), .pointer (some ⟨n + 1 + 1, 0, none⟩)]) (stMul H30.drew (i := 0) rfl (k1 := k1) E1.out (cl_lt0 I1.out _ _) (H30.at 0 (k1 + 1) rfl (cl_get1 I1.out _ _) (e16 E1.out)).drew (H30.at 3 0 rfl rfl rfl).drew (z := q * T) rfl) (fun _ w23 q23 => ⟨.tuple #[], q23.1, trivial, ?_⟩)
     have u23 := q23.2
     clear q23
     refine k_end ?_
     go_simp
     go_upto_region 28 with (fail)
     have H31 : Sto w [(b1, cl L1 k1 (q * T) q), (n, [S]), (n + 1, [a - S]), (n + 1 + 1, [T]), (n + 1 + 1 + 1, [r]), (n + 1 + 1 + 1 + 1, [a]), (n + 1 + 1 + 1 + 1 + 1, [b]), (n + 1 + 1 + 1 + 1 + 1 + 1, [g])] w23 := by have := u23; rw [cl_fst] at this; exact this
     clear u23 H30
     refine wrA (opsAt Tryd.f83 28) ((true, 0) :: (true, 1) :: (true, 2) :: (true, 3) :: (true, 4) :: (true, 5) :: (false, 6) :: []) (fun _ => True) trivial ?_
     refine kp (d := some 153) (v := .pointer (some ⟨b1, o1, none⟩)) ?_
     refine kp (d := some 154) (v := .pointer (some ⟨b1, o1, none⟩)) ?_
     refine kp (d := some 155) (v := .pointer (some ⟨b1, o1, none⟩)) ?_
     refine kp (d := some 156) (v := .pointer (some ⟨b1, o1, none⟩)) ?_
     refine kp (d := some 157) (v := .pointer (some ⟨b1, o1, none⟩)) ?_
     refine kp (d := some 158) (v := .pointer (some ⟨b1, o1, none⟩)) ?_
     refine kd (d := some 159) (f := 109) (args := #[.pointer (some ⟨b1, o1, none⟩), .pointer (some ⟨b1, o1, none⟩)]) (stHlf H31.drew (i := 0) rfl (k1 := k1) E1.out (cl_lt0 I1.out _ _) (H31.at 0 k1 rfl (cl_get0 I1.out _ _) E1.out).drew (z := c0) HC0.out) (fun _ w24 q24 => ⟨.tuple #[], q24.1, trivial, ?_⟩)
     have u24 := q24.2
     clear q24
     refine k_end ?_
     go_simp
     go_upto_region 29 with (fail)
     have H32 : Sto w [(b1, cl L1 k1 c0 q), (n, [S]), (n + 1, [a - S]), (n + 1 + 1, [T]), (n + 1 + 1 + 1, [r]), (n + 1 + 1 + 1 + 1, [a]), (n + 1 + 1 + 1 + 1 + 1, [b]), (n + 1 + 1 + 1 + 1 + 1 + 1, [g])] w24 := by have := u24; rw [cl_fst] at this; exact this
     clear u24 H31
     refine wrA (opsAt Tryd.f83 29) ((true, 0) :: (true, 1) :: (true, 2) :: (true, 3) :: (true, 4) :: (true, 5) :: (true, 6) :: (false, 7) :: []) (fun _ => True) trivial ?_
     refine kp (d := some 160) (v := .pointer (some ⟨b1, o1, none⟩)) ?_
     refine kp (d := some 161) (v := .pointer (some ⟨b1, o1, none⟩)) ?_
     refine kp (d := some 162) (v := .pointer (some ⟨b1, o1 + 16, none⟩)) ?_
     refine kp (d := some 163) (v := .pointer (some ⟨b1, o1, none⟩)) ?_
     refine kp (d := some 164) (v := .pointer (some ⟨b1, o1, none⟩)) ?_
     refine kp (d := some 165) (v := .pointer (some ⟨b1, o1 + 16, none⟩)) ?_
     refine kp (d := some 166) (v := .pointer (some ⟨n + 1 + 1 + 1 + 1 + 1 + 1, 0, none⟩)) ?_
     refine kd (d := some 167) (f := 102) (args := #[.pointer (some ⟨b1, o1 + 16, none⟩), .pointer (some ⟨b1, o1 + 16, none⟩), .pointer (some ⟨n + 1 + 1 + 1 + 1 + 1 + 1, 0, none⟩)]) (stMul H32.drew (i := 0) rfl (k1 := k1 + 1) (e16 E1.out) (cl_lt1 I1.out _ _) (H32.at 0 (k1 + 1) rfl (cl_get1 I1.out _ _) (e16 E1.out)).drew (H32.at 7 0 rfl rfl rfl).drew (z := c1) HC1.out) (fun _ w25 q25 => ⟨.tuple #[], q25.1, trivial, ?_⟩)
     have u25 := q25.2
     clear q25
     refine k_end ?_
     go_simp
     go_upto_region 30 with (fail)
     have H33 : Sto w [(b1, cl L1 k1 c0 c1), (n, [S]), (n + 1, [a - S]), (n + 1 + 1, [T]), (n + 1 + 1 + 1, [r]), (n + 1 + 1 + 1 + 1, [a]), (n + 1 + 1 + 1 + 1 + 1, [b]), (n + 1 + 1 + 1 + 1 + 1 + 1, [g])] w25 := by have := u25; rw [cl_snd] at this; exact this
     clear u25 H32
     refine wrA (opsAt Tryd.f83 30) ((true, 0) :: (true, 1) :: (true, 2) :: (true, 3) :: (true, 4) :: (true, 5) :: (true, 6) :: (false, 7) :: []) (fun _ => True) trivial ?_
     refine kp (d := some 168) (v := .pointer (some ⟨n, 0, none⟩)) ?_
     refine kp (d := some 169) (v := .pointer (some ⟨b1, o1, none⟩)) ?_
     refine kp (d := some 170) (v := .pointer (some ⟨b1, o1, none⟩)) ?_
     refine kp (d := some 171) (v := .pointer (some ⟨b1, o1, none⟩)) ?_
     refine kp (d := some 172) (v := .pointer (some ⟨b1, o1, none⟩)) ?_
     refine kp (d := some 173) (v := .pointer (some ⟨b1, o1, none⟩)) ?_
     refine kp (d := some 174) (v := .pointer (some ⟨b1, o1, none⟩)) ?_
     refine kd (d := some 175) (f := 103) (args := #[.pointer (some ⟨n, 0, none⟩), .pointer (some ⟨b1, o1, none⟩), .pointer (some ⟨b1, o1, none⟩)]) (stAdd H33.drew (i := 1) rfl (k1 := 0) rfl (by simp) (H33.at 0 k1 rfl (cl_get0 I1.out _ _) E1.out).drew (H33.at 0 k1 rfl (cl_get0 I1.out _ _) E1.out).drew (z := c0 + c0) rfl) (fun _ w26 q26 => ⟨.tuple #[], q26.1, trivial, ?_⟩)
     have u26 := q26.2
     clear q26
     refine k_end ?_
     go_simp
     go_upto_region 31 with (fail)
     have H34 : Sto w [(b1, cl L1 k1 c0 c1), (n, [c0 + c0]), (n + 1, [a - S]), (n + 1 + 1, [T]), (n + 1 + 1 + 1, [r]), (n + 1 + 1 + 1 + 1, [a]), (n + 1 + 1 + 1 + 1 + 1, [b]), (n + 1 + 1 + 1 + 1 + 1 + 1, [g])] w26 := u26
     clear u26 H33
     refine wsA (opsAt Tryd.f83 31) ((true, 0) :: (true, 1) :: (false, 2) :: []) (fun _ => True) trivial ?_
     refine kp (d := some 176) (v := .pointer (some ⟨n, 0, none⟩)) ?_
     refine kp (d := some 177) (v := .pointer (some ⟨n, 0, none⟩)) ?_
     refine kd (d := some 178) (f := 104) (args := #[.pointer (some ⟨n, 0, none⟩), .pointer (some ⟨n, 0, none⟩)]) (stSqr H34 (i := 1) rfl (k1 := 0) rfl (by simp) (H34.at 1 0 rfl rfl rfl) (z := (c0 + c0) * (c0 + c0)) rfl) (fun _ w27 q27 => ⟨.tuple #[], q27.1, trivial, ?_⟩)
     have u27 := q27.2
     clear q27
     refine k_end ?_
     go_simp
     go_upto_region 32 with (fail)
     have H35 : Sto w [(b1, cl L1 k1 c0 c1), (n, [(c0 + c0) * (c0 + c0)]), (n + 1, [a - S]), (n + 1 + 1, [T]), (n + 1 + 1 + 1, [r]), (n + 1 + 1 + 1 + 1, [a]), (n + 1 + 1 + 1 + 1 + 1, [b]), (n + 1 + 1 + 1 + 1 + 1 + 1, [g])] w27 := u27
     clear u27 H34
     refine wsA (opsAt Tryd.f83 32) ((true, 0) :: (true, 1) :: (true, 2) :: (false, 3) :: []) (fun _ => True) trivial ?_
     refine kp (d := some 179) (v := .pointer (some ⟨n, 0, none⟩)) ?_
     refine kp (d := some 180) (v := .pointer (some ⟨n, 0, none⟩)) ?_
     refine kp (d := some 181) (v := .pointer (some ⟨n + 1 + 1 + 1 + 1 + 1, 0, none⟩)) ?_
     refine kd (d := some 182) (f := 102) (args := #[.pointer (some ⟨n, 0, none⟩), .pointer (some ⟨n, 0, none⟩), .pointer (some ⟨n + 1 + 1 + 1 + 1 + 1, 0, none⟩)]) (stMul H35 (i := 1) rfl (k1 := 0) rfl (by simp) (H35.at 1 0 rfl rfl rfl) (H35.at 6 0 rfl rfl rfl) (z := (c0 + c0) * (c0 + c0) * b) rfl) (fun _ w28 q28 => ⟨.tuple #[], q28.1, trivial, ?_⟩)
     have u28 := q28.2
     clear q28
     refine k_end ?_
     go_simp
     go_upto_region 33 with (fail)
     have H36 : Sto w [(b1, cl L1 k1 c0 c1), (n, [(c0 + c0) * (c0 + c0) * b]), (n + 1, [a - S]), (n + 1 + 1, [T]), (n + 1 + 1 + 1, [r]), (n + 1 + 1 + 1 + 1, [a]), (n + 1 + 1 + 1 + 1 + 1, [b]), (n + 1 + 1 + 1 + 1 + 1 + 1, [g])] w28 := u28
     clear u28 H35
     refine wsA (opsAt Tryd.f83 33) ((true, 0) :: (true, 1) :: (true, 2) :: (false, 3) :: []) (fun _ => True) trivial ?_
     refine kp (d := some 183) (v := .pointer (some ⟨n, 0, none⟩)) ?_
     refine kp (d := some 184) (v := .pointer (some ⟨n, 0, none⟩)) ?_
     refine kp (d := some 185) (v := .pointer (some ⟨n + 1 + 1, 0, none⟩)) ?_
     refine kd (d := some 186) (f := 105) (args := #[.pointer (some ⟨n, 0, none⟩), .pointer (some ⟨n, 0, none⟩), .pointer (some ⟨n + 1 + 1, 0, none⟩)]) (stSub H36 (i := 1) rfl (k1 := 0) rfl (by simp) (H36.at 1 0 rfl rfl rfl) (H36.at 3 0 rfl rfl rfl) (z := K) HK.out) (fun _ w29 q29 => ⟨.tuple #[], q29.1, trivial, ?_⟩)
     have u29 := q29.2
     clear q29
     refine k_end ?_
     go_simp
     go_upto_region 34 with (fail)
     have H37 : Sto w [(b1, cl L1 k1 c0 c1), (n, [K]), (n + 1, [a - S]), (n + 1 + 1, [T]), (n + 1 + 1 + 1, [r]), (n + 1 + 1 + 1 + 1, [a]), (n + 1 + 1 + 1 + 1 + 1, [b]), (n + 1 + 1 + 1 + 1 + 1 + 1, [g])] w29 := u29
     clear u29 H36
     obtain ⟨l, x0, x1, hF, hl0, hl1, hz0, hz1, hy0, hy1⟩ := (H37.blk 0 _ _ rfl).two2 (cl_get0 I1.out c0 c1) (cl_get1 I1.out c0 c1)
     replace hF := Lib.hid hF
     replace hl0 := Lib.hid hl0
     replace hl1 := Lib.hid hl1
     replace hz0 := Lib.hid hz0
     replace hz1 := Lib.hid hz1
     replace hy0 := Lib.hid hy0
     replace hy1 := Lib.hid hy1
     refine wrA (opsAt Tryd.f83 34) ((true, 0) :: (true, 1) :: (true, 2) :: (true, 3) :: (true, 4) :: (true, 5) :: (true, 6) :: (true, 7) :: (true, 8) :: (false, 9) :: (true, 10) :: []) (fun w' => Fps w' b1 l) hF.out ?_
     refine kp (d := some 187) (v := .pointer (some ⟨b1, o1, none⟩)) ?_
     refine kp (d := some 188) (v := .pointer (some ⟨b1, o1, none⟩)) ?_
     refine kp (d := some 189) (v := .pointer (some ⟨b1, o1 + 16, none⟩)) ?_
     refine k_load (by kernel_rfl) (d := (some 190)) (by kernel_rfl) (ty := 73) (x := (.tmp 189)) (by kernel_rfl) (b := b1) (off := o1 + 16) (by kernel_rfl) (cs := fpC x1) (fun w' hs => hs.cells1 (e16 E1.out) hl1.out) Tryd.underlying73 rfl (by kernel_rfl) ?_
     refine kp (d := some 191) (v := .pointer (some ⟨b1, o1, none⟩)) ?_
     refine kp (d := some 192) (v := .pointer (some ⟨b1, o1, none⟩)) ?_
     refine kp (d := some 193) (v := .pointer (some ⟨b1, o1, none⟩)) ?_
     refine k_load (by kernel_rfl) (d := (some 194)) (by kernel_rfl) (ty := 73) (x := (.tmp 193)) (by kernel_rfl) (b := b1) (off := o1) (by kernel_rfl) (cs := fpC x0) (fun w' hs => hs.cells1 E1.out hl0.out) Tryd.underlying73 rfl (by kernel_rfl) ?_
     refine kp (d := some 195) (v := .agg (fps [x1, x0])) ?_
     refine k_make (by kernel_rfl) (d := (some 196)) (by kernel_rfl) (v := .pointer (some ⟨w29.heap.size, 0, none⟩)) (w' := w29.drew.alloc (.cells (fps [x1, x0]) 83)) (by kernel_rfl) (hF.out.alloc _) ?_
     intro wB hwB hSB
     refine kp (d := some 16) (v := .pointer (some ⟨w29.heap.size, 0, none⟩)) ?_
     have HN8 : n ≤ w29.heap.size := by have := (H37.blk 1 _ _ rfl).lt; omega
     have H38 : Sto w [(b1, cl L1 k1 c0 c1), (n, [K]), (n + 1, [a - S]), (n + 1 + 1, [T]), (n + 1 + 1 + 1, [r]), (n + 1 + 1 + 1 + 1, [a]), (n + 1 + 1 + 1 + 1 + 1, [b]), (n + 1 + 1 + 1 + 1 + 1 + 1, [g]), (w29.heap.size, [c1, c0])] wB := by rw [hwB]; exact H37.drew.new (l := [x1, x0]) rfl rfl (all2L hy1.out hy0.out) (by rw [List.map, List.map, List.map, hz1.out, hz0.out])
     clear hwB hSB H37 hF hl0 hl1 hz0 hz1 hy0 hy1
     refine k_end ?_
     go_simp
     go_upto_region 35 with (fail)
     refine wsA (opsAt Tryd.f83 35) ((true, 0) :: (true, 1) :: (true, 2) :: (false, 3) :: (true, 4) :: (false, 5) :: []) (fun _ => True) trivial ?_
     refine kp (d := some 197) (v := .pointer (some ⟨b1, o1, none⟩)) ?_
     refine kp (d := some 198) (v := .pointer (some ⟨w29.heap.size, 0, none⟩)) ?_
     refine kp (d := some 199) (v := .pointer (some ⟨n, 0, none⟩)) ?_
     refine kd (d := some 200) (f := 107) (args := #[.pointer (some ⟨n, 0, none⟩)]) (stZeroCT (hm.sto H38 (keys9 (Nat.ne_of_lt hg) HG HN8)) H38 (i := 1) rfl (k1 := 0) rfl rfl) (fun _ w30 q30 => ⟨.int .i64 (isz K.val), q30.1, trivial, ?_⟩)
     have u30 := q30.2
     clear q30
     have H35b : Sto w [(b1, cl L1 k1 c0 c1), (n, [K]), (n + 1, [a - S]), (n + 1 + 1, [T]), (n + 1 + 1 + 1, [r]), (n + 1 + 1 + 1 + 1, [a]), (n + 1 + 1 + 1 + 1 + 1, [b]), (n + 1 + 1 + 1 + 1 + 1 + 1, [g]), (w29.heap.size, [c1, c0])] w30 := u30
     clear u30 H38
     refine kp (d := some 201) (v := .int .i64 (nz K.val)) ?_
     refine kd (d := some 202) (f := 110) (args := #[.pointer (some ⟨b1, o1, none⟩), .pointer (some ⟨w29.heap.size, 0, none⟩), .int .i64 (nz K.val)]) (stCmov (nz01 _) H35b (i := 0) rfl E1.out (cl_get0 I1.out _ _) (cl_get1 I1.out _ _) ⟨H35b.at 8 0 rfl rfl rfl, H35b.at 8 1 rfl rfl rfl⟩ (.inl (H35b.ne 8 0 _ _ _ _ rfl rfl (by decide))) (.inl (H35b.ne 8 0 _ _ _ _ rfl rfl (by decide))) (.inl (H35b.ne 8 0 _ _ _ _ rfl rfl (by decide)))) (fun _ w31 q31 => ⟨.tuple #[], q31.1, trivial, ?_⟩)
     have u31 := q31.2
     clear q31
     refine k_end ?_
     go_simp
     go_upto_region 36 with (fail)
     have H39 : Sto w [(b1, cl L1 k1 d0 d1), (n, [K]), (n + 1, [a - S]), (n + 1 + 1, [T]), (n + 1 + 1 + 1, [r]), (n + 1 + 1 + 1 + 1, [a]), (n + 1 + 1 + 1 + 1 + 1, [b]), (n + 1 + 1 + 1 + 1 + 1 + 1, [g]), (w29.heap.size, [c1, c0])] w31 := by have := u31; rw [cl_fst, cl_snd, HD0.out, HD1.out] at this; exact this
     clear u31 H35b
     refine wsA (opsAt Tryd.f83 36) ((true, 0) :: (false, 1) :: (true, 2) :: (true, 3) :: (true, 4) :: (false, 5) :: (true, 6) :: (true, 7) :: []) (fun _ => True) trivial ?_
     refine kp (d := some 203) (v := .pointer (some ⟨b1, o1, none⟩)) ?_
     refine kd (d := some 204) (f := 86) (args := #[.pointer (some ⟨b1, o1, none⟩)]) (stSgnQ (hm.sto H39 (keys9 (Nat.ne_of_lt hg) HG HN8)) hg H39 (i := 0) rfl E1.out (cl_get0 I1.out _ _) (cl_get1 I1.out _ _)) (fun _ w32 q32 => ⟨.int .i64 (sgnQ d0 d1), q32.1, trivial, ?_⟩)
     have u32 := q32.2
     clear q32
     have H36b : Sto w [(b1, cl L1 k1 d0 d1), (n, [K]), (n + 1, [a - S]), (n + 1 + 1, [T]), (n + 1 + 1 + 1, [r]), (n + 1 + 1 + 1 + 1, [a]), (n + 1 + 1 + 1 + 1 + 1, [b]), (n + 1 + 1 + 1 + 1 + 1 + 1, [g]), (w29.heap.size, [c1, c0])] w32 := u32
     clear u32 H39
     refine kp (d := some 205) (v := .int .i32 (IntKind.i32.wrap (sgnQ d0 d1))) ?_
     refine kp (d := some 206) (v := .int .i64 sg) ?_
     refine kp (d := some 207) (v := .int .i32 (IntKind.i32.wrap sg)) ?_
     refine kd (d := some 208) (f := 111) (args := #[.int .i32 (IntKind.i32.wrap (sgnQ d0 d1)), .int .i32 (IntKind.i32.wrap sg)]) (ctEqS _ _ H36b) (fun _ w33 q33 => ⟨.int .i64 (ceq (IntKind.i32.wrap (sgnQ d0 d1)) (IntKind.i32.wrap sg)), q33.1, trivial, ?_⟩)
     have u33 := q33.2
     clear q33
     refine kp (d := some 209) (v := .int .i64 (df (sgnQ d0 d1) sg)) ?_
     refine kp (d := some 17) (v := .int .i64 (df (sgnQ d0 d1) sg)) ?_
     refine k_end ?_
     go_simp
     go_upto_region 38 with (fail)
     have H37 : Sto w [(b1, cl L1 k1 d0 d1), (n, [K]), (n + 1, [a - S]), (n + 1 + 1, [T]), (n + 1 + 1 + 1, [r]), (n + 1 + 1 + 1 + 1, [a]), (n + 1 + 1 + 1 + 1 + 1, [b]), (n + 1 + 1 + 1 + 1 + 1 + 1, [g]), (w29.heap.size, [c1, c0])] w33 := u33
     clear u33 H36b
     have HN9 : n ≤ w33.heap.size := by have := (H37.blk 1 _ _ rfl).lt; omega
     have H38 : Sto w [(b1, cl L1 k1 d0 d1), (n, [K]), (n + 1, [a - S]), (n + 1 + 1, [T]), (n + 1 + 1 + 1, [r]), (n + 1 + 1 + 1 + 1, [a]), (n + 1 + 1 + 1 + 1 + 1, [b]), (n + 1 + 1 + 1 + 1 + 1 + 1, [g]), (w29.heap.size, [c1, c0]), (w33.heap.size, [0, 0])] (w33.alloc (.cells #[.int .u8 0, .int .u8 0, .int .u8 0, .int .u8 0, .int .u8 0, .int .u8 0, .int .u8 0, .int .u8 0, .int .u8 0, .int .u8 0, .int .u8 0, .int .u8 0, .int .u8 0, .int .u8 0, .int .u8 0, .int .u8 0, .int .u8 0, .int .u8 0, .int .u8 0, .int .u8 0, .int .u8 0, .int .u8 0, .int .u8 0, .int .u8 0, .int .u8 0, .int .u8 0, .int .u8 0, .int .u8 0, .int .u8 0, .int .u8 0, .int .u8 0, .int .u8 0] 83)) := H37.new (l := [0, 0]) rfl zero_fps2.symm (all2L low_zero low_zero) rfl
     obtain ⟨W37, hW⟩ : ∃ W37 : World, W37 = (w33.alloc (.cells #[.int .u8 0, .int .u8 0, .int .u8 0, .int .u8 0, .int .u8 0, .int .u8 0, .int .u8 0, .int .u8 0, .int .u8 0, .int .u8 0, .int .u8 0, .int .u8 0, .int .u8 0, .int .u8 0, .int .u8 0, .int .u8 0, .int .u8 0, .int .u8 0, .int .u8 0, .int .u8 0, .int .u8 0, .int .u8 0, .int .u8 0, .int .u8 0, .int .u8 0, .int .u8 0, .int .u8 0, .int .u8 0, .int .u8 0, .int .u8 0, .int .u8 0, .int .u8 0] 83)) := ⟨_, rfl⟩
     rw [← hW] at H38 ⊢
     clear hW H37
     refine wsA (opsAt Tryd.f83 38) ((true, 0) :: (true, 1) :: (false, 2) :: []) (fun _ => True) trivial ?_
     refine kp (d := some 212) (v := .pointer (some ⟨w33.heap.size, 0, none⟩)) ?_
     refine kp (d := some 213) (v := .pointer (some ⟨b1, o1, none⟩)) ?_
     refine kd (d := some 214) (f := 112) (args := #[.pointer (some ⟨w33.heap.size, 0, none⟩), .pointer (some ⟨b1, o1, none⟩)]) (stNegQ (hm.sto H38 (keys10 (Nat.ne_of_lt hg) HG HN8 HN9)) (Nat.lt_of_lt_of_le HG HN9) H38 (i := 9) rfl (k1 := 0) rfl (by simp) ⟨(H38.at 0 k1 rfl (cl_get0 I1.out _ _) E1.out), (H38.at 0 (k1 + 1) rfl (cl_get1 I1.out _ _) (e16 E1.out))⟩ (.inl (H38.ne 0 9 _ _ _ _ rfl rfl (by decide)))) (fun _ w34 q34 => ⟨.tuple #[], q34.1, trivial, ?_⟩)
     have u34 := q34.2
     clear q34
     refine k_end ?_
     go_simp
     go_upto_region 39 with (fail)
     have H39 : Sto w [(b1, cl L1 k1 d0 d1), (n, [K]), (n + 1, [a - S]), (n + 1 + 1, [T]), (n + 1 + 1 + 1, [r]), (n + 1 + 1 + 1 + 1, [a]), (n + 1 + 1 + 1 + 1 + 1, [b]), (n + 1 + 1 + 1 + 1 + 1 + 1, [g]), (w29.heap.size, [c1, c0]), (w33.heap.size, [-d0, -d1])] w34 := u34
     clear u34 H38
     refine wsA (opsAt Tryd.f83 39) ((true, 0) :: (true, 1) :: (true, 2) :: (false, 3) :: []) (fun _ => True) trivial ?_
     refine kp (d := some 215) (v := .pointer (some ⟨b1, o1, none⟩)) ?_
     refine kp (d := some 216) (v := .pointer (some ⟨w33.heap.size, 0, none⟩)) ?_
     refine kp (d := some 217) (v := .int .i64 (df (sgnQ d0 d1) sg)) ?_
     refine kd (d := some 218) (f := 110) (args := #[.pointer (some ⟨b1, o1, none⟩), .pointer (some ⟨w33.heap.size, 0, none⟩), .int .i64 (df (sgnQ d0 d1) sg)]) (stCmov (df01 _ _) H39 (i := 0) rfl E1.out (cl_get0 I1.out _ _) (cl_get1 I1.out _ _) ⟨H39.at 9 0 rfl rfl rfl, H39.at 9 1 rfl rfl rfl⟩ (.inl (H39.ne 9 0 _ _ _ _ rfl rfl (by decide))) (.inl (H39.ne 9 0 _ _ _ _ rfl rfl (by decide))) (.inl (H39.ne 9 0 _ _ _ _ rfl rfl (by decide)))) (fun _ w35 q35 => ⟨.tuple #[], q35.1, trivial, ?_⟩)
     have u35 := q35.2
     clear q35
     refine k_end ?_
     go_simp
     have H40 : Hid (Sto w [(b1, cl L1 k1 f0 f1), (n, [K]), (n + 1, [a - S]), (n + 1 + 1, [T]), (n + 1 + 1 + 1, [r]), (n + 1 + 1 + 1 + 1, [a]), (n + 1 + 1 + 1 + 1 + 1, [b]), (n + 1 + 1 + 1 + 1 + 1 + 1, [g]), (w29.heap.size, [c1, c0]), (w33.heap.size, [-d0, -d1])] w35) := Lib.hid (by have := u35; rw [cl_fst, cl_snd, HF0.out, HF1.out] at this; exact this)
     clear u35 H39
     go_wp2_with fail
     go_end0
     exact ⟨rfl, H40.out.end1 (fun p hp => hn.out.symm ▸ keysT HN8 HN9 p hp)⟩
end
end Go.Proofs.YtfkfljohhabldaaDoor
namespace Go.FourQ
end Go.FourQ
namespace Go.Proofs.YtfkfljohhabldaaDoor
open Go.RowKit Go.FourQ
/-- What fqSqrt reckons. -/
def SqV (u v : Zq) (sg : Int) (f : Zq) : Prop := ∃ a b g X S t T r q c0 c1 K d0 d1 : Zp,
 u.re * v.re + u.im * v.im = a ∧ v.re * v.re + v.im * v.im = b ∧ u.im * v.re - u.re * v.im = g ∧ a * a + g * g = X ∧ X.pow (1 * 2 ^ 125) = S ∧
 (if isz (a + S).val = 1 then a - S else a + S) = t ∧ t + t = T ∧ (b * b * b * T).pow 42535295865117307932921825928971026431 = r ∧ r * b = q ∧ q * T * half = c0 ∧ q * g = c1 ∧
 (c0 + c0) * (c0 + c0) * b - T = K ∧ (if nz K.val = 1 then c1 else c0) = d0 ∧ (if nz K.val = 1 then c0 else c1) = d1 ∧
 (if df (sgnQ d0 d1) sg = 1 then -d0 else d0) = f.re ∧ (if df (sgnQ d0 d1) sg = 1 then -d1 else d1) = f.im
theorem SqV.ex (u v : Zq) (sg : Int) : ∃ f, SqV u v sg f := by
 obtain ⟨a, ha⟩ : ∃ z : Zp, u.re * v.re + u.im * v.im = z := ⟨_, rfl⟩
 obtain ⟨b, hb⟩ : ∃ z : Zp, v.re * v.re + v.im * v.im = z := ⟨_, rfl⟩
 obtain ⟨g, hg⟩ : ∃ z : Zp, u.im * v.re - u.re * v.im = z := ⟨_, rfl⟩
 obtain ⟨X, hX⟩ : ∃ z : Zp, a * a + g * g = z := ⟨_, rfl⟩
 obtain ⟨S, hS⟩ : ∃ z : Zp, X.pow (1 * 2 ^ 125) = z := ⟨_, rfl⟩
 obtain ⟨t, ht⟩ : ∃ z : Zp, (if isz (a + S).val = 1 then a - S else a + S) = z := ⟨_, rfl⟩
 obtain ⟨T, hT⟩ : ∃ z : Zp, t + t = z := ⟨_, rfl⟩
 obtain ⟨r, hr⟩ : ∃ z : Zp, (b * b * b * T).pow 42535295865117307932921825928971026431 = z := ⟨_, rfl⟩
 obtain ⟨q, hq⟩ : ∃ z : Zp, r * b = z := ⟨_, rfl⟩
 obtain ⟨c0, hc0⟩ : ∃ z : Zp, q * T * half = z := ⟨_, rfl⟩
 obtain ⟨c1, hc1⟩ : ∃ z : Zp, q * g = z := ⟨_, rfl⟩
 obtain ⟨K, hK⟩ : ∃ z : Zp, (c0 + c0) * (c0 + c0) * b - T = z := ⟨_, rfl⟩
 obtain ⟨d0, hd0⟩ : ∃ z : Zp, (if nz K.val = 1 then c1 else c0) = z := ⟨_, rfl⟩
 obtain ⟨d1, hd1⟩ : ∃ z : Zp, (if nz K.val = 1 then c0 else c1) = z := ⟨_, rfl⟩
 obtain ⟨f0, hf0⟩ : ∃ z : Zp, (if df (sgnQ d0 d1) sg = 1 then -d0 else d0) = z := ⟨_, rfl⟩
 obtain ⟨f1, hf1⟩ : ∃ z : Zp, (if df (sgnQ d0 d1) sg = 1 then -d1 else d1) = z := ⟨_, rfl⟩
 exact ⟨⟨f0, f1⟩, a, b, g, X, S, t, T, r, q, c0, c1, K, d0, d1, ha, hb, hg, hX, hS, ht, hT, hr, hq, hc0, hc1, hK, hd0, hd1, hf0, hf1⟩
theorem fqSqrt {w : World} {b1 b2 b3 o1 o2 o3 k1 : Nat} {L1 : List Zp} {u v f : Zq} {sg : Int} (hf : SqV u v sg f) (hm : ModW w) (hg : 4 < b1) (h1 : FpsZ w b1 L1) (hU : AtQ w b2 o2 u.re u.im) (hV : AtQ w b3 o3 v.re v.im) (e1 : o1 = 16 * k1) (i1 : k1 + 1 < L1.length) (dU : b2 ≠ b1) (dV : b3 ≠ b1) :
   Calls Tryd.prog 83 #[.pointer (some ⟨b1, o1, none⟩), .pointer (some ⟨b2, o2, none⟩), .pointer (some ⟨b3, o3, none⟩), .int .i64 sg] w fun e w' => e = .returned (.tuple #[]) ∧ UpdZ w w' b1 ((L1.set k1 f.re).set (k1 + 1) f.im) := by
 obtain ⟨a, b, g, X, S, t, T, r, q, c0, c1, K, d0, d1, ha, hb, hgg, hx, hS, ht, htt, hr, hq, hc0, hc1, hk, hd0, hd1, hf0, hf1⟩ := hf
 have p0 := List.getElem?_eq_getElem (Nat.lt_of_succ_lt i1)
 have p1 := List.getElem?_eq_getElem i1
 exact fqSqrtW hm hg h1 hU hV e1 i1 dU dV ha hb hgg hx hS ht htt hr hq hc0 hc1 hk hd0 hd1 hf0 hf1 (cl_self p0 p1)
/-- Nothing of nothing. -/
theorem SqV.zero {v f : Zq} {sg : Int} (h : SqV 0 v sg f) : f = 0 := by
 obtain ⟨a, b, g, X, S, t, T, r, q, c0, c1, K, d0, d1, ha, hb, hgg, hx, hS, ht, htt, hr, hq, hc0, hc1, hk, hd0, hd1, hf0, hf1⟩ := h
 have ha0 : a = 0 := by rw [← ha]; show 0 * v.re + 0 * v.im = 0; rw [zzero_mul, zzero_mul, zadd_zero]
 have hg0 : g = 0 := by rw [← hgg]; show 0 * v.re - 0 * v.im = 0; rw [zzero_mul, zzero_mul, zsub_self]
 have hX0 : X = 0 := by rw [← hx, ha0, hg0, zmul_zero, zadd_zero]
 have hS0 : S = 0 := by rw [← hS, hX0]; exact zero_pow (by decide)
 have ht0 : t = 0 := by
   rw [← ht, ha0, hS0]
   split
   · exact zsub_self 0
   · exact zadd_zero 0
 have hT0 : T = 0 := by rw [← htt, ht0, zadd_zero]
 have hc00 : c0 = 0 := by rw [← hc0, hT0, zmul_zero, zzero_mul]
 have hc10 : c1 = 0 := by rw [← hc1, hg0, zmul_zero]
 subst hc00 hc10
 have hd00 : d0 = 0 := by rw [← hd0]; split <;> rfl
 have hd10 : d1 = 0 := by rw [← hd1]; split <;> rfl
 subst hd00 hd10
 refine Zq.ext ?_ ?_
 · rw [← hf0]; split
   · exact zneg_zero
   · rfl
 · rw [← hf1]; split
   · exact zneg_zero
   · rfl
end Go.Proofs.YtfkfljohhabldaaDoor
namespace Go.FourQ
open Go.Proofs.YtfkfljohhabldaaDoor
end Go.FourQ
namespace Go.FourQ
open Go.RowKit
theorem run_binOpV {P : Program} {ρ : Operand → Value} {o : Oper} {w : World} {op : BinOp} {x y : Operand} {t t' : TypeId} {u v r : Value} (ho : o.op = .binOp op t x y t') (hx : ρ x = u) (hy : ρ y = v) (hq : (eqGuard op t x y u v).run P w = .ok () w) (h : (binOp op t u v).run P w = .ok r w) : (execOp ρ o).run P w = .ok (.value r) w := by
 unfold execOp
 simp [ho, hx, hy, hq, h, Result.andThen]
theorem At.upd2 {w w' : World} {b o b1 b2 : Nat} {x : Zp} {L : List Zp} {l : List Nat} (h : At w b o x) (u : Upd2 w w' b1 L b2 l) (h1 : b ≠ b1) (h2 : b ≠ b2) : At w' b o x := by
 obtain ⟨M, k, f, e, g⟩ := h
 exact ⟨M, k, f.of_heap (u.other _ f.lt h1 h2), e, g⟩
theorem AtZ.upd2 {w w' : World} {b o b1 b2 : Nat} {x : Zq} {L : List Zp} {l : List Nat} (h : AtZ w b o x) (u : Upd2 w w' b1 L b2 l) (h1 : b ≠ b1) (h2 : b ≠ b2) : AtZ w' b o x := ⟨⟨h.q.fst.upd2 u h1 h2, h.q.snd.upd2 u h1 h2⟩, h.al⟩
theorem run_loadRow {P : Program} {ρ : Operand → Value} {o : Oper} {w : World} {ty : TypeId} {x : Operand} {b : Nat} {cs : Array Value} {T : TypeId} {d : TypeDesc} (ho : o.op = .load ty x) (hx : ρ x = .pointer (some ⟨b, 0, none⟩)) (hg : w.heap[b]? = some (.cells cs T (0, 0)))
   (hu : P.underlying ty = some d) (hd : (match d with | .struct _ | .array _ _ => true | _ => false) = true) (hi : (P.info? ty).map (·.size) = some cs.size) : (execOp ρ o).run P w = .ok (.value (.agg cs)) w := by
 unfold execOp
 simp only [ho, hx, Instr.loadAt, Instr.sureAddr, Sem.run_bind, Sem.run_pure, Result.andThen_ok, run_loadVar_row w b T ty cs (0, 0) d hg hu hd hi]
end Go.FourQ
namespace Go.Proofs.YtfkfljohhabldaaDoor
open Go.RowKit Go.FourQ
end Go.Proofs.YtfkfljohhabldaaDoor
namespace Go.FourQ
open Go.RowKit
section
variable {P : Program} {md : Region.Mode} {ops : Array Oper} {Q : Exit → Act → World → Prop} {S : World → Prop} {a : Act} {w : World} {r : List (Bool × Nat)} {i : Nat} {d : Option Tmp} {v : Value}
theorem k_ifR (hw : wantN ops i a = some true) (hd : (opN ops i).dst = d) (hrun : ∀ w', S w' → (execOp a.eval (opN ops i)).run P w' = .ok (.value v) w')
   (h : PlanG P ops Q S r (a.put d v) w) : PlanG P ops Q S ((true, i) :: r) a w := by
 subst hd
 exact ⟨⟨_, v, (wantN_some hw).1, .inl ⟨(wantN_some hw).2, hrun⟩, h.out⟩⟩
end
/-- w' is w, but that block b holds other words; there may be new blocks. -/
structure UpdW (w w' : World) (b : Nat) (L : List Nat) : Prop where
 os : w'.os = w.os
 tape : w'.tape = w.tape
 output : w'.output = w.output
 size : w.heap.size ≤ w'.heap.size
 blk : Ds w' b L
 other : ∀ k, k < w.heap.size → k ≠ b → w'.heap[k]? = w.heap[k]?
theorem UpdW.set {w : World} {b : Nat} {L : List Nat} (h : Ds w b L) (i d : Nat) : UpdW w (w.setCell ⟨b, i, none⟩ (.int .u64 (d : Int))) b (L.set i d) := ⟨rfl, rfl, rfl, by simp, h.set i d, fun c _ hne => heap_setCell_other w _ c _ hne⟩
theorem UpdW.trans {w w' w'' : World} {b : Nat} {l m : List Nat} (u : UpdW w w' b l) (v : UpdW w' w'' b m) : UpdW w w'' b m :=
 ⟨v.os.trans u.os, v.tape.trans u.tape, v.output.trans u.output, Nat.le_trans u.size v.size, v.blk, fun k hk hb => (v.other k (Nat.lt_of_lt_of_le hk u.size) hb).trans (u.other k hk hb)⟩
theorem UpdW.ahead {w w' w'' : World} {b : Nat} {l : List Nat} (v : Below w.heap.size w w') (u : UpdW w' w'' b l) : UpdW w w'' b l :=
 ⟨u.os.trans v.os, u.tape.trans v.tape, u.output.trans v.output, Nat.le_trans v.size u.size, u.blk, fun k hk hb => (u.other k (Nat.lt_of_lt_of_le hk v.size) hb).trans (v.block k hk)⟩
theorem Ds.below {w w' : World} {b n : Nat} {L : List Nat} (h : Ds w b L) (v : Below n w w') (hb : b < n) : Ds w' b L := h.of_heap (v.block b hb)
/-- Five words. -/
def V5 (a b c d e : Nat) : Nat := a + 18446744073709551616 * (b + 18446744073709551616 * (c + 18446744073709551616 * (d + 18446744073709551616 * e)))
theorem V5_eq (a b c d e : Nat) : V5 a b c d e = a + 18446744073709551616 * b + 340282366920938463463374607431768211456 * c + 6277101735386680763835789423207666416102355444464034512896 * d + 115792089237316195423570985008687907853269984665640564039457584007913129639936 * e := by unfold V5; omega
theorem and64 (x m : Nat) (i : Nat) (hi : i ≤ 64) (hm : (2 : Nat) ^ i = m + 1) (hx : x < 18446744073709551616) : bits .and .u64 (x : Int) (m : Int) = ((x % (m + 1) : Nat) : Int) := by
 have h4 : (2 : Nat) ^ i ≤ 2 ^ 64 := Nat.pow_le_pow_right (by decide) hi
 have h := (bits_nat .u64 64 (by decide) (fun x h0 h1 => by rw [IntKind.wrap_u64]; omega) x m hx (by omega)).1
 rw [h, show m = 2 ^ i - 1 by omega, Nat.and_two_pow_sub_one_eq_mod, show 2 ^ i - 1 + 1 = 2 ^ i by omega]
theorem shr4 {P : Program} {w : World} {t : TypeId} (z : Nat) : (binOp .shr t (.int .u64 (z : Int)) (.int .u64 4)).run P w = .ok (.int .u64 ((z / 16 : Nat) : Int)) w := by
 rw [binOp_shr, shift_shr .u64 .u64 _ 4 (by decide) (by decide), show ((z : Nat) : Int) / 2 ^ (4 : Int).toNat = ((z / 16 : Nat) : Int) from by
   show (z : Int) / 16 = _
   omega]; rfl
theorem shl60 {P : Program} {w : World} {t : TypeId} (z : Nat) : (binOp .shl t (.int .u64 (z : Int)) (.int .u64 60)).run P w = .ok (.int .u64 ((z % 16 * 1152921504606846976 : Nat) : Int)) w := by
 rw [binOp_shl, shift_shl .u64 .u64 _ 60 (by decide) (by decide)]
 obtain ⟨c, hc, h⟩ := Go.Proofs.YtfkfljohhabldaaDoor.shl_ex z (2 ^ (60 : Int).toNat) 1152921504606846976 16 (by decide) (by decide)
 rw [h, hc]; rfl
theorem or60 {P : Program} {w : World} {t : TypeId} (z y : Nat) (hy : y < 18446744073709551616) : (binOp .or t (.int .u64 ((y / 16 : Nat) : Int)) (.int .u64 ((z % 16 * 1152921504606846976 : Nat) : Int))).run P w = .ok (.int .u64 ((y / 16 + z % 16 * 1152921504606846976 : Nat) : Int)) w := by
 have hj := bits_join_low .u64 64 (by decide) wraps_u64 60 ((y / 16 : Nat) : Int) ((z % 16 * 1152921504606846976 : Nat) : Int) (by omega) (by omega) (by omega) (by omega) (by omega) (by omega)
 rw [binOp_or, intBits_or, hj, ← Int.natCast_add]; rfl
theorem shr63p {P : Program} {w : World} {t : TypeId} (n : Nat) (h : n ≤ 15) : (binOp .shr t (.int .i64 (n : Int)) (.int .u64 63)).run P w = .ok (.int .i64 0) w := by
 rw [binOp_shr, shift_shr .i64 .u64 _ 63 (by decide) (by decide), show (n : Int) / 2 ^ (63 : Int).toNat = 0 from by
   show (n : Int) / 9223372036854775808 = _
   omega]; rfl
theorem shr63m {P : Program} {w : World} {t : TypeId} (n : Nat) (h0 : 1 ≤ n) (h : n ≤ 15) : (binOp .shr t (.int .i64 (-(n : Int))) (.int .u64 63)).run P w = .ok (.int .i64 (-1)) w := by
 rw [binOp_shr, shift_shr .i64 .u64 _ 63 (by decide) (by decide), show (-(n : Int)) / 2 ^ (63 : Int).toNat = -1 from by
   show (-(n : Int)) / 9223372036854775808 = _
   omega]; rfl
theorem wrap_p (n : Nat) (h : n ≤ 15) : IntKind.u64.wrap (n : Int) = ((n : Nat) : Int) := by rw [IntKind.wrap_u64]; omega
theorem wrap_m (n : Nat) (h0 : 1 ≤ n) (h : n ≤ 15) : IntKind.u64.wrap (-(n : Int)) = ((18446744073709551616 - n : Nat) : Int) := by rw [IntKind.wrap_u64]; omega
theorem run_cvOp {P : Program} {ρ : Operand → Value} {o : Oper} {w : World} {x : Operand} {s d : TypeId} {u v : Value} (ho : o.op = .convert s d x) (hx : ρ x = u) (h : (convert s d u).run P w = .ok v w) : (execOp ρ o).run P w = .ok (.value v) w := by
 unfold execOp
 simp [ho, hx, h, Result.andThen]
theorem run_convOpE {P : Program} {ρ : Operand → Value} {o : Oper} {w : World} {x : Operand} {s d : TypeId} {u v v' : Value} (ho : o.op = .convert s d x) (hx : ρ x = u) (h : (convert s d u).run P w = .ok v w) (e : v = v') : (execOp ρ o).run P w = .ok (.value v') w := e ▸ run_cvOp ho hx h
end Go.FourQ
namespace Go.Proofs.YtfkfljohhabldaaDoor
open Go.RowKit Go.FourQ
def okl0 : Nat → List Nat
 | 0 => [0, 0, 0, 0]
 | 1 => [3436901888089820391, 0, 0, 0]
 | 2 => [3436901888089820391, 16122042576031152537, 0, 0]
 | 3 => [3436901888089820391, 16122042576031152537, 17317351579400803557, 0]
 | _ => [3436901888089820391, 16122042576031152537, 17317351579400803557, 11764505149049458]
set_option maxRecDepth 100000 in
set_option maxHeartbeats 1000000 in
theorem condAdd0 {w : World} {b x0 x1 x2 x3 : Nat} (hx : x0 < 18446744073709551616 ∧ x1 < 18446744073709551616 ∧ x2 < 18446744073709551616 ∧ x3 < 18446744073709551616) (h : Ds w b [x0, x1, x2, x3, 0]) (ho : Ds w 1 [3436901888089820391, 16122042576031152537, 17317351579400803557, 11764505149049458]) (hne : b ≠ 1) (hp : x0 % 2 = 0) :
   Calls Tryd.prog 139 #[.pointer (some ⟨b, 0, none⟩)] w fun e w' => e = .returned (.tuple #[]) ∧ ∃ y0 y1 y2 y3 y4, (y0 < 18446744073709551616 ∧ y1 < 18446744073709551616 ∧ y2 < 18446744073709551616 ∧ y3 < 18446744073709551616 ∧ y4 < 18446744073709551616) ∧ V5 y0 y1 y2 y3 y4 = V5 x0 x1 x2 x3 0 + NN ∧ UpdW w w' b [y0, y1, y2, y3, y4] := by
 obtain ⟨y0, k0, q0, r0, t0, a0⟩ := add64_ex x0 3436901888089820391 0 hx.1 (by decide) (by decide)
 obtain ⟨y1, k1, q1, r1, t1, a1⟩ := add64_ex x1 16122042576031152537 k0 hx.2.1 (by decide) t0
 obtain ⟨y2, k2, q2, r2, t2, a2⟩ := add64_ex x2 17317351579400803557 k1 hx.2.2.1 (by decide) t1
 obtain ⟨y3, k3, q3, r3, t3, a3⟩ := add64_ex x3 11764505149049458 k2 hx.2.2.2 (by decide) t2
 obtain ⟨y4, k4, q4, r4, t4, a4⟩ := add64_ex 0 0 k3 (by decide) (by decide) t3
 have hV : V5 y0 y1 y2 y3 y4 = V5 x0 x1 x2 x3 0 + NN := by
   rw [V5_eq, V5_eq]; unfold NN
   omega
 have A0 : bits .and .u64 (x0 : Int) 1 = 0 := by have := and64 x0 1 1 (by decide) rfl hx.1; rw [hp] at this; exact this
 have HX := Lib.hid hx; have H := Lib.hid h; have HO := Lib.hid ho; have HNE := Lib.hid hne; have HV := Lib.hid hV; have RR := Lib.hid (And.intro r0 (And.intro r1 (And.intro r2 (And.intro r3 r4))))
 have hlb := h.lt; have hlo := ho.lt
 clear h ho hne hp hV hx q0 q1 q2 q3 q4 r0 r1 r2 r3 r4 t0 t1 t2 t3 t4
 go_enter Tryd.func139, Tryd.ntmps139
 go_upto_region 1 with (fail)
 refine wp_gen (fun WW => Ds WW b [x0, x1, x2, x3, 0] ∧ Ds WW 1 [3436901888089820391, 16122042576031152537, 17317351579400803557, 11764505149049458] ∧ Ds WW w.heap.size [0, 0, 0, 0] ∧ Below w.heap.size w WW) ⟨H.out.alloc _, HO.out.alloc _, Ds.new _ _ _ _ _ rfl (by kernel_rfl), (Below.refl _ _).alloc (Nat.le_refl _) _⟩ ?_
 rintro W0 ⟨D0, O0, Z0, B0⟩
 obtain ⟨n, hn⟩ : ∃ n, w.heap.size = n := ⟨_, rfl⟩
 rw [hn] at Z0 ⊢
 have HN := Lib.hid hn
 rw [hn] at hlb hlo
 clear hn
 refine wsA (opsAt Tryd.f139 1) ((true, 0) :: (true, 1) :: (true, 2) :: (false, 3) :: (true, 4) :: (true, 5) :: (true, 6) :: []) (fun _ => True) trivial ?_
 refine kp (d := some 15) (v := .pointer (some ⟨b, 0, none⟩)) ?_
 refine kp (d := some 16) (v := .pointer (some ⟨b, 0, none⟩)) ?_
 refine kp (d := some 17) (v := .pointer (some ⟨b, 0, none⟩)) ?_
 refine k_make (by kernel_rfl) (d := (some 18)) (by kernel_rfl) (v := .int .u64 (x0 : Int)) (run_loadB (ty := 24) (x := (.tmp 17)) (b := b) (off := 0) (by kernel_rfl) (by kernel_rfl) Tryd.underlying24 (D0.cell rfl)) trivial ?_
 intro w1 hw1 _
 subst hw1
 refine k_pure (by kernel_rfl) (d := (some 19)) (by kernel_rfl) (v := .int .u64 0) (fun _ => run_binOpV (op := .and) (x := .tmp 18) (y := .const (.int .u64 1)) (t := 24) (t' := 24) (by kernel_rfl) (by kernel_rfl) (by kernel_rfl) rfl (by rw [binOp_and, intBits_and, A0]; rfl)) ?_
 refine kp (d := some 20) (v := .int .u64 18446744073709551615) ?_
 refine kp (d := some 3) (v := .int .u64 18446744073709551615) ?_
 refine k_end ?_
 go_simp
 have HD0 := Lib.hid D0; have HO0 := Lib.hid O0; have HZ0 := Lib.hid Z0; have HB0 := Lib.hid B0; have HA := Lib.hid (And.intro a0 (And.intro a1 (And.intro a2 (And.intro a3 a4))))
 clear D0 O0 Z0 B0 A0 a0 a1 a2 a3 a4
 go_wp2_with fail
 go_loopw [21] (fun i wr => ∃ k : Nat, k ≤ 4 ∧ i = .int .i64 k ∧ Hid (Ds wr b [x0, x1, x2, x3, 0] ∧ Ds wr 1 [3436901888089820391, 16122042576031152537, 17317351579400803557, 11764505149049458] ∧ Ds wr n (okl0 k) ∧ Below w.heap.size w wr)) (fun i _ => 4 - (intOf i).toNat)
 case atStart => exact ⟨0, by decide, rfl, Lib.hid ⟨HD0.out, HO0.out, HZ0.out, HB0.out⟩⟩
 case round =>
   obtain ⟨k, hk, rfl, hr⟩ := hrel
   clear HD0 HO0 HZ0 HB0
   rcases (by omega : k = 0 ∨ k = 1 ∨ k = 2 ∨ k = 3 ∨ k = 4) with rfl | rfl | rfl | rfl | rfl
   · have hc := hr.out.2.1.cell (i := 0) rfl
     have hz := hr.out.2.2.1.cell (i := 0) (d := 0) rfl
     have hf := hr.out.2.2.1.free 0
     have A : bits .and .u64 18446744073709551615 3436901888089820391 = 3436901888089820391 := by decide +kernel
     have u := UpdW.set hr.out.2.2.1 0 3436901888089820391
     have HU := Lib.hid u
     clear u
     go_wp2_with fail
     refine ⟨⟨1, by decide, rfl, Lib.hid ⟨hr.out.1.of_heap (HU.out.other _ hr.out.1.lt (by omega)), hr.out.2.1.of_heap (HU.out.other _ hr.out.2.1.lt (by omega)), HU.out.blk, ?_⟩⟩, by simp [intOf]⟩
     exact ⟨HU.out.os.trans hr.out.2.2.2.os, HU.out.tape.trans hr.out.2.2.2.tape, HU.out.output.trans hr.out.2.2.2.output, Nat.le_trans hr.out.2.2.2.size HU.out.size, fun j hj => (HU.out.other j (Nat.lt_of_lt_of_le hj hr.out.2.2.2.size) (by have := HN.out; omega)).trans (hr.out.2.2.2.block j hj)⟩
   · have hc := hr.out.2.1.cell (i := 1) rfl
     have hz := hr.out.2.2.1.cell (i := 1) (d := 0) rfl
     have hf := hr.out.2.2.1.free 1
     have A : bits .and .u64 18446744073709551615 16122042576031152537 = 16122042576031152537 := by decide +kernel
     have u := UpdW.set hr.out.2.2.1 1 16122042576031152537
     have HU := Lib.hid u
     clear u
     go_wp2_with fail
     refine ⟨⟨2, by decide, rfl, Lib.hid ⟨hr.out.1.of_heap (HU.out.other _ hr.out.1.lt (by omega)), hr.out.2.1.of_heap (HU.out.other _ hr.out.2.1.lt (by omega)), HU.out.blk, ?_⟩⟩, by simp [intOf]⟩
     exact ⟨HU.out.os.trans hr.out.2.2.2.os, HU.out.tape.trans hr.out.2.2.2.tape, HU.out.output.trans hr.out.2.2.2.output, Nat.le_trans hr.out.2.2.2.size HU.out.size, fun j hj => (HU.out.other j (Nat.lt_of_lt_of_le hj hr.out.2.2.2.size) (by have := HN.out; omega)).trans (hr.out.2.2.2.block j hj)⟩
   · have hc := hr.out.2.1.cell (i := 2) rfl
     have hz := hr.out.2.2.1.cell (i := 2) (d := 0) rfl
     have hf := hr.out.2.2.1.free 2
     have A : bits .and .u64 18446744073709551615 17317351579400803557 = 17317351579400803557 := by decide +kernel
     have u := UpdW.set hr.out.2.2.1 2 17317351579400803557
     have HU := Lib.hid u
     clear u
     go_wp2_with fail
     refine ⟨⟨3, by decide, rfl, Lib.hid ⟨hr.out.1.of_heap (HU.out.other _ hr.out.1.lt (by omega)), hr.out.2.1.of_heap (HU.out.other _ hr.out.2.1.lt (by omega)), HU.out.blk, ?_⟩⟩, by simp [intOf]⟩
     exact ⟨HU.out.os.trans hr.out.2.2.2.os, HU.out.tape.trans hr.out.2.2.2.tape, HU.out.output.trans hr.out.2.2.2.output, Nat.le_trans hr.out.2.2.2.size HU.out.size, fun j hj => (HU.out.other j (Nat.lt_of_lt_of_le hj hr.out.2.2.2.size) (by have := HN.out; omega)).trans (hr.out.2.2.2.block j hj)⟩
   · have hc := hr.out.2.1.cell (i := 3) rfl
     have hz := hr.out.2.2.1.cell (i := 3) (d := 0) rfl
     have hf := hr.out.2.2.1.free 3
     have A : bits .and .u64 18446744073709551615 11764505149049458 = 11764505149049458 := by decide +kernel
     have u := UpdW.set hr.out.2.2.1 3 11764505149049458
     have HU := Lib.hid u
     clear u
     go_wp2_with fail
     refine ⟨⟨4, by decide, rfl, Lib.hid ⟨hr.out.1.of_heap (HU.out.other _ hr.out.1.lt (by omega)), hr.out.2.1.of_heap (HU.out.other _ hr.out.2.1.lt (by omega)), HU.out.blk, ?_⟩⟩, by simp [intOf]⟩
     exact ⟨HU.out.os.trans hr.out.2.2.2.os, HU.out.tape.trans hr.out.2.2.2.tape, HU.out.output.trans hr.out.2.2.2.output, Nat.le_trans hr.out.2.2.2.size HU.out.size, fun j hj => (HU.out.other j (Nat.lt_of_lt_of_le hj hr.out.2.2.2.size) (by have := HN.out; omega)).trans (hr.out.2.2.2.block j hj)⟩
   · obtain ⟨D0, O0, Z0, B0⟩ := hr.out
     clear hr
     obtain ⟨a0, a1, a2, a3, a4⟩ := HA.out
     clear HA
     go_upto_region 7 with (fail)
     refine wrA (opsAt Tryd.f139 7) ((true, 0) :: (true, 1) :: (true, 2) :: (true, 3) :: (true, 4) :: (true, 5) :: (true, 6) :: (true, 7) :: (true, 8) :: (true, 9) :: (true, 10) :: (true, 11) :: []) (fun w' => Ds w' b [x0, x1, x2, x3, 0] ∧ Ds w' n [3436901888089820391, 16122042576031152537, 17317351579400803557, 11764505149049458]) ⟨D0, Z0⟩ ?_
     refine kp (d := some 33) (v := .pointer (some ⟨b, 0, none⟩)) ?_
     refine kp (d := some 34) (v := .pointer (some ⟨b, 0, none⟩)) ?_
     refine kp (d := some 35) (v := .pointer (some ⟨b, 0, none⟩)) ?_
     refine k_ifR (by kernel_rfl) (d := (some 36)) (by kernel_rfl) (v := .int .u64 (x0 : Int)) (fun _ hs => run_loadB (ty := 24) (x := (.tmp 35)) (b := b) (off := 0) (by kernel_rfl) (by kernel_rfl) Tryd.underlying24 (hs.1.cell rfl)) ?_
     refine kp (d := some 37) (v := .pointer (some ⟨n, 0, none⟩)) ?_
     refine k_ifR (by kernel_rfl) (d := (some 38)) (by kernel_rfl) (v := .int .u64 3436901888089820391) (fun _ hs => run_loadB (ty := 24) (x := (.tmp 37)) (b := n) (off := 0) (by kernel_rfl) (by kernel_rfl) Tryd.underlying24 (hs.2.cell rfl)) ?_
     refine k_pure (by kernel_rfl) (d := (some 39)) (by kernel_rfl) (v := .tuple #[.int .u64 (y0 : Int), .int .u64 (k0 : Int)]) (fun w_ => Eq.trans (by kernel_rfl) (a0 w_)) ?_
     refine kp (d := some 32) (v := .tuple #[.int .u64 (y0 : Int), .int .u64 (k0 : Int)]) ?_
     refine kp (d := some 40) (v := .int .u64 (y0 : Int)) ?_
     refine kp (d := some 41) (v := .int .u64 (k0 : Int)) ?_
     refine kp (d := some 5) (v := .int .u64 (y0 : Int)) ?_
     refine kp (d := some 6) (v := .int .u64 (k0 : Int)) ?_
     refine k_end ?_
     go_simp
     go_upto_region 8 with (fail)
     refine wrA (opsAt Tryd.f139 8) ((true, 0) :: (true, 1) :: (true, 2) :: (true, 3) :: (true, 4) :: (true, 5) :: (true, 6) :: (true, 7) :: (true, 8) :: (true, 9) :: (true, 10) :: (true, 11) :: (true, 12) :: []) (fun w' => Ds w' b [x0, x1, x2, x3, 0] ∧ Ds w' n [3436901888089820391, 16122042576031152537, 17317351579400803557, 11764505149049458]) ⟨D0, Z0⟩ ?_
     refine kp (d := some 43) (v := .pointer (some ⟨b, 0, none⟩)) ?_
     refine kp (d := some 44) (v := .pointer (some ⟨b, 0, none⟩)) ?_
     refine kp (d := some 45) (v := .pointer (some ⟨b, 1, none⟩)) ?_
     refine k_ifR (by kernel_rfl) (d := (some 46)) (by kernel_rfl) (v := .int .u64 (x1 : Int)) (fun _ hs => run_loadB (ty := 24) (x := (.tmp 45)) (b := b) (off := 1) (by kernel_rfl) (by kernel_rfl) Tryd.underlying24 (hs.1.cell rfl)) ?_
     refine kp (d := some 47) (v := .pointer (some ⟨n, 1, none⟩)) ?_
     refine k_ifR (by kernel_rfl) (d := (some 48)) (by kernel_rfl) (v := .int .u64 16122042576031152537) (fun _ hs => run_loadB (ty := 24) (x := (.tmp 47)) (b := n) (off := 1) (by kernel_rfl) (by kernel_rfl) Tryd.underlying24 (hs.2.cell rfl)) ?_
     refine kp (d := some 49) (v := .int .u64 (k0 : Int)) ?_
     refine k_pure (by kernel_rfl) (d := (some 50)) (by kernel_rfl) (v := .tuple #[.int .u64 (y1 : Int), .int .u64 (k1 : Int)]) (fun w_ => Eq.trans (by kernel_rfl) (a1 w_)) ?_
     refine kp (d := some 42) (v := .tuple #[.int .u64 (y1 : Int), .int .u64 (k1 : Int)]) ?_
     refine kp (d := some 51) (v := .int .u64 (y1 : Int)) ?_
     refine kp (d := some 52) (v := .int .u64 (k1 : Int)) ?_
     refine kp (d := some 7) (v := .int .u64 (y1 : Int)) ?_
     refine kp (d := some 8) (v := .int .u64 (k1 : Int)) ?_
     refine k_end ?_
     go_simp
     go_upto_region 9 with (fail)
     refine wrA (opsAt Tryd.f139 9) ((true, 0) :: (true, 1) :: (true, 2) :: (true, 3) :: (true, 4) :: (true, 5) :: (true, 6) :: (true, 7) :: (true, 8) :: (true, 9) :: (true, 10) :: (true, 11) :: (true, 12) :: []) (fun w' => Ds w' b [x0, x1, x2, x3, 0] ∧ Ds w' n [3436901888089820391, 16122042576031152537, 17317351579400803557, 11764505149049458]) ⟨D0, Z0⟩ ?_
     refine kp (d := some 54) (v := .pointer (some ⟨b, 0, none⟩)) ?_
     refine kp (d := some 55) (v := .pointer (some ⟨b, 0, none⟩)) ?_
     refine kp (d := some 56) (v := .pointer (some ⟨b, 2, none⟩)) ?_
     refine k_ifR (by kernel_rfl) (d := (some 57)) (by kernel_rfl) (v := .int .u64 (x2 : Int)) (fun _ hs => run_loadB (ty := 24) (x := (.tmp 56)) (b := b) (off := 2) (by kernel_rfl) (by kernel_rfl) Tryd.underlying24 (hs.1.cell rfl)) ?_
     refine kp (d := some 58) (v := .pointer (some ⟨n, 2, none⟩)) ?_
     refine k_ifR (by kernel_rfl) (d := (some 59)) (by kernel_rfl) (v := .int .u64 17317351579400803557) (fun _ hs => run_loadB (ty := 24) (x := (.tmp 58)) (b := n) (off := 2) (by kernel_rfl) (by kernel_rfl) Tryd.underlying24 (hs.2.cell rfl)) ?_
     refine kp (d := some 60) (v := .int .u64 (k1 : Int)) ?_
     refine k_pure (by kernel_rfl) (d := (some 61)) (by kernel_rfl) (v := .tuple #[.int .u64 (y2 : Int), .int .u64 (k2 : Int)]) (fun w_ => Eq.trans (by kernel_rfl) (a2 w_)) ?_
     refine kp (d := some 53) (v := .tuple #[.int .u64 (y2 : Int), .int .u64 (k2 : Int)]) ?_
     refine kp (d := some 62) (v := .int .u64 (y2 : Int)) ?_
     refine kp (d := some 63) (v := .int .u64 (k2 : Int)) ?_
     refine kp (d := some 9) (v := .int .u64 (y2 : Int)) ?_
     refine kp (d := some 10) (v := .int .u64 (k2 : Int)) ?_
     refine k_end ?_
     go_simp
     go_upto_region 10 with (fail)
     refine wrA (opsAt Tryd.f139 10) ((true, 0) :: (true, 1) :: (true, 2) :: (true, 3) :: (true, 4) :: (true, 5) :: (true, 6) :: (true, 7) :: (true, 8) :: (true, 9) :: (true, 10) :: (true, 11) :: (true, 12) :: []) (fun w' => Ds w' b [x0, x1, x2, x3, 0] ∧ Ds w' n [3436901888089820391, 16122042576031152537, 17317351579400803557, 11764505149049458]) ⟨D0, Z0⟩ ?_
     refine kp (d := some 65) (v := .pointer (some ⟨b, 0, none⟩)) ?_
     refine kp (d := some 66) (v := .pointer (some ⟨b, 0, none⟩)) ?_
     refine kp (d := some 67) (v := .pointer (some ⟨b, 3, none⟩)) ?_
     refine k_ifR (by kernel_rfl) (d := (some 68)) (by kernel_rfl) (v := .int .u64 (x3 : Int)) (fun _ hs => run_loadB (ty := 24) (x := (.tmp 67)) (b := b) (off := 3) (by kernel_rfl) (by kernel_rfl) Tryd.underlying24 (hs.1.cell rfl)) ?_
     refine kp (d := some 69) (v := .pointer (some ⟨n, 3, none⟩)) ?_
     refine k_ifR (by kernel_rfl) (d := (some 70)) (by kernel_rfl) (v := .int .u64 11764505149049458) (fun _ hs => run_loadB (ty := 24) (x := (.tmp 69)) (b := n) (off := 3) (by kernel_rfl) (by kernel_rfl) Tryd.underlying24 (hs.2.cell rfl)) ?_
     refine kp (d := some 71) (v := .int .u64 (k2 : Int)) ?_
     refine k_pure (by kernel_rfl) (d := (some 72)) (by kernel_rfl) (v := .tuple #[.int .u64 (y3 : Int), .int .u64 (k3 : Int)]) (fun w_ => Eq.trans (by kernel_rfl) (a3 w_)) ?_
     refine kp (d := some 64) (v := .tuple #[.int .u64 (y3 : Int), .int .u64 (k3 : Int)]) ?_
     refine kp (d := some 73) (v := .int .u64 (y3 : Int)) ?_
     refine kp (d := some 74) (v := .int .u64 (k3 : Int)) ?_
     refine kp (d := some 11) (v := .int .u64 (y3 : Int)) ?_
     refine kp (d := some 12) (v := .int .u64 (k3 : Int)) ?_
     refine k_end ?_
     go_simp
     go_upto_region 11 with (fail)
     refine wsA (opsAt Tryd.f139 11) ((true, 0) :: (true, 1) :: (true, 2) :: (false, 3) :: (true, 4) :: (true, 5) :: (true, 6) :: (true, 7) :: (true, 8) :: (true, 9) :: (true, 10) :: []) (fun _ => True) trivial ?_
     refine kp (d := some 76) (v := .pointer (some ⟨b, 0, none⟩)) ?_
     refine kp (d := some 77) (v := .pointer (some ⟨b, 0, none⟩)) ?_
     refine kp (d := some 78) (v := .pointer (some ⟨b, 4, none⟩)) ?_
     refine k_make (by kernel_rfl) (d := (some 79)) (by kernel_rfl) (v := .int .u64 0) (run_loadB (ty := 24) (x := (.tmp 78)) (b := b) (off := 4) (by kernel_rfl) (by kernel_rfl) Tryd.underlying24 (D0.cell rfl)) trivial ?_
     intro w14 hw14 _
     subst hw14
     refine kp (d := some 80) (v := .int .u64 (k3 : Int)) ?_
     refine k_pure (by kernel_rfl) (d := (some 81)) (by kernel_rfl) (v := .tuple #[.int .u64 (y4 : Int), .int .u64 (k4 : Int)]) (fun w_ => Eq.trans (by kernel_rfl) (a4 w_)) ?_
     refine kp (d := some 75) (v := .tuple #[.int .u64 (y4 : Int), .int .u64 (k4 : Int)]) ?_
     refine kp (d := some 82) (v := .int .u64 (y4 : Int)) ?_
     refine kp (d := some 83) (v := .int .u64 (k4 : Int)) ?_
     refine kp (d := some 13) (v := .int .u64 (y4 : Int)) ?_
     refine kp (d := some 14) (v := .int .u64 (k4 : Int)) ?_
     refine k_end ?_
     go_simp
     go_upto_region 12 with (fail)
     have D0 : Ds wr.drew.drew.drew.drew b [x0, x1, x2, x3, 0] := D0
     refine wsA (opsAt Tryd.f139 12) ((true, 0) :: (true, 1) :: (true, 2) :: (true, 3) :: (false, 4) :: []) (fun _ => True) trivial ?_
     refine kp (d := some 84) (v := .pointer (some ⟨b, 0, none⟩)) ?_
     refine kp (d := some 85) (v := .int .u64 (y0 : Int)) ?_
     refine kp (d := some 86) (v := .pointer (some ⟨b, 0, none⟩)) ?_
     refine kp (d := some 87) (v := .pointer (some ⟨b, 0, none⟩)) ?_
     refine k_skipOp (by kernel_rfl) (d := none) (by kernel_rfl) (run_storeB (ty := 24) (k := .u64) (n := (y0 : Int)) (x := (.tmp 87)) (y := (.tmp 85)) (b := b) (off := 0) (by kernel_rfl) (by kernel_rfl) (by kernel_rfl) (by kernel_rfl) (D0.cell rfl) (D0.free _)) trivial ?_
     intro w16 hw16 _
     have u0 := UpdW.set D0 0 y0
     rw [← hw16] at u0
     have D1 : Ds w16 b [y0, x1, x2, x3, 0] := u0.blk
     have U0 : UpdW _ w16 b [y0, x1, x2, x3, 0] := u0
     clear u0 hw16 D0
     refine k_end ?_
     go_simp
     go_upto_region 13 with (fail)
     refine wsA (opsAt Tryd.f139 13) ((true, 0) :: (true, 1) :: (true, 2) :: (true, 3) :: (false, 4) :: []) (fun _ => True) trivial ?_
     refine kp (d := some 88) (v := .pointer (some ⟨b, 0, none⟩)) ?_
     refine kp (d := some 89) (v := .int .u64 (y1 : Int)) ?_
     refine kp (d := some 90) (v := .pointer (some ⟨b, 0, none⟩)) ?_
     refine kp (d := some 91) (v := .pointer (some ⟨b, 1, none⟩)) ?_
     refine k_skipOp (by kernel_rfl) (d := none) (by kernel_rfl) (run_storeB (ty := 24) (k := .u64) (n := (y1 : Int)) (x := (.tmp 91)) (y := (.tmp 89)) (b := b) (off := 1) (by kernel_rfl) (by kernel_rfl) (by kernel_rfl) (by kernel_rfl) (D1.cell rfl) (D1.free _)) trivial ?_
     intro w17 hw17 _
     have u1 := UpdW.set D1 1 y1
     rw [← hw17] at u1
     have D2 : Ds w17 b [y0, y1, x2, x3, 0] := u1.blk
     have U1 : UpdW _ w17 b [y0, y1, x2, x3, 0] := U0.trans u1
     clear u1 hw17 U0 D1
     refine k_end ?_
     go_simp
     go_upto_region 14 with (fail)
     refine wsA (opsAt Tryd.f139 14) ((true, 0) :: (true, 1) :: (true, 2) :: (true, 3) :: (false, 4) :: []) (fun _ => True) trivial ?_
     refine kp (d := some 92) (v := .pointer (some ⟨b, 0, none⟩)) ?_
     refine kp (d := some 93) (v := .int .u64 (y2 : Int)) ?_
     refine kp (d := some 94) (v := .pointer (some ⟨b, 0, none⟩)) ?_
     refine kp (d := some 95) (v := .pointer (some ⟨b, 2, none⟩)) ?_
     refine k_skipOp (by kernel_rfl) (d := none) (by kernel_rfl) (run_storeB (ty := 24) (k := .u64) (n := (y2 : Int)) (x := (.tmp 95)) (y := (.tmp 93)) (b := b) (off := 2) (by kernel_rfl) (by kernel_rfl) (by kernel_rfl) (by kernel_rfl) (D2.cell rfl) (D2.free _)) trivial ?_
     intro w18 hw18 _
     have u2 := UpdW.set D2 2 y2
     rw [← hw18] at u2
     have D3 : Ds w18 b [y0, y1, y2, x3, 0] := u2.blk
     have U2 : UpdW _ w18 b [y0, y1, y2, x3, 0] := U1.trans u2
     clear u2 hw18 U1 D2
     refine k_end ?_
     go_simp
     go_upto_region 15 with (fail)
     refine wsA (opsAt Tryd.f139 15) ((true, 0) :: (true, 1) :: (true, 2) :: (true, 3) :: (false, 4) :: []) (fun _ => True) trivial ?_
     refine kp (d := some 96) (v := .pointer (some ⟨b, 0, none⟩)) ?_
     refine kp (d := some 97) (v := .int .u64 (y3 : Int)) ?_
     refine kp (d := some 98) (v := .pointer (some ⟨b, 0, none⟩)) ?_
     refine kp (d := some 99) (v := .pointer (some ⟨b, 3, none⟩)) ?_
     refine k_skipOp (by kernel_rfl) (d := none) (by kernel_rfl) (run_storeB (ty := 24) (k := .u64) (n := (y3 : Int)) (x := (.tmp 99)) (y := (.tmp 97)) (b := b) (off := 3) (by kernel_rfl) (by kernel_rfl) (by kernel_rfl) (by kernel_rfl) (D3.cell rfl) (D3.free _)) trivial ?_
     intro w19 hw19 _
     have u3 := UpdW.set D3 3 y3
     rw [← hw19] at u3
     have D4 : Ds w19 b [y0, y1, y2, y3, 0] := u3.blk
     have U3 : UpdW _ w19 b [y0, y1, y2, y3, 0] := U2.trans u3
     clear u3 hw19 U2 D3
     refine k_end ?_
     go_simp
     go_upto_region 16 with (fail)
     refine wsA (opsAt Tryd.f139 16) ((true, 0) :: (true, 1) :: (true, 2) :: (true, 3) :: (false, 4) :: []) (fun _ => True) trivial ?_
     refine kp (d := some 100) (v := .pointer (some ⟨b, 0, none⟩)) ?_
     refine kp (d := some 101) (v := .int .u64 (y4 : Int)) ?_
     refine kp (d := some 102) (v := .pointer (some ⟨b, 0, none⟩)) ?_
     refine kp (d := some 103) (v := .pointer (some ⟨b, 4, none⟩)) ?_
     refine k_skipOp (by kernel_rfl) (d := none) (by kernel_rfl) (run_storeB (ty := 24) (k := .u64) (n := (y4 : Int)) (x := (.tmp 103)) (y := (.tmp 101)) (b := b) (off := 4) (by kernel_rfl) (by kernel_rfl) (by kernel_rfl) (by kernel_rfl) (D4.cell rfl) (D4.free _)) trivial ?_
     intro w20 hw20 _
     have u4 := UpdW.set D4 4 y4
     rw [← hw20] at u4
     have D5 : Ds w20 b [y0, y1, y2, y3, y4] := u4.blk
     have U4 : UpdW _ w20 b [y0, y1, y2, y3, y4] := U3.trans u4
     clear u4 hw20 U3 D4
     refine k_end ?_
     go_simp
     have HF := Lib.hid (UpdW.ahead (show Below w.heap.size w wr from B0) (show UpdW wr _ b _ from ⟨U4.os, U4.tape, U4.output, U4.size, U4.blk, U4.other⟩))
     clear U4 D5
     go_wp2_with fail
     go_end0
     exact ⟨rfl, y0, y1, y2, y3, y4, RR.out, HV.out, HF.out⟩
def okl1 : Nat → List Nat
 | 0 => [0, 0, 0, 0]
 | 1 => [0, 0, 0, 0]
 | 2 => [0, 0, 0, 0]
 | 3 => [0, 0, 0, 0]
 | _ => [0, 0, 0, 0]
set_option maxRecDepth 100000 in
set_option maxHeartbeats 1000000 in
theorem condAdd1 {w : World} {b x0 x1 x2 x3 : Nat} (hx : x0 < 18446744073709551616 ∧ x1 < 18446744073709551616 ∧ x2 < 18446744073709551616 ∧ x3 < 18446744073709551616) (h : Ds w b [x0, x1, x2, x3, 0]) (ho : Ds w 1 [3436901888089820391, 16122042576031152537, 17317351579400803557, 11764505149049458]) (hne : b ≠ 1) (hp : x0 % 2 = 1) :
   Calls Tryd.prog 139 #[.pointer (some ⟨b, 0, none⟩)] w fun e w' => e = .returned (.tuple #[]) ∧ ∃ y0 y1 y2 y3 y4, (y0 < 18446744073709551616 ∧ y1 < 18446744073709551616 ∧ y2 < 18446744073709551616 ∧ y3 < 18446744073709551616 ∧ y4 < 18446744073709551616) ∧ V5 y0 y1 y2 y3 y4 = V5 x0 x1 x2 x3 0 ∧ UpdW w w' b [y0, y1, y2, y3, y4] := by
 obtain ⟨y0, k0, q0, r0, t0, a0⟩ := add64_ex x0 0 0 hx.1 (by decide) (by decide)
 obtain ⟨y1, k1, q1, r1, t1, a1⟩ := add64_ex x1 0 k0 hx.2.1 (by decide) t0
 obtain ⟨y2, k2, q2, r2, t2, a2⟩ := add64_ex x2 0 k1 hx.2.2.1 (by decide) t1
 obtain ⟨y3, k3, q3, r3, t3, a3⟩ := add64_ex x3 0 k2 hx.2.2.2 (by decide) t2
 obtain ⟨y4, k4, q4, r4, t4, a4⟩ := add64_ex 0 0 k3 (by decide) (by decide) t3
 have hV : V5 y0 y1 y2 y3 y4 = V5 x0 x1 x2 x3 0 := by
   rw [V5_eq, V5_eq]
   omega
 have A0 : bits .and .u64 (x0 : Int) 1 = 1 := by have := and64 x0 1 1 (by decide) rfl hx.1; rw [hp] at this; exact this
 have HX := Lib.hid hx; have H := Lib.hid h; have HO := Lib.hid ho; have HNE := Lib.hid hne; have HV := Lib.hid hV; have RR := Lib.hid (And.intro r0 (And.intro r1 (And.intro r2 (And.intro r3 r4))))
 have hlb := h.lt; have hlo := ho.lt
 clear h ho hne hp hV hx q0 q1 q2 q3 q4 r0 r1 r2 r3 r4 t0 t1 t2 t3 t4
 go_enter Tryd.func139, Tryd.ntmps139
 go_upto_region 1 with (fail)
 refine wp_gen (fun WW => Ds WW b [x0, x1, x2, x3, 0] ∧ Ds WW 1 [3436901888089820391, 16122042576031152537, 17317351579400803557, 11764505149049458] ∧ Ds WW w.heap.size [0, 0, 0, 0] ∧ Below w.heap.size w WW) ⟨H.out.alloc _, HO.out.alloc _, Ds.new _ _ _ _ _ rfl (by kernel_rfl), (Below.refl _ _).alloc (Nat.le_refl _) _⟩ ?_
 rintro W0 ⟨D0, O0, Z0, B0⟩
 obtain ⟨n, hn⟩ : ∃ n, w.heap.size = n := ⟨_, rfl⟩
 rw [hn] at Z0 ⊢
 have HN := Lib.hid hn
 rw [hn] at hlb hlo
 clear hn
 refine wsA (opsAt Tryd.f139 1) ((true, 0) :: (true, 1) :: (true, 2) :: (false, 3) :: (true, 4) :: (true, 5) :: (true, 6) :: []) (fun _ => True) trivial ?_
 refine kp (d := some 15) (v := .pointer (some ⟨b, 0, none⟩)) ?_
 refine kp (d := some 16) (v := .pointer (some ⟨b, 0, none⟩)) ?_
 refine kp (d := some 17) (v := .pointer (some ⟨b, 0, none⟩)) ?_
 refine k_make (by kernel_rfl) (d := (some 18)) (by kernel_rfl) (v := .int .u64 (x0 : Int)) (run_loadB (ty := 24) (x := (.tmp 17)) (b := b) (off := 0) (by kernel_rfl) (by kernel_rfl) Tryd.underlying24 (D0.cell rfl)) trivial ?_
 intro w1 hw1 _
 subst hw1
 refine k_pure (by kernel_rfl) (d := (some 19)) (by kernel_rfl) (v := .int .u64 1) (fun _ => run_binOpV (op := .and) (x := .tmp 18) (y := .const (.int .u64 1)) (t := 24) (t' := 24) (by kernel_rfl) (by kernel_rfl) (by kernel_rfl) rfl (by rw [binOp_and, intBits_and, A0]; rfl)) ?_
 refine kp (d := some 20) (v := .int .u64 0) ?_
 refine kp (d := some 3) (v := .int .u64 0) ?_
 refine k_end ?_
 go_simp
 have HD0 := Lib.hid D0; have HO0 := Lib.hid O0; have HZ0 := Lib.hid Z0; have HB0 := Lib.hid B0; have HA := Lib.hid (And.intro a0 (And.intro a1 (And.intro a2 (And.intro a3 a4))))
 clear D0 O0 Z0 B0 A0 a0 a1 a2 a3 a4
 go_wp2_with fail
 go_loopw [21] (fun i wr => ∃ k : Nat, k ≤ 4 ∧ i = .int .i64 k ∧ Hid (Ds wr b [x0, x1, x2, x3, 0] ∧ Ds wr 1 [3436901888089820391, 16122042576031152537, 17317351579400803557, 11764505149049458] ∧ Ds wr n (okl1 k) ∧ Below w.heap.size w wr)) (fun i _ => 4 - (intOf i).toNat)
 case atStart => exact ⟨0, by decide, rfl, Lib.hid ⟨HD0.out, HO0.out, HZ0.out, HB0.out⟩⟩
 case round =>
   obtain ⟨k, hk, rfl, hr⟩ := hrel
   clear HD0 HO0 HZ0 HB0
   rcases (by omega : k = 0 ∨ k = 1 ∨ k = 2 ∨ k = 3 ∨ k = 4) with rfl | rfl | rfl | rfl | rfl
   · have hc := hr.out.2.1.cell (i := 0) rfl
     have hz := hr.out.2.2.1.cell (i := 0) (d := 0) rfl
     have hf := hr.out.2.2.1.free 0
     have A : bits .and .u64 0 3436901888089820391 = 0 := by decide +kernel
     have u := UpdW.set hr.out.2.2.1 0 0
     have HU := Lib.hid u
     clear u
     go_wp2_with fail
     refine ⟨⟨1, by decide, rfl, Lib.hid ⟨hr.out.1.of_heap (HU.out.other _ hr.out.1.lt (by omega)), hr.out.2.1.of_heap (HU.out.other _ hr.out.2.1.lt (by omega)), HU.out.blk, ?_⟩⟩, by simp [intOf]⟩
     exact ⟨HU.out.os.trans hr.out.2.2.2.os, HU.out.tape.trans hr.out.2.2.2.tape, HU.out.output.trans hr.out.2.2.2.output, Nat.le_trans hr.out.2.2.2.size HU.out.size, fun j hj => (HU.out.other j (Nat.lt_of_lt_of_le hj hr.out.2.2.2.size) (by have := HN.out; omega)).trans (hr.out.2.2.2.block j hj)⟩
   · have hc := hr.out.2.1.cell (i := 1) rfl
     have hz := hr.out.2.2.1.cell (i := 1) (d := 0) rfl
     have hf := hr.out.2.2.1.free 1
     have A : bits .and .u64 0 16122042576031152537 = 0 := by decide +kernel
     have u := UpdW.set hr.out.2.2.1 1 0
     have HU := Lib.hid u
     clear u
     go_wp2_with fail
     refine ⟨⟨2, by decide, rfl, Lib.hid ⟨hr.out.1.of_heap (HU.out.other _ hr.out.1.lt (by omega)), hr.out.2.1.of_heap (HU.out.other _ hr.out.2.1.lt (by omega)), HU.out.blk, ?_⟩⟩, by simp [intOf]⟩
     exact ⟨HU.out.os.trans hr.out.2.2.2.os, HU.out.tape.trans hr.out.2.2.2.tape, HU.out.output.trans hr.out.2.2.2.output, Nat.le_trans hr.out.2.2.2.size HU.out.size, fun j hj => (HU.out.other j (Nat.lt_of_lt_of_le hj hr.out.2.2.2.size) (by have := HN.out; omega)).trans (hr.out.2.2.2.block j hj)⟩
   · have hc := hr.out.2.1.cell (i := 2) rfl
     have hz := hr.out.2.2.1.cell (i := 2) (d := 0) rfl
     have hf := hr.out.2.2.1.free 2
     have A : bits .and .u64 0 17317351579400803557 = 0 := by decide +kernel
     have u := UpdW.set hr.out.2.2.1 2 0
     have HU := Lib.hid u
     clear u
     go_wp2_with fail
     refine ⟨⟨3, by decide, rfl, Lib.hid ⟨hr.out.1.of_heap (HU.out.other _ hr.out.1.lt (by omega)), hr.out.2.1.of_heap (HU.out.other _ hr.out.2.1.lt (by omega)), HU.out.blk, ?_⟩⟩, by simp [intOf]⟩
     exact ⟨HU.out.os.trans hr.out.2.2.2.os, HU.out.tape.trans hr.out.2.2.2.tape, HU.out.output.trans hr.out.2.2.2.output, Nat.le_trans hr.out.2.2.2.size HU.out.size, fun j hj => (HU.out.other j (Nat.lt_of_lt_of_le hj hr.out.2.2.2.size) (by have := HN.out; omega)).trans (hr.out.2.2.2.block j hj)⟩
   · have hc := hr.out.2.1.cell (i := 3) rfl
     have hz := hr.out.2.2.1.cell (i := 3) (d := 0) rfl
     have hf := hr.out.2.2.1.free 3
     have A : bits .and .u64 0 11764505149049458 = 0 := by decide +kernel
     have u := UpdW.set hr.out.2.2.1 3 0
     have HU := Lib.hid u
     clear u
     go_wp2_with fail
     refine ⟨⟨4, by decide, rfl, Lib.hid ⟨hr.out.1.of_heap (HU.out.other _ hr.out.1.lt (by omega)), hr.out.2.1.of_heap (HU.out.other _ hr.out.2.1.lt (by omega)), HU.out.blk, ?_⟩⟩, by simp [intOf]⟩
     exact ⟨HU.out.os.trans hr.out.2.2.2.os, HU.out.tape.trans hr.out.2.2.2.tape, HU.out.output.trans hr.out.2.2.2.output, Nat.le_trans hr.out.2.2.2.size HU.out.size, fun j hj => (HU.out.other j (Nat.lt_of_lt_of_le hj hr.out.2.2.2.size) (by have := HN.out; omega)).trans (hr.out.2.2.2.block j hj)⟩
   · obtain ⟨D0, O0, Z0, B0⟩ := hr.out
     clear hr
     obtain ⟨a0, a1, a2, a3, a4⟩ := HA.out
     clear HA
     go_upto_region 7 with (fail)
     refine wrA (opsAt Tryd.f139 7) ((true, 0) :: (true, 1) :: (true, 2) :: (true, 3) :: (true, 4) :: (true, 5) :: (true, 6) :: (true, 7) :: (true, 8) :: (true, 9) :: (true, 10) :: (true, 11) :: []) (fun w' => Ds w' b [x0, x1, x2, x3, 0] ∧ Ds w' n [0, 0, 0, 0]) ⟨D0, Z0⟩ ?_
     refine kp (d := some 33) (v := .pointer (some ⟨b, 0, none⟩)) ?_
     refine kp (d := some 34) (v := .pointer (some ⟨b, 0, none⟩)) ?_
     refine kp (d := some 35) (v := .pointer (some ⟨b, 0, none⟩)) ?_
     refine k_ifR (by kernel_rfl) (d := (some 36)) (by kernel_rfl) (v := .int .u64 (x0 : Int)) (fun _ hs => run_loadB (ty := 24) (x := (.tmp 35)) (b := b) (off := 0) (by kernel_rfl) (by kernel_rfl) Tryd.underlying24 (hs.1.cell rfl)) ?_
     refine kp (d := some 37) (v := .pointer (some ⟨n, 0, none⟩)) ?_
     refine k_ifR (by kernel_rfl) (d := (some 38)) (by kernel_rfl) (v := .int .u64 0) (fun _ hs => run_loadB (ty := 24) (x := (.tmp 37)) (b := n) (off := 0) (by kernel_rfl) (by kernel_rfl) Tryd.underlying24 (hs.2.cell rfl)) ?_
     refine k_pure (by kernel_rfl) (d := (some 39)) (by kernel_rfl) (v := .tuple #[.int .u64 (y0 : Int), .int .u64 (k0 : Int)]) (fun w_ => Eq.trans (by kernel_rfl) (a0 w_)) ?_
     refine kp (d := some 32) (v := .tuple #[.int .u64 (y0 : Int), .int .u64 (k0 : Int)]) ?_
     refine kp (d := some 40) (v := .int .u64 (y0 : Int)) ?_
     refine kp (d := some 41) (v := .int .u64 (k0 : Int)) ?_
     refine kp (d := some 5) (v := .int .u64 (y0 : Int)) ?_
     refine kp (d := some 6) (v := .int .u64 (k0 : Int)) ?_
     refine k_end ?_
     go_simp
     go_upto_region 8 with (fail)
     refine wrA (opsAt Tryd.f139 8) ((true, 0) :: (true, 1) :: (true, 2) :: (true, 3) :: (true, 4) :: (true, 5) :: (true, 6) :: (true, 7) :: (true, 8) :: (true, 9) :: (true, 10) :: (true, 11) :: (true, 12) :: []) (fun w' => Ds w' b [x0, x1, x2, x3, 0] ∧ Ds w' n [0, 0, 0, 0]) ⟨D0, Z0⟩ ?_
     refine kp (d := some 43) (v := .pointer (some ⟨b, 0, none⟩)) ?_
     refine kp (d := some 44) (v := .pointer (some ⟨b, 0, none⟩)) ?_
     refine kp (d := some 45) (v := .pointer (some ⟨b, 1, none⟩)) ?_
     refine k_ifR (by kernel_rfl) (d := (some 46)) (by kernel_rfl) (v := .int .u64 (x1 : Int)) (fun _ hs => run_loadB (ty := 24) (x := (.tmp 45)) (b := b) (off := 1) (by kernel_rfl) (by kernel_rfl) Tryd.underlying24 (hs.1.cell rfl)) ?_
     refine kp (d := some 47) (v := .pointer (some ⟨n, 1, none⟩)) ?_
     refine k_ifR (by kernel_rfl) (d := (some 48)) (by kernel_rfl) (v := .int .u64 0) (fun _ hs => run_loadB (ty := 24) (x := (.tmp 47)) (b := n) (off := 1) (by kernel_rfl) (by kernel_rfl) Tryd.underlying24 (hs.2.cell rfl)) ?_
     refine kp (d := some 49) (v := .int .u64 (k0 : Int)) ?_
     refine k_pure (by kernel_rfl) (d := (some 50)) (by kernel_rfl) (v := .tuple #[.int .u64 (y1 : Int), .int .u64 (k1 : Int)]) (fun w_ => Eq.trans (by kernel_rfl) (a1 w_)) ?_
     refine kp (d := some 42) (v := .tuple #[.int .u64 (y1 : Int), .int .u64 (k1 : Int)]) ?_
     refine kp (d := some 51) (v := .int .u64 (y1 : Int)) ?_
     refine kp (d := some 52) (v := .int .u64 (k1 : Int)) ?_
     refine kp (d := some 7) (v := .int .u64 (y1 : Int)) ?_
     refine kp (d := some 8) (v := .int .u64 (k1 : Int)) ?_
     refine k_end ?_
     go_simp
     go_upto_region 9 with (fail)
     refine wrA (opsAt Tryd.f139 9) ((true, 0) :: (true, 1) :: (true, 2) :: (true, 3) :: (true, 4) :: (true, 5) :: (true, 6) :: (true, 7) :: (true, 8) :: (true, 9) :: (true, 10) :: (true, 11) :: (true, 12) :: []) (fun w' => Ds w' b [x0, x1, x2, x3, 0] ∧ Ds w' n [0, 0, 0, 0]) ⟨D0, Z0⟩ ?_
     refine kp (d := some 54) (v := .pointer (some ⟨b, 0, none⟩)) ?_
     refine kp (d := some 55) (v := .pointer (some ⟨b, 0, none⟩)) ?_
     refine kp (d := some 56) (v := .pointer (some ⟨b, 2, none⟩)) ?_
     refine k_ifR (by kernel_rfl) (d := (some 57)) (by kernel_rfl) (v := .int .u64 (x2 : Int)) (fun _ hs => run_loadB (ty := 24) (x := (.tmp 56)) (b := b) (off := 2) (by kernel_rfl) (by kernel_rfl) Tryd.underlying24 (hs.1.cell rfl)) ?_
     refine kp (d := some 58) (v := .pointer (some ⟨n, 2, none⟩)) ?_
     refine k_ifR (by kernel_rfl) (d := (some 59)) (by kernel_rfl) (v := .int .u64 0) (fun _ hs => run_loadB (ty := 24) (x := (.tmp 58)) (b := n) (off := 2) (by kernel_rfl) (by kernel_rfl) Tryd.underlying24 (hs.2.cell rfl)) ?_
     refine kp (d := some 60) (v := .int .u64 (k1 : Int)) ?_
     refine k_pure (by kernel_rfl) (d := (some 61)) (by kernel_rfl) (v := .tuple #[.int .u64 (y2 : Int), .int .u64 (k2 : Int)]) (fun w_ => Eq.trans (by kernel_rfl) (a2 w_)) ?_
     refine kp (d := some 53) (v := .tuple #[.int .u64 (y2 : Int), .int .u64 (k2 : Int)]) ?_
     refine kp (d := some 62) (v := .int .u64 (y2 : Int)) ?_
     refine kp (d := some 63) (v := .int .u64 (k2 : Int)) ?_
     refine kp (d := some 9) (v := .int .u64 (y2 : Int)) ?_
     refine kp (d := some 10) (v := .int .u64 (k2 : Int)) ?_
     refine k_end ?_
     go_simp
     go_upto_region 10 with (fail)
     refine wrA (opsAt Tryd.f139 10) ((true, 0) :: (true, 1) :: (true, 2) :: (true, 3) :: (true, 4) :: (true, 5) :: (true, 6) :: (true, 7) :: (true, 8) :: (true, 9) :: (true, 10) :: (true, 11) :: (true, 12) :: []) (fun w' => Ds w' b [x0, x1, x2, x3, 0] ∧ Ds w' n [0, 0, 0, 0]) ⟨D0, Z0⟩ ?_
     refine kp (d := some 65) (v := .pointer (some ⟨b, 0, none⟩)) ?_
     refine kp (d := some 66) (v := .pointer (some ⟨b, 0, none⟩)) ?_
     refine kp (d := some 67) (v := .pointer (some ⟨b, 3, none⟩)) ?_
     refine k_ifR (by kernel_rfl) (d := (some 68)) (by kernel_rfl) (v := .int .u64 (x3 : Int)) (fun _ hs => run_loadB (ty := 24) (x := (.tmp 67)) (b := b) (off := 3) (by kernel_rfl) (by kernel_rfl) Tryd.underlying24 (hs.1.cell rfl)) ?_
     refine kp (d := some 69) (v := .pointer (some ⟨n, 3, none⟩)) ?_
     refine k_ifR (by kernel_rfl) (d := (some 70)) (by kernel_rfl) (v := .int .u64 0) (fun _ hs => run_loadB (ty := 24) (x := (.tmp 69)) (b := n) (off := 3) (by kernel_rfl) (by kernel_rfl) Tryd.underlying24 (hs.2.cell rfl)) ?_
     refine kp (d := some 71) (v := .int .u64 (k2 : Int)) ?_
     refine k_pure (by kernel_rfl) (d := (some 72)) (by kernel_rfl) (v := .tuple #[.int .u64 (y3 : Int), .int .u64 (k3 : Int)]) (fun w_ => Eq.trans (by kernel_rfl) (a3 w_)) ?_
     refine kp (d := some 64) (v := .tuple #[.int .u64 (y3 : Int), .int .u64 (k3 : Int)]) ?_
     refine kp (d := some 73) (v := .int .u64 (y3 : Int)) ?_
     refine kp (d := some 74) (v := .int .u64 (k3 : Int)) ?_
     refine kp (d := some 11) (v := .int .u64 (y3 : Int)) ?_
     refine kp (d := some 12) (v := .int .u64 (k3 : Int)) ?_
     refine k_end ?_
     go_simp
     go_upto_region 11 with (fail)
     refine wsA (opsAt Tryd.f139 11) ((true, 0) :: (true, 1) :: (true, 2) :: (false, 3) :: (true, 4) :: (true, 5) :: (true, 6) :: (true, 7) :: (true, 8) :: (true, 9) :: (true, 10) :: []) (fun _ => True) trivial ?_
     refine kp (d := some 76) (v := .pointer (some ⟨b, 0, none⟩)) ?_
     refine kp (d := some 77) (v := .pointer (some ⟨b, 0, none⟩)) ?_
     refine kp (d := some 78) (v := .pointer (some ⟨b, 4, none⟩)) ?_
     refine k_make (by kernel_rfl) (d := (some 79)) (by kernel_rfl) (v := .int .u64 0) (run_loadB (ty := 24) (x := (.tmp 78)) (b := b) (off := 4) (by kernel_rfl) (by kernel_rfl) Tryd.underlying24 (D0.cell rfl)) trivial ?_
     intro w14 hw14 _
     subst hw14
     refine kp (d := some 80) (v := .int .u64 (k3 : Int)) ?_
     refine k_pure (by kernel_rfl) (d := (some 81)) (by kernel_rfl) (v := .tuple #[.int .u64 (y4 : Int), .int .u64 (k4 : Int)]) (fun w_ => Eq.trans (by kernel_rfl) (a4 w_)) ?_
     refine kp (d := some 75) (v := .tuple #[.int .u64 (y4 : Int), .int .u64 (k4 : Int)]) ?_
     refine kp (d := some 82) (v := .int .u64 (y4 : Int)) ?_
     refine kp (d := some 83) (v := .int .u64 (k4 : Int)) ?_
     refine kp (d := some 13) (v := .int .u64 (y4 : Int)) ?_
     refine kp (d := some 14) (v := .int .u64 (k4 : Int)) ?_
     refine k_end ?_
     go_simp
     go_upto_region 12 with (fail)
     have D0 : Ds wr.drew.drew.drew.drew b [x0, x1, x2, x3, 0] := D0
     refine wsA (opsAt Tryd.f139 12) ((true, 0) :: (true, 1) :: (true, 2) :: (true, 3) :: (false, 4) :: []) (fun _ => True) trivial ?_
     refine kp (d := some 84) (v := .pointer (some ⟨b, 0, none⟩)) ?_
     refine kp (d := some 85) (v := .int .u64 (y0 : Int)) ?_
     refine kp (d := some 86) (v := .pointer (some ⟨b, 0, none⟩)) ?_
     refine kp (d := some 87) (v := .pointer (some ⟨b, 0, none⟩)) ?_
     refine k_skipOp (by kernel_rfl) (d := none) (by kernel_rfl) (run_storeB (ty := 24) (k := .u64) (n := (y0 : Int)) (x := (.tmp 87)) (y := (.tmp 85)) (b := b) (off := 0) (by kernel_rfl) (by kernel_rfl) (by kernel_rfl) (by kernel_rfl) (D0.cell rfl) (D0.free _)) trivial ?_
     intro w16 hw16 _
     have u0 := UpdW.set D0 0 y0
     rw [← hw16] at u0
     have D1 : Ds w16 b [y0, x1, x2, x3, 0] := u0.blk
     have U0 : UpdW _ w16 b [y0, x1, x2, x3, 0] := u0
     clear u0 hw16 D0
     refine k_end ?_
     go_simp
     go_upto_region 13 with (fail)
     refine wsA (opsAt Tryd.f139 13) ((true, 0) :: (true, 1) :: (true, 2) :: (true, 3) :: (false, 4) :: []) (fun _ => True) trivial ?_
     refine kp (d := some 88) (v := .pointer (some ⟨b, 0, none⟩)) ?_
     refine kp (d := some 89) (v := .int .u64 (y1 : Int)) ?_
     refine kp (d := some 90) (v := .pointer (some ⟨b, 0, none⟩)) ?_
     refine kp (d := some 91) (v := .pointer (some ⟨b, 1, none⟩)) ?_
     refine k_skipOp (by kernel_rfl) (d := none) (by kernel_rfl) (run_storeB (ty := 24) (k := .u64) (n := (y1 : Int)) (x := (.tmp 91)) (y := (.tmp 89)) (b := b) (off := 1) (by kernel_rfl) (by kernel_rfl) (by kernel_rfl) (by kernel_rfl) (D1.cell rfl) (D1.free _)) trivial ?_
     intro w17 hw17 _
     have u1 := UpdW.set D1 1 y1
     rw [← hw17] at u1
     have D2 : Ds w17 b [y0, y1, x2, x3, 0] := u1.blk
     have U1 : UpdW _ w17 b [y0, y1, x2, x3, 0] := U0.trans u1
     clear u1 hw17 U0 D1
     refine k_end ?_
     go_simp
     go_upto_region 14 with (fail)
     refine wsA (opsAt Tryd.f139 14) ((true, 0) :: (true, 1) :: (true, 2) :: (true, 3) :: (false, 4) :: []) (fun _ => True) trivial ?_
     refine kp (d := some 92) (v := .pointer (some ⟨b, 0, none⟩)) ?_
     refine kp (d := some 93) (v := .int .u64 (y2 : Int)) ?_
     refine kp (d := some 94) (v := .pointer (some ⟨b, 0, none⟩)) ?_
     refine kp (d := some 95) (v := .pointer (some ⟨b, 2, none⟩)) ?_
     refine k_skipOp (by kernel_rfl) (d := none) (by kernel_rfl) (run_storeB (ty := 24) (k := .u64) (n := (y2 : Int)) (x := (.tmp 95)) (y := (.tmp 93)) (b := b) (off := 2) (by kernel_rfl) (by kernel_rfl) (by kernel_rfl) (by kernel_rfl) (D2.cell rfl) (D2.free _)) trivial ?_
     intro w18 hw18 _
     have u2 := UpdW.set D2 2 y2
     rw [← hw18] at u2
     have D3 : Ds w18 b [y0, y1, y2, x3, 0] := u2.blk
     have U2 : UpdW _ w18 b [y0, y1, y2, x3, 0] := U1.trans u2
     clear u2 hw18 U1 D2
     refine k_end ?_
     go_simp
     go_upto_region 15 with (fail)
     refine wsA (opsAt Tryd.f139 15) ((true, 0) :: (true, 1) :: (true, 2) :: (true, 3) :: (false, 4) :: []) (fun _ => True) trivial ?_
     refine kp (d := some 96) (v := .pointer (some ⟨b, 0, none⟩)) ?_
     refine kp (d := some 97) (v := .int .u64 (y3 : Int)) ?_
     refine kp (d := some 98) (v := .pointer (some ⟨b, 0, none⟩)) ?_
     refine kp (d := some 99) (v := .pointer (some ⟨b, 3, none⟩)) ?_
     refine k_skipOp (by kernel_rfl) (d := none) (by kernel_rfl) (run_storeB (ty := 24) (k := .u64) (n := (y3 : Int)) (x := (.tmp 99)) (y := (.tmp 97)) (b := b) (off := 3) (by kernel_rfl) (by kernel_rfl) (by kernel_rfl) (by kernel_rfl) (D3.cell rfl) (D3.free _)) trivial ?_
     intro w19 hw19 _
     have u3 := UpdW.set D3 3 y3
     rw [← hw19] at u3
     have D4 : Ds w19 b [y0, y1, y2, y3, 0] := u3.blk
     have U3 : UpdW _ w19 b [y0, y1, y2, y3, 0] := U2.trans u3
     clear u3 hw19 U2 D3
     refine k_end ?_
     go_simp
     go_upto_region 16 with (fail)
     refine wsA (opsAt Tryd.f139 16) ((true, 0) :: (true, 1) :: (true, 2) :: (true, 3) :: (false, 4) :: []) (fun _ => True) trivial ?_
     refine kp (d := some 100) (v := .pointer (some ⟨b, 0, none⟩)) ?_
     refine kp (d := some 101) (v := .int .u64 (y4 : Int)) ?_
     refine kp (d := some 102) (v := .pointer (some ⟨b, 0, none⟩)) ?_
     refine kp (d := some 103) (v := .pointer (some ⟨b, 4, none⟩)) ?_
     refine k_skipOp (by kernel_rfl) (d := none) (by kernel_rfl) (run_storeB (ty := 24) (k := .u64) (n := (y4 : Int)) (x := (.tmp 103)) (y := (.tmp 101)) (b := b) (off := 4) (by kernel_rfl) (by kernel_rfl) (by kernel_rfl) (by kernel_rfl) (D4.cell rfl) (D4.free _)) trivial ?_
     intro w20 hw20 _
     have u4 := UpdW.set D4 4 y4
     rw [← hw20] at u4
     have D5 : Ds w20 b [y0, y1, y2, y3, y4] := u4.blk
     have U4 : UpdW _ w20 b [y0, y1, y2, y3, y4] := U3.trans u4
     clear u4 hw20 U3 D4
     refine k_end ?_
     go_simp
     have HF := Lib.hid (UpdW.ahead (show Below w.heap.size w wr from B0) (show UpdW wr _ b _ from ⟨U4.os, U4.tape, U4.output, U4.size, U4.blk, U4.other⟩))
     clear U4 D5
     go_wp2_with fail
     go_end0
     exact ⟨rfl, y0, y1, y2, y3, y4, RR.out, HV.out, HF.out⟩
set_option maxRecDepth 100000 in
set_option maxHeartbeats 1000000 in
theorem subDiv_p {w : World} {b x0 x1 x2 x3 x4 n : Nat} (hx : x0 < 18446744073709551616 ∧ x1 < 18446744073709551616 ∧ x2 < 18446744073709551616 ∧ x3 < 18446744073709551616 ∧ x4 < 18446744073709551616) (hn : n ≤ 15) (hge : n ≤ V5 x0 x1 x2 x3 x4) (h : Ds w b [x0, x1, x2, x3, x4]) :
   Calls Tryd.prog 140 #[.pointer (some ⟨b, 0, none⟩), .int .i64 (n : Int)] w fun e w' => e = .returned (.tuple #[]) ∧ ∃ y0 y1 y2 y3 y4, (y0 < 18446744073709551616 ∧ y1 < 18446744073709551616 ∧ y2 < 18446744073709551616 ∧ y3 < 18446744073709551616 ∧ y4 < 18446744073709551616) ∧ V5 y0 y1 y2 y3 y4 = (V5 x0 x1 x2 x3 x4 - n) / 16 ∧ UpdW w w' b [y0, y1, y2, y3, y4] := by
 obtain ⟨z0, k0, q0, r0, t0, a0⟩ := sub64_ex x0 n 0 hx.1 (by omega) (by decide)
 obtain ⟨z1, k1, q1, r1, t1, a1⟩ := sub64_ex x1 0 k0 hx.2.1 (by decide) t0
 obtain ⟨z2, k2, q2, r2, t2, a2⟩ := sub64_ex x2 0 k1 hx.2.2.1 (by decide) t1
 obtain ⟨z3, k3, q3, r3, t3, a3⟩ := sub64_ex x3 0 k2 hx.2.2.2.1 (by decide) t2
 obtain ⟨z4, k4, q4, r4, t4, a4⟩ := sub64_ex x4 0 k3 hx.2.2.2.2 (by decide) t3
 have hZ : V5 z0 z1 z2 z3 z4 + n = V5 x0 x1 x2 x3 x4 := by
   rw [V5_eq] at hge ⊢; rw [V5_eq]
   omega
 have hV : V5 (z0 / 16 + z1 % 16 * 1152921504606846976) (z1 / 16 + z2 % 16 * 1152921504606846976) (z2 / 16 + z3 % 16 * 1152921504606846976) (z3 / 16 + z4 % 16 * 1152921504606846976) (z4 / 16) = V5 z0 z1 z2 z3 z4 / 16 := by
   rw [V5_eq, V5_eq]; omega
 have hR : z0 / 16 + z1 % 16 * 1152921504606846976 < 18446744073709551616 ∧ z1 / 16 + z2 % 16 * 1152921504606846976 < 18446744073709551616 ∧ z2 / 16 + z3 % 16 * 1152921504606846976 < 18446744073709551616 ∧ z3 / 16 + z4 % 16 * 1152921504606846976 < 18446744073709551616 ∧ z4 / 16 < 18446744073709551616 := by omega
 have hN := wrap_p n hn
 have hP := hn
 have HZ := Lib.hid hZ; have HV := Lib.hid hV; have HR := Lib.hid hR; have HN := Lib.hid hN; have HP := Lib.hid hP
 have RR := Lib.hid (And.intro r0 (And.intro r1 (And.intro r2 (And.intro r3 r4))))
 have D0 := h
 clear h hx hge hZ hV hR hN hP hn q0 q1 q2 q3 q4 r0 r1 r2 r3 r4 t0 t1 t2 t3 t4
 go_enter Tryd.func140, Tryd.ntmps140
 go_upto_region 0 with (fail)
 refine wsA (opsAt Tryd.f140 0) ((true, 0) :: (true, 1) :: (true, 2) :: (true, 3) :: []) (fun _ => True) trivial ?_
 refine kp (d := some 15) (v := .int .i64 (n : Int)) ?_
 refine k_pure (by kernel_rfl) (d := (some 16)) (by kernel_rfl) (v := .int .i64 0) (fun _ => run_binOpV (op := .shr) (x := .tmp 15) (y := .const (.int .u64 63)) (t := 2) (t' := 117) (by kernel_rfl) (by kernel_rfl) (by kernel_rfl) rfl (shr63p n HP.out)) ?_
 refine kp (d := some 17) (v := .int .u64 0) ?_
 refine kp (d := some 4) (v := .int .u64 0) ?_
 refine k_end ?_
 go_simp
 go_upto_region 1 with (fail)
 refine wsA (opsAt Tryd.f140 1) ((true, 0) :: (true, 1) :: (true, 2) :: (false, 3) :: (true, 4) :: (true, 5) :: (true, 6) :: (true, 7) :: (true, 8) :: (true, 9) :: (true, 10) :: (true, 11) :: []) (fun _ => True) trivial ?_
 refine kp (d := some 19) (v := .pointer (some ⟨b, 0, none⟩)) ?_
 refine kp (d := some 20) (v := .pointer (some ⟨b, 0, none⟩)) ?_
 refine kp (d := some 21) (v := .pointer (some ⟨b, 0, none⟩)) ?_
 refine k_make (by kernel_rfl) (d := (some 22)) (by kernel_rfl) (v := .int .u64 (x0 : Int)) (run_loadB (ty := 24) (x := (.tmp 21)) (b := b) (off := 0) (by kernel_rfl) (by kernel_rfl) Tryd.underlying24 (D0.cell rfl)) trivial ?_
 intro w1 hw1 _
 subst hw1
 refine kp (d := some 23) (v := .int .i64 (n : Int)) ?_
 refine k_pure (by kernel_rfl) (d := (some 24)) (by kernel_rfl) (v := .int .u64 (n : Int)) (fun _ => run_convOpE (x := .tmp 23) (s := 2) (d := 24) (u := .int .i64 (n : Int)) (v := .int .u64 (IntKind.u64.wrap (n : Int))) (by kernel_rfl) (by kernel_rfl) (by kernel_rfl) (by rw [HN.out])) ?_
 refine k_pure (by kernel_rfl) (d := (some 25)) (by kernel_rfl) (v := .tuple #[.int .u64 (z0 : Int), .int .u64 (k0 : Int)]) (fun w_ => Eq.trans (by kernel_rfl) (a0 w_)) ?_
 refine kp (d := some 18) (v := .tuple #[.int .u64 (z0 : Int), .int .u64 (k0 : Int)]) ?_
 refine kp (d := some 26) (v := .int .u64 (z0 : Int)) ?_
 refine kp (d := some 27) (v := .int .u64 (k0 : Int)) ?_
 refine kp (d := some 5) (v := .int .u64 (z0 : Int)) ?_
 refine kp (d := some 6) (v := .int .u64 (k0 : Int)) ?_
 refine k_end ?_
 go_simp
 go_upto_region 2 with (fail)
 refine wsA (opsAt Tryd.f140 2) ((true, 0) :: (true, 1) :: (true, 2) :: (false, 3) :: (true, 4) :: (true, 5) :: (true, 6) :: (true, 7) :: (true, 8) :: (true, 9) :: (true, 10) :: (true, 11) :: []) (fun _ => True) trivial ?_
 refine kp (d := some 29) (v := .pointer (some ⟨b, 0, none⟩)) ?_
 refine kp (d := some 30) (v := .pointer (some ⟨b, 0, none⟩)) ?_
 refine kp (d := some 31) (v := .pointer (some ⟨b, 1, none⟩)) ?_
 refine k_make (by kernel_rfl) (d := (some 32)) (by kernel_rfl) (v := .int .u64 (x1 : Int)) (run_loadB (ty := 24) (x := (.tmp 31)) (b := b) (off := 1) (by kernel_rfl) (by kernel_rfl) Tryd.underlying24 (D0.cell rfl)) trivial ?_
 intro w3 hw3 _
 subst hw3
 refine kp (d := some 33) (v := .int .u64 0) ?_
 refine kp (d := some 34) (v := .int .u64 (k0 : Int)) ?_
 refine k_pure (by kernel_rfl) (d := (some 35)) (by kernel_rfl) (v := .tuple #[.int .u64 (z1 : Int), .int .u64 (k1 : Int)]) (fun w_ => Eq.trans (by kernel_rfl) (a1 w_)) ?_
 refine kp (d := some 28) (v := .tuple #[.int .u64 (z1 : Int), .int .u64 (k1 : Int)]) ?_
 refine kp (d := some 36) (v := .int .u64 (z1 : Int)) ?_
 refine kp (d := some 37) (v := .int .u64 (k1 : Int)) ?_
 refine kp (d := some 7) (v := .int .u64 (z1 : Int)) ?_
 refine kp (d := some 8) (v := .int .u64 (k1 : Int)) ?_
 refine k_end ?_
 go_simp
 go_upto_region 3 with (fail)
 refine wsA (opsAt Tryd.f140 3) ((true, 0) :: (true, 1) :: (true, 2) :: (false, 3) :: (true, 4) :: (true, 5) :: (true, 6) :: (true, 7) :: (true, 8) :: (true, 9) :: (true, 10) :: (true, 11) :: []) (fun _ => True) trivial ?_
 refine kp (d := some 39) (v := .pointer (some ⟨b, 0, none⟩)) ?_
 refine kp (d := some 40) (v := .pointer (some ⟨b, 0, none⟩)) ?_
 refine kp (d := some 41) (v := .pointer (some ⟨b, 2, none⟩)) ?_
 refine k_make (by kernel_rfl) (d := (some 42)) (by kernel_rfl) (v := .int .u64 (x2 : Int)) (run_loadB (ty := 24) (x := (.tmp 41)) (b := b) (off := 2) (by kernel_rfl) (by kernel_rfl) Tryd.underlying24 (D0.cell rfl)) trivial ?_
 intro w5 hw5 _
 subst hw5
 refine kp (d := some 43) (v := .int .u64 0) ?_
 refine kp (d := some 44) (v := .int .u64 (k1 : Int)) ?_
 refine k_pure (by kernel_rfl) (d := (some 45)) (by kernel_rfl) (v := .tuple #[.int .u64 (z2 : Int), .int .u64 (k2 : Int)]) (fun w_ => Eq.trans (by kernel_rfl) (a2 w_)) ?_
 refine kp (d := some 38) (v := .tuple #[.int .u64 (z2 : Int), .int .u64 (k2 : Int)]) ?_
 refine kp (d := some 46) (v := .int .u64 (z2 : Int)) ?_
 refine kp (d := some 47) (v := .int .u64 (k2 : Int)) ?_
 refine kp (d := some 9) (v := .int .u64 (z2 : Int)) ?_
 refine kp (d := some 10) (v := .int .u64 (k2 : Int)) ?_
 refine k_end ?_
 go_simp
 go_upto_region 4 with (fail)
 refine wsA (opsAt Tryd.f140 4) ((true, 0) :: (true, 1) :: (true, 2) :: (false, 3) :: (true, 4) :: (true, 5) :: (true, 6) :: (true, 7) :: (true, 8) :: (true, 9) :: (true, 10) :: (true, 11) :: []) (fun _ => True) trivial ?_
 refine kp (d := some 49) (v := .pointer (some ⟨b, 0, none⟩)) ?_
 refine kp (d := some 50) (v := .pointer (some ⟨b, 0, none⟩)) ?_
 refine kp (d := some 51) (v := .pointer (some ⟨b, 3, none⟩)) ?_
 refine k_make (by kernel_rfl) (d := (some 52)) (by kernel_rfl) (v := .int .u64 (x3 : Int)) (run_loadB (ty := 24) (x := (.tmp 51)) (b := b) (off := 3) (by kernel_rfl) (by kernel_rfl) Tryd.underlying24 (D0.cell rfl)) trivial ?_
 intro w7 hw7 _
 subst hw7
 refine kp (d := some 53) (v := .int .u64 0) ?_
 refine kp (d := some 54) (v := .int .u64 (k2 : Int)) ?_
 refine k_pure (by kernel_rfl) (d := (some 55)) (by kernel_rfl) (v := .tuple #[.int .u64 (z3 : Int), .int .u64 (k3 : Int)]) (fun w_ => Eq.trans (by kernel_rfl) (a3 w_)) ?_
 refine kp (d := some 48) (v := .tuple #[.int .u64 (z3 : Int), .int .u64 (k3 : Int)]) ?_
 refine kp (d := some 56) (v := .int .u64 (z3 : Int)) ?_
 refine kp (d := some 57) (v := .int .u64 (k3 : Int)) ?_
 refine kp (d := some 11) (v := .int .u64 (z3 : Int)) ?_
 refine kp (d := some 12) (v := .int .u64 (k3 : Int)) ?_
 refine k_end ?_
 go_simp
 go_upto_region 5 with (fail)
 refine wsA (opsAt Tryd.f140 5) ((true, 0) :: (true, 1) :: (true, 2) :: (false, 3) :: (true, 4) :: (true, 5) :: (true, 6) :: (true, 7) :: (true, 8) :: (true, 9) :: (true, 10) :: (true, 11) :: []) (fun _ => True) trivial ?_
 refine kp (d := some 59) (v := .pointer (some ⟨b, 0, none⟩)) ?_
 refine kp (d := some 60) (v := .pointer (some ⟨b, 0, none⟩)) ?_
 refine kp (d := some 61) (v := .pointer (some ⟨b, 4, none⟩)) ?_
 refine k_make (by kernel_rfl) (d := (some 62)) (by kernel_rfl) (v := .int .u64 (x4 : Int)) (run_loadB (ty := 24) (x := (.tmp 61)) (b := b) (off := 4) (by kernel_rfl) (by kernel_rfl) Tryd.underlying24 (D0.cell rfl)) trivial ?_
 intro w9 hw9 _
 subst hw9
 refine kp (d := some 63) (v := .int .u64 0) ?_
 refine kp (d := some 64) (v := .int .u64 (k3 : Int)) ?_
 refine k_pure (by kernel_rfl) (d := (some 65)) (by kernel_rfl) (v := .tuple #[.int .u64 (z4 : Int), .int .u64 (k4 : Int)]) (fun w_ => Eq.trans (by kernel_rfl) (a4 w_)) ?_
 refine kp (d := some 58) (v := .tuple #[.int .u64 (z4 : Int), .int .u64 (k4 : Int)]) ?_
 refine kp (d := some 66) (v := .int .u64 (z4 : Int)) ?_
 refine kp (d := some 67) (v := .int .u64 (k4 : Int)) ?_
 refine kp (d := some 13) (v := .int .u64 (z4 : Int)) ?_
 refine kp (d := some 14) (v := .int .u64 (k4 : Int)) ?_
 refine k_end ?_
 go_simp
 go_upto_region 6 with (fail)
 refine wsA (opsAt Tryd.f140 6) ((true, 0) :: (true, 1) :: (true, 2) :: (true, 3) :: (true, 4) :: (true, 5) :: (true, 6) :: (true, 7) :: (false, 8) :: []) (fun _ => True) trivial ?_
 refine kp (d := some 68) (v := .pointer (some ⟨b, 0, none⟩)) ?_
 refine kp (d := some 69) (v := .int .u64 (z0 : Int)) ?_
 refine k_pure (by kernel_rfl) (d := (some 70)) (by kernel_rfl) (v := .int .u64 ((z0 / 16 : Nat) : Int)) (fun _ => run_binOpV (op := .shr) (x := .tmp 69) (y := .const (.int .u64 4)) (t := 24) (t' := 117) (by kernel_rfl) (by kernel_rfl) (by kernel_rfl) rfl (shr4 z0)) ?_
 refine kp (d := some 71) (v := .int .u64 (z1 : Int)) ?_
 refine k_pure (by kernel_rfl) (d := (some 72)) (by kernel_rfl) (v := .int .u64 ((z1 % 16 * 1152921504606846976 : Nat) : Int)) (fun _ => run_binOpV (op := .shl) (x := .tmp 71) (y := .const (.int .u64 60)) (t := 24) (t' := 117) (by kernel_rfl) (by kernel_rfl) (by kernel_rfl) rfl (shl60 z1)) ?_
 refine k_pure (by kernel_rfl) (d := (some 73)) (by kernel_rfl) (v := .int .u64 ((z0 / 16 + z1 % 16 * 1152921504606846976 : Nat) : Int)) (fun _ => run_binOpV (op := .or) (x := .tmp 70) (y := .tmp 72) (t := 24) (t' := 24) (by kernel_rfl) (by kernel_rfl) (by kernel_rfl) rfl (or60 z1 z0 (by have := RR.out; omega))) ?_
 refine kp (d := some 74) (v := .pointer (some ⟨b, 0, none⟩)) ?_
 refine kp (d := some 75) (v := .pointer (some ⟨b, 0, none⟩)) ?_
 refine k_skipOp (by kernel_rfl) (d := none) (by kernel_rfl) (run_storeB (ty := 24) (k := .u64) (n := ((z0 / 16 + z1 % 16 * 1152921504606846976 : Nat) : Int)) (x := (.tmp 75)) (y := (.tmp 73)) (b := b) (off := 0) (by kernel_rfl) (by kernel_rfl) (by kernel_rfl) (by kernel_rfl) (D0.cell rfl) (D0.free _)) trivial ?_
 intro w11 hw11 _
 have u0 := UpdW.set D0 0 (z0 / 16 + z1 % 16 * 1152921504606846976)
 rw [← hw11] at u0
 have D1 : Ds w11 b [(z0 / 16 + z1 % 16 * 1152921504606846976), x1, x2, x3, x4] := u0.blk
 have U0 : UpdW _ w11 b [(z0 / 16 + z1 % 16 * 1152921504606846976), x1, x2, x3, x4] := u0
 clear u0 hw11 D0
 refine k_end ?_
 go_simp
 go_upto_region 7 with (fail)
 refine wsA (opsAt Tryd.f140 7) ((true, 0) :: (true, 1) :: (true, 2) :: (true, 3) :: (true, 4) :: (true, 5) :: (true, 6) :: (true, 7) :: (false, 8) :: []) (fun _ => True) trivial ?_
 refine kp (d := some 76) (v := .pointer (some ⟨b, 0, none⟩)) ?_
 refine kp (d := some 77) (v := .int .u64 (z1 : Int)) ?_
 refine k_pure (by kernel_rfl) (d := (some 78)) (by kernel_rfl) (v := .int .u64 ((z1 / 16 : Nat) : Int)) (fun _ => run_binOpV (op := .shr) (x := .tmp 77) (y := .const (.int .u64 4)) (t := 24) (t' := 117) (by kernel_rfl) (by kernel_rfl) (by kernel_rfl) rfl (shr4 z1)) ?_
 refine kp (d := some 79) (v := .int .u64 (z2 : Int)) ?_
 refine k_pure (by kernel_rfl) (d := (some 80)) (by kernel_rfl) (v := .int .u64 ((z2 % 16 * 1152921504606846976 : Nat) : Int)) (fun _ => run_binOpV (op := .shl) (x := .tmp 79) (y := .const (.int .u64 60)) (t := 24) (t' := 117) (by kernel_rfl) (by kernel_rfl) (by kernel_rfl) rfl (shl60 z2)) ?_
 refine k_pure (by kernel_rfl) (d := (some 81)) (by kernel_rfl) (v := .int .u64 ((z1 / 16 + z2 % 16 * 1152921504606846976 : Nat) : Int)) (fun _ => run_binOpV (op := .or) (x := .tmp 78) (y := .tmp 80) (t := 24) (t' := 24) (by kernel_rfl) (by kernel_rfl) (by kernel_rfl) rfl (or60 z2 z1 (by have := RR.out; omega))) ?_
 refine kp (d := some 82) (v := .pointer (some ⟨b, 0, none⟩)) ?_
 refine kp (d := some 83) (v := .pointer (some ⟨b, 1, none⟩)) ?_
 refine k_skipOp (by kernel_rfl) (d := none) (by kernel_rfl) (run_storeB (ty := 24) (k := .u64) (n := ((z1 / 16 + z2 % 16 * 1152921504606846976 : Nat) : Int)) (x := (.tmp 83)) (y := (.tmp 81)) (b := b) (off := 1) (by kernel_rfl) (by kernel_rfl) (by kernel_rfl) (by kernel_rfl) (D1.cell rfl) (D1.free _)) trivial ?_
 intro w12 hw12 _
 have u1 := UpdW.set D1 1 (z1 / 16 + z2 % 16 * 1152921504606846976)
 rw [← hw12] at u1
 have D2 : Ds w12 b [(z0 / 16 + z1 % 16 * 1152921504606846976), (z1 / 16 + z2 % 16 * 1152921504606846976), x2, x3, x4] := u1.blk
 have U1 : UpdW _ w12 b [(z0 / 16 + z1 % 16 * 1152921504606846976), (z1 / 16 + z2 % 16 * 1152921504606846976), x2, x3, x4] := U0.trans u1
 clear u1 hw12 U0 D1
 refine k_end ?_
 go_simp
 go_upto_region 8 with (fail)
 refine wsA (opsAt Tryd.f140 8) ((true, 0) :: (true, 1) :: (true, 2) :: (true, 3) :: (true, 4) :: (true, 5) :: (true, 6) :: (true, 7) :: (false, 8) :: []) (fun _ => True) trivial ?_
 refine kp (d := some 84) (v := .pointer (some ⟨b, 0, none⟩)) ?_
 refine kp (d := some 85) (v := .int .u64 (z2 : Int)) ?_
 refine k_pure (by kernel_rfl) (d := (some 86)) (by kernel_rfl) (v := .int .u64 ((z2 / 16 : Nat) : Int)) (fun _ => run_binOpV (op := .shr) (x := .tmp 85) (y := .const (.int .u64 4)) (t := 24) (t' := 117) (by kernel_rfl) (by kernel_rfl) (by kernel_rfl) rfl (shr4 z2)) ?_
 refine kp (d := some 87) (v := .int .u64 (z3 : Int)) ?_
 refine k_pure (by kernel_rfl) (d := (some 88)) (by kernel_rfl) (v := .int .u64 ((z3 % 16 * 1152921504606846976 : Nat) : Int)) (fun _ => run_binOpV (op := .shl) (x := .tmp 87) (y := .const (.int .u64 60)) (t := 24) (t' := 117) (by kernel_rfl) (by kernel_rfl) (by kernel_rfl) rfl (shl60 z3)) ?_
 refine k_pure (by kernel_rfl) (d := (some 89)) (by kernel_rfl) (v := .int .u64 ((z2 / 16 + z3 % 16 * 1152921504606846976 : Nat) : Int)) (fun _ => run_binOpV (op := .or) (x := .tmp 86) (y := .tmp 88) (t := 24) (t' := 24) (by kernel_rfl) (by kernel_rfl) (by kernel_rfl) rfl (or60 z3 z2 (by have := RR.out; omega))) ?_
 refine kp (d := some 90) (v := .pointer (some ⟨b, 0, none⟩)) ?_
 refine kp (d := some 91) (v := .pointer (some ⟨b, 2, none⟩)) ?_
 refine k_skipOp (by kernel_rfl) (d := none) (by kernel_rfl) (run_storeB (ty := 24) (k := .u64) (n := ((z2 / 16 + z3 % 16 * 1152921504606846976 : Nat) : Int)) (x := (.tmp 91)) (y := (.tmp 89)) (b := b) (off := 2) (by kernel_rfl) (by kernel_rfl) (by kernel_rfl) (by kernel_rfl) (D2.cell rfl) (D2.free _)) trivial ?_
 intro w13 hw13 _
 have u2 := UpdW.set D2 2 (z2 / 16 + z3 % 16 * 1152921504606846976)
 rw [← hw13] at u2
 have D3 : Ds w13 b [(z0 / 16 + z1 % 16 * 1152921504606846976), (z1 / 16 + z2 % 16 * 1152921504606846976), (z2 / 16 + z3 % 16 * 1152921504606846976), x3, x4] := u2.blk
 have U2 : UpdW _ w13 b [(z0 / 16 + z1 % 16 * 1152921504606846976), (z1 / 16 + z2 % 16 * 1152921504606846976), (z2 / 16 + z3 % 16 * 1152921504606846976), x3, x4] := U1.trans u2
 clear u2 hw13 U1 D2
 refine k_end ?_
 go_simp
 go_upto_region 9 with (fail)
 refine wsA (opsAt Tryd.f140 9) ((true, 0) :: (true, 1) :: (true, 2) :: (true, 3) :: (true, 4) :: (true, 5) :: (true, 6) :: (true, 7) :: (false, 8) :: []) (fun _ => True) trivial ?_
 refine kp (d := some 92) (v := .pointer (some ⟨b, 0, none⟩)) ?_
 refine kp (d := some 93) (v := .int .u64 (z3 : Int)) ?_
 refine k_pure (by kernel_rfl) (d := (some 94)) (by kernel_rfl) (v := .int .u64 ((z3 / 16 : Nat) : Int)) (fun _ => run_binOpV (op := .shr) (x := .tmp 93) (y := .const (.int .u64 4)) (t := 24) (t' := 117) (by kernel_rfl) (by kernel_rfl) (by kernel_rfl) rfl (shr4 z3)) ?_
 refine kp (d := some 95) (v := .int .u64 (z4 : Int)) ?_
 refine k_pure (by kernel_rfl) (d := (some 96)) (by kernel_rfl) (v := .int .u64 ((z4 % 16 * 1152921504606846976 : Nat) : Int)) (fun _ => run_binOpV (op := .shl) (x := .tmp 95) (y := .const (.int .u64 60)) (t := 24) (t' := 117) (by kernel_rfl) (by kernel_rfl) (by kernel_rfl) rfl (shl60 z4)) ?_
 refine k_pure (by kernel_rfl) (d := (some 97)) (by kernel_rfl) (v := .int .u64 ((z3 / 16 + z4 % 16 * 1152921504606846976 : Nat) : Int)) (fun _ => run_binOpV (op := .or) (x := .tmp 94) (y := .tmp 96) (t := 24) (t' := 24) (by kernel_rfl) (by kernel_rfl) (by kernel_rfl) rfl (or60 z4 z3 (by have := RR.out; omega))) ?_
 refine kp (d := some 98) (v := .pointer (some ⟨b, 0, none⟩)) ?_
 refine kp (d := some 99) (v := .pointer (some ⟨b, 3, none⟩)) ?_
 refine k_skipOp (by kernel_rfl) (d := none) (by kernel_rfl) (run_storeB (ty := 24) (k := .u64) (n := ((z3 / 16 + z4 % 16 * 1152921504606846976 : Nat) : Int)) (x := (.tmp 99)) (y := (.tmp 97)) (b := b) (off := 3) (by kernel_rfl) (by kernel_rfl) (by kernel_rfl) (by kernel_rfl) (D3.cell rfl) (D3.free _)) trivial ?_
 intro w14 hw14 _
 have u3 := UpdW.set D3 3 (z3 / 16 + z4 % 16 * 1152921504606846976)
 rw [← hw14] at u3
 have D4 : Ds w14 b [(z0 / 16 + z1 % 16 * 1152921504606846976), (z1 / 16 + z2 % 16 * 1152921504606846976), (z2 / 16 + z3 % 16 * 1152921504606846976), (z3 / 16 + z4 % 16 * 1152921504606846976), x4] := u3.blk
 have U3 : UpdW _ w14 b [(z0 / 16 + z1 % 16 * 1152921504606846976), (z1 / 16 + z2 % 16 * 1152921504606846976), (z2 / 16 + z3 % 16 * 1152921504606846976), (z3 / 16 + z4 % 16 * 1152921504606846976), x4] := U2.trans u3
 clear u3 hw14 U2 D3
 refine k_end ?_
 go_simp
 go_upto_region 10 with (fail)
 refine wsA (opsAt Tryd.f140 10) ((true, 0) :: (true, 1) :: (true, 2) :: (true, 3) :: (true, 4) :: (false, 5) :: []) (fun _ => True) trivial ?_
 refine kp (d := some 100) (v := .pointer (some ⟨b, 0, none⟩)) ?_
 refine kp (d := some 101) (v := .int .u64 (z4 : Int)) ?_
 refine k_pure (by kernel_rfl) (d := (some 102)) (by kernel_rfl) (v := .int .u64 ((z4 / 16 : Nat) : Int)) (fun _ => run_binOpV (op := .shr) (x := .tmp 101) (y := .const (.int .u64 4)) (t := 24) (t' := 117) (by kernel_rfl) (by kernel_rfl) (by kernel_rfl) rfl (shr4 z4)) ?_
 refine kp (d := some 103) (v := .pointer (some ⟨b, 0, none⟩)) ?_
 refine kp (d := some 104) (v := .pointer (some ⟨b, 4, none⟩)) ?_
 refine k_skipOp (by kernel_rfl) (d := none) (by kernel_rfl) (run_storeB (ty := 24) (k := .u64) (n := ((z4 / 16 : Nat) : Int)) (x := (.tmp 104)) (y := (.tmp 102)) (b := b) (off := 4) (by kernel_rfl) (by kernel_rfl) (by kernel_rfl) (by kernel_rfl) (D4.cell rfl) (D4.free _)) trivial ?_
 intro w15 hw15 _
 have u4 := UpdW.set D4 4 (z4 / 16)
 rw [← hw15] at u4
 have D5 : Ds w15 b [(z0 / 16 + z1 % 16 * 1152921504606846976), (z1 / 16 + z2 % 16 * 1152921504606846976), (z2 / 16 + z3 % 16 * 1152921504606846976), (z3 / 16 + z4 % 16 * 1152921504606846976), (z4 / 16)] := u4.blk
 have U4 : UpdW _ w15 b [(z0 / 16 + z1 % 16 * 1152921504606846976), (z1 / 16 + z2 % 16 * 1152921504606846976), (z2 / 16 + z3 % 16 * 1152921504606846976), (z3 / 16 + z4 % 16 * 1152921504606846976), (z4 / 16)] := U3.trans u4
 clear u4 hw15 U3 D4
 refine k_end ?_
 go_simp
 have HF := Lib.hid U4
 clear U4 D5
 go_wp2_with fail
 go_end0
 exact ⟨rfl, _, _, _, _, _, HR.out, by rw [HV.out]; have := HZ.out; omega, HF.out⟩
set_option maxRecDepth 100000 in
set_option maxHeartbeats 1000000 in
theorem subDiv_m {w : World} {b x0 x1 x2 x3 x4 n : Nat} (hx : x0 < 18446744073709551616 ∧ x1 < 18446744073709551616 ∧ x2 < 18446744073709551616 ∧ x3 < 18446744073709551616 ∧ x4 < 18446744073709551616) (hn0 : 1 ≤ n) (hn : n ≤ 15) (hge : V5 x0 x1 x2 x3 x4 + n < 2135987035920910082395021706169552114602704522356652769947041607822219725780640550022962086936576) (h : Ds w b [x0, x1, x2, x3, x4]) :
   Calls Tryd.prog 140 #[.pointer (some ⟨b, 0, none⟩), .int .i64 (-(n : Int))] w fun e w' => e = .returned (.tuple #[]) ∧ ∃ y0 y1 y2 y3 y4, (y0 < 18446744073709551616 ∧ y1 < 18446744073709551616 ∧ y2 < 18446744073709551616 ∧ y3 < 18446744073709551616 ∧ y4 < 18446744073709551616) ∧ V5 y0 y1 y2 y3 y4 = (V5 x0 x1 x2 x3 x4 + n) / 16 ∧ UpdW w w' b [y0, y1, y2, y3, y4] := by
 obtain ⟨z0, k0, q0, r0, t0, a0⟩ := sub64_ex x0 (18446744073709551616 - n) 0 hx.1 (by omega) (by decide)
 obtain ⟨z1, k1, q1, r1, t1, a1⟩ := sub64_ex x1 18446744073709551615 k0 hx.2.1 (by decide) t0
 obtain ⟨z2, k2, q2, r2, t2, a2⟩ := sub64_ex x2 18446744073709551615 k1 hx.2.2.1 (by decide) t1
 obtain ⟨z3, k3, q3, r3, t3, a3⟩ := sub64_ex x3 18446744073709551615 k2 hx.2.2.2.1 (by decide) t2
 obtain ⟨z4, k4, q4, r4, t4, a4⟩ := sub64_ex x4 18446744073709551615 k3 hx.2.2.2.2 (by decide) t3
 have hZ : V5 z0 z1 z2 z3 z4 = V5 x0 x1 x2 x3 x4 + n := by
   rw [V5_eq] at hge ⊢; rw [V5_eq]
   omega
 have hV : V5 (z0 / 16 + z1 % 16 * 1152921504606846976) (z1 / 16 + z2 % 16 * 1152921504606846976) (z2 / 16 + z3 % 16 * 1152921504606846976) (z3 / 16 + z4 % 16 * 1152921504606846976) (z4 / 16) = V5 z0 z1 z2 z3 z4 / 16 := by
   rw [V5_eq, V5_eq]; omega
 have hR : z0 / 16 + z1 % 16 * 1152921504606846976 < 18446744073709551616 ∧ z1 / 16 + z2 % 16 * 1152921504606846976 < 18446744073709551616 ∧ z2 / 16 + z3 % 16 * 1152921504606846976 < 18446744073709551616 ∧ z3 / 16 + z4 % 16 * 1152921504606846976 < 18446744073709551616 ∧ z4 / 16 < 18446744073709551616 := by omega
 have hN := wrap_m n hn0 hn
 have hP : 1 ≤ n ∧ n ≤ 15 := ⟨hn0, hn⟩
 have HZ := Lib.hid hZ; have HV := Lib.hid hV; have HR := Lib.hid hR; have HN := Lib.hid hN; have HP := Lib.hid hP
 have RR := Lib.hid (And.intro r0 (And.intro r1 (And.intro r2 (And.intro r3 r4))))
 have D0 := h
 clear h hx hge hZ hV hR hN hP hn hn0 q0 q1 q2 q3 q4 r0 r1 r2 r3 r4 t0 t1 t2 t3 t4
 go_enter Tryd.func140, Tryd.ntmps140
 go_upto_region 0 with (fail)
 refine wsA (opsAt Tryd.f140 0) ((true, 0) :: (true, 1) :: (true, 2) :: (true, 3) :: []) (fun _ => True) trivial ?_
 refine kp (d := some 15) (v := .int .i64 (-(n : Int))) ?_
 refine k_pure (by kernel_rfl) (d := (some 16)) (by kernel_rfl) (v := .int .i64 (-1)) (fun _ => run_binOpV (op := .shr) (x := .tmp 15) (y := .const (.int .u64 63)) (t := 2) (t' := 117) (by kernel_rfl) (by kernel_rfl) (by kernel_rfl) rfl (shr63m n HP.out.1 HP.out.2)) ?_
 refine kp (d := some 17) (v := .int .u64 18446744073709551615) ?_
 refine kp (d := some 4) (v := .int .u64 18446744073709551615) ?_
 refine k_end ?_
 go_simp
 go_upto_region 1 with (fail)
 refine wsA (opsAt Tryd.f140 1) ((true, 0) :: (true, 1) :: (true, 2) :: (false, 3) :: (true, 4) :: (true, 5) :: (true, 6) :: (true, 7) :: (true, 8) :: (true, 9) :: (true, 10) :: (true, 11) :: []) (fun _ => True) trivial ?_
 refine kp (d := some 19) (v := .pointer (some ⟨b, 0, none⟩)) ?_
 refine kp (d := some 20) (v := .pointer (some ⟨b, 0, none⟩)) ?_
 refine kp (d := some 21) (v := .pointer (some ⟨b, 0, none⟩)) ?_
 refine k_make (by kernel_rfl) (d := (some 22)) (by kernel_rfl) (v := .int .u64 (x0 : Int)) (run_loadB (ty := 24) (x := (.tmp 21)) (b := b) (off := 0) (by kernel_rfl) (by kernel_rfl) Tryd.underlying24 (D0.cell rfl)) trivial ?_
 intro w1 hw1 _
 subst hw1
 refine kp (d := some 23) (v := .int .i64 (-(n : Int))) ?_
 refine k_pure (by kernel_rfl) (d := (some 24)) (by kernel_rfl) (v := .int .u64 ((18446744073709551616 - n : Nat) : Int)) (fun _ => run_convOpE (x := .tmp 23) (s := 2) (d := 24) (u := .int .i64 (-(n : Int))) (v := .int .u64 (IntKind.u64.wrap (-(n : Int)))) (by kernel_rfl) (by kernel_rfl) (by kernel_rfl) (by rw [HN.out])) ?_
 refine k_pure (by kernel_rfl) (d := (some 25)) (by kernel_rfl) (v := .tuple #[.int .u64 (z0 : Int), .int .u64 (k0 : Int)]) (fun w_ => Eq.trans (by kernel_rfl) (a0 w_)) ?_
 refine kp (d := some 18) (v := .tuple #[.int .u64 (z0 : Int), .int .u64 (k0 : Int)]) ?_
 refine kp (d := some 26) (v := .int .u64 (z0 : Int)) ?_
 refine kp (d := some 27) (v := .int .u64 (k0 : Int)) ?_
 refine kp (d := some 5) (v := .int .u64 (z0 : Int)) ?_
 refine kp (d := some 6) (v := .int .u64 (k0 : Int)) ?_
 refine k_end ?_
 go_simp
 go_upto_region 2 with (fail)
 refine wsA (opsAt Tryd.f140 2) ((true, 0) :: (true, 1) :: (true, 2) :: (false, 3) :: (true, 4) :: (true, 5) :: (true, 6) :: (true, 7) :: (true, 8) :: (true, 9) :: (true, 10) :: (true, 11) :: []) (fun _ => True) trivial ?_
 refine kp (d := some 29) (v := .pointer (some ⟨b, 0, none⟩)) ?_
 refine kp (d := some 30) (v := .pointer (some ⟨b, 0, none⟩)) ?_
 refine kp (d := some 31) (v := .pointer (some ⟨b, 1, none⟩)) ?_
 refine k_make (by kernel_rfl) (d := (some 32)) (by kernel_rfl) (v := .int .u64 (x1 : Int)) (run_loadB (ty := 24) (x := (.tmp 31)) (b := b) (off := 1) (by kernel_rfl) (by kernel_rfl) Tryd.underlying24 (D0.cell rfl)) trivial ?_
 intro w3 hw3 _
 subst hw3
 refine kp (d := some 33) (v := .int .u64 18446744073709551615) ?_
 refine kp (d := some 34) (v := .int .u64 (k0 : Int)) ?_
 refine k_pure (by kernel_rfl) (d := (some 35)) (by kernel_rfl) (v := .tuple #[.int .u64 (z1 : Int), .int .u64 (k1 : Int)]) (fun w_ => Eq.trans (by kernel_rfl) (a1 w_)) ?_
 refine kp (d := some 28) (v := .tuple #[.int .u64 (z1 : Int), .int .u64 (k1 : Int)]) ?_
 refine kp (d := some 36) (v := .int .u64 (z1 : Int)) ?_
 refine kp (d := some 37) (v := .int .u64 (k1 : Int)) ?_
 refine kp (d := some 7) (v := .int .u64 (z1 : Int)) ?_
 refine kp (d := some 8) (v := .int .u64 (k1 : Int)) ?_
 refine k_end ?_
 go_simp
 go_upto_region 3 with (fail)
 refine wsA (opsAt Tryd.f140 3) ((true, 0) :: (true, 1) :: (true, 2) :: (false, 3) :: (true, 4) :: (true, 5) :: (true, 6) :: (true, 7) :: (true, 8) :: (true, 9) :: (true, 10) :: (true, 11) :: []) (fun _ => True) trivial ?_
 refine kp (d := some 39) (v := .pointer (some ⟨b, 0, none⟩)) ?_
 refine kp (d := some 40) (v := .pointer (some ⟨b, 0, none⟩)) ?_
 refine kp (d := some 41) (v := .pointer (some ⟨b, 2, none⟩)) ?_
 refine k_make (by kernel_rfl) (d := (some 42)) (by kernel_rfl) (v := .int .u64 (x2 : Int)) (run_loadB (ty := 24) (x := (.tmp 41)) (b := b) (off := 2) (by kernel_rfl) (by kernel_rfl) Tryd.underlying24 (D0.cell rfl)) trivial ?_
 intro w5 hw5 _
 subst hw5
 refine kp (d := some 43) (v := .int .u64 18446744073709551615) ?_
 refine kp (d := some 44) (v := .int .u64 (k1 : Int)) ?_
 refine k_pure (by kernel_rfl) (d := (some 45)) (by kernel_rfl) (v := .tuple #[.int .u64 (z2 : Int), .int .u64 (k2 : Int)]) (fun w_ => Eq.trans (by kernel_rfl) (a2 w_)) ?_
 refine kp (d := some 38) (v := .tuple #[.int .u64 (z2 : Int), .int .u64 (k2 : Int)]) ?_
 refine kp (d := some 46) (v := .int .u64 (z2 : Int)) ?_
 refine kp (d := some 47) (v := .int .u64 (k2 : Int)) ?_
 refine kp (d := some 9) (v := .int .u64 (z2 : Int)) ?_
 refine kp (d := some 10) (v := .int .u64 (k2 : Int)) ?_
 refine k_end ?_
 go_simp
 go_upto_region 4 with (fail)
 refine wsA (opsAt Tryd.f140 4) ((true, 0) :: (true, 1) :: (true, 2) :: (false, 3) :: (true, 4) :: (true, 5) :: (true, 6) :: (true, 7) :: (true, 8) :: (true, 9) :: (true, 10) :: (true, 11) :: []) (fun _ => True) trivial ?_
 refine kp (d := some 49) (v := .pointer (some ⟨b, 0, none⟩)) ?_
 refine kp (d := some 50) (v := .pointer (some ⟨b, 0, none⟩)) ?_
 refine kp (d := some 51) (v := .pointer (some ⟨b, 3, none⟩)) ?_
 refine k_make (by kernel_rfl) (d := (some 52)) (by kernel_rfl) (v := .int .u64 (x3 : Int)) (run_loadB (ty := 24) (x := (.tmp 51)) (b := b) (off := 3) (by kernel_rfl) (by kernel_rfl) Tryd.underlying24 (D0.cell rfl)) trivial ?_
 intro w7 hw7 _
 subst hw7
 refine kp (d := some 53) (v := .int .u64 18446744073709551615) ?_
 refine kp (d := some 54) (v := .int .u64 (k2 : Int)) ?_
 refine k_pure (by kernel_rfl) (d := (some 55)) (by kernel_rfl) (v := .tuple #[.int .u64 (z3 : Int), .int .u64 (k3 : Int)]) (fun w_ => Eq.trans (by kernel_rfl) (a3 w_)) ?_
 refine kp (d := some 48) (v := .tuple #[.int .u64 (z3 : Int), .int .u64 (k3 : Int)]) ?_
 refine kp (d := some 56) (v := .int .u64 (z3 : Int)) ?_
 refine kp (d := some 57) (v := .int .u64 (k3 : Int)) ?_
 refine kp (d := some 11) (v := .int .u64 (z3 : Int)) ?_
 refine kp (d := some 12) (v := .int .u64 (k3 : Int)) ?_
 refine k_end ?_
 go_simp
 go_upto_region 5 with (fail)
 refine wsA (opsAt Tryd.f140 5) ((true, 0) :: (true, 1) :: (true, 2) :: (false, 3) :: (true, 4) :: (true, 5) :: (true, 6) :: (true, 7) :: (true, 8) :: (true, 9) :: (true, 10) :: (true, 11) :: []) (fun _ => True) trivial ?_
 refine kp (d := some 59) (v := .pointer (some ⟨b, 0, none⟩)) ?_
 refine kp (d := some 60) (v := .pointer (some ⟨b, 0, none⟩)) ?_
 refine kp (d := some 61) (v := .pointer (some ⟨b, 4, none⟩)) ?_
 refine k_make (by kernel_rfl) (d := (some 62)) (by kernel_rfl) (v := .int .u64 (x4 : Int)) (run_loadB (ty := 24) (x := (.tmp 61)) (b := b) (off := 4) (by kernel_rfl) (by kernel_rfl) Tryd.underlying24 (D0.cell rfl)) trivial ?_
 intro w9 hw9 _
 subst hw9
 refine kp (d := some 63) (v := .int .u64 18446744073709551615) ?_
 refine kp (d := some 64) (v := .int .u64 (k3 : Int)) ?_
 refine k_pure (by kernel_rfl) (d := (some 65)) (by kernel_rfl) (v := .tuple #[.int .u64 (z4 : Int), .int .u64 (k4 : Int)]) (fun w_ => Eq.trans (by kernel_rfl) (a4 w_)) ?_
 refine kp (d := some 58) (v := .tuple #[.int .u64 (z4 : Int), .int .u64 (k4 : Int)]) ?_
 refine kp (d := some 66) (v := .int .u64 (z4 : Int)) ?_
 refine kp (d := some 67) (v := .int .u64 (k4 : Int)) ?_
 refine kp (d := some 13) (v := .int .u64 (z4 : Int)) ?_
 refine kp (d := some 14) (v := .int .u64 (k4 : Int)) ?_
 refine k_end ?_
 go_simp
 go_upto_region 6 with (fail)
 refine wsA (opsAt Tryd.f140 6) ((true, 0) :: (true, 1) :: (true, 2) :: (true, 3) :: (true, 4) :: (true, 5) :: (true, 6) :: (true, 7) :: (false, 8) :: []) (fun _ => True) trivial ?_
 refine kp (d := some 68) (v := .pointer (some ⟨b, 0, none⟩)) ?_
 refine kp (d := some 69) (v := .int .u64 (z0 : Int)) ?_
 refine k_pure (by kernel_rfl) (d := (some 70)) (by kernel_rfl) (v := .int .u64 ((z0 / 16 : Nat) : Int)) (fun _ => run_binOpV (op := .shr) (x := .tmp 69) (y := .const (.int .u64 4)) (t := 24) (t' := 117) (by kernel_rfl) (by kernel_rfl) (by kernel_rfl) rfl (shr4 z0)) ?_
 refine kp (d := some 71) (v := .int .u64 (z1 : Int)) ?_
 refine k_pure (by kernel_rfl) (d := (some 72)) (by kernel_rfl) (v := .int .u64 ((z1 % 16 * 1152921504606846976 : Nat) : Int)) (fun _ => run_binOpV (op := .shl) (x := .tmp 71) (y := .const (.int .u64 60)) (t := 24) (t' := 117) (by kernel_rfl) (by kernel_rfl) (by kernel_rfl) rfl (shl60 z1)) ?_
 refine k_pure (by kernel_rfl) (d := (some 73)) (by kernel_rfl) (v := .int .u64 ((z0 / 16 + z1 % 16 * 1152921504606846976 : Nat) : Int)) (fun _ => run_binOpV (op := .or) (x := .tmp 70) (y := .tmp 72) (t := 24) (t' := 24) (by kernel_rfl) (by kernel_rfl) (by kernel_rfl) rfl (or60 z1 z0 (by have := RR.out; omega))) ?_
 refine kp (d := some 74) (v := .pointer (some ⟨b, 0, none⟩)) ?_
 refine kp (d := some 75) (v := .pointer (some ⟨b, 0, none⟩)) ?_
 refine k_skipOp (by kernel_rfl) (d := none) (by kernel_rfl) (run_storeB (ty := 24) (k := .u64) (n := ((z0 / 16 + z1 % 16 * 1152921504606846976 : Nat) : Int)) (x := (.tmp 75)) (y := (.tmp 73)) (b := b) (off := 0) (by kernel_rfl) (by kernel_rfl) (by kernel_rfl) (by kernel_rfl) (D0.cell rfl) (D0.free _)) trivial ?_
 intro w11 hw11 _
 have u0 := UpdW.set D0 0 (z0 / 16 + z1 % 16 * 1152921504606846976)
 rw [← hw11] at u0
 have D1 : Ds w11 b [(z0 / 16 + z1 % 16 * 1152921504606846976), x1, x2, x3, x4] := u0.blk
 have U0 : UpdW _ w11 b [(z0 / 16 + z1 % 16 * 1152921504606846976), x1, x2, x3, x4] := u0
 clear u0 hw11 D0
 refine k_end ?_
 go_simp
 go_upto_region 7 with (fail)
 refine wsA (opsAt Tryd.f140 7) ((true, 0) :: (true, 1) :: (true, 2) :: (true, 3) :: (true, 4) :: (true, 5) :: (true, 6) :: (true, 7) :: (false, 8) :: []) (fun _ => True) trivial ?_
 refine kp (d := some 76) (v := .pointer (some ⟨b, 0, none⟩)) ?_
 refine kp (d := some 77) (v := .int .u64 (z1 : Int)) ?_
 refine k_pure (by kernel_rfl) (d := (some 78)) (by kernel_rfl) (v := .int .u64 ((z1 / 16 : Nat) : Int)) (fun _ => run_binOpV (op := .shr) (x := .tmp 77) (y := .const (.int .u64 4)) (t := 24) (t' := 117) (by kernel_rfl) (by kernel_rfl) (by kernel_rfl) rfl (shr4 z1)) ?_
 refine kp (d := some 79) (v := .int .u64 (z2 : Int)) ?_
 refine k_pure (by kernel_rfl) (d := (some 80)) (by kernel_rfl) (v := .int .u64 ((z2 % 16 * 1152921504606846976 : Nat) : Int)) (fun _ => run_binOpV (op := .shl) (x := .tmp 79) (y := .const (.int .u64 60)) (t := 24) (t' := 117) (by kernel_rfl) (by kernel_rfl) (by kernel_rfl) rfl (shl60 z2)) ?_
 refine k_pure (by kernel_rfl) (d := (some 81)) (by kernel_rfl) (v := .int .u64 ((z1 / 16 + z2 % 16 * 1152921504606846976 : Nat) : Int)) (fun _ => run_binOpV (op := .or) (x := .tmp 78) (y := .tmp 80) (t := 24) (t' := 24) (by kernel_rfl) (by kernel_rfl) (by kernel_rfl) rfl (or60 z2 z1 (by have := RR.out; omega))) ?_
 refine kp (d := some 82) (v := .pointer (some ⟨b, 0, none⟩)) ?_
 refine kp (d := some 83) (v := .pointer (some ⟨b, 1, none⟩)) ?_
 refine k_skipOp (by kernel_rfl) (d := none) (by kernel_rfl) (run_storeB (ty := 24) (k := .u64) (n := ((z1 / 16 + z2 % 16 * 1152921504606846976 : Nat) : Int)) (x := (.tmp 83)) (y := (.tmp 81)) (b := b) (off := 1) (by kernel_rfl) (by kernel_rfl) (by kernel_rfl) (by kernel_rfl) (D1.cell rfl) (D1.free _)) trivial ?_
 intro w12 hw12 _
 have u1 := UpdW.set D1 1 (z1 / 16 + z2 % 16 * 1152921504606846976)
 rw [← hw12] at u1
 have D2 : Ds w12 b [(z0 / 16 + z1 % 16 * 1152921504606846976), (z1 / 16 + z2 % 16 * 1152921504606846976), x2, x3, x4] := u1.blk
 have U1 : UpdW _ w12 b [(z0 / 16 + z1 % 16 * 1152921504606846976), (z1 / 16 + z2 % 16 * 1152921504606846976), x2, x3, x4] := U0.trans u1
 clear u1 hw12 U0 D1
 refine k_end ?_
 go_simp
 go_upto_region 8 with (fail)
 refine wsA (opsAt Tryd.f140 8) ((true, 0) :: (true, 1) :: (true, 2) :: (true, 3) :: (true, 4) :: (true, 5) :: (true, 6) :: (true, 7) :: (false, 8) :: []) (fun _ => True) trivial ?_
 refine kp (d := some 84) (v := .pointer (some ⟨b, 0, none⟩)) ?_
 refine kp (d := some 85) (v := .int .u64 (z2 : Int)) ?_
 refine k_pure (by kernel_rfl) (d := (some 86)) (by kernel_rfl) (v := .int .u64 ((z2 / 16 : Nat) : Int)) (fun _ => run_binOpV (op := .shr) (x := .tmp 85) (y := .const (.int .u64 4)) (t := 24) (t' := 117) (by kernel_rfl) (by kernel_rfl) (by kernel_rfl) rfl (shr4 z2)) ?_
 refine kp (d := some 87) (v := .int .u64 (z3 : Int)) ?_
 refine k_pure (by kernel_rfl) (d := (some 88)) (by kernel_rfl) (v := .int .u64 ((z3 % 16 * 1152921504606846976 : Nat) : Int)) (fun _ => run_binOpV (op := .shl) (x := .tmp 87) (y := .const (.int .u64 60)) (t := 24) (t' := 117) (by kernel_rfl) (by kernel_rfl) (by kernel_rfl) rfl (shl60 z3)) ?_
 refine k_pure (by kernel_rfl) (d := (some 89)) (by kernel_rfl) (v := .int .u64 ((z2 / 16 + z3 % 16 * 1152921504606846976 : Nat) : Int)) (fun _ => run_binOpV (op := .or) (x := .tmp 86) (y := .tmp 88) (t := 24) (t' := 24) (by kernel_rfl) (by kernel_rfl) (by kernel_rfl) rfl (or60 z3 z2 (by have := RR.out; omega))) ?_
 refine kp (d := some 90) (v := .pointer (some ⟨b, 0, none⟩)) ?_
 refine kp (d := some 91) (v := .pointer (some ⟨b, 2, none⟩)) ?_
 refine k_skipOp (by kernel_rfl) (d := none) (by kernel_rfl) (run_storeB (ty := 24) (k := .u64) (n := ((z2 / 16 + z3 % 16 * 1152921504606846976 : Nat) : Int)) (x := (.tmp 91)) (y := (.tmp 89)) (b := b) (off := 2) (by kernel_rfl) (by kernel_rfl) (by kernel_rfl) (by kernel_rfl) (D2.cell rfl) (D2.free _)) trivial ?_
 intro w13 hw13 _
 have u2 := UpdW.set D2 2 (z2 / 16 + z3 % 16 * 1152921504606846976)
 rw [← hw13] at u2
 have D3 : Ds w13 b [(z0 / 16 + z1 % 16 * 1152921504606846976), (z1 / 16 + z2 % 16 * 1152921504606846976), (z2 / 16 + z3 % 16 * 1152921504606846976), x3, x4] := u2.blk
 have U2 : UpdW _ w13 b [(z0 / 16 + z1 % 16 * 1152921504606846976), (z1 / 16 + z2 % 16 * 1152921504606846976), (z2 / 16 + z3 % 16 * 1152921504606846976), x3, x4] := U1.trans u2
 clear u2 hw13 U1 D2
 refine k_end ?_
 go_simp
 go_upto_region 9 with (fail)
 refine wsA (opsAt Tryd.f140 9) ((true, 0) :: (true, 1) :: (true, 2) :: (true, 3) :: (true, 4) :: (true, 5) :: (true, 6) :: (true, 7) :: (false, 8) :: []) (fun _ => True) trivial ?_
 refine kp (d := some 92) (v := .pointer (some ⟨b, 0, none⟩)) ?_
 refine kp (d := some 93) (v := .int .u64 (z3 : Int)) ?_
 refine k_pure (by kernel_rfl) (d := (some 94)) (by kernel_rfl) (v := .int .u64 ((z3 / 16 : Nat) : Int)) (fun _ => run_binOpV (op := .shr) (x := .tmp 93) (y := .const (.int .u64 4)) (t := 24) (t' := 117) (by kernel_rfl) (by kernel_rfl) (by kernel_rfl) rfl (shr4 z3)) ?_
 refine kp (d := some 95) (v := .int .u64 (z4 : Int)) ?_
 refine k_pure (by kernel_rfl) (d := (some 96)) (by kernel_rfl) (v := .int .u64 ((z4 % 16 * 1152921504606846976 : Nat) : Int)) (fun _ => run_binOpV (op := .shl) (x := .tmp 95) (y := .const (.int .u64 60)) (t := 24) (t' := 117) (by kernel_rfl) (by kernel_rfl) (by kernel_rfl) rfl (shl60 z4)) ?_
 refine k_pure (by kernel_rfl) (d := (some 97)) (by kernel_rfl) (v := .int .u64 ((z3 / 16 + z4 % 16 * 1152921504606846976 : Nat) : Int)) (fun _ => run_binOpV (op := .or) (x := .tmp 94) (y := .tmp 96) (t := 24) (t' := 24) (by kernel_rfl) (by kernel_rfl) (by kernel_rfl) rfl (or60 z4 z3 (by have := RR.out; omega))) ?_
 refine kp (d := some 98) (v := .pointer (some ⟨b, 0, none⟩)) ?_
 refine kp (d := some 99) (v := .pointer (some ⟨b, 3, none⟩)) ?_
 refine k_skipOp (by kernel_rfl) (d := none) (by kernel_rfl) (run_storeB (ty := 24) (k := .u64) (n := ((z3 / 16 + z4 % 16 * 1152921504606846976 : Nat) : Int)) (x := (.tmp 99)) (y := (.tmp 97)) (b := b) (off := 3) (by kernel_rfl) (by kernel_rfl) (by kernel_rfl) (by kernel_rfl) (D3.cell rfl) (D3.free _)) trivial ?_
 intro w14 hw14 _
 have u3 := UpdW.set D3 3 (z3 / 16 + z4 % 16 * 1152921504606846976)
 rw [← hw14] at u3
 have D4 : Ds w14 b [(z0 / 16 + z1 % 16 * 1152921504606846976), (z1 / 16 + z2 % 16 * 1152921504606846976), (z2 / 16 + z3 % 16 * 1152921504606846976), (z3 / 16 + z4 % 16 * 1152921504606846976), x4] := u3.blk
 have U3 : UpdW _ w14 b [(z0 / 16 + z1 % 16 * 1152921504606846976), (z1 / 16 + z2 % 16 * 1152921504606846976), (z2 / 16 + z3 % 16 * 1152921504606846976), (z3 / 16 + z4 % 16 * 1152921504606846976), x4] := U2.trans u3
 clear u3 hw14 U2 D3
 refine k_end ?_
 go_simp
 go_upto_region 10 with (fail)
 refine wsA (opsAt Tryd.f140 10) ((true, 0) :: (true, 1) :: (true, 2) :: (true, 3) :: (true, 4) :: (false, 5) :: []) (fun _ => True) trivial ?_
 refine kp (d := some 100) (v := .pointer (some ⟨b, 0, none⟩)) ?_
 refine kp (d := some 101) (v := .int .u64 (z4 : Int)) ?_
 refine k_pure (by kernel_rfl) (d := (some 102)) (by kernel_rfl) (v := .int .u64 ((z4 / 16 : Nat) : Int)) (fun _ => run_binOpV (op := .shr) (x := .tmp 101) (y := .const (.int .u64 4)) (t := 24) (t' := 117) (by kernel_rfl) (by kernel_rfl) (by kernel_rfl) rfl (shr4 z4)) ?_
 refine kp (d := some 103) (v := .pointer (some ⟨b, 0, none⟩)) ?_
 refine kp (d := some 104) (v := .pointer (some ⟨b, 4, none⟩)) ?_
 refine k_skipOp (by kernel_rfl) (d := none) (by kernel_rfl) (run_storeB (ty := 24) (k := .u64) (n := ((z4 / 16 : Nat) : Int)) (x := (.tmp 104)) (y := (.tmp 102)) (b := b) (off := 4) (by kernel_rfl) (by kernel_rfl) (by kernel_rfl) (by kernel_rfl) (D4.cell rfl) (D4.free _)) trivial ?_
 intro w15 hw15 _
 have u4 := UpdW.set D4 4 (z4 / 16)
 rw [← hw15] at u4
 have D5 : Ds w15 b [(z0 / 16 + z1 % 16 * 1152921504606846976), (z1 / 16 + z2 % 16 * 1152921504606846976), (z2 / 16 + z3 % 16 * 1152921504606846976), (z3 / 16 + z4 % 16 * 1152921504606846976), (z4 / 16)] := u4.blk
 have U4 : UpdW _ w15 b [(z0 / 16 + z1 % 16 * 1152921504606846976), (z1 / 16 + z2 % 16 * 1152921504606846976), (z2 / 16 + z3 % 16 * 1152921504606846976), (z3 / 16 + z4 % 16 * 1152921504606846976), (z4 / 16)] := U3.trans u4
 clear u4 hw15 U3 D4
 refine k_end ?_
 go_simp
 have HF := Lib.hid U4
 clear U4 D5
 go_wp2_with fail
 go_end0
 exact ⟨rfl, _, _, _, _, _, HR.out, by rw [HV.out]; have := HZ.out; omega, HF.out⟩
end Go.Proofs.YtfkfljohhabldaaDoor
namespace Go.FourQ
open Go.RowKit
theorem run_indexV {P : Program} {ρ : Operand → Value} {o : Oper} {w : World} {t e : TypeId} {n sz b off off' i : Nat} {x y : Operand} (ho : o.op = .indexAddr t x y) (hx : ρ x = .pointer (some ⟨b, off, none⟩)) (hy : ρ y = .int .i64 (i : Int)) (hu : P.underlying t = some (.array n e)) (hs : (P.info? e).map (·.size) = some sz) (hi : i < n) (he : off + i * sz = off') :
   (execOp ρ o).run P w = .ok (.value (.pointer (some ⟨b, off', none⟩))) w := by
 subst he
 have h1 : P.arrayLen t = n := by simp [Program.arrayLen, hu]
 have h2 : P.elem t = e := by simp [Program.elem, hu]
 have h3 : (sizeOf e).run P w = .ok sz w := by
   cases hq : P.info? e with
   | none => simp [hq] at hs
   | some j => simp [hq] at hs; simp [sizeOf, typeInfo, hq, hs]
 have h4 := run_indexAt_array (P := P) (w := w) t ⟨b, off, none⟩ .i64 (i : Int) (by rw [h1, h2]; exact hu)
 rw [if_pos ⟨by omega, by rw [h1]; omega⟩, h2, h3] at h4
 simp only [Result.andThen, Int.toNat_natCast, Addr.add_lit] at h4
 unfold execOp
 simp [ho, hx, hy, h4, Result.andThen]
/-- Block b holds these small integers and nothing else. -/
def isA (l : List Int) : Array Value := (l.map fun d => Value.int .i8 d).toArray
def Is (w : World) (b : Nat) (l : List Int) : Prop := ∃ T, w.heap[b]? = some (.cells (isA l) T (0, 0))
theorem Is.lt {w : World} {c : Nat} {m : List Int} (h : Is w c m) : c < w.heap.size := by obtain ⟨T, hT⟩ := h; exact lt_of_heap hT
theorem Is.of_heap {w w' : World} {c : Nat} {m : List Int} (h : Is w c m) (e : w'.heap[c]? = w.heap[c]?) : Is w' c m := by obtain ⟨T, hT⟩ := h; exact ⟨T, e.trans hT⟩
theorem Is.cell {w : World} {b : Nat} {l : List Int} (h : Is w b l) {i : Nat} {d : Int} (hi : l[i]? = some d) : w.cell? ⟨b, i, none⟩ = some (.int .i8 d) := by
 obtain ⟨T, hT⟩ := h
 rw [cell_of_row w b i _ T (0, 0) hT]
 simp [isA, List.getElem?_map, hi]
theorem Is.free {w : World} {b : Nat} {l : List Int} (h : Is w b l) (o : Nat) : w.frozen? ⟨b, o, none⟩ = false := by obtain ⟨T, hT⟩ := h; exact frozen_of_row w b o _ T hT
/-- w' is w, but that block b holds other small integers; there may be new blocks. -/
structure UpdI (w w' : World) (b : Nat) (L : List Int) : Prop where
 os : w'.os = w.os
 tape : w'.tape = w.tape
 output : w'.output = w.output
 size : w.heap.size ≤ w'.heap.size
 blk : Is w' b L
 other : ∀ k, k < w.heap.size → k ≠ b → w'.heap[k]? = w.heap[k]?
theorem UpdI.set {w : World} {b : Nat} {L : List Int} (h : Is w b L) (i : Nat) (d : Int) : UpdI w (w.setCell ⟨b, i, none⟩ (.int .i8 d)) b (L.set i d) := by
 obtain ⟨T, hT⟩ := h
 refine ⟨rfl, rfl, rfl, by simp, ⟨T, ?_⟩, fun c _ hne => heap_setCell_other w _ c _ hne⟩
 rw [heap_setCell_same w b i _ T _ hT]
 simp [isA, List.map_set]
theorem UpdI.trans {w w' w'' : World} {b : Nat} {l m : List Int} (u : UpdI w w' b l) (v : UpdI w' w'' b m) : UpdI w w'' b m :=
 ⟨v.os.trans u.os, v.tape.trans u.tape, v.output.trans u.output, Nat.le_trans u.size v.size, v.blk, fun k hk hb => (v.other k (Nat.lt_of_lt_of_le hk u.size) hb).trans (u.other k hk hb)⟩
/-- New blocks alone are written behind it. -/
theorem UpdI.thenW {w w' w'' : World} {b n : Nat} {l : List Int} {m : List Nat} (u : UpdI w w' b l) (v : UpdW w' w'' n m) (hn : w.heap.size ≤ n) (hb : b < w.heap.size) : UpdI w w'' b l :=
 ⟨v.os.trans u.os, v.tape.trans u.tape, v.output.trans u.output, Nat.le_trans u.size v.size, u.blk.of_heap (v.other _ u.blk.lt (by omega)), fun k hk hb => (v.other k (Nat.lt_of_lt_of_le hk u.size) (by omega)).trans (u.other k hk hb)⟩
theorem UpdI.same {w w' : World} {b : Nat} {l : List Int} (h : Is w b l) (v : Below w.heap.size w w') : UpdI w w' b l := ⟨v.os, v.tape, v.output, v.size, h.of_heap (v.block _ h.lt), fun k hk _ => v.block k hk⟩
/-- The digits below i; nothing beyond. -/
def dl (K i : Nat) : List Int := (List.range i).map (dg65 K) ++ List.replicate (65 - i) 0
theorem dl_get {K i : Nat} (h : i < 65) : (dl K i)[i]? = some 0 := by
 unfold dl
 rw [List.getElem?_append_right (by simp), List.length_map, List.length_range, Nat.sub_self, List.getElem?_replicate, if_pos (by omega)]
theorem dl_set {K i : Nat} {d : Int} (h : i < 65) (hd : dg65 K i = d) : (dl K i).set i d = dl K (i + 1) := by
 unfold dl
 subst hd
 rw [List.set_append_right _ _ (by simp), List.range_succ, List.map_append, List.append_assoc]
 congr 1
 obtain ⟨j, hj⟩ : ∃ j, 65 - i = j + 1 := ⟨64 - i, by omega⟩
 rw [hj, show 65 - (i + 1) = j by omega]
 simp [List.replicate_succ]
theorem conv8 : ∀ r : Nat, r < 32 → IntKind.i8.wrap (IntKind.u64.wrap ((r : Int) - 16)) = (r : Int) - 16 := by decide +kernel
theorem i64_small : ∀ n : Nat, n ≤ 15 → IntKind.i64.wrap (n : Int) = (n : Int) ∧ IntKind.i64.wrap (-(n : Int)) = -(n : Int) := by
 intro n h
 have : n = 0 ∨ n = 1 ∨ n = 2 ∨ n = 3 ∨ n = 4 ∨ n = 5 ∨ n = 6 ∨ n = 7 ∨ n = 8 ∨ n = 9 ∨ n = 10 ∨ n = 11 ∨ n = 12 ∨ n = 13 ∨ n = 14 ∨ n = 15 := by omega
 rcases this with h | h | h | h | h | h | h | h | h | h | h | h | h | h | h | h <;> subst h <;> decide +kernel
theorem md_le (K : Nat) : ∀ i, md K i ≤ K + 1
 | 0 => Nat.le_succ K
 | i + 1 => by have := md_le K i; show 2 * (md K i / 32) + 1 ≤ K + 1; omega
theorem andrun {P : Program} {w : World} {t : TypeId} {y r : Nat} (h : bits .and .u64 (y : Int) 31 = (r : Int)) : (binOp .and t (.int .u64 (y : Int)) (.int .u64 31)).run P w = .ok (.int .u64 (r : Int)) w := by rw [binOp_and, intBits_and, h]; rfl
theorem V5_low {a b c d e : Nat} : V5 a b c d e % 32 = a % 32 ∧ V5 a b c d e % 2 = a % 2 := by rw [V5_eq]; omega
theorem V5_one {a b c d e : Nat} (h : V5 a b c d e = 1) : a = 1 ∧ b = 0 ∧ c = 0 ∧ d = 0 ∧ e = 0 := by rw [V5_eq] at h; omega
end Go.FourQ
namespace Go.Proofs.YtfkfljohhabldaaDoor
open Go.RowKit Go.FourQ
theorem condAdd {w : World} {b x0 x1 x2 x3 : Nat} (hx : x0 < 18446744073709551616 ∧ x1 < 18446744073709551616 ∧ x2 < 18446744073709551616 ∧ x3 < 18446744073709551616) (h : Ds w b [x0, x1, x2, x3, 0]) (ho : Ds w 1 [3436901888089820391, 16122042576031152537, 17317351579400803557, 11764505149049458]) (hne : b ≠ 1) :
   Calls Tryd.prog 139 #[.pointer (some ⟨b, 0, none⟩)] w fun e w' => e = .returned (.tuple #[]) ∧ ∃ y0 y1 y2 y3 y4, (y0 < 18446744073709551616 ∧ y1 < 18446744073709551616 ∧ y2 < 18446744073709551616 ∧ y3 < 18446744073709551616 ∧ y4 < 18446744073709551616) ∧ V5 y0 y1 y2 y3 y4 = oddK (V5 x0 x1 x2 x3 0) ∧ UpdW w w' b [y0, y1, y2, y3, y4] := by
 have hp := (V5_low (a := x0) (b := x1) (c := x2) (d := x3) (e := 0)).2
 unfold oddK
 rcases (by omega : x0 % 2 = 0 ∨ x0 % 2 = 1) with e | e
 · rw [if_pos (by omega)]; exact condAdd0 hx h ho hne e
 · rw [if_neg (by omega)]; exact condAdd1 hx h ho hne e
theorem dl_cell {w : World} {b K i : Nat} {d : Int} (h : Is w b (dl K (i + 1))) (hd : dg65 K i = d) : w.cell? ⟨b, i, none⟩ = some (.int .i8 d) := h.cell (by
 subst hd
 unfold dl
 rw [List.getElem?_append_left (by simp), List.getElem?_map, List.getElem?_range (by omega)]; rfl)
set_option maxRecDepth 100000 in
set_option maxHeartbeats 1000000 in
theorem recode {w : World} {bd bk lo hi : Nat} (hl : lo < 256 ^ 16) (hh : hi < 256 ^ 16) (hk : Fps w bk [lo, hi]) (hd : Is w bd (dl (oddK (lo + 340282366920938463463374607431768211456 * hi)) 0)) (ho : Ds w 1 [3436901888089820391, 16122042576031152537, 17317351579400803557, 11764505149049458]) (hne : bd ≠ bk ∧ bd ≠ 1) :
   Calls Tryd.prog 121 #[.pointer (some ⟨bd, 0, none⟩), .pointer (some ⟨bk, 0, none⟩)] w fun e w' => e = .returned (.tuple #[]) ∧ UpdI w w' bd (dl (oddK (lo + 340282366920938463463374607431768211456 * hi)) 65) := by
 obtain ⟨k0, e0⟩ : ∃ k, lo % 18446744073709551616 = k := ⟨_, rfl⟩
 obtain ⟨k1, e1⟩ : ∃ k, lo / 18446744073709551616 = k := ⟨_, rfl⟩
 obtain ⟨k2, e2⟩ : ∃ k, hi % 18446744073709551616 = k := ⟨_, rfl⟩
 obtain ⟨k3, e3⟩ : ∃ k, hi / 18446744073709551616 = k := ⟨_, rfl⟩
 have e1' : lo / 18446744073709551616 % 18446744073709551616 = k1 := by omega
 have e3' : hi / 18446744073709551616 % 18446744073709551616 = k3 := by omega
 have hK : V5 k0 k1 k2 k3 0 = lo + 340282366920938463463374607431768211456 * hi := by rw [V5_eq]; omega
 have hkb : k0 < 18446744073709551616 ∧ k1 < 18446744073709551616 ∧ k2 < 18446744073709551616 ∧ k3 < 18446744073709551616 := by omega
 obtain ⟨K, hKK⟩ : ∃ K, oddK (lo + 340282366920938463463374607431768211456 * hi) = K := ⟨_, rfl⟩
 have hodd : K % 2 = 1 := by rw [← hKK]; exact oddK_odd _
 have hKb : K < 2 ^ 256 + 2 ^ 246 := by rw [← hKK]; exact oddK_lt (by omega)
 have hbd := hd.lt; have hbk := hk.lt; have hbo := ho.lt
 have HK := Lib.hid hk; have HD := Lib.hid hd; have HO := Lib.hid ho; have E0 := Lib.hid e0; have E1 := Lib.hid e1'; have E2 := Lib.hid e2; have E3 := Lib.hid e3'; have HKV := Lib.hid hK; have HKB := Lib.hid hkb; have HKK := Lib.hid hKK; have ODD := Lib.hid hodd; have LTK := Lib.hid hKb; have HNE := Lib.hid hne
 rw [hKK]
 clear hk hd ho e0 e1 e2 e3 e1' e3' hK hkb hKK hodd hKb hl hh hne
 go_enter Tryd.func121, Tryd.ntmps121
 go_upto_region 1 with (fail)
 refine wp_gen (fun WW => Below w.heap.size w WW ∧ Ds WW w.heap.size [0, 0, 0, 0, 0]) ⟨(Below.refl _ _).alloc (Nat.le_refl _) _, Ds.new _ _ _ _ _ rfl (by kernel_rfl)⟩ ?_
 rintro W0 ⟨B0, D0⟩
 obtain ⟨n, hn⟩ : ∃ n, w.heap.size = n := ⟨_, rfl⟩
 rw [hn] at D0 ⊢
 have HN := Lib.hid hn
 rw [hn] at hbd hbk hbo
 clear hn
 refine wrA (opsAt Tryd.f121 1) ((true, 0) :: (true, 1) :: (true, 2) :: (true, 3) :: (false, 4) :: (true, 5) :: (false, 6) :: []) (fun _ => True) trivial ?_
 refine kp (d := some 6) (v := .agg #[]) ?_
 refine kp (d := some 7) (v := .pointer (some ⟨bk, 0, none⟩)) ?_
 refine kp (d := some 8) (v := .pointer (some ⟨bk, 0, none⟩)) ?_
 refine kp (d := some 9) (v := .slice (some ⟨bk, 0, none⟩) 8 32) ?_
 refine kd (d := some 10) (f := 138) (args := #[.agg #[], .slice (some ⟨bk, 0, none⟩) 8 32]) (uint64_lo (c := 32) (HK.out.below B0.drew (by have := HN.out; omega)) (k := 0) rfl (o := 0) rfl E0.out) (fun _ w1 ⟨he1, hb1⟩ => ⟨_, he1, trivial, ?_⟩)
 have BB0 := B0.drew.trans (hb1.mono B0.drew.size)
 have DD0 : Ds w1 n [0, 0, 0, 0, 0] := D0.of_heap (hb1.block _ D0.lt)
 clear hb1 he1
 refine kp (d := some 11) (v := .pointer (some ⟨n, 0, none⟩)) ?_
 refine k_skipOp (by kernel_rfl) (d := none) (by kernel_rfl) (run_storeB (ty := 24) (k := .u64) (n := (k0 : Int)) (x := (.tmp 11)) (y := (.tmp 10)) (b := n) (off := 0) (by kernel_rfl) (by kernel_rfl) (by kernel_rfl) (by kernel_rfl) (DD0.cell rfl) (DD0.free _)) trivial ?_
 intro w2 hw2 _
 have u0 := UpdW.set DD0 0 k0
 rw [← hw2] at u0
 have D1 : Ds w2 n [k0, 0, 0, 0, 0] := u0.blk
 have B1 : Below w.heap.size w w2 := ⟨u0.os.trans BB0.os, u0.tape.trans BB0.tape, u0.output.trans BB0.output, Nat.le_trans BB0.size u0.size, fun q hq => (u0.other q (Nat.lt_of_lt_of_le hq BB0.size) (by have := HN.out; omega)).trans (BB0.block q hq)⟩
 clear u0 hw2 BB0 DD0 B0 D0
 refine k_end ?_
 go_simp
 go_upto_region 2 with (fail)
 refine wrA (opsAt Tryd.f121 2) ((true, 0) :: (true, 1) :: (true, 2) :: (true, 3) :: (false, 4) :: (true, 5) :: (false, 6) :: []) (fun _ => True) trivial ?_
 refine kp (d := some 12) (v := .agg #[]) ?_
 refine kp (d := some 13) (v := .pointer (some ⟨bk, 0, none⟩)) ?_
 refine kp (d := some 14) (v := .pointer (some ⟨bk, 0, none⟩)) ?_
 refine kp (d := some 15) (v := .slice (some ⟨bk, 8, none⟩) 8 24) ?_
 refine kd (d := some 16) (f := 138) (args := #[.agg #[], .slice (some ⟨bk, 8, none⟩) 8 24]) (uint64_hi (c := 24) (HK.out.below B1.drew (by have := HN.out; omega)) (k := 0) rfl (o := 8) rfl E1.out) (fun _ w3 ⟨he3, hb3⟩ => ⟨_, he3, trivial, ?_⟩)
 have BB1 := B1.drew.trans (hb3.mono B1.drew.size)
 have DD1 : Ds w3 n [k0, 0, 0, 0, 0] := D1.of_heap (hb3.block _ D1.lt)
 clear hb3 he3
 refine kp (d := some 17) (v := .pointer (some ⟨n, 1, none⟩)) ?_
 refine k_skipOp (by kernel_rfl) (d := none) (by kernel_rfl) (run_storeB (ty := 24) (k := .u64) (n := (k1 : Int)) (x := (.tmp 17)) (y := (.tmp 16)) (b := n) (off := 1) (by kernel_rfl) (by kernel_rfl) (by kernel_rfl) (by kernel_rfl) (DD1.cell rfl) (DD1.free _)) trivial ?_
 intro w4 hw4 _
 have u1 := UpdW.set DD1 1 k1
 rw [← hw4] at u1
 have D2 : Ds w4 n [k0, k1, 0, 0, 0] := u1.blk
 have B2 : Below w.heap.size w w4 := ⟨u1.os.trans BB1.os, u1.tape.trans BB1.tape, u1.output.trans BB1.output, Nat.le_trans BB1.size u1.size, fun q hq => (u1.other q (Nat.lt_of_lt_of_le hq BB1.size) (by have := HN.out; omega)).trans (BB1.block q hq)⟩
 clear u1 hw4 BB1 DD1 B1 D1
 refine k_end ?_
 go_simp
 go_upto_region 3 with (fail)
 refine wrA (opsAt Tryd.f121 3) ((true, 0) :: (true, 1) :: (true, 2) :: (true, 3) :: (false, 4) :: (true, 5) :: (false, 6) :: []) (fun _ => True) trivial ?_
 refine kp (d := some 18) (v := .agg #[]) ?_
 refine kp (d := some 19) (v := .pointer (some ⟨bk, 0, none⟩)) ?_
 refine kp (d := some 20) (v := .pointer (some ⟨bk, 0, none⟩)) ?_
 refine kp (d := some 21) (v := .slice (some ⟨bk, 16, none⟩) 8 16) ?_
 refine kd (d := some 22) (f := 138) (args := #[.agg #[], .slice (some ⟨bk, 16, none⟩) 8 16]) (uint64_lo (c := 16) (HK.out.below B2.drew (by have := HN.out; omega)) (k := 1) rfl (o := 16) rfl E2.out) (fun _ w5 ⟨he5, hb5⟩ => ⟨_, he5, trivial, ?_⟩)
 have BB2 := B2.drew.trans (hb5.mono B2.drew.size)
 have DD2 : Ds w5 n [k0, k1, 0, 0, 0] := D2.of_heap (hb5.block _ D2.lt)
 clear hb5 he5
 refine kp (d := some 23) (v := .pointer (some ⟨n, 2, none⟩)) ?_
 refine k_skipOp (by kernel_rfl) (d := none) (by kernel_rfl) (run_storeB (ty := 24) (k := .u64) (n := (k2 : Int)) (x := (.tmp 23)) (y := (.tmp 22)) (b := n) (off := 2) (by kernel_rfl) (by kernel_rfl) (by kernel_rfl) (by kernel_rfl) (DD2.cell rfl) (DD2.free _)) trivial ?_
 intro w6 hw6 _
 have u2 := UpdW.set DD2 2 k2
 rw [← hw6] at u2
 have D3 : Ds w6 n [k0, k1, k2, 0, 0] := u2.blk
 have B3 : Below w.heap.size w w6 := ⟨u2.os.trans BB2.os, u2.tape.trans BB2.tape, u2.output.trans BB2.output, Nat.le_trans BB2.size u2.size, fun q hq => (u2.other q (Nat.lt_of_lt_of_le hq BB2.size) (by have := HN.out; omega)).trans (BB2.block q hq)⟩
 clear u2 hw6 BB2 DD2 B2 D2
 refine k_end ?_
 go_simp
 go_upto_region 4 with (fail)
 refine wrA (opsAt Tryd.f121 4) ((true, 0) :: (true, 1) :: (true, 2) :: (true, 3) :: (false, 4) :: (true, 5) :: (false, 6) :: []) (fun _ => True) trivial ?_
 refine kp (d := some 24) (v := .agg #[]) ?_
 refine kp (d := some 25) (v := .pointer (some ⟨bk, 0, none⟩)) ?_
 refine kp (d := some 26) (v := .pointer (some ⟨bk, 0, none⟩)) ?_
 refine kp (d := some 27) (v := .slice (some ⟨bk, 24, none⟩) 8 8) ?_
 refine kd (d := some 28) (f := 138) (args := #[.agg #[], .slice (some ⟨bk, 24, none⟩) 8 8]) (uint64_hi (c := 8) (HK.out.below B3.drew (by have := HN.out; omega)) (k := 1) rfl (o := 24) rfl E3.out) (fun _ w7 ⟨he7, hb7⟩ => ⟨_, he7, trivial, ?_⟩)
 have BB3 := B3.drew.trans (hb7.mono B3.drew.size)
 have DD3 : Ds w7 n [k0, k1, k2, 0, 0] := D3.of_heap (hb7.block _ D3.lt)
 clear hb7 he7
 refine kp (d := some 29) (v := .pointer (some ⟨n, 3, none⟩)) ?_
 refine k_skipOp (by kernel_rfl) (d := none) (by kernel_rfl) (run_storeB (ty := 24) (k := .u64) (n := (k3 : Int)) (x := (.tmp 29)) (y := (.tmp 28)) (b := n) (off := 3) (by kernel_rfl) (by kernel_rfl) (by kernel_rfl) (by kernel_rfl) (DD3.cell rfl) (DD3.free _)) trivial ?_
 intro w8 hw8 _
 have u3 := UpdW.set DD3 3 k3
 rw [← hw8] at u3
 have D4 : Ds w8 n [k0, k1, k2, k3, 0] := u3.blk
 have B4 : Below w.heap.size w w8 := ⟨u3.os.trans BB3.os, u3.tape.trans BB3.tape, u3.output.trans BB3.output, Nat.le_trans BB3.size u3.size, fun q hq => (u3.other q (Nat.lt_of_lt_of_le hq BB3.size) (by have := HN.out; omega)).trans (BB3.block q hq)⟩
 clear u3 hw8 BB3 DD3 B3 D3
 refine k_end ?_
 go_simp
 go_upto_region 5 with (fail)
 refine wsA (opsAt Tryd.f121 5) ((false, 0) :: []) (fun _ => True) trivial ?_
 refine kd (d := some 30) (f := 139) (args := #[.pointer (some ⟨n, 0, none⟩)]) (condAdd HKB.out D4 (HO.out.below B4 (by have := HN.out; omega)) (by omega)) (fun _ w9 ⟨he9, y0, y1, y2, y3, y4, hyb, hyv, hu⟩ => ⟨_, he9, trivial, ?_⟩)
 rw [HKV.out, HKK.out] at hyv
 have B5 : Below w.heap.size w w9 := ⟨hu.os.trans B4.os, hu.tape.trans B4.tape, hu.output.trans B4.output, Nat.le_trans B4.size hu.size, fun q hq => (hu.other q (Nat.lt_of_lt_of_le hq B4.size) (by have := HN.out; omega)).trans (B4.block q hq)⟩
 have J0 := Lib.hid (And.intro hyb (And.intro hyv (And.intro hu.blk (UpdI.same HD.out B5))))
 clear hyb hyv hu he9 B4 D4 B5
 refine k_end ?_
 go_simp
 go_wp2_with fail
 go_loopw [5] (fun iv wr => ∃ i : Nat, i ≤ 64 ∧ iv = .int .i64 i ∧ Hid (∃ y0 y1 y2 y3 y4, (y0 < 18446744073709551616 ∧ y1 < 18446744073709551616 ∧ y2 < 18446744073709551616 ∧ y3 < 18446744073709551616 ∧ y4 < 18446744073709551616) ∧ V5 y0 y1 y2 y3 y4 = md K i ∧ Ds wr n [y0, y1, y2, y3, y4] ∧ UpdI w wr bd (dl K i))) (fun i _ => 64 - (intOf i).toNat)
 case atStart => exact ⟨0, by decide, rfl, Lib.hid ⟨y0, y1, y2, y3, y4, J0.out.1, J0.out.2.1, J0.out.2.2.1, J0.out.2.2.2⟩⟩
 case round =>
   clear J0
   clear y0 y1 y2 y3 y4
   obtain ⟨i, hi, rfl, hr⟩ := hrel
   obtain ⟨y0, y1, y2, y3, y4, hyb, hyv, D0, I0⟩ := hr.out
   clear hr
   by_cases hlt : i < 64
   · obtain ⟨r, hr⟩ : ∃ r, md K i % 32 = r := ⟨_, rfl⟩
     have hr32 : r < 32 := by omega
     have hy0 : y0 % 32 = r := by rw [← hr, ← hyv]; exact V5_low.1.symm
     have A := and64 y0 31 5 (by decide) rfl hyb.1
     rw [show (31 + 1 : Nat) = 32 from rfl, hy0] at A
     have hd0 : dg65 K i = (r : Int) - 16 := by unfold dg65; rw [if_pos hlt, hr]
     have hrodd : r % 2 = 1 := by have := md_odd ODD.out i; omega
     have hms : md K (i + 1) = 2 * (md K i / 32) + 1 := rfl
     have hml := md_le K i
     have hKl : K < 231584178474632390847141970017375815706539969331281128078915168015826259279872 := Nat.lt_trans LTK.out (by decide)
     have LT := Lib.hid hlt; have HYV := Lib.hid hyv; have HYB := Lib.hid hyb; have HR := Lib.hid hr; have HD0 := Lib.hid hd0; have HMS := Lib.hid hms; have HML := Lib.hid hml; have HKL := Lib.hid hKl
     have hiI : (i : Int) < 64 := by omega
     clear hy0 hyv hyb hr hd0 hms hml hKl hi hlt
     have hcs : (∃ m : Nat, r = 16 + m ∧ m ≤ 15) ∨ (∃ m : Nat, r + m = 16 ∧ m ≤ 15 ∧ 1 ≤ m) := by
       rcases Nat.lt_or_ge r 16 with h | h
       · exact .inr ⟨16 - r, by omega, by omega, by omega⟩
       · exact .inl ⟨r - 16, by omega, by omega⟩
     rcases hcs with ⟨m, hm, hm15⟩ | ⟨m, hm, hm15, hm1⟩
     · have hD : dg65 K i = (m : Int) := by rw [HD0.out]; omega
       have hE : IntKind.i8.wrap (IntKind.u64.wrap ((r : Int) - 16)) = (m : Int) := by rw [conv8 r hr32]; omega
       have HE := Lib.hid hE; have HDD := Lib.hid hD; have HM := Lib.hid (show r = 16 + m ∧ m ≤ 15 from ⟨hm, hm15⟩)
       clear hE hD hm hm15 hr32 hrodd
       go_upto_region 9 with (fail)
       refine wrA (opsAt Tryd.f121 9) ((true, 0) :: (true, 1) :: (true, 2) :: (true, 7) :: (false, 3) :: (true, 4) :: (true, 5) :: (true, 6) :: (true, 8) :: (false, 9) :: []) (fun _ => True) trivial ?_
       refine kp (d := some 35) (v := .pointer (some ⟨bd, 0, none⟩)) ?_
       refine kp (d := some 36) (v := .int .i64 (i : Int)) ?_
       refine kp (d := some 37) (v := .pointer (some ⟨n, 0, none⟩)) ?_
       refine kp (d := some 42) (v := .pointer (some ⟨bd, 0, none⟩)) ?_
       refine k_make (by kernel_rfl) (d := (some 38)) (by kernel_rfl) (v := .int .u64 (y0 : Int)) (run_loadB (ty := 24) (x := (.tmp 37)) (b := n) (off := 0) (by kernel_rfl) (by kernel_rfl) Tryd.underlying24 (D0.cell rfl)) trivial ?_
       intro w51 hw51 _
       subst hw51
       refine k_pure (by kernel_rfl) (d := (some 39)) (by kernel_rfl) (v := .int .u64 (r : Int)) (fun _ => run_binOpV (op := .and) (x := .tmp 38) (y := .const (.int .u64 31)) (t := 24) (t' := 24) (by kernel_rfl) (by kernel_rfl) (by kernel_rfl) rfl (andrun A)) ?_
       refine kp (d := some 40) (v := .int .u64 (IntKind.u64.wrap ((r : Int) - 16))) ?_
       refine k_pure (by kernel_rfl) (d := (some 41)) (by kernel_rfl) (v := .int .i8 (m : Int)) (fun _ => run_convOpE (x := .tmp 40) (s := 24) (d := 134) (u := .int .u64 (IntKind.u64.wrap ((r : Int) - 16))) (v := .int .i8 (IntKind.i8.wrap (IntKind.u64.wrap ((r : Int) - 16)))) (by kernel_rfl) (by kernel_rfl) (by kernel_rfl) (by rw [HE.out])) ?_
       refine k_pure (by kernel_rfl) (d := (some 43)) (by kernel_rfl) (v := .pointer (some ⟨bd, i, none⟩)) (fun _ => run_indexV (sz := 1) (t := 135) (x := (.tmp 42)) (y := (.tmp 36)) (b := bd) (off := 0) (i := i) (by kernel_rfl) (by kernel_rfl) (by kernel_rfl) Tryd.underlying135 (by kernel_rfl) (by have := LT.out; omega) (by omega)) ?_
       refine k_skipOp (by kernel_rfl) (d := none) (by kernel_rfl) (run_storeB (ty := 134) (k := .i8) (n := (m : Int)) (x := (.tmp 43)) (y := (.tmp 41)) (b := bd) (off := i) (by kernel_rfl) (by kernel_rfl) (by kernel_rfl) (by kernel_rfl) (I0.blk.cell (dl_get (by have := LT.out; omega))) (I0.blk.free _)) trivial ?_
       intro w53 hw53 _
       have u := UpdI.set (show Is wr.drew bd _ from I0.blk) i (m : Int)
       rw [← hw53] at u
       rw [dl_set (by have := LT.out; omega) HDD.out] at u
       have D1 : Ds w53 n [y0, y1, y2, y3, y4] := D0.of_heap (u.other _ D0.lt (by omega))
       have I1 := I0.trans (show UpdI wr _ bd _ from ⟨u.os, u.tape, u.output, u.size, u.blk, u.other⟩)
       clear u hw53 D0 I0
       refine k_end ?_
       go_simp
       go_upto_region 10 with (fail)
       refine wsA (opsAt Tryd.f121 10) ((true, 0) :: (true, 1) :: (true, 2) :: (true, 3) :: (false, 4) :: (true, 5) :: (false, 6) :: []) (fun _ => True) trivial ?_
       refine kp (d := some 44) (v := .pointer (some ⟨bd, 0, none⟩)) ?_
       refine kp (d := some 45) (v := .int .i64 (i : Int)) ?_
       refine kp (d := some 46) (v := .pointer (some ⟨bd, 0, none⟩)) ?_
       refine k_pure (by kernel_rfl) (d := (some 47)) (by kernel_rfl) (v := .pointer (some ⟨bd, i, none⟩)) (fun _ => run_indexV (sz := 1) (t := 135) (x := (.tmp 46)) (y := (.tmp 45)) (b := bd) (off := 0) (i := i) (by kernel_rfl) (by kernel_rfl) (by kernel_rfl) Tryd.underlying135 (by kernel_rfl) (by have := LT.out; omega) (by omega)) ?_
       refine k_make (by kernel_rfl) (d := (some 48)) (by kernel_rfl) (v := .int .i8 (m : Int)) (run_loadB (ty := 134) (x := (.tmp 47)) (b := bd) (off := i) (by kernel_rfl) (by kernel_rfl) Tryd.underlying134 (dl_cell I1.blk HDD.out)) trivial ?_
       intro w55 hw55 _
       subst hw55
       refine k_pure (by kernel_rfl) (d := (some 49)) (by kernel_rfl) (v := .int .i64 (m : Int)) (fun _ => run_convOpE (x := .tmp 48) (s := 134) (d := 2) (u := .int .i8 (m : Int)) (v := .int .i64 (IntKind.i64.wrap (m : Int))) (by kernel_rfl) (by kernel_rfl) (by kernel_rfl) (by rw [(i64_small m HM.out.2).1])) ?_
       refine kd (d := some 50) (f := 140) (args := #[.pointer (some ⟨n, 0, none⟩), .int .i64 (m : Int)]) (subDiv_p (n := m) HYB.out HM.out.2 (by have := HR.out; have := HYV.out; have := HM.out; omega) D1) (fun _ w56 ⟨he56, z0, z1, z2, z3, z4, hzb, hzv, hu⟩ => ⟨_, he56, trivial, ?_⟩)
       have hzv2 : V5 z0 z1 z2 z3 z4 = md K (i + 1) := by rw [hzv, HYV.out, HMS.out]; have := HR.out; have := HM.out; omega
       have J := Lib.hid (show Hid (∃ y0 y1 y2 y3 y4, (y0 < 18446744073709551616 ∧ y1 < 18446744073709551616 ∧ y2 < 18446744073709551616 ∧ y3 < 18446744073709551616 ∧ y4 < 18446744073709551616) ∧ V5 y0 y1 y2 y3 y4 = md K (i + 1) ∧ Ds w56 n [y0, y1, y2, y3, y4] ∧ UpdI w w56 bd (dl K (i + 1))) from Lib.hid ⟨z0, z1, z2, z3, z4, hzb, hzv2, hu.blk, I1.thenW hu (by have := HN.out; omega) (by have := HN.out; omega)⟩)
       clear hzb hzv hzv2 hu he56 I1 D1
       refine k_end ?_
       go_simp
       go_wp2_with fail
       exact ⟨⟨i + 1, by have := LT.out; omega, by go_num, J.out⟩, by have := LT.out; simp [intOf]; omega⟩
     · have hD : dg65 K i = (-(m : Int)) := by rw [HD0.out]; omega
       have hE : IntKind.i8.wrap (IntKind.u64.wrap ((r : Int) - 16)) = (-(m : Int)) := by rw [conv8 r hr32]; omega
       have HE := Lib.hid hE; have HDD := Lib.hid hD; have HM := Lib.hid (show r + m = 16 ∧ m ≤ 15 ∧ 1 ≤ m from ⟨hm, hm15, hm1⟩)
       clear hE hD hm hm15 hr32 hrodd hm1
       go_upto_region 9 with (fail)
       refine wrA (opsAt Tryd.f121 9) ((true, 0) :: (true, 1) :: (true, 2) :: (true, 7) :: (false, 3) :: (true, 4) :: (true, 5) :: (true, 6) :: (true, 8) :: (false, 9) :: []) (fun _ => True) trivial ?_
       refine kp (d := some 35) (v := .pointer (some ⟨bd, 0, none⟩)) ?_
       refine kp (d := some 36) (v := .int .i64 (i : Int)) ?_
       refine kp (d := some 37) (v := .pointer (some ⟨n, 0, none⟩)) ?_
       refine kp (d := some 42) (v := .pointer (some ⟨bd, 0, none⟩)) ?_
       refine k_make (by kernel_rfl) (d := (some 38)) (by kernel_rfl) (v := .int .u64 (y0 : Int)) (run_loadB (ty := 24) (x := (.tmp 37)) (b := n) (off := 0) (by kernel_rfl) (by kernel_rfl) Tryd.underlying24 (D0.cell rfl)) trivial ?_
       intro w51 hw51 _
       subst hw51
       refine k_pure (by kernel_rfl) (d := (some 39)) (by kernel_rfl) (v := .int .u64 (r : Int)) (fun _ => run_binOpV (op := .and) (x := .tmp 38) (y := .const (.int .u64 31)) (t := 24) (t' := 24) (by kernel_rfl) (by kernel_rfl) (by kernel_rfl) rfl (andrun A)) ?_
       refine kp (d := some 40) (v := .int .u64 (IntKind.u64.wrap ((r : Int) - 16))) ?_
       refine k_pure (by kernel_rfl) (d := (some 41)) (by kernel_rfl) (v := .int .i8 (-(m : Int))) (fun _ => run_convOpE (x := .tmp 40) (s := 24) (d := 134) (u := .int .u64 (IntKind.u64.wrap ((r : Int) - 16))) (v := .int .i8 (IntKind.i8.wrap (IntKind.u64.wrap ((r : Int) - 16)))) (by kernel_rfl) (by kernel_rfl) (by kernel_rfl) (by rw [HE.out])) ?_
       refine k_pure (by kernel_rfl) (d := (some 43)) (by kernel_rfl) (v := .pointer (some ⟨bd, i, none⟩)) (fun _ => run_indexV (sz := 1) (t := 135) (x := (.tmp 42)) (y := (.tmp 36)) (b := bd) (off := 0) (i := i) (by kernel_rfl) (by kernel_rfl) (by kernel_rfl) Tryd.underlying135 (by kernel_rfl) (by have := LT.out; omega) (by omega)) ?_
       refine k_skipOp (by kernel_rfl) (d := none) (by kernel_rfl) (run_storeB (ty := 134) (k := .i8) (n := (-(m : Int))) (x := (.tmp 43)) (y := (.tmp 41)) (b := bd) (off := i) (by kernel_rfl) (by kernel_rfl) (by kernel_rfl) (by kernel_rfl) (I0.blk.cell (dl_get (by have := LT.out; omega))) (I0.blk.free _)) trivial ?_
       intro w53 hw53 _
       have u := UpdI.set (show Is wr.drew bd _ from I0.blk) i (-(m : Int))
       rw [← hw53] at u
       rw [dl_set (by have := LT.out; omega) HDD.out] at u
       have D1 : Ds w53 n [y0, y1, y2, y3, y4] := D0.of_heap (u.other _ D0.lt (by omega))
       have I1 := I0.trans (show UpdI wr _ bd _ from ⟨u.os, u.tape, u.output, u.size, u.blk, u.other⟩)
       clear u hw53 D0 I0
       refine k_end ?_
       go_simp
       go_upto_region 10 with (fail)
       refine wsA (opsAt Tryd.f121 10) ((true, 0) :: (true, 1) :: (true, 2) :: (true, 3) :: (false, 4) :: (true, 5) :: (false, 6) :: []) (fun _ => True) trivial ?_
       refine kp (d := some 44) (v := .pointer (some ⟨bd, 0, none⟩)) ?_
       refine kp (d := some 45) (v := .int .i64 (i : Int)) ?_
       refine kp (d := some 46) (v := .pointer (some ⟨bd, 0, none⟩)) ?_
       refine k_pure (by kernel_rfl) (d := (some 47)) (by kernel_rfl) (v := .pointer (some ⟨bd, i, none⟩)) (fun _ => run_indexV (sz := 1) (t := 135) (x := (.tmp 46)) (y := (.tmp 45)) (b := bd) (off := 0) (i := i) (by kernel_rfl) (by kernel_rfl) (by kernel_rfl) Tryd.underlying135 (by kernel_rfl) (by have := LT.out; omega) (by omega)) ?_
       refine k_make (by kernel_rfl) (d := (some 48)) (by kernel_rfl) (v := .int .i8 (-(m : Int))) (run_loadB (ty := 134) (x := (.tmp 47)) (b := bd) (off := i) (by kernel_rfl) (by kernel_rfl) Tryd.underlying134 (dl_cell I1.blk HDD.out)) trivial ?_
       intro w55 hw55 _
       subst hw55
       refine k_pure (by kernel_rfl) (d := (some 49)) (by kernel_rfl) (v := .int .i64 (-(m : Int))) (fun _ => run_convOpE (x := .tmp 48) (s := 134) (d := 2) (u := .int .i8 (-(m : Int))) (v := .int .i64 (IntKind.i64.wrap (-(m : Int)))) (by kernel_rfl) (by kernel_rfl) (by kernel_rfl) (by rw [(i64_small m HM.out.2.1).2])) ?_
       refine kd (d := some 50) (f := 140) (args := #[.pointer (some ⟨n, 0, none⟩), .int .i64 (-(m : Int))]) (subDiv_m (n := m) HYB.out HM.out.2.2 HM.out.2.1 (by have := HYV.out; have := HML.out; have := HKL.out; have := HM.out; omega) D1) (fun _ w56 ⟨he56, z0, z1, z2, z3, z4, hzb, hzv, hu⟩ => ⟨_, he56, trivial, ?_⟩)
       have hzv2 : V5 z0 z1 z2 z3 z4 = md K (i + 1) := by rw [hzv, HYV.out, HMS.out]; have := HR.out; have := HM.out; omega
       have J := Lib.hid (show Hid (∃ y0 y1 y2 y3 y4, (y0 < 18446744073709551616 ∧ y1 < 18446744073709551616 ∧ y2 < 18446744073709551616 ∧ y3 < 18446744073709551616 ∧ y4 < 18446744073709551616) ∧ V5 y0 y1 y2 y3 y4 = md K (i + 1) ∧ Ds w56 n [y0, y1, y2, y3, y4] ∧ UpdI w w56 bd (dl K (i + 1))) from Lib.hid ⟨z0, z1, z2, z3, z4, hzb, hzv2, hu.blk, I1.thenW hu (by have := HN.out; omega) (by have := HN.out; omega)⟩)
       clear hzb hzv hzv2 hu he56 I1 D1
       refine k_end ?_
       go_simp
       go_wp2_with fail
       exact ⟨⟨i + 1, by have := LT.out; omega, by go_num, J.out⟩, by have := LT.out; simp [intOf]; omega⟩
   · have hi64 : i = 64 := by omega
     subst hi64
     rw [md_last ODD.out LTK.out] at hyv
     obtain ⟨rfl, rfl, rfl, rfl, rfl⟩ := V5_one hyv
     clear hyv hyb hlt hi
     go_upto_region 11 with (fail)
     refine wrA (opsAt Tryd.f121 11) ((true, 0) :: (true, 1) :: (true, 4) :: (false, 2) :: (true, 3) :: (true, 5) :: (false, 6) :: []) (fun _ => True) trivial ?_
     refine kp (d := some 51) (v := .pointer (some ⟨bd, 0, none⟩)) ?_
     refine kp (d := some 52) (v := .pointer (some ⟨n, 0, none⟩)) ?_
     refine kp (d := some 55) (v := .pointer (some ⟨bd, 0, none⟩)) ?_
     refine k_make (by kernel_rfl) (d := (some 53)) (by kernel_rfl) (v := .int .u64 1) (run_loadB (ty := 24) (x := (.tmp 52)) (b := n) (off := 0) (by kernel_rfl) (by kernel_rfl) Tryd.underlying24 (D0.cell rfl)) trivial ?_
     intro w81 hw81 _
     subst hw81
     refine kp (d := some 54) (v := .int .i8 1) ?_
     refine kp (d := some 56) (v := .pointer (some ⟨bd, 64, none⟩)) ?_
     refine k_skipOp (by kernel_rfl) (d := none) (by kernel_rfl) (run_storeB (ty := 134) (k := .i8) (n := 1) (x := (.tmp 56)) (y := (.tmp 54)) (b := bd) (off := 64) (by kernel_rfl) (by kernel_rfl) (by kernel_rfl) (by kernel_rfl) (I0.blk.cell (dl_get (by decide))) (I0.blk.free _)) trivial ?_
     intro w82 hw82 _
     have u := UpdI.set (show Is wr.drew bd _ from I0.blk) 64 1
     rw [← hw82] at u
     rw [dl_set (by decide) (show dg65 K 64 = 1 by unfold dg65; rw [if_neg (by decide), md_last ODD.out LTK.out]; rfl)] at u
     have HF := Lib.hid (I0.trans (show UpdI wr _ bd _ from ⟨u.os, u.tape, u.output, u.size, u.blk, u.other⟩))
     clear u hw82 D0 I0
     refine k_end ?_
     go_simp
     go_wp2_with fail
     go_end0
     exact ⟨rfl, HF.out⟩
end Go.Proofs.YtfkfljohhabldaaDoor
namespace Go.FourQ
open Go.RowKit
/-- w' is w, but that these two blocks hold other things (of the first one the very bytes); there may be new blocks. -/
structure UpdX (w w' : World) (b : Nat) (l : List Nat) (c : Nat) : Prop where
 os : w'.os = w.os
 tape : w'.tape = w.tape
 output : w'.output = w.output
 size : w.heap.size ≤ w'.heap.size
 blk : Fps w' b l
 other : ∀ k, k < w.heap.size → k ≠ b → k ≠ c → w'.heap[k]? = w.heap[k]?
end Go.FourQ
namespace Go.Proofs.YtfkfljohhabldaaDoor
open Go.RowKit Go.FourQ
end Go.Proofs.YtfkfljohhabldaaDoor
namespace Go.FourQ
open Go.RowKit
end Go.FourQ
namespace Go.Proofs.YtfkfljohhabldaaDoor
open Go.RowKit Go.FourQ
end Go.Proofs.YtfkfljohhabldaaDoor
namespace Go.FourQ
open Go.RowKit
/-- One of the rows is written. -/
theorem Kept.set {w0 w1 w2 : World} {bs : List (Nat × Array Value)} (h : Kept w0 bs [] w1) {i b : Nat} {l : List Nat} {old : Array Value} (u : Upd w1 w2 b l) (hg : w0.heap.size ≤ b) (hi : bs[i]? = some (b, old)) (hd : ∀ p ∈ bs.eraseIdx i, p.1 ≠ b) : Kept w0 (bs.set i (b, fps l)) [] w2 where
 nb := h.nb.trans ⟨u.os, u.tape, u.output, u.size, fun k hk => u.other k (Nat.lt_of_lt_of_le hk h.nb.size) (by omega)⟩
 row := fun p hp => by
   obtain ⟨j, hj⟩ := List.mem_iff_getElem?.1 hp
   by_cases hji : j = i
   · subst hji
     rw [List.getElem?_set_self (List.getElem?_eq_some_iff.1 hi).1] at hj
     obtain rfl := Option.some.inj hj
     exact u.blk
   · rw [List.getElem?_set_ne (Ne.symm hji)] at hj
     obtain ⟨T, hT⟩ := h.row p (List.mem_of_getElem? hj)
     have hm : p ∈ bs.eraseIdx i := List.mem_eraseIdx_iff_getElem?.2 ⟨j, hji, hj⟩
     exact ⟨T, (u.other _ (lt_of_heap hT) (hd p hm)).trans hT⟩
 room := fun p hp => by simp at hp
end Go.FourQ
namespace Go.Proofs.YtfkfljohhabldaaDoor
open Go.RowKit Go.FourQ
end Go.Proofs.YtfkfljohhabldaaDoor
namespace Go.FourQ
open Go.RowKit
theorem quo8 {P : Program} {w : World} {t : TypeId} {i : Nat} (h : i < 256) : (binOp .quo t (.int .i64 (i : Int)) (.int .i64 8)).run P w = .ok (.int .i64 ((i / 8 : Nat) : Int)) w := by
 rw [binOp_quo]
 simp [Op.intDiv]
 exact IntWalk.i64_in _ ⟨by omega, by omega⟩
theorem rem8 {P : Program} {w : World} {t : TypeId} {i : Nat} (h : i < 256) : (binOp .rem t (.int .i64 (i : Int)) (.int .i64 8)).run P w = .ok (.int .i64 ((i % 8 : Nat) : Int)) w := by
 rw [binOp_rem]
 simp [Op.intDiv]
 exact Int.tmod_eq_emod_of_nonneg (by omega)
theorem shrN {P : Program} {w : World} {t : TypeId} {c r : Nat} (h : r < 8) : (binOp .shr t (.int .u8 (c : Int)) (.int .i64 (r : Int))).run P w = .ok (.int .u8 ((c / 2 ^ r : Nat) : Int)) w := by
 rw [binOp_shr, shift_shr .u8 .i64 _ (r : Int) (by omega) (by show (r : Int) ≤ 8; omega), Int.toNat_natCast, show (c : Int) / 2 ^ r = ((c / 2 ^ r : Nat) : Int) by norm_cast]; rfl
theorem and1_8 : ∀ x : Nat, x < 256 → bits .and .u8 (x : Int) 1 = ((x % 2 : Nat) : Int) := by decide +kernel
theorem bit1 {P : Program} {w : World} {t : TypeId} {x e : Nat} (h : x < 256) (he : x % 2 = e) : (binOp .and t (.int .u8 (x : Int)) (.int .u8 1)).run P w = .ok (.int .u8 (e : Int)) w := by
 rw [binOp_and, intBits_and, and1_8 x h, he]; rfl
theorem k32_cell {w : World} {b lo hi qq : Nat} (h : Fps w b [lo, hi]) (hl : lo < 256 ^ 16) (hq : qq < 32) : w.cell? ⟨b, qq, none⟩ = some (.int .u8 (((lo + 340282366920938463463374607431768211456 * hi) / 256 ^ qq % 256 : Nat) : Int)) := by
 by_cases h16 : qq < 16
 · have := h.cell (k := 0) rfl (o := 0) rfl qq h16
   rw [Nat.zero_add] at this
   rw [this]
   unfold byteV
   congr 3
   obtain ⟨d, hd⟩ : ∃ d, 16 = qq + (d + 1) := ⟨15 - qq, by omega⟩
   have e : (340282366920938463463374607431768211456 : Nat) = 256 ^ qq * (256 * 256 ^ d) := by
     rw [← Nat.pow_succ', ← Nat.pow_add, ← hd]
   rw [e, Nat.mul_assoc, Nat.add_mul_div_left _ _ (Nat.pow_pos (by decide)), Nat.mul_assoc, Nat.add_mul_mod_self_left]
 · have := h.cell (k := 1) rfl (o := 16) rfl (qq - 16) (by omega)
   rw [show 16 + (qq - 16) = qq by omega] at this
   rw [this]
   unfold byteV
   congr 3
   rw [show (256 : Nat) ^ qq = 256 ^ 16 * 256 ^ (qq - 16) by rw [← Nat.pow_add]; congr 1; omega, ← Nat.div_div_eq_div_mul]
   rw [show (340282366920938463463374607431768211456 : Nat) = 256 ^ 16 from rfl, Nat.add_mul_div_left _ _ (Nat.pow_pos (by decide)), Nat.div_eq_of_lt hl, Nat.zero_add]
theorem bit_of (K i : Nat) : K / 256 ^ (i / 8) % 256 / 2 ^ (i % 8) % 2 = K / 2 ^ i % 2 := by
 have e : (2 : Nat) ^ i = 256 ^ (i / 8) * 2 ^ (i % 8) := by
   rw [show (256 : Nat) = 2 ^ 8 from rfl, ← Nat.pow_mul, ← Nat.pow_add]; congr 1; omega
 rw [e, ← Nat.div_div_eq_div_mul]
 generalize K / 256 ^ (i / 8) = M
 rcases (by omega : i % 8 = 0 ∨ i % 8 = 1 ∨ i % 8 = 2 ∨ i % 8 = 3 ∨ i % 8 = 4 ∨ i % 8 = 5 ∨ i % 8 = 6 ∨ i % 8 = 7) with h | h | h | h | h | h | h | h <;> rw [h] <;> omega
theorem half_of (K i : Nat) : K / 2 ^ i = 2 * (K / 2 ^ (i + 1)) + K / 2 ^ i % 2 := by
 rw [Nat.pow_succ, ← Nat.div_div_eq_div_mul]; omega
theorem bit_b {K i c : Nat} (h : K / 256 ^ (i / 8) % 256 = c) : c / 2 ^ (i % 8) < 256 ∧ c / 2 ^ (i % 8) % 2 = K / 2 ^ i % 2 := by
 subst h
 exact ⟨Nat.lt_of_le_of_lt (Nat.div_le_self _ _) (Nat.mod_lt _ (by decide)), bit_of K i⟩
theorem Kept.setA {w0 w1 : World} {bs : List (Nat × Array Value)} (h : Kept w0 bs [] w1) {i b : Nat} {old c0 cs : Array Value} {T : TypeId} (hT : w1.heap[b]? = some (.cells c0 T (0, 0))) (hg : w0.heap.size ≤ b) (hi : bs[i]? = some (b, old)) (hd : ∀ p ∈ bs.eraseIdx i, p.1 ≠ b) : Kept w0 (bs.set i (b, cs)) [] (w1.setRow b cs) where
 nb := below_setRow h.nb hg
 row := fun p hp => by
   obtain ⟨j, hj⟩ := List.mem_iff_getElem?.1 hp
   by_cases hji : j = i
   · subst hji
     rw [List.getElem?_set_self (List.getElem?_eq_some_iff.1 hi).1] at hj
     obtain rfl := Option.some.inj hj
     exact ⟨T, setRow_heap _ _ _ _ _ _ hT⟩
   · rw [List.getElem?_set_ne (Ne.symm hji)] at hj
     obtain ⟨T', hT'⟩ := h.row p (List.mem_of_getElem? hj)
     have hm : p ∈ bs.eraseIdx i := List.mem_eraseIdx_iff_getElem?.2 ⟨j, hji, hj⟩
     exact ⟨T', (setRow_other _ _ _ _ (hd p hm)).trans hT'⟩
 room := fun p hp => by simp at hp
end Go.FourQ
namespace Go.Proofs.YtfkfljohhabldaaDoor
open Go.RowKit Go.FourQ
set_option maxRecDepth 100000 in
set_option maxHeartbeats 1000000 in
theorem timesP {w : World} {lo hi : Nat} {X Y Z : Zq} {p : Pt} (hl : lo < 256 ^ 16) (hh : hi < 256 ^ 16) (hp : Rep3 p X Y Z) :
   Calls Tryd.prog 44 #[.agg (dgL [X.re.val, X.im.val, Y.re.val, Y.im.val, Z.re.val, Z.im.val]), .agg (fps [lo, hi])] w fun e w' => ∃ A B C : Zq, Rep3 (Pt.mul (lo + 340282366920938463463374607431768211456 * hi) p) A B C ∧ e = .returned (.agg (dgL [A.re.val, A.im.val, B.re.val, B.im.val, C.re.val, C.im.val])) ∧ Below w.heap.size w w' := by
 obtain ⟨KK, hKK⟩ : ∃ K, lo + 340282366920938463463374607431768211456 * hi = K := ⟨_, rfl⟩
 have hKB : KK < 2 ^ 256 := by rw [← hKK]; omega
 rw [hKK]
 have HKK := Lib.hid hKK; have HKB := Lib.hid hKB; have HLO := Lib.hid hl; have HP := Lib.hid hp
 clear hKK hKB hl hh hp
 go_enter Tryd.func44, Tryd.ntmps44
 go_upto_region 1 with (fail)
 refine wp_gen (fun WW => Kept w [(w.heap.size, (dgL [X.re.val, X.im.val, Y.re.val, Y.im.val, Z.re.val, Z.im.val])), (w.heap.size + 1, (fps [lo, hi])), (w.heap.size + 1 + 1, (dgL [0, 0, 0, 0, 0, 0]))] [] WW) (Kept.zero (nb_alloc (nb_alloc (nb_alloc (Below.refl _ _) _) _) _) (rowsC (row_as (hp3_0 (w := w) _ _ _) (by kernel_rfl)) (rowsC (row_as (hp3_1 (w := w) _ _ _) (by kernel_rfl)) (rowsC (row_as (hp3_2 (w := w) _ _ _) (by kernel_rfl)) rows0)))) ?_
 intro W0 K0
 have K1 : Kept w [(w.heap.size, (dgL [X.re.val, X.im.val, Y.re.val, Y.im.val, Z.re.val, Z.im.val])), (w.heap.size + 1, (fps [lo, hi])), (w.heap.size + 1 + 1, (dgL [0, 0, 0, 0, 0, 0]))] [] W0 := Kept.mks K0.nb (rowsC (K0.at 0 rfl) (rowsC (K0.at 1 rfl) (rowsC (K0.at 2 rfl) rows0))) rooms0
 refine wsA (opsAt Tryd.f44 1) ((false, 0) :: (false, 1) :: (false, 2) :: []) (Kept w [(w.heap.size, (dgL [X.re.val, X.im.val, Y.re.val, Y.im.val, Z.re.val, Z.im.val])), (w.heap.size + 1, (fps [lo, hi])), (w.heap.size + 1 + 1, (dgL [0, 0, 0, 0, 0, 0]))] []) K1 ?_
 refine kc (d := some 7) (f := 17) (args := #[]) (v := .agg (dgL [((0 : Zq)).re.val, ((0 : Zq)).im.val, ((1 : Zq)).re.val, ((1 : Zq)).im.val, ((1 : Zq)).re.val, ((1 : Zq)).im.val])) (zeroP_c) (fun w2 hb2 => ⟨K1.go hb2, ?_⟩)
 have K2 := K1.go hb2
 have L2 := hb2.size
 refine k_make (by kernel_rfl) (d := (some 5)) (by kernel_rfl) (v := .pointer (some ⟨w2.heap.size, 0, none⟩)) (w' := w2.alloc (.cells (dgL [0, 0, 0, 0, 0, 0]) 41)) (by kernel_rfl) (K2.go ((Below.refl _ _).alloc (Nat.le_refl _) _)) ?_
 intro w3 hw3 K3
 have G3_n : w3.heap[w2.heap.size]? = some (.cells (dgL [0, 0, 0, 0, 0, 0]) 41 (0, 0)) := hw3 ▸ heap_alloc_new _ _
 have S3 : w2.heap.size < w3.heap.size := lt_of_heap G3_n
 have R3_0 : w.heap.size < w2.heap.size := (by obtain ⟨T, h⟩ := K2.at 0 rfl; exact lt_of_heap h)
 have R3_1 : w.heap.size + 1 < w2.heap.size := (by obtain ⟨T, h⟩ := K2.at 1 rfl; exact lt_of_heap h)
 have R3_2 : w.heap.size + 1 + 1 < w2.heap.size := (by obtain ⟨T, h⟩ := K2.at 2 rfl; exact lt_of_heap h)
 have Z3 : w.heap.size ≤ w2.heap.size := K2.nb.size
 clear hw3
 refine k_put (by kernel_rfl) (d := none) (by kernel_rfl) (ty := 41) (x := (.tmp 5)) (y := (.tmp 7)) (by kernel_rfl) (g := w2.heap.size) (cells := (dgL [((0 : Zq)).re.val, ((0 : Zq)).im.val, ((1 : Zq)).re.val, ((1 : Zq)).im.val, ((1 : Zq)).re.val, ((1 : Zq)).im.val])) (by kernel_rfl) (by kernel_rfl) G3_n (by kernel_rfl) (by kernel_rfl) (all_dgA _) (K3.puti (n := 48) (by kernel_rfl) (by omega) (neC (by omega) (neC (by omega) (neC (by omega) ne0))) ns0) ?_
 intro w4 hw4 K4
 have G4_s : w4.heap[w2.heap.size]? = some (.cells (dgL [((0 : Zq)).re.val, ((0 : Zq)).im.val, ((1 : Zq)).re.val, ((1 : Zq)).im.val, ((1 : Zq)).re.val, ((1 : Zq)).im.val]) _ (0, 0)) := hw4 ▸ setRow_heap _ _ _ _ _ _ G3_n
 have L4 : w3.heap.size ≤ w4.heap.size := by rw [hw4]; exact Nat.le_of_eq (size_setRow _ _ _).symm
 clear hw4
 have K5 : Kept w [(w.heap.size, (dgL [X.re.val, X.im.val, Y.re.val, Y.im.val, Z.re.val, Z.im.val])), (w.heap.size + 1, (fps [lo, hi])), (w.heap.size + 1 + 1, (dgL [0, 0, 0, 0, 0, 0])), (w2.heap.size, (dgL [((0 : Zq)).re.val, ((0 : Zq)).im.val, ((1 : Zq)).re.val, ((1 : Zq)).im.val, ((1 : Zq)).re.val, ((1 : Zq)).im.val]))] [] w4 := Kept.zero K4.nb (rowsC (K4.at 0 rfl) (rowsC (K4.at 1 rfl) (rowsC (K4.at 2 rfl) (rowsC ⟨_, G4_s⟩ rows0))))
 clear G4_s G3_n
 refine k_end ?_
 go_simp
 go_wp2_with fail
 obtain ⟨b5, hb5⟩ : ∃ b5, w2.heap.size = b5 := ⟨_, rfl⟩
 have J0 : Hid (∃ A B C : Zq, Rep3 (Pt.mul (KK / 2 ^ 256) p) A B C ∧ w.heap.size + 1 + 1 < b5 ∧ Kept w [(w.heap.size, (dgL [X.re.val, X.im.val, Y.re.val, Y.im.val, Z.re.val, Z.im.val])), (w.heap.size + 1, (fps [lo, hi])), (w.heap.size + 1 + 1, (dgL [0, 0, 0, 0, 0, 0])), (b5, (dgL [A.re.val, A.im.val, B.re.val, B.im.val, C.re.val, C.im.val]))] [] w4) := Lib.hid (by
   refine ⟨0, 1, 1, ?_, ?_, ?_⟩
   · rw [Nat.div_eq_of_lt HKB.out]; exact rep3_at Pt.zero
   · rw [← hb5]; omega
   · rw [← hb5]; exact K5)
 rw [hb5]
 clear K5 hb5
 go_loopw [6] (fun iv wr => ∃ (j : Nat) (v : Int), j ≤ 256 ∧ iv = .int .i64 v ∧ Hid (v = (j : Int) - 1) ∧ Hid (∃ A B C : Zq, Rep3 (Pt.mul (KK / 2 ^ j) p) A B C ∧ w.heap.size + 1 + 1 < b5 ∧ Kept w [(w.heap.size, (dgL [X.re.val, X.im.val, Y.re.val, Y.im.val, Z.re.val, Z.im.val])), (w.heap.size + 1, (fps [lo, hi])), (w.heap.size + 1 + 1, (dgL [0, 0, 0, 0, 0, 0])), (b5, (dgL [A.re.val, A.im.val, B.re.val, B.im.val, C.re.val, C.im.val]))] [] wr)) (fun i _ => (intOf i + 1).toNat)
 case atStart => exact ⟨256, 255, by decide, rfl, Lib.hid (by decide), J0⟩
 case round =>
   clear J0
   obtain ⟨j, v, hj, rfl, hv, hJ⟩ := hrel
   obtain ⟨A, B, C, hR, H5, KR⟩ := hJ.out
   clear hJ
   rcases Nat.eq_zero_or_pos j with h0 | h0
   · have hv1 : v = -1 := by rw [hv.out, h0]; rfl
     subst h0
     subst hv1
     rw [Nat.pow_zero, Nat.div_one] at hR
     have HR := Lib.hid hR
     clear hR hv
     go_upto_region 8 with (fail)
     have O2K6 := KR.at 2 rfl
     obtain ⟨T2K6, O2K6⟩ := O2K6
     have K6 : Kept w [(w.heap.size, (dgL [X.re.val, X.im.val, Y.re.val, Y.im.val, Z.re.val, Z.im.val])), (w.heap.size + 1, (fps [lo, hi])), (b5, (dgL [A.re.val, A.im.val, B.re.val, B.im.val, C.re.val, C.im.val]))] [(w.heap.size + 1 + 1, 48)] wr := Kept.mks KR.nb (rowsC (KR.at 0 rfl) (rowsC (KR.at 1 rfl) (rowsC (KR.at 3 rfl) rows0))) (roomsC (by kernel_rfl) O2K6 rooms0)
     refine wsA (opsAt Tryd.f44 8) ((true, 0) :: (false, 1) :: []) (Kept w [(w.heap.size, (dgL [X.re.val, X.im.val, Y.re.val, Y.im.val, Z.re.val, Z.im.val])), (w.heap.size + 1, (fps [lo, hi])), (b5, (dgL [A.re.val, A.im.val, B.re.val, B.im.val, C.re.val, C.im.val]))] [(w.heap.size + 1 + 1, 48)]) K6 ?_
     refine k_row (by kernel_rfl) (d := (some 27)) (by kernel_rfl) (ty := 41) (x := (.tmp 5)) (by kernel_rfl) (b := b5) (by kernel_rfl) (cs := (dgL [A.re.val, A.im.val, B.re.val, B.im.val, C.re.val, C.im.val])) (fun _ hs => hs.at 2 rfl) Tryd.underlying41 rfl (by kernel_rfl) ?_
     refine k_put (by kernel_rfl) (d := none) (by kernel_rfl) (ty := 41) (x := (.tmp 4)) (y := (.tmp 27)) (by kernel_rfl) (g := w.heap.size + 1 + 1) (cells := (dgL [A.re.val, A.im.val, B.re.val, B.im.val, C.re.val, C.im.val])) (by kernel_rfl) (by kernel_rfl) O2K6 (by kernel_rfl) (by kernel_rfl) (all_dgA _) (K6.puti (n := 48) (by kernel_rfl) (by omega) (neC (by omega) (neC (by omega) (neC (by omega) ne0))) (nsE ns0)) ?_
     intro w7 hw7 K7
     have G7_s : w7.heap[w.heap.size + 1 + 1]? = some (.cells (dgL [A.re.val, A.im.val, B.re.val, B.im.val, C.re.val, C.im.val]) _ (0, 0)) := hw7 ▸ setRow_heap _ _ _ _ _ _ O2K6
     have L7 : wr.heap.size ≤ w7.heap.size := by rw [hw7]; exact Nat.le_of_eq (size_setRow _ _ _).symm
     clear hw7
     have K8 : Kept w [(w.heap.size, (dgL [X.re.val, X.im.val, Y.re.val, Y.im.val, Z.re.val, Z.im.val])), (w.heap.size + 1, (fps [lo, hi])), (w.heap.size + 1 + 1, (dgL [A.re.val, A.im.val, B.re.val, B.im.val, C.re.val, C.im.val])), (b5, (dgL [A.re.val, A.im.val, B.re.val, B.im.val, C.re.val, C.im.val]))] [] w7 := Kept.zero K7.nb (rowsC (K7.at 0 rfl) (rowsC (K7.at 1 rfl) (rowsC ⟨_, G7_s⟩ (rowsC (K7.at 2 rfl) rows0))))
     clear O2K6 G7_s
     refine k_end ?_
     go_simp
     go_wp2_with fail
     obtain ⟨TR, hRR⟩ := K8.at 2 rfl
     exact bodyPost_ret_by (results_cell_row rfl _ _ (w.heap.size + 1 + 1) _ (dgL [A.re.val, A.im.val, B.re.val, B.im.val, C.re.val, C.im.val]) _ _ rfl hRR Tryd.underlying41 rfl (by kernel_rfl)) rfl ⟨A, B, C, HR.out, rfl, K8.nb⟩
   · obtain ⟨i, rfl⟩ : ∃ i, j = i + 1 := ⟨j - 1, by omega⟩
     have hvi : v = (i : Int) := by rw [hv.out]; omega
     subst hvi
     have hi256 : i < 256 := by omega
     have hi0 : (0 : Int) ≤ (i : Int) := by omega
     have LT := Lib.hid hi256
     have HR := Lib.hid hR
     obtain ⟨c, hc⟩ : ∃ c, KK / 256 ^ (i / 8) % 256 = c := ⟨_, rfl⟩
     have HC := Lib.hid hc
     have HB := Lib.hid (bit_b hc)
     clear hR hv h0 hj hc
     rcases (by omega : KK / 2 ^ i % 2 = 0 ∨ KK / 2 ^ i % 2 = 1) with hbit | hbit
     · have HBT := Lib.hid hbit
       clear hbit
       go_upto_region 5 with (fail)
       obtain ⟨T55, h55⟩ := KR.at 3 rfl
       refine wsA (opsAt Tryd.f44 5) ((false, 0) :: (false, 1) :: (false, 2) :: (false, 3) :: []) (fun _ => True) trivial ?_
       refine k_make (by kernel_rfl) (d := (some 12)) (by kernel_rfl) (v := .agg (dgL [A.re.val, A.im.val, B.re.val, B.im.val, C.re.val, C.im.val])) (run_loadRow (ty := 41) (x := (.tmp 5)) (b := b5) (by kernel_rfl) (by kernel_rfl) h55 Tryd.underlying41 rfl (by kernel_rfl)) trivial ?_
       intro w209 hw209 _
       replace hw209 := hw209.symm
       subst hw209
       refine k_make (by kernel_rfl) (d := (some 13)) (by kernel_rfl) (v := .agg (dgL [A.re.val, A.im.val, B.re.val, B.im.val, C.re.val, C.im.val])) (run_loadRow (ty := 41) (x := (.tmp 5)) (b := b5) (by kernel_rfl) (by kernel_rfl) h55 Tryd.underlying41 rfl (by kernel_rfl)) trivial ?_
       intro w210 hw210 _
       replace hw210 := hw210.symm
       subst hw210
       refine kd (d := some 14) (f := 24) (args := #[.agg (dgL [A.re.val, A.im.val, B.re.val, B.im.val, C.re.val, C.im.val]), .agg (dgL [A.re.val, A.im.val, B.re.val, B.im.val, C.re.val, C.im.val])]) (plusP_r HR.out HR.out) (fun _ w211 ⟨X211, Y211, Z211, hr211, he211, hb211⟩ => ⟨_, he211, trivial, ?_⟩)
       have KC211 := KR.go hb211
       obtain ⟨T6211, h6211⟩ := KC211.at 3 rfl
       refine k_put (by kernel_rfl) (d := none) (by kernel_rfl) (ty := 41) (x := (.tmp 5)) (y := (.tmp 14)) (by kernel_rfl) (g := b5) (cells := (dgL [X211.re.val, X211.im.val, Y211.re.val, Y211.im.val, Z211.re.val, Z211.im.val])) (by kernel_rfl) (by kernel_rfl) h6211 (by kernel_rfl) (by kernel_rfl) (all_dgA _) trivial ?_
       intro w212 hw212 _
       have KP212 : Kept w [(w.heap.size, (dgL [X.re.val, X.im.val, Y.re.val, Y.im.val, Z.re.val, Z.im.val])), (w.heap.size + 1, (fps [lo, hi])), (w.heap.size + 1 + 1, (dgL [0, 0, 0, 0, 0, 0])), (b5, (dgL [X211.re.val, X211.im.val, Y211.re.val, Y211.im.val, Z211.re.val, Z211.im.val]))] [] w212 := by rw [hw212]; exact Kept.setA KC211 h6211 (by omega) (i := 3) rfl (neC (by omega) (neC (by omega) (neC (by omega) ne0)))
       clear hw212 h6211 KC211 hb211 he211 h55
       refine k_end ?_
       go_simp
       go_upto_region 6 with (fail)
       refine wsA (opsAt Tryd.f44 6) ((true, 0) :: (true, 1) :: (true, 2) :: (false, 3) :: (true, 4) :: (true, 5) :: (true, 6) :: (true, 7) :: (true, 8) :: []) (fun _ => True) trivial ?_
       refine kp (d := some 15) (v := .int .i64 (i : Int)) ?_
       refine k_pure (by kernel_rfl) (d := (some 16)) (by kernel_rfl) (v := .int .i64 ((i / 8 : Nat) : Int)) (fun _ => run_binOpV (op := .quo) (x := .tmp 15) (y := .const (.int .i64 8)) (t := 3) (t' := 3) (by kernel_rfl) (by kernel_rfl) (by kernel_rfl) rfl (quo8 LT.out)) ?_
       refine k_pure (by kernel_rfl) (d := (some 17)) (by kernel_rfl) (v := .pointer (some ⟨w.heap.size + 1, i / 8, none⟩)) (fun _ => run_indexV (sz := 1) (t := 63) (x := (.tmp 3)) (y := (.tmp 16)) (b := w.heap.size + 1) (off := 0) (i := (i / 8)) (by kernel_rfl) (by kernel_rfl) (by kernel_rfl) Tryd.underlying63 (by kernel_rfl) (by have := LT.out; omega) (by omega)) ?_
       refine k_make (by kernel_rfl) (d := (some 18)) (by kernel_rfl) (v := .int .u8 (c : Int)) (run_loadB (ty := 5) (x := (.tmp 17)) (b := w.heap.size + 1) (off := i / 8) (by kernel_rfl) (by kernel_rfl) Tryd.underlying5 ((by have := k32_cell (qq := i / 8) (show Fps w212 (w.heap.size + 1) [lo, hi] from KP212.at 1 rfl) HLO.out (by have := LT.out; omega); rw [HKK.out, HC.out] at this; exact this))) trivial ?_
       intro w214 hw214 _
       subst hw214
       refine kp (d := some 19) (v := .int .i64 (i : Int)) ?_
       refine k_pure (by kernel_rfl) (d := (some 20)) (by kernel_rfl) (v := .int .i64 ((i % 8 : Nat) : Int)) (fun _ => run_binOpV (op := .rem) (x := .tmp 19) (y := .const (.int .i64 8)) (t := 3) (t' := 3) (by kernel_rfl) (by kernel_rfl) (by kernel_rfl) rfl (rem8 LT.out)) ?_
       refine k_pure (by kernel_rfl) (d := (some 21)) (by kernel_rfl) (v := .int .u8 ((c / 2 ^ (i % 8) : Nat) : Int)) (fun _ => run_binOpV (op := .shr) (x := .tmp 18) (y := .tmp 20) (t := 5) (t' := 3) (by kernel_rfl) (by kernel_rfl) (by kernel_rfl) rfl (shrN (Nat.mod_lt _ (by decide)))) ?_
       refine k_pure (by kernel_rfl) (d := (some 22)) (by kernel_rfl) (v := .int .u8 ((0 : Nat) : Int)) (fun _ => run_binOpV (op := .and) (x := .tmp 21) (y := .const (.int .u8 1)) (t := 5) (t' := 5) (by kernel_rfl) (by kernel_rfl) (by kernel_rfl) rfl (bit1 HB.out.1 (HB.out.2.trans HBT.out))) ?_
       refine kp (d := some 23) (v := .bool false) ?_
       refine k_end ?_
       go_simp
       have HJ := Lib.hid (show Hid (∃ A B C : Zq, Rep3 (Pt.mul (KK / 2 ^ i) p) A B C ∧ w.heap.size + 1 + 1 < b5 ∧ Kept w [(w.heap.size, (dgL [X.re.val, X.im.val, Y.re.val, Y.im.val, Z.re.val, Z.im.val])), (w.heap.size + 1, (fps [lo, hi])), (w.heap.size + 1 + 1, (dgL [0, 0, 0, 0, 0, 0])), (b5, (dgL [A.re.val, A.im.val, B.re.val, B.im.val, C.re.val, C.im.val]))] [] w214) from Lib.hid ⟨X211, Y211, Z211, by have e := half_of KK i; rw [HBT.out, Nat.add_zero] at e; rw [e, mul_dbl_pt, mul_dist_pt]; exact hr211, H5, KP212⟩)
       go_wp2_with fail
       exact ⟨⟨i, (i : Int) - 1, by have := LT.out; omega, by go_num, Lib.hid rfl, HJ.out⟩, by have := LT.out; simp [intOf]⟩
     · have HBT := Lib.hid hbit
       clear hbit
       go_upto_region 5 with (fail)
       obtain ⟨T55, h55⟩ := KR.at 3 rfl
       refine wsA (opsAt Tryd.f44 5) ((false, 0) :: (false, 1) :: (false, 2) :: (false, 3) :: []) (fun _ => True) trivial ?_
       refine k_make (by kernel_rfl) (d := (some 12)) (by kernel_rfl) (v := .agg (dgL [A.re.val, A.im.val, B.re.val, B.im.val, C.re.val, C.im.val])) (run_loadRow (ty := 41) (x := (.tmp 5)) (b := b5) (by kernel_rfl) (by kernel_rfl) h55 Tryd.underlying41 rfl (by kernel_rfl)) trivial ?_
       intro w409 hw409 _
       replace hw409 := hw409.symm
       subst hw409
       refine k_make (by kernel_rfl) (d := (some 13)) (by kernel_rfl) (v := .agg (dgL [A.re.val, A.im.val, B.re.val, B.im.val, C.re.val, C.im.val])) (run_loadRow (ty := 41) (x := (.tmp 5)) (b := b5) (by kernel_rfl) (by kernel_rfl) h55 Tryd.underlying41 rfl (by kernel_rfl)) trivial ?_
       intro w410 hw410 _
       replace hw410 := hw410.symm
       subst hw410
       refine kd (d := some 14) (f := 24) (args := #[.agg (dgL [A.re.val, A.im.val, B.re.val, B.im.val, C.re.val, C.im.val]), .agg (dgL [A.re.val, A.im.val, B.re.val, B.im.val, C.re.val, C.im.val])]) (plusP_r HR.out HR.out) (fun _ w411 ⟨X411, Y411, Z411, hr411, he411, hb411⟩ => ⟨_, he411, trivial, ?_⟩)
       have KC411 := KR.go hb411
       obtain ⟨T6411, h6411⟩ := KC411.at 3 rfl
       refine k_put (by kernel_rfl) (d := none) (by kernel_rfl) (ty := 41) (x := (.tmp 5)) (y := (.tmp 14)) (by kernel_rfl) (g := b5) (cells := (dgL [X411.re.val, X411.im.val, Y411.re.val, Y411.im.val, Z411.re.val, Z411.im.val])) (by kernel_rfl) (by kernel_rfl) h6411 (by kernel_rfl) (by kernel_rfl) (all_dgA _) trivial ?_
       intro w412 hw412 _
       have KP412 : Kept w [(w.heap.size, (dgL [X.re.val, X.im.val, Y.re.val, Y.im.val, Z.re.val, Z.im.val])), (w.heap.size + 1, (fps [lo, hi])), (w.heap.size + 1 + 1, (dgL [0, 0, 0, 0, 0, 0])), (b5, (dgL [X411.re.val, X411.im.val, Y411.re.val, Y411.im.val, Z411.re.val, Z411.im.val]))] [] w412 := by rw [hw412]; exact Kept.setA KC411 h6411 (by omega) (i := 3) rfl (neC (by omega) (neC (by omega) (neC (by omega) ne0)))
       clear hw412 h6411 KC411 hb411 he411 h55
       refine k_end ?_
       go_simp
       go_upto_region 6 with (fail)
       refine wsA (opsAt Tryd.f44 6) ((true, 0) :: (true, 1) :: (true, 2) :: (false, 3) :: (true, 4) :: (true, 5) :: (true, 6) :: (true, 7) :: (true, 8) :: []) (fun _ => True) trivial ?_
       refine kp (d := some 15) (v := .int .i64 (i : Int)) ?_
       refine k_pure (by kernel_rfl) (d := (some 16)) (by kernel_rfl) (v := .int .i64 ((i / 8 : Nat) : Int)) (fun _ => run_binOpV (op := .quo) (x := .tmp 15) (y := .const (.int .i64 8)) (t := 3) (t' := 3) (by kernel_rfl) (by kernel_rfl) (by kernel_rfl) rfl (quo8 LT.out)) ?_
       refine k_pure (by kernel_rfl) (d := (some 17)) (by kernel_rfl) (v := .pointer (some ⟨w.heap.size + 1, i / 8, none⟩)) (fun _ => run_indexV (sz := 1) (t := 63) (x := (.tmp 3)) (y := (.tmp 16)) (b := w.heap.size + 1) (off := 0) (i := (i / 8)) (by kernel_rfl) (by kernel_rfl) (by kernel_rfl) Tryd.underlying63 (by kernel_rfl) (by have := LT.out; omega) (by omega)) ?_
       refine k_make (by kernel_rfl) (d := (some 18)) (by kernel_rfl) (v := .int .u8 (c : Int)) (run_loadB (ty := 5) (x := (.tmp 17)) (b := w.heap.size + 1) (off := i / 8) (by kernel_rfl) (by kernel_rfl) Tryd.underlying5 ((by have := k32_cell (qq := i / 8) (show Fps w412 (w.heap.size + 1) [lo, hi] from KP412.at 1 rfl) HLO.out (by have := LT.out; omega); rw [HKK.out, HC.out] at this; exact this))) trivial ?_
       intro w414 hw414 _
       subst hw414
       refine kp (d := some 19) (v := .int .i64 (i : Int)) ?_
       refine k_pure (by kernel_rfl) (d := (some 20)) (by kernel_rfl) (v := .int .i64 ((i % 8 : Nat) : Int)) (fun _ => run_binOpV (op := .rem) (x := .tmp 19) (y := .const (.int .i64 8)) (t := 3) (t' := 3) (by kernel_rfl) (by kernel_rfl) (by kernel_rfl) rfl (rem8 LT.out)) ?_
       refine k_pure (by kernel_rfl) (d := (some 21)) (by kernel_rfl) (v := .int .u8 ((c / 2 ^ (i % 8) : Nat) : Int)) (fun _ => run_binOpV (op := .shr) (x := .tmp 18) (y := .tmp 20) (t := 5) (t' := 3) (by kernel_rfl) (by kernel_rfl) (by kernel_rfl) rfl (shrN (Nat.mod_lt _ (by decide)))) ?_
       refine k_pure (by kernel_rfl) (d := (some 22)) (by kernel_rfl) (v := .int .u8 ((1 : Nat) : Int)) (fun _ => run_binOpV (op := .and) (x := .tmp 21) (y := .const (.int .u8 1)) (t := 5) (t' := 5) (by kernel_rfl) (by kernel_rfl) (by kernel_rfl) rfl (bit1 HB.out.1 (HB.out.2.trans HBT.out))) ?_
       refine kp (d := some 23) (v := .bool true) ?_
       refine k_end ?_
       go_simp
       go_upto_region 7 with (fail)
       obtain ⟨T57, h57⟩ := KP412.at 3 rfl
       obtain ⟨T27, h27⟩ := KP412.at 0 rfl
       refine wsA (opsAt Tryd.f44 7) ((false, 0) :: (false, 1) :: (false, 2) :: (false, 3) :: []) (fun _ => True) trivial ?_
       refine k_make (by kernel_rfl) (d := (some 24)) (by kernel_rfl) (v := .agg (dgL [X411.re.val, X411.im.val, Y411.re.val, Y411.im.val, Z411.re.val, Z411.im.val])) (run_loadRow (ty := 41) (x := (.tmp 5)) (b := b5) (by kernel_rfl) (by kernel_rfl) h57 Tryd.underlying41 rfl (by kernel_rfl)) trivial ?_
       intro w415 hw415 _
       replace hw415 := hw415.symm
       subst hw415
       refine k_make (by kernel_rfl) (d := (some 25)) (by kernel_rfl) (v := .agg (dgL [X.re.val, X.im.val, Y.re.val, Y.im.val, Z.re.val, Z.im.val])) (run_loadRow (ty := 41) (x := (.tmp 2)) (b := w.heap.size) (by kernel_rfl) (by kernel_rfl) h27 Tryd.underlying41 rfl (by kernel_rfl)) trivial ?_
       intro w416 hw416 _
       replace hw416 := hw416.symm
       subst hw416
       refine kd (d := some 26) (f := 24) (args := #[.agg (dgL [X411.re.val, X411.im.val, Y411.re.val, Y411.im.val, Z411.re.val, Z411.im.val]), .agg (dgL [X.re.val, X.im.val, Y.re.val, Y.im.val, Z.re.val, Z.im.val])]) (plusP_r hr411 HP.out) (fun _ w417 ⟨X417, Y417, Z417, hr417, he417, hb417⟩ => ⟨_, he417, trivial, ?_⟩)
       have KC417 := KP412.go hb417
       obtain ⟨T6417, h6417⟩ := KC417.at 3 rfl
       refine k_put (by kernel_rfl) (d := none) (by kernel_rfl) (ty := 41) (x := (.tmp 5)) (y := (.tmp 26)) (by kernel_rfl) (g := b5) (cells := (dgL [X417.re.val, X417.im.val, Y417.re.val, Y417.im.val, Z417.re.val, Z417.im.val])) (by kernel_rfl) (by kernel_rfl) h6417 (by kernel_rfl) (by kernel_rfl) (all_dgA _) trivial ?_
       intro w418 hw418 _
       have KP418 : Kept w [(w.heap.size, (dgL [X.re.val, X.im.val, Y.re.val, Y.im.val, Z.re.val, Z.im.val])), (w.heap.size + 1, (fps [lo, hi])), (w.heap.size + 1 + 1, (dgL [0, 0, 0, 0, 0, 0])), (b5, (dgL [X417.re.val, X417.im.val, Y417.re.val, Y417.im.val, Z417.re.val, Z417.im.val]))] [] w418 := by rw [hw418]; exact Kept.setA KC417 h6417 (by omega) (i := 3) rfl (neC (by omega) (neC (by omega) (neC (by omega) ne0)))
       clear hw418 h6417 KC417 hb417 he417 h57 h27
       refine k_end ?_
       go_simp
       have HJ := Lib.hid (show Hid (∃ A B C : Zq, Rep3 (Pt.mul (KK / 2 ^ i) p) A B C ∧ w.heap.size + 1 + 1 < b5 ∧ Kept w [(w.heap.size, (dgL [X.re.val, X.im.val, Y.re.val, Y.im.val, Z.re.val, Z.im.val])), (w.heap.size + 1, (fps [lo, hi])), (w.heap.size + 1 + 1, (dgL [0, 0, 0, 0, 0, 0])), (b5, (dgL [A.re.val, A.im.val, B.re.val, B.im.val, C.re.val, C.im.val]))] [] w418) from Lib.hid ⟨X417, Y417, Z417, by have e := half_of KK i; rw [HBT.out] at e; rw [e, mul_add_pt, mul_one_pt, mul_dbl_pt, mul_dist_pt]; exact hr417, H5, KP418⟩)
       go_wp2_with fail
       exact ⟨⟨i, (i : Int) - 1, by have := LT.out; omega, by go_num, Lib.hid rfl, HJ.out⟩, by have := LT.out; simp [intOf]⟩
end Go.Proofs.YtfkfljohhabldaaDoor
namespace Go.FourQ
open Go.RowKit
/-- The table's first m points: the odd multiples. -/
def TabOk (q : Pt) (m : Nat) (L : List Zq) : Prop := L.length = 32 ∧ ∀ j, j < m → ∃ A B D W, L[4 * j]? = some A ∧ L[4 * j + 1]? = some B ∧ L[4 * j + 2]? = some D ∧ L[4 * j + 3]? = some W ∧ Rep2 (Pt.mul (2 * j + 1) q) A B D W
theorem set4_len (L : List Zq) (k : Nat) (a b c d : Zq) : (set4 L k a b c d).length = L.length := by simp [set4]
theorem set4_get {L : List Zq} {k : Nat} {a b c d : Zq} (h : k + 3 < L.length) : (set4 L k a b c d)[k]? = some a ∧ (set4 L k a b c d)[k + 1]? = some b ∧ (set4 L k a b c d)[k + 2]? = some c ∧ (set4 L k a b c d)[k + 3]? = some d := by
 unfold set4
 refine ⟨?_, ?_, ?_, ?_⟩
 · rw [List.getElem?_set_ne (by omega), List.getElem?_set_ne (by omega), List.getElem?_set_ne (by omega), List.getElem?_set_self (by omega)]
 · rw [List.getElem?_set_ne (by omega), List.getElem?_set_ne (by omega), List.getElem?_set_self (by simp; omega)]
 · rw [List.getElem?_set_ne (by omega), List.getElem?_set_self (by simp; omega)]
 · rw [List.getElem?_set_self (by simp; omega)]
theorem set4_other {L : List Zq} {k j : Nat} {a b c d : Zq} (h : j < k) : (set4 L k a b c d)[j]? = L[j]? := by
 unfold set4
 rw [List.getElem?_set_ne (by omega), List.getElem?_set_ne (by omega), List.getElem?_set_ne (by omega), List.getElem?_set_ne (by omega)]
theorem TabOk.next {q : Pt} {m : Nat} {L : List Zq} {A B D W : Zq} (h : TabOk q m L) (hm : m < 8) (hr : Rep2 (Pt.mul (2 * m + 1) q) A B D W) : TabOk q (m + 1) (set4 L (4 * m) A B D W) := by
 refine ⟨by rw [set4_len]; exact h.1, fun j hj => ?_⟩
 by_cases e : j = m
 · subst e
   have g := set4_get (L := L) (k := 4 * j) (a := A) (b := B) (c := D) (d := W) (by rw [h.1]; omega)
   exact ⟨A, B, D, W, g.1, g.2.1, g.2.2.1, g.2.2.2, hr⟩
 · obtain ⟨A', B', D', W', g0, g1, g2, g3, hr'⟩ := h.2 j (by omega)
   exact ⟨A', B', D', W', by rw [set4_other (by omega)]; exact g0, by rw [set4_other (by omega)]; exact g1, by rw [set4_other (by omega)]; exact g2, by rw [set4_other (by omega)]; exact g3, hr'⟩
end Go.FourQ
namespace Go.Proofs.YtfkfljohhabldaaDoor
open Go.RowKit Go.FourQ
section
variable {w : World} {b1 b2 b3 o1 o2 o3 k1 : Nat} {p q : Pt}
set_option maxRecDepth 100000 in
set_option maxHeartbeats 1000000 in
theorem cmov3_0 {a b c d A B D W : Zq} (h1 : FpsZ w b1 (flat [a, b, c, d])) (hA : AtL w b2 o2 [A, B, D, W]) (hne : b2 ≠ b1) :
   Calls Tryd.prog 141 #[.pointer (some ⟨b1, 0, none⟩), .pointer (some ⟨b2, o2, none⟩), .int .i64 0] w fun e w' => e = .returned (.tuple #[]) ∧ UpdZ w w' b1 (flat [a, b, c, d]) := by
 go_enter Tryd.func141, Tryd.ntmps141
 go_upto_region 0 with (fail)
 have H0 : Sto w [(b1, flat [a, b, c, d])] w := (Sto.one h1)
 refine wrA (opsAt Tryd.f141 0) ((true, 0) :: (true, 1) :: (true, 2) :: (true, 3) :: (true, 4) :: (true, 5) :: (true, 6) :: (false, 7) :: []) (fun _ => True) trivial ?_
 refine kp (d := some 6) (v := .pointer (some ⟨b1, 0, none⟩)) ?_
 refine kp (d := some 7) (v := .pointer (some ⟨b1, 0, none⟩)) ?_
 refine kp (d := some 8) (v := .pointer (some ⟨b1, 0, none⟩)) ?_
 refine kp (d := some 9) (v := .pointer (some ⟨b2, o2, none⟩)) ?_
 refine kp (d := some 10) (v := .pointer (some ⟨b2, o2, none⟩)) ?_
 refine kp (d := some 11) (v := .pointer (some ⟨b2, o2, none⟩)) ?_
 refine kp (d := some 12) (v := .int .i64 0) ?_
 refine kd (d := some 13) (f := 110) (args := #[.pointer (some ⟨b1, 0, none⟩), .pointer (some ⟨b2, o2, none⟩), .int .i64 0]) (sqCmov (v := 0) (.inl rfl) H0.drew (i := 0) rfl (k1 := 0) rfl rfl (((hA 0 _ rfl)).sto H0.drew (ksC (Ne.symm hne) ks0)) (.inl hne) (z := a) rfl) (fun _ w1 q1 => ⟨.tuple #[], q1.1, trivial, ?_⟩)
 have u1 := q1.2
 clear q1
 have H1 : Sto w [(b1, flat [a, b, c, d])] w1 := u1
 clear u1 H0
 refine k_end ?_
 go_simp
 go_upto_region 1 with (fail)
 refine wrA (opsAt Tryd.f141 1) ((true, 0) :: (true, 1) :: (true, 2) :: (true, 3) :: (true, 4) :: (true, 5) :: (true, 6) :: (false, 7) :: []) (fun _ => True) trivial ?_
 refine kp (d := some 14) (v := .pointer (some ⟨b1, 0, none⟩)) ?_
 refine kp (d := some 15) (v := .pointer (some ⟨b1, 0, none⟩)) ?_
 refine kp (d := some 16) (v := .pointer (some ⟨b1, 32, none⟩)) ?_
 refine kp (d := some 17) (v := .pointer (some ⟨b2, o2, none⟩)) ?_
 refine kp (d := some 18) (v := .pointer (some ⟨b2, o2, none⟩)) ?_
 refine kp (d := some 19) (v := .pointer (some ⟨b2, o2 + 32, none⟩)) ?_
 refine kp (d := some 20) (v := .int .i64 0) ?_
 refine kd (d := some 21) (f := 110) (args := #[.pointer (some ⟨b1, 32, none⟩), .pointer (some ⟨b2, o2 + 32, none⟩), .int .i64 0]) (sqCmov (v := 0) (.inl rfl) H1.drew (i := 0) rfl (k1 := 1) rfl rfl (((hA 1 _ rfl)).sto H1.drew (ksC (Ne.symm hne) ks0)) (.inl hne) (z := b) rfl) (fun _ w2 q2 => ⟨.tuple #[], q2.1, trivial, ?_⟩)
 have u2 := q2.2
 clear q2
 have H2 : Sto w [(b1, flat [a, b, c, d])] w2 := u2
 clear u2 H1
 refine k_end ?_
 go_simp
 go_upto_region 2 with (fail)
 refine wrA (opsAt Tryd.f141 2) ((true, 0) :: (true, 1) :: (true, 2) :: (true, 3) :: (true, 4) :: (true, 5) :: (true, 6) :: (false, 7) :: []) (fun _ => True) trivial ?_
 refine kp (d := some 22) (v := .pointer (some ⟨b1, 0, none⟩)) ?_
 refine kp (d := some 23) (v := .pointer (some ⟨b1, 0, none⟩)) ?_
 refine kp (d := some 24) (v := .pointer (some ⟨b1, 64, none⟩)) ?_
 refine kp (d := some 25) (v := .pointer (some ⟨b2, o2, none⟩)) ?_
 refine kp (d := some 26) (v := .pointer (some ⟨b2, o2, none⟩)) ?_
 refine kp (d := some 27) (v := .pointer (some ⟨b2, o2 + 64, none⟩)) ?_
 refine kp (d := some 28) (v := .int .i64 0) ?_
 refine kd (d := some 29) (f := 110) (args := #[.pointer (some ⟨b1, 64, none⟩), .pointer (some ⟨b2, o2 + 64, none⟩), .int .i64 0]) (sqCmov (v := 0) (.inl rfl) H2.drew (i := 0) rfl (k1 := 2) rfl rfl (((hA 2 _ rfl)).sto H2.drew (ksC (Ne.symm hne) ks0)) (.inl hne) (z := c) rfl) (fun _ w3 q3 => ⟨.tuple #[], q3.1, trivial, ?_⟩)
 have u3 := q3.2
 clear q3
 have H3 : Sto w [(b1, flat [a, b, c, d])] w3 := u3
 clear u3 H2
 refine k_end ?_
 go_simp
 have HF := Lib.hid H3
 clear H3
 go_wp2_with fail
 go_end0
 exact ⟨rfl, HF.out.end1 ts0⟩
set_option maxRecDepth 100000 in
set_option maxHeartbeats 1000000 in
theorem cmov2_0 {a b c d A B D W : Zq} (h1 : FpsZ w b1 (flat [a, b, c, d])) (hA : AtL w b2 o2 [A, B, D, W]) (hne : b2 ≠ b1) :
   Calls Tryd.prog 122 #[.pointer (some ⟨b1, 0, none⟩), .pointer (some ⟨b2, o2, none⟩), .int .i64 0] w fun e w' => e = .returned (.tuple #[]) ∧ UpdZ w w' b1 (flat [a, b, c, d]) := by
 go_enter Tryd.func122, Tryd.ntmps122
 go_upto_region 0 with (fail)
 have H0 : Sto w [(b1, flat [a, b, c, d])] w := (Sto.one h1)
 refine wrA (opsAt Tryd.f122 0) ((true, 0) :: (true, 1) :: (true, 2) :: (true, 3) :: (true, 4) :: (true, 5) :: (true, 6) :: (false, 7) :: []) (fun _ => True) trivial ?_
 refine kp (d := some 6) (v := .pointer (some ⟨b1, 0, none⟩)) ?_
 refine kp (d := some 7) (v := .pointer (some ⟨b1, 0, none⟩)) ?_
 refine kp (d := some 8) (v := .pointer (some ⟨b1, 0, none⟩)) ?_
 refine kp (d := some 9) (v := .pointer (some ⟨b2, o2, none⟩)) ?_
 refine kp (d := some 10) (v := .pointer (some ⟨b2, o2, none⟩)) ?_
 refine kp (d := some 11) (v := .pointer (some ⟨b2, o2, none⟩)) ?_
 refine kp (d := some 12) (v := .int .i64 0) ?_
 refine kd (d := some 13) (f := 141) (args := #[.pointer (some ⟨b1, 0, none⟩), .pointer (some ⟨b2, o2, none⟩), .int .i64 0]) (up1 H0.drew (i := 0) rfl (cmov3_0 (H0.drew.blk 0 _ _ rfl) (hA.sto H0.drew (ksC (Ne.symm hne) ks0)) hne)) (fun _ w1 q1 => ⟨.tuple #[], q1.1, trivial, ?_⟩)
 have u1 := q1.2
 clear q1
 have H1 : Sto w [(b1, flat [a, b, c, d])] w1 := u1
 clear u1 H0
 refine k_end ?_
 go_simp
 go_upto_region 1 with (fail)
 refine wrA (opsAt Tryd.f122 1) ((true, 0) :: (true, 1) :: (true, 2) :: (true, 3) :: (true, 4) :: (true, 5) :: (true, 6) :: (false, 7) :: []) (fun _ => True) trivial ?_
 refine kp (d := some 14) (v := .pointer (some ⟨b1, 0, none⟩)) ?_
 refine kp (d := some 15) (v := .pointer (some ⟨b1, 0, none⟩)) ?_
 refine kp (d := some 16) (v := .pointer (some ⟨b1, 96, none⟩)) ?_
 refine kp (d := some 17) (v := .pointer (some ⟨b2, o2, none⟩)) ?_
 refine kp (d := some 18) (v := .pointer (some ⟨b2, o2, none⟩)) ?_
 refine kp (d := some 19) (v := .pointer (some ⟨b2, o2 + 96, none⟩)) ?_
 refine kp (d := some 20) (v := .int .i64 0) ?_
 refine kd (d := some 21) (f := 110) (args := #[.pointer (some ⟨b1, 96, none⟩), .pointer (some ⟨b2, o2 + 96, none⟩), .int .i64 0]) (sqCmov (v := 0) (.inl rfl) H1.drew (i := 0) rfl (k1 := 3) rfl rfl (((hA 3 _ rfl)).sto H1.drew (ksC (Ne.symm hne) ks0)) (.inl hne) (z := d) rfl) (fun _ w2 q2 => ⟨.tuple #[], q2.1, trivial, ?_⟩)
 have u2 := q2.2
 clear q2
 have H2 : Sto w [(b1, flat [a, b, c, d])] w2 := u2
 clear u2 H1
 refine k_end ?_
 go_simp
 have HF := Lib.hid H2
 clear H2
 go_wp2_with fail
 go_end0
 exact ⟨rfl, HF.out.end1 ts0⟩
set_option maxRecDepth 100000 in
set_option maxHeartbeats 1000000 in
theorem cneg_0 {a b c d : Zq} (hm : ModW w) (hg : 5 ≤ b1) (h1 : FpsZ w b1 (flat [a, b, c, d])) :
   Calls Tryd.prog 123 #[.pointer (some ⟨b1, 0, none⟩), .int .i64 0] w fun e w' => e = .returned (.tuple #[]) ∧ UpdZ w w' b1 (flat [a, b, c, d]) := by
 go_enter Tryd.func123, Tryd.ntmps123
 go_upto_region 1 with (fail)
 have HB1 := h1.lt
 have HGM := hm.lt
 refine wp_gen (fun W => Sto w [(b1, flat [a, b, c, d]), (w.heap.size, flat [0])] W) ((Sto.one h1).new (l := List.replicate 2 0) rfl (by rfl) zeroL rfl) ?_
 intro W0 H0
 obtain ⟨n, hn⟩ : ∃ n, w.heap.size = n := ⟨_, rfl⟩
 rw [hn] at H0 ⊢
 have HN : Hid (w.heap.size = n) := Lib.hid hn
 have HNL : w.heap.size ≤ n := Nat.le_of_eq hn
 clear hn
 have H0 : Sto w [(b1, flat [a, b, c, d]), (n, flat [0])] W0 := H0
 refine wsA (opsAt Tryd.f123 1) ((true, 0) :: (true, 1) :: (true, 2) :: (false, 3) :: []) (fun _ => True) trivial ?_
 refine kp (d := some 5) (v := .pointer (some ⟨b1, 0, none⟩)) ?_
 refine kp (d := some 6) (v := .pointer (some ⟨b1, 0, none⟩)) ?_
 refine kp (d := some 7) (v := .pointer (some ⟨b1, 0, none⟩)) ?_
 refine kd (d := some 8) (f := 142) (args := #[.pointer (some ⟨n, 0, none⟩), .pointer (some ⟨b1, 0, none⟩)]) (sqCopy H0 (i := 1) rfl (k1 := 0) rfl (Nat.lt_of_lt_of_eq (by decide : 0 < 1) rfl) (H0.atz 0 0 rfl rfl rfl) (H0.ne 0 1 _ _ _ _ rfl rfl (by decide))) (fun _ w1 q1 => ⟨.tuple #[], q1.1, trivial, ?_⟩)
 have u1 := q1.2
 clear q1
 have H1 : Sto w [(b1, flat [a, b, c, d]), (n, flat [a])] w1 := u1
 clear u1 H0
 refine k_end ?_
 go_simp
 go_upto_region 2 with (fail)
 refine wrA (opsAt Tryd.f123 2) ((true, 0) :: (true, 1) :: (true, 2) :: (true, 3) :: (true, 4) :: (true, 5) :: (true, 6) :: (false, 7) :: []) (fun _ => True) trivial ?_
 refine kp (d := some 9) (v := .pointer (some ⟨b1, 0, none⟩)) ?_
 refine kp (d := some 10) (v := .pointer (some ⟨b1, 0, none⟩)) ?_
 refine kp (d := some 11) (v := .pointer (some ⟨b1, 0, none⟩)) ?_
 refine kp (d := some 12) (v := .pointer (some ⟨b1, 0, none⟩)) ?_
 refine kp (d := some 13) (v := .pointer (some ⟨b1, 0, none⟩)) ?_
 refine kp (d := some 14) (v := .pointer (some ⟨b1, 32, none⟩)) ?_
 refine kp (d := some 15) (v := .int .i64 0) ?_
 refine kd (d := some 16) (f := 110) (args := #[.pointer (some ⟨b1, 0, none⟩), .pointer (some ⟨b1, 32, none⟩), .int .i64 0]) (sqCmov (v := 0) (.inl rfl) H1.drew (i := 0) rfl (k1 := 0) rfl rfl (H1.drew.atz 0 1 rfl rfl rfl) (.inr (by decide)) (z := a) rfl) (fun _ w2 q2 => ⟨.tuple #[], q2.1, trivial, ?_⟩)
 have u2 := q2.2
 clear q2
 have H2 : Sto w [(b1, flat [a, b, c, d]), (n, flat [a])] w2 := u2
 clear u2 H1
 refine k_end ?_
 go_simp
 go_upto_region 3 with (fail)
 refine wsA (opsAt Tryd.f123 3) ((true, 0) :: (true, 1) :: (true, 2) :: (true, 3) :: (false, 4) :: []) (fun _ => True) trivial ?_
 refine kp (d := some 17) (v := .pointer (some ⟨b1, 0, none⟩)) ?_
 refine kp (d := some 18) (v := .pointer (some ⟨b1, 0, none⟩)) ?_
 refine kp (d := some 19) (v := .pointer (some ⟨b1, 32, none⟩)) ?_
 refine kp (d := some 20) (v := .int .i64 0) ?_
 refine kd (d := some 21) (f := 110) (args := #[.pointer (some ⟨b1, 32, none⟩), .pointer (some ⟨n, 0, none⟩), .int .i64 0]) (sqCmov (v := 0) (.inl rfl) H2 (i := 0) rfl (k1 := 1) rfl rfl (H2.atz 1 0 rfl rfl rfl) (.inl (H2.ne 1 0 _ _ _ _ rfl rfl (by decide))) (z := b) rfl) (fun _ w3 q3 => ⟨.tuple #[], q3.1, trivial, ?_⟩)
 have u3 := q3.2
 clear q3
 have H3 : Sto w [(b1, flat [a, b, c, d]), (n, flat [a])] w3 := u3
 clear u3 H2
 refine k_end ?_
 go_simp
 go_upto_region 4 with (fail)
 refine wsA (opsAt Tryd.f123 4) ((true, 0) :: (true, 1) :: (true, 2) :: (false, 3) :: []) (fun _ => True) trivial ?_
 refine kp (d := some 22) (v := .pointer (some ⟨b1, 0, none⟩)) ?_
 refine kp (d := some 23) (v := .pointer (some ⟨b1, 0, none⟩)) ?_
 refine kp (d := some 24) (v := .pointer (some ⟨b1, 64, none⟩)) ?_
 refine kd (d := some 25) (f := 112) (args := #[.pointer (some ⟨n, 0, none⟩), .pointer (some ⟨b1, 64, none⟩)]) (sqNeg (hm.sto H3 (ksC (Nat.ne_of_gt (Nat.lt_of_lt_of_le (by decide) hg)) (ksC (Nat.ne_of_gt (by omega)) ks0))) (by omega) H3 (i := 1) rfl (k1 := 0) rfl (Nat.lt_of_lt_of_eq (by decide : 0 < 1) rfl) (H3.atz 0 2 rfl rfl rfl) (z := -c) rfl) (fun _ w4 q4 => ⟨.tuple #[], q4.1, trivial, ?_⟩)
 have u4 := q4.2
 clear q4
 have H4 : Sto w [(b1, flat [a, b, c, d]), (n, flat [-c])] w4 := u4
 clear u4 H3
 refine k_end ?_
 go_simp
 go_upto_region 5 with (fail)
 refine wsA (opsAt Tryd.f123 5) ((true, 0) :: (true, 1) :: (true, 2) :: (true, 3) :: (false, 4) :: []) (fun _ => True) trivial ?_
 refine kp (d := some 26) (v := .pointer (some ⟨b1, 0, none⟩)) ?_
 refine kp (d := some 27) (v := .pointer (some ⟨b1, 0, none⟩)) ?_
 refine kp (d := some 28) (v := .pointer (some ⟨b1, 64, none⟩)) ?_
 refine kp (d := some 29) (v := .int .i64 0) ?_
 refine kd (d := some 30) (f := 110) (args := #[.pointer (some ⟨b1, 64, none⟩), .pointer (some ⟨n, 0, none⟩), .int .i64 0]) (sqCmov (v := 0) (.inl rfl) H4 (i := 0) rfl (k1 := 2) rfl rfl (H4.atz 1 0 rfl rfl rfl) (.inl (H4.ne 1 0 _ _ _ _ rfl rfl (by decide))) (z := c) rfl) (fun _ w5 q5 => ⟨.tuple #[], q5.1, trivial, ?_⟩)
 have u5 := q5.2
 clear q5
 have H5 : Sto w [(b1, flat [a, b, c, d]), (n, flat [-c])] w5 := u5
 clear u5 H4
 refine k_end ?_
 go_simp
 have HF := Lib.hid H5
 clear H5
 go_wp2_with fail
 go_end0
 exact ⟨rfl, HF.out.end1 (tsC (by omega) ts0)⟩
set_option maxRecDepth 100000 in
set_option maxHeartbeats 1000000 in
theorem cmov3_1 {a b c d A B D W : Zq} (h1 : FpsZ w b1 (flat [a, b, c, d])) (hA : AtL w b2 o2 [A, B, D, W]) (hne : b2 ≠ b1) :
   Calls Tryd.prog 141 #[.pointer (some ⟨b1, 0, none⟩), .pointer (some ⟨b2, o2, none⟩), .int .i64 1] w fun e w' => e = .returned (.tuple #[]) ∧ UpdZ w w' b1 (flat [A, B, D, d]) := by
 go_enter Tryd.func141, Tryd.ntmps141
 go_upto_region 0 with (fail)
 have H0 : Sto w [(b1, flat [a, b, c, d])] w := (Sto.one h1)
 refine wrA (opsAt Tryd.f141 0) ((true, 0) :: (true, 1) :: (true, 2) :: (true, 3) :: (true, 4) :: (true, 5) :: (true, 6) :: (false, 7) :: []) (fun _ => True) trivial ?_
 refine kp (d := some 6) (v := .pointer (some ⟨b1, 0, none⟩)) ?_
 refine kp (d := some 7) (v := .pointer (some ⟨b1, 0, none⟩)) ?_
 refine kp (d := some 8) (v := .pointer (some ⟨b1, 0, none⟩)) ?_
 refine kp (d := some 9) (v := .pointer (some ⟨b2, o2, none⟩)) ?_
 refine kp (d := some 10) (v := .pointer (some ⟨b2, o2, none⟩)) ?_
 refine kp (d := some 11) (v := .pointer (some ⟨b2, o2, none⟩)) ?_
 refine kp (d := some 12) (v := .int .i64 1) ?_
 refine kd (d := some 13) (f := 110) (args := #[.pointer (some ⟨b1, 0, none⟩), .pointer (some ⟨b2, o2, none⟩), .int .i64 1]) (sqCmov (v := 1) (.inr rfl) H0.drew (i := 0) rfl (k1 := 0) rfl rfl (((hA 0 _ rfl)).sto H0.drew (ksC (Ne.symm hne) ks0)) (.inl hne) (z := A) rfl) (fun _ w1 q1 => ⟨.tuple #[], q1.1, trivial, ?_⟩)
 have u1 := q1.2
 clear q1
 have H1 : Sto w [(b1, flat [A, b, c, d])] w1 := u1
 clear u1 H0
 refine k_end ?_
 go_simp
 go_upto_region 1 with (fail)
 refine wrA (opsAt Tryd.f141 1) ((true, 0) :: (true, 1) :: (true, 2) :: (true, 3) :: (true, 4) :: (true, 5) :: (true, 6) :: (false, 7) :: []) (fun _ => True) trivial ?_
 refine kp (d := some 14) (v := .pointer (some ⟨b1, 0, none⟩)) ?_
 refine kp (d := some 15) (v := .pointer (some ⟨b1, 0, none⟩)) ?_
 refine kp (d := some 16) (v := .pointer (some ⟨b1, 32, none⟩)) ?_
 refine kp (d := some 17) (v := .pointer (some ⟨b2, o2, none⟩)) ?_
 refine kp (d := some 18) (v := .pointer (some ⟨b2, o2, none⟩)) ?_
 refine kp (d := some 19) (v := .pointer (some ⟨b2, o2 + 32, none⟩)) ?_
 refine kp (d := some 20) (v := .int .i64 1) ?_
 refine kd (d := some 21) (f := 110) (args := #[.pointer (some ⟨b1, 32, none⟩), .pointer (some ⟨b2, o2 + 32, none⟩), .int .i64 1]) (sqCmov (v := 1) (.inr rfl) H1.drew (i := 0) rfl (k1 := 1) rfl rfl (((hA 1 _ rfl)).sto H1.drew (ksC (Ne.symm hne) ks0)) (.inl hne) (z := B) rfl) (fun _ w2 q2 => ⟨.tuple #[], q2.1, trivial, ?_⟩)
 have u2 := q2.2
 clear q2
 have H2 : Sto w [(b1, flat [A, B, c, d])] w2 := u2
 clear u2 H1
 refine k_end ?_
 go_simp
 go_upto_region 2 with (fail)
 refine wrA (opsAt Tryd.f141 2) ((true, 0) :: (true, 1) :: (true, 2) :: (true, 3) :: (true, 4) :: (true, 5) :: (true, 6) :: (false, 7) :: []) (fun _ => True) trivial ?_
 refine kp (d := some 22) (v := .pointer (some ⟨b1, 0, none⟩)) ?_
 refine kp (d := some 23) (v := .pointer (some ⟨b1, 0, none⟩)) ?_
 refine kp (d := some 24) (v := .pointer (some ⟨b1, 64, none⟩)) ?_
 refine kp (d := some 25) (v := .pointer (some ⟨b2, o2, none⟩)) ?_
 refine kp (d := some 26) (v := .pointer (some ⟨b2, o2, none⟩)) ?_
 refine kp (d := some 27) (v := .pointer (some ⟨b2, o2 + 64, none⟩)) ?_
 refine kp (d := some 28) (v := .int .i64 1) ?_
 refine kd (d := some 29) (f := 110) (args := #[.pointer (some ⟨b1, 64, none⟩), .pointer (some ⟨b2, o2 + 64, none⟩), .int .i64 1]) (sqCmov (v := 1) (.inr rfl) H2.drew (i := 0) rfl (k1 := 2) rfl rfl (((hA 2 _ rfl)).sto H2.drew (ksC (Ne.symm hne) ks0)) (.inl hne) (z := D) rfl) (fun _ w3 q3 => ⟨.tuple #[], q3.1, trivial, ?_⟩)
 have u3 := q3.2
 clear q3
 have H3 : Sto w [(b1, flat [A, B, D, d])] w3 := u3
 clear u3 H2
 refine k_end ?_
 go_simp
 have HF := Lib.hid H3
 clear H3
 go_wp2_with fail
 go_end0
 exact ⟨rfl, HF.out.end1 ts0⟩
set_option maxRecDepth 100000 in
set_option maxHeartbeats 1000000 in
theorem cmov2_1 {a b c d A B D W : Zq} (h1 : FpsZ w b1 (flat [a, b, c, d])) (hA : AtL w b2 o2 [A, B, D, W]) (hne : b2 ≠ b1) :
   Calls Tryd.prog 122 #[.pointer (some ⟨b1, 0, none⟩), .pointer (some ⟨b2, o2, none⟩), .int .i64 1] w fun e w' => e = .returned (.tuple #[]) ∧ UpdZ w w' b1 (flat [A, B, D, W]) := by
 go_enter Tryd.func122, Tryd.ntmps122
 go_upto_region 0 with (fail)
 have H0 : Sto w [(b1, flat [a, b, c, d])] w := (Sto.one h1)
 refine wrA (opsAt Tryd.f122 0) ((true, 0) :: (true, 1) :: (true, 2) :: (true, 3) :: (true, 4) :: (true, 5) :: (true, 6) :: (false, 7) :: []) (fun _ => True) trivial ?_
 refine kp (d := some 6) (v := .pointer (some ⟨b1, 0, none⟩)) ?_
 refine kp (d := some 7) (v := .pointer (some ⟨b1, 0, none⟩)) ?_
 refine kp (d := some 8) (v := .pointer (some ⟨b1, 0, none⟩)) ?_
 refine kp (d := some 9) (v := .pointer (some ⟨b2, o2, none⟩)) ?_
 refine kp (d := some 10) (v := .pointer (some ⟨b2, o2, none⟩)) ?_
 refine kp (d := some 11) (v := .pointer (some ⟨b2, o2, none⟩)) ?_
 refine kp (d := some 12) (v := .int .i64 1) ?_
 refine kd (d := some 13) (f := 141) (args := #[.pointer (some ⟨b1, 0, none⟩), .pointer (some ⟨b2, o2, none⟩), .int .i64 1]) (up1 H0.drew (i := 0) rfl (cmov3_1 (H0.drew.blk 0 _ _ rfl) (hA.sto H0.drew (ksC (Ne.symm hne) ks0)) hne)) (fun _ w1 q1 => ⟨.tuple #[], q1.1, trivial, ?_⟩)
 have u1 := q1.2
 clear q1
 have H1 : Sto w [(b1, flat [A, B, D, d])] w1 := u1
 clear u1 H0
 refine k_end ?_
 go_simp
 go_upto_region 1 with (fail)
 refine wrA (opsAt Tryd.f122 1) ((true, 0) :: (true, 1) :: (true, 2) :: (true, 3) :: (true, 4) :: (true, 5) :: (true, 6) :: (false, 7) :: []) (fun _ => True) trivial ?_
 refine kp (d := some 14) (v := .pointer (some ⟨b1, 0, none⟩)) ?_
 refine kp (d := some 15) (v := .pointer (some ⟨b1, 0, none⟩)) ?_
 refine kp (d := some 16) (v := .pointer (some ⟨b1, 96, none⟩)) ?_
 refine kp (d := some 17) (v := .pointer (some ⟨b2, o2, none⟩)) ?_
 refine kp (d := some 18) (v := .pointer (some ⟨b2, o2, none⟩)) ?_
 refine kp (d := some 19) (v := .pointer (some ⟨b2, o2 + 96, none⟩)) ?_
 refine kp (d := some 20) (v := .int .i64 1) ?_
 refine kd (d := some 21) (f := 110) (args := #[.pointer (some ⟨b1, 96, none⟩), .pointer (some ⟨b2, o2 + 96, none⟩), .int .i64 1]) (sqCmov (v := 1) (.inr rfl) H1.drew (i := 0) rfl (k1 := 3) rfl rfl (((hA 3 _ rfl)).sto H1.drew (ksC (Ne.symm hne) ks0)) (.inl hne) (z := W) rfl) (fun _ w2 q2 => ⟨.tuple #[], q2.1, trivial, ?_⟩)
 have u2 := q2.2
 clear q2
 have H2 : Sto w [(b1, flat [A, B, D, W])] w2 := u2
 clear u2 H1
 refine k_end ?_
 go_simp
 have HF := Lib.hid H2
 clear H2
 go_wp2_with fail
 go_end0
 exact ⟨rfl, HF.out.end1 ts0⟩
set_option maxRecDepth 100000 in
set_option maxHeartbeats 1000000 in
theorem cneg_1 {a b c d : Zq} (hm : ModW w) (hg : 5 ≤ b1) (h1 : FpsZ w b1 (flat [a, b, c, d])) :
   Calls Tryd.prog 123 #[.pointer (some ⟨b1, 0, none⟩), .int .i64 1] w fun e w' => e = .returned (.tuple #[]) ∧ UpdZ w w' b1 (flat [b, a, -c, d]) := by
 go_enter Tryd.func123, Tryd.ntmps123
 go_upto_region 1 with (fail)
 have HB1 := h1.lt
 have HGM := hm.lt
 refine wp_gen (fun W => Sto w [(b1, flat [a, b, c, d]), (w.heap.size, flat [0])] W) ((Sto.one h1).new (l := List.replicate 2 0) rfl (by rfl) zeroL rfl) ?_
 intro W0 H0
 obtain ⟨n, hn⟩ : ∃ n, w.heap.size = n := ⟨_, rfl⟩
 rw [hn] at H0 ⊢
 have HN : Hid (w.heap.size = n) := Lib.hid hn
 have HNL : w.heap.size ≤ n := Nat.le_of_eq hn
 clear hn
 have H0 : Sto w [(b1, flat [a, b, c, d]), (n, flat [0])] W0 := H0
 refine wsA (opsAt Tryd.f123 1) ((true, 0) :: (true, 1) :: (true, 2) :: (false, 3) :: []) (fun _ => True) trivial ?_
 refine kp (d := some 5) (v := .pointer (some ⟨b1, 0, none⟩)) ?_
 refine kp (d := some 6) (v := .pointer (some ⟨b1, 0, none⟩)) ?_
 refine kp (d := some 7) (v := .pointer (some ⟨b1, 0, none⟩)) ?_
 refine kd (d := some 8) (f := 142) (args := #[.pointer (some ⟨n, 0, none⟩), .pointer (some ⟨b1, 0, none⟩)]) (sqCopy H0 (i := 1) rfl (k1 := 0) rfl (Nat.lt_of_lt_of_eq (by decide : 0 < 1) rfl) (H0.atz 0 0 rfl rfl rfl) (H0.ne 0 1 _ _ _ _ rfl rfl (by decide))) (fun _ w1 q1 => ⟨.tuple #[], q1.1, trivial, ?_⟩)
 have u1 := q1.2
 clear q1
 have H1 : Sto w [(b1, flat [a, b, c, d]), (n, flat [a])] w1 := u1
 clear u1 H0
 refine k_end ?_
 go_simp
 go_upto_region 2 with (fail)
 refine wrA (opsAt Tryd.f123 2) ((true, 0) :: (true, 1) :: (true, 2) :: (true, 3) :: (true, 4) :: (true, 5) :: (true, 6) :: (false, 7) :: []) (fun _ => True) trivial ?_
 refine kp (d := some 9) (v := .pointer (some ⟨b1, 0, none⟩)) ?_
 refine kp (d := some 10) (v := .pointer (some ⟨b1, 0, none⟩)) ?_
 refine kp (d := some 11) (v := .pointer (some ⟨b1, 0, none⟩)) ?_
 refine kp (d := some 12) (v := .pointer (some ⟨b1, 0, none⟩)) ?_
 refine kp (d := some 13) (v := .pointer (some ⟨b1, 0, none⟩)) ?_
 refine kp (d := some 14) (v := .pointer (some ⟨b1, 32, none⟩)) ?_
 refine kp (d := some 15) (v := .int .i64 1) ?_
 refine kd (d := some 16) (f := 110) (args := #[.pointer (some ⟨b1, 0, none⟩), .pointer (some ⟨b1, 32, none⟩), .int .i64 1]) (sqCmov (v := 1) (.inr rfl) H1.drew (i := 0) rfl (k1 := 0) rfl rfl (H1.drew.atz 0 1 rfl rfl rfl) (.inr (by decide)) (z := b) rfl) (fun _ w2 q2 => ⟨.tuple #[], q2.1, trivial, ?_⟩)
 have u2 := q2.2
 clear q2
 have H2 : Sto w [(b1, flat [b, b, c, d]), (n, flat [a])] w2 := u2
 clear u2 H1
 refine k_end ?_
 go_simp
 go_upto_region 3 with (fail)
 refine wsA (opsAt Tryd.f123 3) ((true, 0) :: (true, 1) :: (true, 2) :: (true, 3) :: (false, 4) :: []) (fun _ => True) trivial ?_
 refine kp (d := some 17) (v := .pointer (some ⟨b1, 0, none⟩)) ?_
 refine kp (d := some 18) (v := .pointer (some ⟨b1, 0, none⟩)) ?_
 refine kp (d := some 19) (v := .pointer (some ⟨b1, 32, none⟩)) ?_
 refine kp (d := some 20) (v := .int .i64 1) ?_
 refine kd (d := some 21) (f := 110) (args := #[.pointer (some ⟨b1, 32, none⟩), .pointer (some ⟨n, 0, none⟩), .int .i64 1]) (sqCmov (v := 1) (.inr rfl) H2 (i := 0) rfl (k1 := 1) rfl rfl (H2.atz 1 0 rfl rfl rfl) (.inl (H2.ne 1 0 _ _ _ _ rfl rfl (by decide))) (z := a) rfl) (fun _ w3 q3 => ⟨.tuple #[], q3.1, trivial, ?_⟩)
 have u3 := q3.2
 clear q3
 have H3 : Sto w [(b1, flat [b, a, c, d]), (n, flat [a])] w3 := u3
 clear u3 H2
 refine k_end ?_
 go_simp
 go_upto_region 4 with (fail)
 refine wsA (opsAt Tryd.f123 4) ((true, 0) :: (true, 1) :: (true, 2) :: (false, 3) :: []) (fun _ => True) trivial ?_
 refine kp (d := some 22) (v := .pointer (some ⟨b1, 0, none⟩)) ?_
 refine kp (d := some 23) (v := .pointer (some ⟨b1, 0, none⟩)) ?_
 refine kp (d := some 24) (v := .pointer (some ⟨b1, 64, none⟩)) ?_
 refine kd (d := some 25) (f := 112) (args := #[.pointer (some ⟨n, 0, none⟩), .pointer (some ⟨b1, 64, none⟩)]) (sqNeg (hm.sto H3 (ksC (Nat.ne_of_gt (Nat.lt_of_lt_of_le (by decide) hg)) (ksC (Nat.ne_of_gt (by omega)) ks0))) (by omega) H3 (i := 1) rfl (k1 := 0) rfl (Nat.lt_of_lt_of_eq (by decide : 0 < 1) rfl) (H3.atz 0 2 rfl rfl rfl) (z := -c) rfl) (fun _ w4 q4 => ⟨.tuple #[], q4.1, trivial, ?_⟩)
 have u4 := q4.2
 clear q4
 have H4 : Sto w [(b1, flat [b, a, c, d]), (n, flat [-c])] w4 := u4
 clear u4 H3
 refine k_end ?_
 go_simp
 go_upto_region 5 with (fail)
 refine wsA (opsAt Tryd.f123 5) ((true, 0) :: (true, 1) :: (true, 2) :: (true, 3) :: (false, 4) :: []) (fun _ => True) trivial ?_
 refine kp (d := some 26) (v := .pointer (some ⟨b1, 0, none⟩)) ?_
 refine kp (d := some 27) (v := .pointer (some ⟨b1, 0, none⟩)) ?_
 refine kp (d := some 28) (v := .pointer (some ⟨b1, 64, none⟩)) ?_
 refine kp (d := some 29) (v := .int .i64 1) ?_
 refine kd (d := some 30) (f := 110) (args := #[.pointer (some ⟨b1, 64, none⟩), .pointer (some ⟨n, 0, none⟩), .int .i64 1]) (sqCmov (v := 1) (.inr rfl) H4 (i := 0) rfl (k1 := 2) rfl rfl (H4.atz 1 0 rfl rfl rfl) (.inl (H4.ne 1 0 _ _ _ _ rfl rfl (by decide))) (z := -c) rfl) (fun _ w5 q5 => ⟨.tuple #[], q5.1, trivial, ?_⟩)
 have u5 := q5.2
 clear q5
 have H5 : Sto w [(b1, flat [b, a, -c, d]), (n, flat [-c])] w5 := u5
 clear u5 H4
 refine k_end ?_
 go_simp
 have HF := Lib.hid H5
 clear H5
 go_wp2_with fail
 go_end0
 exact ⟨rfl, HF.out.end1 (tsC (by omega) ts0)⟩
theorem upG {P : Program} {f : FuncId} {args : Array Value} {v : Value} {w wr : World} {s : List (Nat × List Zp)} {i b : Nat} {l : List Zp} {φ : Zq → Zq → Zq → Zq → Prop} {G : Zq → Zq → Zq → Zq → List Zp} (h : Sto w s wr) (hi : s[i]? = some (b, l)) (C : Calls P f args wr fun e w' => e = .returned v ∧ ∃ A B D W, φ A B D W ∧ UpdZ wr w' b (G A B D W)) :
   Calls P f args wr fun e w' => e = .returned v ∧ ∃ A B D W, φ A B D W ∧ Sto w (s.set i (b, G A B D W)) w' := C.mono fun _ _ q => ⟨q.1, by obtain ⟨A, B, D, W, hL, u⟩ := q.2; exact ⟨A, B, D, W, hL, h.upd hi u⟩⟩
theorem AtL.lt5 {w : World} {b o : Nat} {L : List Zq} {p : Pt} (h : AtL w b o L) (hp : R1L p L) : b < w.heap.size := by obtain ⟨X, Y, Z, Ta, Tb, rfl, _⟩ := hp; exact h.lt
set_option maxRecDepth 100000 in
set_option maxHeartbeats 1000000 in
theorem oddMul {L M : List Zq} (hg : 5 ≤ b1) (hd : AtZ w 0 0 dd) (h1 : FpsZ w b1 (flat M)) (hM : M.length = 32) (hA : AtL w b2 0 L) (hp : R1L p L) (hne : b2 ≠ b1) :
   Calls Tryd.prog 120 #[.pointer (some ⟨b2, 0, none⟩), .pointer (some ⟨b1, 0, none⟩)] w fun e w' => e = .returned (.tuple #[]) ∧ ∃ M', TabOk p 8 M' ∧ UpdZ w w' b1 (flat M') := by
 go_enter Tryd.func120, Tryd.ntmps120
 go_upto_region 2 with (fail)
 have HB1 := h1.lt
 have HG0 := hd.q.fst.lt
 have HB2 := AtL.lt5 hA hp
 refine wp_gen (fun W => Sto w [(b1, flat M), (w.heap.size, flat [0, 0, 0, 0, 0]), (w.heap.size + 1, flat [0, 0, 0, 0, 0]), (w.heap.size + 1 + 1, flat [0, 0, 0, 0])] W) ((((Sto.one h1).new (l := List.replicate 10 0) rfl (by rfl) zeroL rfl).new (l := List.replicate 10 0) (by simp) (by rfl) zeroL rfl).new (l := List.replicate 8 0) (by simp) (by rfl) zeroL rfl) ?_
 intro W0 H0
 obtain ⟨n, hn⟩ : ∃ n, w.heap.size = n := ⟨_, rfl⟩
 rw [hn] at H0 ⊢
 have HN : Hid (w.heap.size = n) := Lib.hid hn
 have HNL : w.heap.size ≤ n := Nat.le_of_eq hn
 clear hn
 have H0 : Sto w [(b1, flat M), (n, flat [0, 0, 0, 0, 0]), (n + 1, flat [0, 0, 0, 0, 0]), (n + 1 + 1, flat [0, 0, 0, 0])] W0 := H0
 refine wsA (opsAt Tryd.f120 2) ((true, 0) :: (false, 1) :: []) (fun _ => True) trivial ?_
 refine kp (d := some 8) (v := .pointer (some ⟨b2, 0, none⟩)) ?_
 refine kd (d := some 9) (f := 137) (args := #[.pointer (some ⟨n, 0, none⟩), .pointer (some ⟨b2, 0, none⟩)]) (upE H0 (i := 1) rfl (ptCopy (H0.blk 1 _ _ rfl) rfl ((hA).sto H0 (ksC (Ne.symm hne) (ksC (by omega) (ksC (by omega) (ksC (by omega) ks0))))) hp (Ne.symm (by omega)))) (fun _ w1 q1 => ⟨.tuple #[], q1.1, trivial, ?_⟩)
 obtain ⟨L1, hL1, u1⟩ := q1.2
 clear q1
 have H1 : Sto w [(b1, flat M), (n, flat L1), (n + 1, flat [0, 0, 0, 0, 0]), (n + 1 + 1, flat [0, 0, 0, 0])] w1 := u1
 clear u1 H0
 refine k_end ?_
 go_simp
 go_upto_region 3 with (fail)
 refine wsA (opsAt Tryd.f120 3) ((false, 0) :: []) (fun _ => True) trivial ?_
 refine kd (d := some 10) (f := 119) (args := #[.pointer (some ⟨n, 0, none⟩)]) (upE H1 (i := 1) rfl (ptDouble (H1.blk 1 _ _ rfl) hL1)) (fun _ w2 q2 => ⟨.tuple #[], q2.1, trivial, ?_⟩)
 obtain ⟨L2, hL2, u2⟩ := q2.2
 clear q2
 have H2 : Sto w [(b1, flat M), (n, flat L2), (n + 1, flat [0, 0, 0, 0, 0]), (n + 1 + 1, flat [0, 0, 0, 0])] w2 := u2
 clear u2 H1
 refine k_end ?_
 go_simp
 go_upto_region 4 with (fail)
 refine wsA (opsAt Tryd.f120 4) ((false, 0) :: []) (fun _ => True) trivial ?_
 refine kd (d := some 11) (f := 80) (args := #[.pointer (some ⟨n + 1 + 1, 0, none⟩), .pointer (some ⟨n, 0, none⟩)]) (upE H2 (i := 3) rfl (ptTo2 (by omega) (hd.sto H2 (ksC (Nat.ne_of_gt (Nat.lt_of_lt_of_le (by decide) hg)) (ksC (by omega) (ksC (by omega) (ksC (by omega) ks0))))) (H2.blk 3 _ _ rfl) rfl (H2.blk 1 _ _ rfl).atL hL2 (H2.ne 1 3 _ _ _ _ rfl rfl (by decide)))) (fun _ w3 q3 => ⟨.tuple #[], q3.1, trivial, ?_⟩)
 obtain ⟨L3, hL3, u3⟩ := q3.2
 clear q3
 have H3 : Sto w [(b1, flat M), (n, flat L2), (n + 1, flat [0, 0, 0, 0, 0]), (n + 1 + 1, flat L3)] w3 := u3
 clear u3 H2
 refine k_end ?_
 go_simp
 go_upto_region 5 with (fail)
 refine wsA (opsAt Tryd.f120 5) ((true, 0) :: (false, 1) :: []) (fun _ => True) trivial ?_
 refine kp (d := some 12) (v := .pointer (some ⟨b2, 0, none⟩)) ?_
 refine kd (d := some 13) (f := 137) (args := #[.pointer (some ⟨n + 1, 0, none⟩), .pointer (some ⟨b2, 0, none⟩)]) (upE H3 (i := 2) rfl (ptCopy (H3.blk 2 _ _ rfl) rfl ((hA).sto H3 (ksC (Ne.symm hne) (ksC (by omega) (ksC (by omega) (ksC (by omega) ks0))))) hp (Ne.symm (by omega)))) (fun _ w4 q4 => ⟨.tuple #[], q4.1, trivial, ?_⟩)
 obtain ⟨L4, hL4, u4⟩ := q4.2
 clear q4
 have H4 : Sto w [(b1, flat M), (n, flat L2), (n + 1, flat L4), (n + 1 + 1, flat L3)] w4 := u4
 clear u4 H3
 refine k_end ?_
 go_simp
 go_upto_region 6 with (fail)
 refine wsA (opsAt Tryd.f120 6) ((true, 0) :: (true, 1) :: (true, 2) :: (true, 3) :: (false, 4) :: []) (fun _ => True) trivial ?_
 refine kp (d := some 14) (v := .pointer (some ⟨b1, 0, none⟩)) ?_
 refine kp (d := some 15) (v := .pointer (some ⟨b1, 0, none⟩)) ?_
 refine kp (d := some 16) (v := .pointer (some ⟨b1, 0, none⟩)) ?_
 refine kp (d := some 17) (v := .pointer (some ⟨b2, 0, none⟩)) ?_
 refine kd (d := some 18) (f := 80) (args := #[.pointer (some ⟨b1, 0, none⟩), .pointer (some ⟨b2, 0, none⟩)]) (upG H4 (i := 0) rfl (ptTo2g (k1 := 4 * 0) hg (hd.sto H4 (ksC (Nat.ne_of_gt (Nat.lt_of_lt_of_le (by decide) hg)) (ksC (by omega) (ksC (by omega) (ksC (by omega) ks0))))) (H4.blk 0 _ _ rfl) rfl (by rw [hM]; decide) ((hA).sto H4 (ksC (Ne.symm hne) (ksC (by omega) (ksC (by omega) (ksC (by omega) ks0))))) hp (Ne.symm (Ne.symm hne)))) (fun _ w5 q5 => ⟨.tuple #[], q5.1, trivial, ?_⟩)
 obtain ⟨A5, B5, D5, W5, hr5, u5⟩ := q5.2
 clear q5
 have hM5 := (TabOk.next (m := 0) (q := p) ⟨hM, fun j hj => absurd hj (Nat.not_lt_zero j)⟩ (by decide) (by rw [show 2 * 0 + 1 = 1 from rfl, mul_one_pt]; exact hr5))
 have H5 : Sto w [(b1, flat (set4 M (4 * 0) A5 B5 D5 W5)), (n, flat L2), (n + 1, flat L4), (n + 1 + 1, flat L3)] w5 := u5
 clear u5 H4
 refine k_end ?_
 go_simp
 have J : Hid (∃ M LR, TabOk p 1 M ∧ R1L (Pt.mul (2 * 1 - 1) p) LR ∧ Sto w [(b1, flat M), (n, flat L2), (n + 1, flat LR), (n + 1 + 1, flat L3)] w5) := Lib.hid ⟨_, _, hM5, (by rw [show 2 * 1 - 1 = 1 from rfl, mul_one_pt]; exact hL4), H5⟩
 have HP2 := Lib.hid hL3
 clear H5
 go_wp2_with fail
 go_loopw [7] (fun iv wr => ∃ i : Nat, 1 ≤ i ∧ i ≤ 8 ∧ iv = .int .i64 i ∧ Hid (∃ M LR, TabOk p i M ∧ R1L (Pt.mul (2 * i - 1) p) LR ∧ Sto w [(b1, flat M), (n, flat L2), (n + 1, flat LR), (n + 1 + 1, flat L3)] wr)) (fun i _ => 8 - (intOf i).toNat)
 case atStart => exact ⟨1, by decide, by decide, rfl, J.out⟩
 case round =>
   clear J
   obtain ⟨i, h1i, hi8, rfl, hJ⟩ := hrel
   by_cases hlt : i < 8
   · obtain ⟨M', LR, hT, hR, hS⟩ := hJ.out
     clear hJ
     have HS := Lib.hid hS; have HT := Lib.hid hT; have HR := Lib.hid hR
     clear hS hT hR
     have hiI : (i : Int) < 8 := by omega
     have LT := Lib.hid hlt; have L1 := Lib.hid h1i
     go_wp2_with fail
     refine (upE HS.out (i := 2) rfl (ptAdd (HS.out.blk 2 _ _ rfl) HR.out (HS.out.blk 3 _ _ rfl).atL HP2.out (HS.out.ne 3 2 _ _ _ _ rfl rfl (by decide)))).mono ?_
     rintro e w' ⟨rfl, LR2, hR2, hS2⟩
     have HS2 := Lib.hid hS2
     have HR2 := Lib.hid (show R1L (Pt.mul (2 * i + 1) p) LR2 by
       have e : Pt.mul (2 * i - 1) p + (p + p) = Pt.mul (2 * i + 1) p := by
         have h := LT.out; have h' := L1.out
         rw [show 2 * i + 1 = 2 * i - 1 + 2 by omega, mul_add_pt, ← two_pt]
       rw [← e]; exact hR2)
     clear HS HR hR2 hS2
     go_wp2_with fail
     refine (upG HS2.out (i := 0) rfl (ptTo2g (k1 := 4 * i) hg (hd.sto HS2.out (ksC (Nat.ne_of_gt (Nat.lt_of_lt_of_le (by decide) hg)) (ksC (by omega) (ksC (by omega) (ksC (by omega) ks0))))) (HS2.out.blk 0 _ _ rfl) (by omega) (by have h := LT.out; rw [HT.out.1]; omega) (HS2.out.blk 2 _ _ rfl).atL HR2.out (HS2.out.ne 2 0 _ _ _ _ rfl rfl (by decide)))).mono ?_
     rintro e w2 ⟨rfl, A, B, D, W, hr, hS3⟩
     have HJ := Lib.hid (show Hid (∃ M LR, TabOk p (i + 1) M ∧ R1L (Pt.mul (2 * (i + 1) - 1) p) LR ∧ Sto w [(b1, flat M), (n, flat L2), (n + 1, flat LR), (n + 1 + 1, flat L3)] w2) from Lib.hid ⟨_, LR2, HT.out.next LT.out hr, (by rw [show 2 * (i + 1) - 1 = 2 * i + 1 by omega]; exact HR2.out), hS3⟩)
     clear hr hS3 HS2 HR2
     go_wp2_with fail
     exact ⟨⟨i + 1, by omega, by have h := LT.out; omega, by go_num, HJ.out⟩, by have h := LT.out; simp [intOf]; omega⟩
   · obtain ⟨M', LR, hT, hR, hS⟩ := hJ.out
     have hi : i = 8 := by omega
     subst hi
     have HT := Lib.hid hT
     have HF := Lib.hid (hS.end1 (tsC (by omega) (tsC (by omega) (tsC (by omega) ts0))))
     clear hJ hT hR hS
     go_wp2_with fail
     go_end0
     exact ⟨rfl, M', HT.out, HF.out⟩
end
end Go.Proofs.YtfkfljohhabldaaDoor
