/- A word turned; the constants. No condition. -/
import Derived.Test.YtkmofjefjbhbhaaDoorW32
import Derived.Test.YtkmofjefjbhbhaaDoorRows
namespace Go.Sl
open Go.RowKit Go.FourQ Go.Sha
theorem rot_and : ∀ n : Nat, n < 32 → 1 ≤ n → bits .and .u64 (IntKind.u64.wrap (-(n : Int))) 31 = ((32 - n : Nat) : Int) := by decide +kernel
theorem wv_all (l : List Int) : ((wv l).toArray).all (·.oneCell') = true := by
  rw [← Array.all_toList]
  simp [wv, Value.oneCell']
end Go.Sl
namespace Go.Proofs.YtkmofjefjbhbhaaDoor
open Go.RowKit Go.FourQ Go.Sha Go.Sl

set_option maxRecDepth 100000 in
set_option maxHeartbeats 1000000 in
theorem turned_c {w : World} {x : Int} {n : Nat} (hn : n ≤ 32) :
    Calls Tryd.prog 24 #[.int .u32 x, .int .i64 (n : Int)] w fun e w' => e = .returned (.int .u32 (ror x n)) ∧ Below w.heap.size w w' := by
  have hi : (n : Int) ≤ 32 := by omega
  go_enter Tryd.func24, Tryd.ntmps24
  go_upto_region 1 with (fail)
  have H0 : Mm w [] w := (Mm.zero w)
  refine wp_region_atS (opsAt Tryd.f24 1) ((true, 0) :: (true, 1) :: (true, 2) :: (true, 3) :: (true, 4) :: (true, 5) :: (true, 6) :: (true, 7) :: (true, 8) :: []) (fun W => Mm w [] W) (by kernel_rfl) rfl (by kernel_rfl) (fun _ _ d _ _ h => by cases d <;> exact h) (by kernel_rfl) (by kernel_rfl) (H0.drew) ?_
  have H1d := H0.drew
  clear H0
  refine k_pure (by kernel_rfl) (d := (some 5)) (by kernel_rfl) (v := .int .u32 x) (fun _ => by kernel_rfl) ?_
  refine k_pure (by kernel_rfl) (d := (some 6)) (by kernel_rfl) (v := .int .i64 ((n : Nat) : Int)) (fun _ => by kernel_rfl) ?_
  refine k_pure (by kernel_rfl) (d := (some 7)) (by kernel_rfl) (v := .int .u32 (wR x n)) (fun _ => run_binOpV (op := .shr) (x := (.tmp 5)) (y := (.tmp 6)) (t := 40) (t' := 3) (u := .int .u32 x) (v := .int .i64 ((n : Nat) : Int)) (by kernel_rfl) (by kernel_rfl) (by kernel_rfl) rfl (shrU (n := n) (by first | rfl | omega) (by first | decide | (show _ ≤ 32; omega)))) ?_
  refine k_pure (by kernel_rfl) (d := (some 8)) (by kernel_rfl) (v := .int .u32 x) (fun _ => by kernel_rfl) ?_
  refine k_pure (by kernel_rfl) (d := (some 9)) (by kernel_rfl) (v := .int .i64 ((n : Nat) : Int)) (fun _ => by kernel_rfl) ?_
  refine k_pure (by kernel_rfl) (d := (some 10)) (by kernel_rfl) (v := .int .i64 (((32 - n) : Nat) : Int)) (fun _ => run_binOpV (op := .sub) (x := (.const (.int .i64 32))) (y := (.tmp 9)) (t := 3) (t' := 3) (u := .int .i64 32) (v := .int .i64 ((n : Nat) : Int)) (by kernel_rfl) (by kernel_rfl) (by kernel_rfl) rfl (subI (by omega) (by omega))) ?_
  refine k_pure (by kernel_rfl) (d := (some 11)) (by kernel_rfl) (v := .int .u32 (wL x ((32 - n)))) (fun _ => run_binOpV (op := .shl) (x := (.tmp 8)) (y := (.tmp 10)) (t := 40) (t' := 3) (u := .int .u32 x) (v := .int .i64 (((32 - n) : Nat) : Int)) (by kernel_rfl) (by kernel_rfl) (by kernel_rfl) rfl (shlU (n := (32 - n)) (by first | rfl | omega) (by first | decide | (show _ ≤ 32; omega)))) ?_
  refine k_pure (by kernel_rfl) (d := (some 12)) (by kernel_rfl) (v := .int .u32 (wO (wR x n) (wL x ((32 - n))))) (fun _ => by kernel_rfl) ?_
  refine k_pure (by kernel_rfl) (d := (some 4)) (by kernel_rfl) (v := .int .u32 (wO (wR x n) (wL x ((32 - n))))) (fun _ => by kernel_rfl) ?_
  refine k_end ?_
  go_simp
  have HF := Lib.hid (H1d.below bs0)
  clear H1d
  go_wp2_with fail
  exact bodyPost_ret_by (by kernel_rfl) (by kernel_rfl) ⟨rfl, HF.out⟩

set_option maxRecDepth 100000 in
set_option maxHeartbeats 1000000 in
theorem rot_c {w : World} {x : Int} {n : Nat} (hn : n < 32) (h1 : 1 ≤ n) :
    Calls Tryd.prog 26 #[.int .u32 x, .int .i64 (-(n : Int))] w fun e w' => e = .returned (.int .u32 (ror x n)) ∧ Below w.heap.size w w' := by
  go_enter Tryd.func26, Tryd.ntmps26
  go_upto_region 1 with (fail)
  have H0 : Mm w [] w := (Mm.zero w)
  refine wp_seq_atS (opsAt Tryd.f26 1) ((true, 0) :: (true, 1) :: (true, 2) :: (true, 3) :: []) (fun _ => True) (by kernel_rfl) (by kernel_rfl) trivial ?_
  refine k_pure (by kernel_rfl) (d := (some 6)) (by kernel_rfl) (v := .int .i64 (-(n : Int))) (fun _ => by kernel_rfl) ?_
  refine k_pure (by kernel_rfl) (d := (some 7)) (by kernel_rfl) (v := .int .u64 (IntKind.u64.wrap (-(n : Int)))) (fun _ => run_convOpE (x := .tmp 6) (s := 3) (d := 52) (u := .int .i64 (-(n : Int))) (v := .int .u64 (IntKind.u64.wrap (-(n : Int)))) (by kernel_rfl) (by kernel_rfl) (by kernel_rfl) rfl) ?_
  refine k_pure (by kernel_rfl) (d := (some 8)) (by kernel_rfl) (v := .int .u64 ((32 - n : Nat) : Int)) (fun _ => run_binOpV (op := .and) (x := .tmp 7) (y := .const (.int .u64 31)) (t := 52) (t' := 52) (u := .int .u64 (IntKind.u64.wrap (-(n : Int)))) (v := .int .u64 31) (by kernel_rfl) (by kernel_rfl) (by kernel_rfl) rfl (by rw [binOp_and, intBits_and, rot_and n (by omega) h1]; rfl)) ?_
  refine k_pure (by kernel_rfl) (d := (some 5)) (by kernel_rfl) (v := .int .u64 ((32 - n : Nat) : Int)) (fun _ => by kernel_rfl) ?_
  refine k_end ?_
  go_simp
  go_upto_region 2 with (fail)
  refine wp_seq_atS (opsAt Tryd.f26 2) ((true, 0) :: (true, 1) :: (true, 2) :: (true, 3) :: (true, 4) :: (true, 5) :: (true, 6) :: (true, 7) :: (true, 8) :: []) (fun _ => True) (by kernel_rfl) (by kernel_rfl) trivial ?_
  refine k_pure (by kernel_rfl) (d := (some 9)) (by kernel_rfl) (v := .int .u32 x) (fun _ => by kernel_rfl) ?_
  refine k_pure (by kernel_rfl) (d := (some 10)) (by kernel_rfl) (v := .int .u64 ((32 - n : Nat) : Int)) (fun _ => by kernel_rfl) ?_
  refine k_pure (by kernel_rfl) (d := (some 11)) (by kernel_rfl) (v := .int .u32 (wL x (32 - n))) (fun _ => run_binOpV (op := .shl) (x := .tmp 9) (y := .tmp 10) (t := 40) (t' := 52) (u := .int .u32 x) (v := .int .u64 ((32 - n : Nat) : Int)) (by kernel_rfl) (by kernel_rfl) (by kernel_rfl) rfl (shlU (n := 32 - n) rfl (show 32 - n ≤ 32 by omega))) ?_
  refine k_pure (by kernel_rfl) (d := (some 12)) (by kernel_rfl) (v := .int .u32 x) (fun _ => by kernel_rfl) ?_
  refine k_pure (by kernel_rfl) (d := (some 13)) (by kernel_rfl) (v := .int .u64 ((32 - n : Nat) : Int)) (fun _ => by kernel_rfl) ?_
  refine k_pure (by kernel_rfl) (d := (some 14)) (by kernel_rfl) (v := .int .u64 (n : Int)) (fun _ => run_binOpV (op := .sub) (x := .const (.int .u64 32)) (y := .tmp 13) (t := 52) (t' := 52) (u := .int .u64 32) (v := .int .u64 ((32 - n : Nat) : Int)) (by kernel_rfl) (by kernel_rfl) (by kernel_rfl) rfl (by rw [binOp_sub]; show Result.ok (Value.int .u64 (IntKind.u64.wrap _)) _ = _; rw [IntKind.wrap_u64]; congr 2; omega)) ?_
  refine k_pure (by kernel_rfl) (d := (some 15)) (by kernel_rfl) (v := .int .u32 (wR x n)) (fun _ => run_binOpV (op := .shr) (x := .tmp 12) (y := .tmp 14) (t := 40) (t' := 52) (u := .int .u32 x) (v := .int .u64 (n : Int)) (by kernel_rfl) (by kernel_rfl) (by kernel_rfl) rfl (shrU (n := n) rfl (show n ≤ 32 by omega))) ?_
  refine k_pure (by kernel_rfl) (d := (some 16)) (by kernel_rfl) (v := .int .u32 (ror x n)) (fun _ => run_binOpV (op := .or) (x := .tmp 11) (y := .tmp 15) (t := 40) (t' := 40) (u := .int .u32 (wL x (32 - n))) (v := .int .u32 (wR x n)) (by kernel_rfl) (by kernel_rfl) (by kernel_rfl) rfl (by unfold ror; rw [wO_comm]; rfl)) ?_
  refine k_pure (by kernel_rfl) (d := (some 4)) (by kernel_rfl) (v := .int .u32 (ror x n)) (fun _ => by kernel_rfl) ?_
  refine k_end ?_
  go_simp
  have HF := Lib.hid (H0.below bs0)
  clear H0
  go_wp2_with fail
  exact bodyPost_ret_by (by kernel_rfl) (by kernel_rfl) ⟨rfl, HF.out⟩

set_option maxRecDepth 100000 in
set_option maxHeartbeats 1000000 in
theorem constants_c {w : World} :
    Calls Tryd.prog 25 #[] w fun e w' => e = .returned (.agg (wv kc).toArray) ∧ Below w.heap.size w w' := by
  go_enter Tryd.func25, Tryd.ntmps25
  go_upto_region 1 with (fail)
  refine wp_gen (fun WW => Mm w [(w.heap.size, wv (List.replicate 64 0))] WW) ((Mm.zero w).new (L := wv (List.replicate 64 0)) rfl (by kernel_rfl)) ?_
  intro W0 H0
  refine wp_seq_atS (opsAt Tryd.f25 1) ((true, 0) :: (false, 1) :: []) (fun _ => True) (by kernel_rfl) (by kernel_rfl) trivial ?_
  refine k_pure (by kernel_rfl) (d := (some 1)) (by kernel_rfl) (v := .agg (wv kc).toArray) (fun _ => by kernel_rfl) ?_
  obtain ⟨T1, hT1⟩ := H0.at 0 rfl
  have H1 : Mm w [(w.heap.size, wv kc)] (W0.setRow w.heap.size (wv kc).toArray) := H0.row 0 rfl (wv kc)
  refine k_put (by kernel_rfl) (d := none) (by kernel_rfl) (ty := 56) (x := (.tmp 0)) (y := (.tmp 1)) (by kernel_rfl) (g := w.heap.size) (cells := (wv kc).toArray) (by kernel_rfl) (by kernel_rfl) hT1 (by kernel_rfl) (by kernel_rfl) (wv_all _) trivial ?_
  intro w1 hw1 _
  rw [← hw1] at H1
  clear hw1 hT1 H0
  refine k_end ?_
  go_simp
  obtain ⟨T, hT⟩ := H1.at 0 rfl
  have HF := Lib.hid (H1.below (bsC (Nat.le_refl _) bs0))
  clear H1
  go_wp2_with fail
  exact bodyPost_ret_by (results_cell_row rfl _ _ (w.heap.size) _ (wv kc).toArray _ _ rfl hT Tryd.underlying56 rfl (by kernel_rfl)) rfl ⟨rfl, HF.out⟩
end Go.Proofs.YtkmofjefjbhbhaaDoor
