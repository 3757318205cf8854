/- The reference's SHA-256, whole; the sizes of a hash. -/
import Derived.Test.YtkmofjefjbhbhaaDoorHb
namespace Go.Proofs.YtkmofjefjbhbhaaDoor
open Go.RowKit Go.FourQ Go.Sha Go.Sl

set_option maxRecDepth 100000 in
set_option maxHeartbeats 1000000 in
theorem sizes_c {w : World} {kI sI bI : Int} (hk : kI ≠ 1) :
    Calls Tryd.prog 15 #[.agg #[.int .i64 kI, .int .i64 sI, .int .i64 bI]] w fun e w' => ∃ B : Int, e = .returned (.tuple #[.int .i64 ((szO sI bI : Nat) : Int), .int .i64 B]) ∧ Below w.heap.size w w' := by
  have HK := Lib.hid hk; clear hk
  by_cases hall : sI < 1 ∨ 16 < sI ∨ bI < sI ∨ 32 < bI
  · have hone := szO_one hall
    rw [hone]
    clear hone
    by_cases h0 : sI < 1
    · skip
      go_enter Tryd.func15, Tryd.ntmps15
      go_upto_region 1 with (fail)
      refine wp_gen (fun WW => Mm w [(w.heap.size, [.int .i64 kI, .int .i64 sI, .int .i64 bI])] WW) ((Mm.zero w).new (L := [.int .i64 kI, .int .i64 sI, .int .i64 bI]) rfl (by kernel_rfl)) ?_
      intro W0 H0
      refine wp_seq_atS (opsAt Tryd.f15 1) ((true, 0) :: (false, 1) :: (true, 2) :: []) (fun _ => True) (by kernel_rfl) (by kernel_rfl) trivial ?_
      refine k_pure (by kernel_rfl) (d := (some 4)) (by kernel_rfl) (v := .pointer (some ⟨w.heap.size, 0, none⟩)) (fun _ => by kernel_rfl) ?_
      refine k_make (by kernel_rfl) (d := (some 5)) (by kernel_rfl) (v := .int .i64 kI) (run_loadA (ty := 3) (x := (.tmp 4)) (a := ⟨w.heap.size, 0, none⟩) (by kernel_rfl) (by kernel_rfl) Tryd.underlying3 rfl ((H0.at 0 rfl).cell rfl)) trivial ?_
      intro w2 hw2 _
      replace hw2 := hw2.symm
      subst hw2
      refine k_pure (by kernel_rfl) (d := (some 6)) (by kernel_rfl) (v := .bool false) (fun _ => run_binOpV (op := .eql) (x := .tmp 5) (y := .const (.int .i64 1)) (t := 3) (t' := 3) (u := .int .i64 kI) (v := .int .i64 1) (by kernel_rfl) (by kernel_rfl) (by kernel_rfl) rfl (eqlF (HK.out))) ?_
      refine k_end ?_
      go_simp
      go_upto_region 3 with (fail)
      refine wp_seq_atS (opsAt Tryd.f15 3) ((true, 0) :: (false, 1) :: (true, 2) :: (true, 3) :: (true, 4) :: (false, 5) :: (true, 6) :: (true, 7) :: (true, 8) :: (true, 9) :: (false, 10) :: (true, 11) :: (false, 12) :: (true, 13) :: (true, 14) :: (true, 15) :: (true, 16) :: (false, 17) :: (true, 18) :: (true, 19) :: []) (fun _ => True) (by kernel_rfl) (by kernel_rfl) trivial ?_
      refine k_pure (by kernel_rfl) (d := (some 7)) (by kernel_rfl) (v := .pointer (some ⟨w.heap.size, 1, none⟩)) (fun _ => by kernel_rfl) ?_
      refine k_make (by kernel_rfl) (d := (some 8)) (by kernel_rfl) (v := .int .i64 sI) (run_loadA (ty := 3) (x := (.tmp 7)) (a := ⟨w.heap.size, 1, none⟩) (by kernel_rfl) (by kernel_rfl) Tryd.underlying3 rfl ((H0.at 0 rfl).cell rfl)) trivial ?_
      intro w4 hw4 _
      replace hw4 := hw4.symm
      subst hw4
      refine k_pure (by kernel_rfl) (d := (some 9)) (by kernel_rfl) (v := .bool true) (fun _ => run_binOpV (op := .lss) (x := .tmp 8) (y := .const (.int .i64 1)) (t := 3) (t' := 3) (u := .int .i64 sI) (v := .int .i64 1) (by kernel_rfl) (by kernel_rfl) (by kernel_rfl) rfl (lssT (by omega))) ?_
      refine k_pure (by kernel_rfl) (d := (some 10)) (by kernel_rfl) (v := .bool true) (fun _ => by kernel_rfl) ?_
      refine k_skip (by kernel_rfl) (d := (some 11)) (by kernel_rfl) ?_
      refine k_skip' trivial (by kernel_rfl) (d := (some 12)) (by kernel_rfl) ?_
      refine k_skip (by kernel_rfl) (d := (some 13)) (by kernel_rfl) ?_
      refine k_pure (by kernel_rfl) (d := (some 14)) (by kernel_rfl) (v := .bool true) (fun _ => by kernel_rfl) ?_
      refine k_pure (by kernel_rfl) (d := (some 15)) (by kernel_rfl) (v := .bool true) (fun _ => by kernel_rfl) ?_
      refine k_skip (by kernel_rfl) (d := (some 16)) (by kernel_rfl) ?_
      refine k_skip' trivial (by kernel_rfl) (d := (some 17)) (by kernel_rfl) ?_
      refine k_skip (by kernel_rfl) (d := (some 18)) (by kernel_rfl) ?_
      refine k_skip' trivial (by kernel_rfl) (d := (some 19)) (by kernel_rfl) ?_
      refine k_skip (by kernel_rfl) (d := (some 20)) (by kernel_rfl) ?_
      refine k_pure (by kernel_rfl) (d := (some 21)) (by kernel_rfl) (v := .bool true) (fun _ => by kernel_rfl) ?_
      refine k_pure (by kernel_rfl) (d := (some 22)) (by kernel_rfl) (v := .bool true) (fun _ => by kernel_rfl) ?_
      refine k_skip (by kernel_rfl) (d := (some 23)) (by kernel_rfl) ?_
      refine k_skip' trivial (by kernel_rfl) (d := (some 24)) (by kernel_rfl) ?_
      refine k_skip (by kernel_rfl) (d := (some 25)) (by kernel_rfl) ?_
      refine k_pure (by kernel_rfl) (d := (some 26)) (by kernel_rfl) (v := .bool true) (fun _ => by kernel_rfl) ?_
      refine k_end ?_
      go_simp
      go_upto_region 4 with (fail)
      refine wp_seq_atS (opsAt Tryd.f15 4) ((true, 0) :: (true, 1) :: []) (fun _ => True) (by kernel_rfl) (by kernel_rfl) trivial ?_
      refine k_pure (by kernel_rfl) (d := (some 2)) (by kernel_rfl) (v := .int .i64 1) (fun _ => by kernel_rfl) ?_
      refine k_pure (by kernel_rfl) (d := (some 3)) (by kernel_rfl) (v := .int .i64 16) (fun _ => by kernel_rfl) ?_
      refine k_end ?_
      go_simp
      have HF := Lib.hid (H0.below (bsC (Nat.le_refl _) bs0))
      clear H0
      go_wp2_with fail
      exact bodyPost_ret_by (by kernel_rfl) (by kernel_rfl) ⟨16, rfl, HF.out⟩
    have g0 : 1 ≤ sI := by omega
    clear h0
    by_cases h1 : 16 < sI
    · skip
      go_enter Tryd.func15, Tryd.ntmps15
      go_upto_region 1 with (fail)
      refine wp_gen (fun WW => Mm w [(w.heap.size, [.int .i64 kI, .int .i64 sI, .int .i64 bI])] WW) ((Mm.zero w).new (L := [.int .i64 kI, .int .i64 sI, .int .i64 bI]) rfl (by kernel_rfl)) ?_
      intro W0 H0
      refine wp_seq_atS (opsAt Tryd.f15 1) ((true, 0) :: (false, 1) :: (true, 2) :: []) (fun _ => True) (by kernel_rfl) (by kernel_rfl) trivial ?_
      refine k_pure (by kernel_rfl) (d := (some 4)) (by kernel_rfl) (v := .pointer (some ⟨w.heap.size, 0, none⟩)) (fun _ => by kernel_rfl) ?_
      refine k_make (by kernel_rfl) (d := (some 5)) (by kernel_rfl) (v := .int .i64 kI) (run_loadA (ty := 3) (x := (.tmp 4)) (a := ⟨w.heap.size, 0, none⟩) (by kernel_rfl) (by kernel_rfl) Tryd.underlying3 rfl ((H0.at 0 rfl).cell rfl)) trivial ?_
      intro w14 hw14 _
      replace hw14 := hw14.symm
      subst hw14
      refine k_pure (by kernel_rfl) (d := (some 6)) (by kernel_rfl) (v := .bool false) (fun _ => run_binOpV (op := .eql) (x := .tmp 5) (y := .const (.int .i64 1)) (t := 3) (t' := 3) (u := .int .i64 kI) (v := .int .i64 1) (by kernel_rfl) (by kernel_rfl) (by kernel_rfl) rfl (eqlF (HK.out))) ?_
      refine k_end ?_
      go_simp
      go_upto_region 3 with (fail)
      refine wp_seq_atS (opsAt Tryd.f15 3) ((true, 0) :: (false, 1) :: (true, 2) :: (true, 3) :: (true, 4) :: (false, 5) :: (true, 6) :: (true, 7) :: (true, 8) :: (true, 9) :: (false, 10) :: (true, 11) :: (false, 12) :: (true, 13) :: (true, 14) :: (true, 15) :: (true, 16) :: (false, 17) :: (true, 18) :: (true, 19) :: []) (fun _ => True) (by kernel_rfl) (by kernel_rfl) trivial ?_
      refine k_pure (by kernel_rfl) (d := (some 7)) (by kernel_rfl) (v := .pointer (some ⟨w.heap.size, 1, none⟩)) (fun _ => by kernel_rfl) ?_
      refine k_make (by kernel_rfl) (d := (some 8)) (by kernel_rfl) (v := .int .i64 sI) (run_loadA (ty := 3) (x := (.tmp 7)) (a := ⟨w.heap.size, 1, none⟩) (by kernel_rfl) (by kernel_rfl) Tryd.underlying3 rfl ((H0.at 0 rfl).cell rfl)) trivial ?_
      intro w16 hw16 _
      replace hw16 := hw16.symm
      subst hw16
      refine k_pure (by kernel_rfl) (d := (some 9)) (by kernel_rfl) (v := .bool false) (fun _ => run_binOpV (op := .lss) (x := .tmp 8) (y := .const (.int .i64 1)) (t := 3) (t' := 3) (u := .int .i64 sI) (v := .int .i64 1) (by kernel_rfl) (by kernel_rfl) (by kernel_rfl) rfl (lssF (by omega))) ?_
      refine k_pure (by kernel_rfl) (d := (some 10)) (by kernel_rfl) (v := .bool false) (fun _ => by kernel_rfl) ?_
      refine k_pure (by kernel_rfl) (d := (some 11)) (by kernel_rfl) (v := .pointer (some ⟨w.heap.size, 1, none⟩)) (fun _ => by kernel_rfl) ?_
      refine k_make (by kernel_rfl) (d := (some 12)) (by kernel_rfl) (v := .int .i64 sI) (run_loadA (ty := 3) (x := (.tmp 11)) (a := ⟨w.heap.size, 1, none⟩) (by kernel_rfl) (by kernel_rfl) Tryd.underlying3 rfl ((H0.at 0 rfl).cell rfl)) trivial ?_
      intro w19 hw19 _
      replace hw19 := hw19.symm
      subst hw19
      refine k_pure (by kernel_rfl) (d := (some 13)) (by kernel_rfl) (v := .bool true) (fun _ => run_binOpV (op := .gtr) (x := .tmp 12) (y := .const (.int .i64 16)) (t := 3) (t' := 3) (u := .int .i64 sI) (v := .int .i64 16) (by kernel_rfl) (by kernel_rfl) (by kernel_rfl) rfl (gtrT (by omega))) ?_
      refine k_pure (by kernel_rfl) (d := (some 14)) (by kernel_rfl) (v := .bool true) (fun _ => by kernel_rfl) ?_
      refine k_pure (by kernel_rfl) (d := (some 15)) (by kernel_rfl) (v := .bool true) (fun _ => by kernel_rfl) ?_
      refine k_skip (by kernel_rfl) (d := (some 16)) (by kernel_rfl) ?_
      refine k_skip' trivial (by kernel_rfl) (d := (some 17)) (by kernel_rfl) ?_
      refine k_skip (by kernel_rfl) (d := (some 18)) (by kernel_rfl) ?_
      refine k_skip' trivial (by kernel_rfl) (d := (some 19)) (by kernel_rfl) ?_
      refine k_skip (by kernel_rfl) (d := (some 20)) (by kernel_rfl) ?_
      refine k_pure (by kernel_rfl) (d := (some 21)) (by kernel_rfl) (v := .bool true) (fun _ => by kernel_rfl) ?_
      refine k_pure (by kernel_rfl) (d := (some 22)) (by kernel_rfl) (v := .bool true) (fun _ => by kernel_rfl) ?_
      refine k_skip (by kernel_rfl) (d := (some 23)) (by kernel_rfl) ?_
      refine k_skip' trivial (by kernel_rfl) (d := (some 24)) (by kernel_rfl) ?_
      refine k_skip (by kernel_rfl) (d := (some 25)) (by kernel_rfl) ?_
      refine k_pure (by kernel_rfl) (d := (some 26)) (by kernel_rfl) (v := .bool true) (fun _ => by kernel_rfl) ?_
      refine k_end ?_
      go_simp
      go_upto_region 4 with (fail)
      refine wp_seq_atS (opsAt Tryd.f15 4) ((true, 0) :: (true, 1) :: []) (fun _ => True) (by kernel_rfl) (by kernel_rfl) trivial ?_
      refine k_pure (by kernel_rfl) (d := (some 2)) (by kernel_rfl) (v := .int .i64 1) (fun _ => by kernel_rfl) ?_
      refine k_pure (by kernel_rfl) (d := (some 3)) (by kernel_rfl) (v := .int .i64 16) (fun _ => by kernel_rfl) ?_
      refine k_end ?_
      go_simp
      have HF := Lib.hid (H0.below (bsC (Nat.le_refl _) bs0))
      clear H0
      go_wp2_with fail
      exact bodyPost_ret_by (by kernel_rfl) (by kernel_rfl) ⟨16, rfl, HF.out⟩
    have g1 : sI ≤ 16 := by omega
    clear h1
    by_cases h2 : bI < sI
    · skip
      go_enter Tryd.func15, Tryd.ntmps15
      go_upto_region 1 with (fail)
      refine wp_gen (fun WW => Mm w [(w.heap.size, [.int .i64 kI, .int .i64 sI, .int .i64 bI])] WW) ((Mm.zero w).new (L := [.int .i64 kI, .int .i64 sI, .int .i64 bI]) rfl (by kernel_rfl)) ?_
      intro W0 H0
      refine wp_seq_atS (opsAt Tryd.f15 1) ((true, 0) :: (false, 1) :: (true, 2) :: []) (fun _ => True) (by kernel_rfl) (by kernel_rfl) trivial ?_
      refine k_pure (by kernel_rfl) (d := (some 4)) (by kernel_rfl) (v := .pointer (some ⟨w.heap.size, 0, none⟩)) (fun _ => by kernel_rfl) ?_
      refine k_make (by kernel_rfl) (d := (some 5)) (by kernel_rfl) (v := .int .i64 kI) (run_loadA (ty := 3) (x := (.tmp 4)) (a := ⟨w.heap.size, 0, none⟩) (by kernel_rfl) (by kernel_rfl) Tryd.underlying3 rfl ((H0.at 0 rfl).cell rfl)) trivial ?_
      intro w28 hw28 _
      replace hw28 := hw28.symm
      subst hw28
      refine k_pure (by kernel_rfl) (d := (some 6)) (by kernel_rfl) (v := .bool false) (fun _ => run_binOpV (op := .eql) (x := .tmp 5) (y := .const (.int .i64 1)) (t := 3) (t' := 3) (u := .int .i64 kI) (v := .int .i64 1) (by kernel_rfl) (by kernel_rfl) (by kernel_rfl) rfl (eqlF (HK.out))) ?_
      refine k_end ?_
      go_simp
      go_upto_region 3 with (fail)
      refine wp_seq_atS (opsAt Tryd.f15 3) ((true, 0) :: (false, 1) :: (true, 2) :: (true, 3) :: (true, 4) :: (false, 5) :: (true, 6) :: (true, 7) :: (true, 8) :: (true, 9) :: (false, 10) :: (true, 11) :: (false, 12) :: (true, 13) :: (true, 14) :: (true, 15) :: (true, 16) :: (false, 17) :: (true, 18) :: (true, 19) :: []) (fun _ => True) (by kernel_rfl) (by kernel_rfl) trivial ?_
      refine k_pure (by kernel_rfl) (d := (some 7)) (by kernel_rfl) (v := .pointer (some ⟨w.heap.size, 1, none⟩)) (fun _ => by kernel_rfl) ?_
      refine k_make (by kernel_rfl) (d := (some 8)) (by kernel_rfl) (v := .int .i64 sI) (run_loadA (ty := 3) (x := (.tmp 7)) (a := ⟨w.heap.size, 1, none⟩) (by kernel_rfl) (by kernel_rfl) Tryd.underlying3 rfl ((H0.at 0 rfl).cell rfl)) trivial ?_
      intro w30 hw30 _
      replace hw30 := hw30.symm
      subst hw30
      refine k_pure (by kernel_rfl) (d := (some 9)) (by kernel_rfl) (v := .bool false) (fun _ => run_binOpV (op := .lss) (x := .tmp 8) (y := .const (.int .i64 1)) (t := 3) (t' := 3) (u := .int .i64 sI) (v := .int .i64 1) (by kernel_rfl) (by kernel_rfl) (by kernel_rfl) rfl (lssF (by omega))) ?_
      refine k_pure (by kernel_rfl) (d := (some 10)) (by kernel_rfl) (v := .bool false) (fun _ => by kernel_rfl) ?_
      refine k_pure (by kernel_rfl) (d := (some 11)) (by kernel_rfl) (v := .pointer (some ⟨w.heap.size, 1, none⟩)) (fun _ => by kernel_rfl) ?_
      refine k_make (by kernel_rfl) (d := (some 12)) (by kernel_rfl) (v := .int .i64 sI) (run_loadA (ty := 3) (x := (.tmp 11)) (a := ⟨w.heap.size, 1, none⟩) (by kernel_rfl) (by kernel_rfl) Tryd.underlying3 rfl ((H0.at 0 rfl).cell rfl)) trivial ?_
      intro w33 hw33 _
      replace hw33 := hw33.symm
      subst hw33
      refine k_pure (by kernel_rfl) (d := (some 13)) (by kernel_rfl) (v := .bool false) (fun _ => run_binOpV (op := .gtr) (x := .tmp 12) (y := .const (.int .i64 16)) (t := 3) (t' := 3) (u := .int .i64 sI) (v := .int .i64 16) (by kernel_rfl) (by kernel_rfl) (by kernel_rfl) rfl (gtrF (by omega))) ?_
      refine k_pure (by kernel_rfl) (d := (some 14)) (by kernel_rfl) (v := .bool false) (fun _ => by kernel_rfl) ?_
      refine k_pure (by kernel_rfl) (d := (some 15)) (by kernel_rfl) (v := .bool false) (fun _ => by kernel_rfl) ?_
      refine k_pure (by kernel_rfl) (d := (some 16)) (by kernel_rfl) (v := .pointer (some ⟨w.heap.size, 2, none⟩)) (fun _ => by kernel_rfl) ?_
      refine k_make (by kernel_rfl) (d := (some 17)) (by kernel_rfl) (v := .int .i64 bI) (run_loadA (ty := 3) (x := (.tmp 16)) (a := ⟨w.heap.size, 2, none⟩) (by kernel_rfl) (by kernel_rfl) Tryd.underlying3 rfl ((H0.at 0 rfl).cell rfl)) trivial ?_
      intro w37 hw37 _
      replace hw37 := hw37.symm
      subst hw37
      refine k_pure (by kernel_rfl) (d := (some 18)) (by kernel_rfl) (v := .pointer (some ⟨w.heap.size, 1, none⟩)) (fun _ => by kernel_rfl) ?_
      refine k_make (by kernel_rfl) (d := (some 19)) (by kernel_rfl) (v := .int .i64 sI) (run_loadA (ty := 3) (x := (.tmp 18)) (a := ⟨w.heap.size, 1, none⟩) (by kernel_rfl) (by kernel_rfl) Tryd.underlying3 rfl ((H0.at 0 rfl).cell rfl)) trivial ?_
      intro w39 hw39 _
      replace hw39 := hw39.symm
      subst hw39
      refine k_pure (by kernel_rfl) (d := (some 20)) (by kernel_rfl) (v := .bool true) (fun _ => run_binOpV (op := .lss) (x := .tmp 17) (y := .tmp 19) (t := 3) (t' := 3) (u := .int .i64 bI) (v := .int .i64 sI) (by kernel_rfl) (by kernel_rfl) (by kernel_rfl) rfl (lssT (by omega))) ?_
      refine k_pure (by kernel_rfl) (d := (some 21)) (by kernel_rfl) (v := .bool true) (fun _ => by kernel_rfl) ?_
      refine k_pure (by kernel_rfl) (d := (some 22)) (by kernel_rfl) (v := .bool true) (fun _ => by kernel_rfl) ?_
      refine k_skip (by kernel_rfl) (d := (some 23)) (by kernel_rfl) ?_
      refine k_skip' trivial (by kernel_rfl) (d := (some 24)) (by kernel_rfl) ?_
      refine k_skip (by kernel_rfl) (d := (some 25)) (by kernel_rfl) ?_
      refine k_pure (by kernel_rfl) (d := (some 26)) (by kernel_rfl) (v := .bool true) (fun _ => by kernel_rfl) ?_
      refine k_end ?_
      go_simp
      go_upto_region 4 with (fail)
      refine wp_seq_atS (opsAt Tryd.f15 4) ((true, 0) :: (true, 1) :: []) (fun _ => True) (by kernel_rfl) (by kernel_rfl) trivial ?_
      refine k_pure (by kernel_rfl) (d := (some 2)) (by kernel_rfl) (v := .int .i64 1) (fun _ => by kernel_rfl) ?_
      refine k_pure (by kernel_rfl) (d := (some 3)) (by kernel_rfl) (v := .int .i64 16) (fun _ => by kernel_rfl) ?_
      refine k_end ?_
      go_simp
      have HF := Lib.hid (H0.below (bsC (Nat.le_refl _) bs0))
      clear H0
      go_wp2_with fail
      exact bodyPost_ret_by (by kernel_rfl) (by kernel_rfl) ⟨16, rfl, HF.out⟩
    have g2 : sI ≤ bI := by omega
    clear h2
    have h3 : 32 < bI := by omega
    go_enter Tryd.func15, Tryd.ntmps15
    go_upto_region 1 with (fail)
    refine wp_gen (fun WW => Mm w [(w.heap.size, [.int .i64 kI, .int .i64 sI, .int .i64 bI])] WW) ((Mm.zero w).new (L := [.int .i64 kI, .int .i64 sI, .int .i64 bI]) rfl (by kernel_rfl)) ?_
    intro W0 H0
    refine wp_seq_atS (opsAt Tryd.f15 1) ((true, 0) :: (false, 1) :: (true, 2) :: []) (fun _ => True) (by kernel_rfl) (by kernel_rfl) trivial ?_
    refine k_pure (by kernel_rfl) (d := (some 4)) (by kernel_rfl) (v := .pointer (some ⟨w.heap.size, 0, none⟩)) (fun _ => by kernel_rfl) ?_
    refine k_make (by kernel_rfl) (d := (some 5)) (by kernel_rfl) (v := .int .i64 kI) (run_loadA (ty := 3) (x := (.tmp 4)) (a := ⟨w.heap.size, 0, none⟩) (by kernel_rfl) (by kernel_rfl) Tryd.underlying3 rfl ((H0.at 0 rfl).cell rfl)) trivial ?_
    intro w46 hw46 _
    replace hw46 := hw46.symm
    subst hw46
    refine k_pure (by kernel_rfl) (d := (some 6)) (by kernel_rfl) (v := .bool false) (fun _ => run_binOpV (op := .eql) (x := .tmp 5) (y := .const (.int .i64 1)) (t := 3) (t' := 3) (u := .int .i64 kI) (v := .int .i64 1) (by kernel_rfl) (by kernel_rfl) (by kernel_rfl) rfl (eqlF (HK.out))) ?_
    refine k_end ?_
    go_simp
    go_upto_region 3 with (fail)
    refine wp_seq_atS (opsAt Tryd.f15 3) ((true, 0) :: (false, 1) :: (true, 2) :: (true, 3) :: (true, 4) :: (false, 5) :: (true, 6) :: (true, 7) :: (true, 8) :: (true, 9) :: (false, 10) :: (true, 11) :: (false, 12) :: (true, 13) :: (true, 14) :: (true, 15) :: (true, 16) :: (false, 17) :: (true, 18) :: (true, 19) :: []) (fun _ => True) (by kernel_rfl) (by kernel_rfl) trivial ?_
    refine k_pure (by kernel_rfl) (d := (some 7)) (by kernel_rfl) (v := .pointer (some ⟨w.heap.size, 1, none⟩)) (fun _ => by kernel_rfl) ?_
    refine k_make (by kernel_rfl) (d := (some 8)) (by kernel_rfl) (v := .int .i64 sI) (run_loadA (ty := 3) (x := (.tmp 7)) (a := ⟨w.heap.size, 1, none⟩) (by kernel_rfl) (by kernel_rfl) Tryd.underlying3 rfl ((H0.at 0 rfl).cell rfl)) trivial ?_
    intro w48 hw48 _
    replace hw48 := hw48.symm
    subst hw48
    refine k_pure (by kernel_rfl) (d := (some 9)) (by kernel_rfl) (v := .bool false) (fun _ => run_binOpV (op := .lss) (x := .tmp 8) (y := .const (.int .i64 1)) (t := 3) (t' := 3) (u := .int .i64 sI) (v := .int .i64 1) (by kernel_rfl) (by kernel_rfl) (by kernel_rfl) rfl (lssF (by omega))) ?_
    refine k_pure (by kernel_rfl) (d := (some 10)) (by kernel_rfl) (v := .bool false) (fun _ => by kernel_rfl) ?_
    refine k_pure (by kernel_rfl) (d := (some 11)) (by kernel_rfl) (v := .pointer (some ⟨w.heap.size, 1, none⟩)) (fun _ => by kernel_rfl) ?_
    refine k_make (by kernel_rfl) (d := (some 12)) (by kernel_rfl) (v := .int .i64 sI) (run_loadA (ty := 3) (x := (.tmp 11)) (a := ⟨w.heap.size, 1, none⟩) (by kernel_rfl) (by kernel_rfl) Tryd.underlying3 rfl ((H0.at 0 rfl).cell rfl)) trivial ?_
    intro w51 hw51 _
    replace hw51 := hw51.symm
    subst hw51
    refine k_pure (by kernel_rfl) (d := (some 13)) (by kernel_rfl) (v := .bool false) (fun _ => run_binOpV (op := .gtr) (x := .tmp 12) (y := .const (.int .i64 16)) (t := 3) (t' := 3) (u := .int .i64 sI) (v := .int .i64 16) (by kernel_rfl) (by kernel_rfl) (by kernel_rfl) rfl (gtrF (by omega))) ?_
    refine k_pure (by kernel_rfl) (d := (some 14)) (by kernel_rfl) (v := .bool false) (fun _ => by kernel_rfl) ?_
    refine k_pure (by kernel_rfl) (d := (some 15)) (by kernel_rfl) (v := .bool false) (fun _ => by kernel_rfl) ?_
    refine k_pure (by kernel_rfl) (d := (some 16)) (by kernel_rfl) (v := .pointer (some ⟨w.heap.size, 2, none⟩)) (fun _ => by kernel_rfl) ?_
    refine k_make (by kernel_rfl) (d := (some 17)) (by kernel_rfl) (v := .int .i64 bI) (run_loadA (ty := 3) (x := (.tmp 16)) (a := ⟨w.heap.size, 2, none⟩) (by kernel_rfl) (by kernel_rfl) Tryd.underlying3 rfl ((H0.at 0 rfl).cell rfl)) trivial ?_
    intro w55 hw55 _
    replace hw55 := hw55.symm
    subst hw55
    refine k_pure (by kernel_rfl) (d := (some 18)) (by kernel_rfl) (v := .pointer (some ⟨w.heap.size, 1, none⟩)) (fun _ => by kernel_rfl) ?_
    refine k_make (by kernel_rfl) (d := (some 19)) (by kernel_rfl) (v := .int .i64 sI) (run_loadA (ty := 3) (x := (.tmp 18)) (a := ⟨w.heap.size, 1, none⟩) (by kernel_rfl) (by kernel_rfl) Tryd.underlying3 rfl ((H0.at 0 rfl).cell rfl)) trivial ?_
    intro w57 hw57 _
    replace hw57 := hw57.symm
    subst hw57
    refine k_pure (by kernel_rfl) (d := (some 20)) (by kernel_rfl) (v := .bool false) (fun _ => run_binOpV (op := .lss) (x := .tmp 17) (y := .tmp 19) (t := 3) (t' := 3) (u := .int .i64 bI) (v := .int .i64 sI) (by kernel_rfl) (by kernel_rfl) (by kernel_rfl) rfl (lssF (by omega))) ?_
    refine k_pure (by kernel_rfl) (d := (some 21)) (by kernel_rfl) (v := .bool false) (fun _ => by kernel_rfl) ?_
    refine k_pure (by kernel_rfl) (d := (some 22)) (by kernel_rfl) (v := .bool false) (fun _ => by kernel_rfl) ?_
    refine k_pure (by kernel_rfl) (d := (some 23)) (by kernel_rfl) (v := .pointer (some ⟨w.heap.size, 2, none⟩)) (fun _ => by kernel_rfl) ?_
    refine k_make (by kernel_rfl) (d := (some 24)) (by kernel_rfl) (v := .int .i64 bI) (run_loadA (ty := 3) (x := (.tmp 23)) (a := ⟨w.heap.size, 2, none⟩) (by kernel_rfl) (by kernel_rfl) Tryd.underlying3 rfl ((H0.at 0 rfl).cell rfl)) trivial ?_
    intro w61 hw61 _
    replace hw61 := hw61.symm
    subst hw61
    refine k_pure (by kernel_rfl) (d := (some 25)) (by kernel_rfl) (v := .bool true) (fun _ => run_binOpV (op := .gtr) (x := .tmp 24) (y := .const (.int .i64 32)) (t := 3) (t' := 3) (u := .int .i64 bI) (v := .int .i64 32) (by kernel_rfl) (by kernel_rfl) (by kernel_rfl) rfl (gtrT (by omega))) ?_
    refine k_pure (by kernel_rfl) (d := (some 26)) (by kernel_rfl) (v := .bool true) (fun _ => by kernel_rfl) ?_
    refine k_end ?_
    go_simp
    go_upto_region 4 with (fail)
    refine wp_seq_atS (opsAt Tryd.f15 4) ((true, 0) :: (true, 1) :: []) (fun _ => True) (by kernel_rfl) (by kernel_rfl) trivial ?_
    refine k_pure (by kernel_rfl) (d := (some 2)) (by kernel_rfl) (v := .int .i64 1) (fun _ => by kernel_rfl) ?_
    refine k_pure (by kernel_rfl) (d := (some 3)) (by kernel_rfl) (v := .int .i64 16) (fun _ => by kernel_rfl) ?_
    refine k_end ?_
    go_simp
    have HF := Lib.hid (H0.below (bsC (Nat.le_refl _) bs0))
    clear H0
    go_wp2_with fail
    exact bodyPost_ret_by (by kernel_rfl) (by kernel_rfl) ⟨16, rfl, HF.out⟩
  · obtain ⟨m, hm⟩ : ∃ m : Nat, sI = (m : Int) := ⟨sI.toNat, by omega⟩
    subst hm
    have hsz := szO_s hall
    have hsm : szO (m : Int) bI = m := by omega
    rw [hsm]
    clear hsm hsz
    have g0 : (1 : Int) ≤ (m : Int) := by omega
    have g1 : (m : Int) ≤ 16 := by omega
    have g2 : (m : Int) ≤ bI := by omega
    have g3 : bI ≤ 32 := by omega
    clear hall
    go_enter Tryd.func15, Tryd.ntmps15
    go_upto_region 1 with (fail)
    refine wp_gen (fun WW => Mm w [(w.heap.size, [.int .i64 kI, .int .i64 ((m : Nat) : Int), .int .i64 bI])] WW) ((Mm.zero w).new (L := [.int .i64 kI, .int .i64 ((m : Nat) : Int), .int .i64 bI]) rfl (by kernel_rfl)) ?_
    intro W0 H0
    refine wp_seq_atS (opsAt Tryd.f15 1) ((true, 0) :: (false, 1) :: (true, 2) :: []) (fun _ => True) (by kernel_rfl) (by kernel_rfl) trivial ?_
    refine k_pure (by kernel_rfl) (d := (some 4)) (by kernel_rfl) (v := .pointer (some ⟨w.heap.size, 0, none⟩)) (fun _ => by kernel_rfl) ?_
    refine k_make (by kernel_rfl) (d := (some 5)) (by kernel_rfl) (v := .int .i64 kI) (run_loadA (ty := 3) (x := (.tmp 4)) (a := ⟨w.heap.size, 0, none⟩) (by kernel_rfl) (by kernel_rfl) Tryd.underlying3 rfl ((H0.at 0 rfl).cell rfl)) trivial ?_
    intro w66 hw66 _
    replace hw66 := hw66.symm
    subst hw66
    refine k_pure (by kernel_rfl) (d := (some 6)) (by kernel_rfl) (v := .bool false) (fun _ => run_binOpV (op := .eql) (x := .tmp 5) (y := .const (.int .i64 1)) (t := 3) (t' := 3) (u := .int .i64 kI) (v := .int .i64 1) (by kernel_rfl) (by kernel_rfl) (by kernel_rfl) rfl (eqlF (HK.out))) ?_
    refine k_end ?_
    go_simp
    go_upto_region 3 with (fail)
    refine wp_seq_atS (opsAt Tryd.f15 3) ((true, 0) :: (false, 1) :: (true, 2) :: (true, 3) :: (true, 4) :: (false, 5) :: (true, 6) :: (true, 7) :: (true, 8) :: (true, 9) :: (false, 10) :: (true, 11) :: (false, 12) :: (true, 13) :: (true, 14) :: (true, 15) :: (true, 16) :: (false, 17) :: (true, 18) :: (true, 19) :: []) (fun _ => True) (by kernel_rfl) (by kernel_rfl) trivial ?_
    refine k_pure (by kernel_rfl) (d := (some 7)) (by kernel_rfl) (v := .pointer (some ⟨w.heap.size, 1, none⟩)) (fun _ => by kernel_rfl) ?_
    refine k_make (by kernel_rfl) (d := (some 8)) (by kernel_rfl) (v := .int .i64 ((m : Nat) : Int)) (run_loadA (ty := 3) (x := (.tmp 7)) (a := ⟨w.heap.size, 1, none⟩) (by kernel_rfl) (by kernel_rfl) Tryd.underlying3 rfl ((H0.at 0 rfl).cell rfl)) trivial ?_
    intro w68 hw68 _
    replace hw68 := hw68.symm
    subst hw68
    refine k_pure (by kernel_rfl) (d := (some 9)) (by kernel_rfl) (v := .bool false) (fun _ => run_binOpV (op := .lss) (x := .tmp 8) (y := .const (.int .i64 1)) (t := 3) (t' := 3) (u := .int .i64 ((m : Nat) : Int)) (v := .int .i64 1) (by kernel_rfl) (by kernel_rfl) (by kernel_rfl) rfl (lssF (by omega))) ?_
    refine k_pure (by kernel_rfl) (d := (some 10)) (by kernel_rfl) (v := .bool false) (fun _ => by kernel_rfl) ?_
    refine k_pure (by kernel_rfl) (d := (some 11)) (by kernel_rfl) (v := .pointer (some ⟨w.heap.size, 1, none⟩)) (fun _ => by kernel_rfl) ?_
    refine k_make (by kernel_rfl) (d := (some 12)) (by kernel_rfl) (v := .int .i64 ((m : Nat) : Int)) (run_loadA (ty := 3) (x := (.tmp 11)) (a := ⟨w.heap.size, 1, none⟩) (by kernel_rfl) (by kernel_rfl) Tryd.underlying3 rfl ((H0.at 0 rfl).cell rfl)) trivial ?_
    intro w71 hw71 _
    replace hw71 := hw71.symm
    subst hw71
    refine k_pure (by kernel_rfl) (d := (some 13)) (by kernel_rfl) (v := .bool false) (fun _ => run_binOpV (op := .gtr) (x := .tmp 12) (y := .const (.int .i64 16)) (t := 3) (t' := 3) (u := .int .i64 ((m : Nat) : Int)) (v := .int .i64 16) (by kernel_rfl) (by kernel_rfl) (by kernel_rfl) rfl (gtrF (by omega))) ?_
    refine k_pure (by kernel_rfl) (d := (some 14)) (by kernel_rfl) (v := .bool false) (fun _ => by kernel_rfl) ?_
    refine k_pure (by kernel_rfl) (d := (some 15)) (by kernel_rfl) (v := .bool false) (fun _ => by kernel_rfl) ?_
    refine k_pure (by kernel_rfl) (d := (some 16)) (by kernel_rfl) (v := .pointer (some ⟨w.heap.size, 2, none⟩)) (fun _ => by kernel_rfl) ?_
    refine k_make (by kernel_rfl) (d := (some 17)) (by kernel_rfl) (v := .int .i64 bI) (run_loadA (ty := 3) (x := (.tmp 16)) (a := ⟨w.heap.size, 2, none⟩) (by kernel_rfl) (by kernel_rfl) Tryd.underlying3 rfl ((H0.at 0 rfl).cell rfl)) trivial ?_
    intro w75 hw75 _
    replace hw75 := hw75.symm
    subst hw75
    refine k_pure (by kernel_rfl) (d := (some 18)) (by kernel_rfl) (v := .pointer (some ⟨w.heap.size, 1, none⟩)) (fun _ => by kernel_rfl) ?_
    refine k_make (by kernel_rfl) (d := (some 19)) (by kernel_rfl) (v := .int .i64 ((m : Nat) : Int)) (run_loadA (ty := 3) (x := (.tmp 18)) (a := ⟨w.heap.size, 1, none⟩) (by kernel_rfl) (by kernel_rfl) Tryd.underlying3 rfl ((H0.at 0 rfl).cell rfl)) trivial ?_
    intro w77 hw77 _
    replace hw77 := hw77.symm
    subst hw77
    refine k_pure (by kernel_rfl) (d := (some 20)) (by kernel_rfl) (v := .bool false) (fun _ => run_binOpV (op := .lss) (x := .tmp 17) (y := .tmp 19) (t := 3) (t' := 3) (u := .int .i64 bI) (v := .int .i64 ((m : Nat) : Int)) (by kernel_rfl) (by kernel_rfl) (by kernel_rfl) rfl (lssF (by omega))) ?_
    refine k_pure (by kernel_rfl) (d := (some 21)) (by kernel_rfl) (v := .bool false) (fun _ => by kernel_rfl) ?_
    refine k_pure (by kernel_rfl) (d := (some 22)) (by kernel_rfl) (v := .bool false) (fun _ => by kernel_rfl) ?_
    refine k_pure (by kernel_rfl) (d := (some 23)) (by kernel_rfl) (v := .pointer (some ⟨w.heap.size, 2, none⟩)) (fun _ => by kernel_rfl) ?_
    refine k_make (by kernel_rfl) (d := (some 24)) (by kernel_rfl) (v := .int .i64 bI) (run_loadA (ty := 3) (x := (.tmp 23)) (a := ⟨w.heap.size, 2, none⟩) (by kernel_rfl) (by kernel_rfl) Tryd.underlying3 rfl ((H0.at 0 rfl).cell rfl)) trivial ?_
    intro w81 hw81 _
    replace hw81 := hw81.symm
    subst hw81
    refine k_pure (by kernel_rfl) (d := (some 25)) (by kernel_rfl) (v := .bool false) (fun _ => run_binOpV (op := .gtr) (x := .tmp 24) (y := .const (.int .i64 32)) (t := 3) (t' := 3) (u := .int .i64 bI) (v := .int .i64 32) (by kernel_rfl) (by kernel_rfl) (by kernel_rfl) rfl (gtrF (by omega))) ?_
    refine k_pure (by kernel_rfl) (d := (some 26)) (by kernel_rfl) (v := .bool false) (fun _ => by kernel_rfl) ?_
    refine k_end ?_
    go_simp
    go_upto_region 5 with (fail)
    refine wp_region_atS (opsAt Tryd.f15 5) ((true, 0) :: (true, 1) :: (true, 2) :: (true, 3) :: (true, 4) :: (true, 5) :: []) (fun W => Mm w [(w.heap.size, [.int .i64 kI, .int .i64 ((m : Nat) : Int), .int .i64 bI])] W) (by kernel_rfl) rfl (by kernel_rfl) (fun _ _ d _ _ h => by cases d <;> exact h) (by kernel_rfl) (by kernel_rfl) (H0.drew) ?_
    have H83d := H0.drew
    clear H0
    refine k_pure (by kernel_rfl) (d := (some 27)) (by kernel_rfl) (v := .pointer (some ⟨w.heap.size, 1, none⟩)) (fun _ => by kernel_rfl) ?_
    refine k_ifR (by kernel_rfl) (d := (some 28)) (by kernel_rfl) (v := .int .i64 ((m : Nat) : Int)) (fun _ hs => run_loadA (ty := 3) (x := (.tmp 27)) (a := ⟨w.heap.size, 1, none⟩) (by kernel_rfl) (by kernel_rfl) Tryd.underlying3 rfl ((hs.at 0 rfl).cell rfl)) ?_
    refine k_pure (by kernel_rfl) (d := (some 29)) (by kernel_rfl) (v := .pointer (some ⟨w.heap.size, 2, none⟩)) (fun _ => by kernel_rfl) ?_
    refine k_ifR (by kernel_rfl) (d := (some 30)) (by kernel_rfl) (v := .int .i64 bI) (fun _ hs => run_loadA (ty := 3) (x := (.tmp 29)) (a := ⟨w.heap.size, 2, none⟩) (by kernel_rfl) (by kernel_rfl) Tryd.underlying3 rfl ((hs.at 0 rfl).cell rfl)) ?_
    refine k_pure (by kernel_rfl) (d := (some 2)) (by kernel_rfl) (v := .int .i64 ((m : Nat) : Int)) (fun _ => by kernel_rfl) ?_
    refine k_pure (by kernel_rfl) (d := (some 3)) (by kernel_rfl) (v := .int .i64 bI) (fun _ => by kernel_rfl) ?_
    refine k_end ?_
    go_simp
    have HF := Lib.hid (H83d.below (bsC (Nat.le_refl _) bs0))
    clear H83d
    go_wp2_with fail
    exact bodyPost_ret_by (by kernel_rfl) (by kernel_rfl) ⟨bI, rfl, HF.out⟩
end Go.Proofs.YtkmofjefjbhbhaaDoor
