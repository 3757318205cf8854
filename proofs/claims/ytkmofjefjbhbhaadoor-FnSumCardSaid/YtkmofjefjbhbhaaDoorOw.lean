/- The package's own hash: made, and bytes taken in. -/
import Derived.Test.YtkmofjefjbhbhaaDoorOb
namespace Go.Proofs.YtkmofjefjbhbhaaDoor
open Go.RowKit Go.FourQ Go.Sha Go.Sl

set_option maxRecDepth 100000 in
set_option maxHeartbeats 1000000 in
theorem reset2_c {w : World} {n g sz c : Nat} {B : Int} (hsz : sz ≤ 16) (hO : Bl w n (ownL sz B c g)) (hS : Bl w g (bv (List.replicate sz 0))) (hng : n ≠ g) :
    Calls Tryd.prog 19 #[.pointer (some ⟨n, 0, none⟩)] w fun e w' => e = .returned (.tuple #[]) ∧ Mm w [(n, ownL sz B 0 g), (g, bv (fr sz sz))] w' := by
  have HN := Lib.hid hO; have HG := Lib.hid hS; have HNE := Lib.hid hng
  clear hO hS hng
  go_enter Tryd.func19, Tryd.ntmps19
  go_upto_region 0 with (fail)
  have H0 : Mm w [(n, ownL sz B c g), (g, bv (List.replicate sz 0))] w := (Mm.two HN.out HG.out HNE.out)
  refine wp_seq_atS (opsAt Tryd.f19 0) ((true, 0) :: (true, 1) :: (true, 2) :: (false, 3) :: []) (fun _ => True) (by kernel_rfl) (by kernel_rfl) trivial ?_
  refine k_pure (by kernel_rfl) (d := (some 3)) (by kernel_rfl) (v := .pointer (some ⟨n, 0, none⟩)) (fun _ => by kernel_rfl) ?_
  refine k_pure (by kernel_rfl) (d := (some 4)) (by kernel_rfl) (v := .pointer (some ⟨n, 0, none⟩)) (fun _ => by kernel_rfl) ?_
  refine k_pure (by kernel_rfl) (d := (some 5)) (by kernel_rfl) (v := .pointer (some ⟨n, 2, none⟩)) (fun _ => by kernel_rfl) ?_
  have H4 : Mm w [(n, ownL sz B 0 g), (g, bv (List.replicate sz 0))] (w.setCell ⟨n, 2, none⟩ (.int .i64 0)) := (by have h := H0.put 0 rfl 2 (.int .i64 0); rw [(show (ownL sz B c g).set 2 (.int .i64 0) = ownL sz B 0 g from rfl)] at h; exact h)
  refine k_skipOp (by kernel_rfl) (d := none) (by kernel_rfl) (run_storeA (ty := 3) (x := (.tmp 5)) (y := (.const (.int .i64 0))) (b := n) (off := 2) (v := .int .i64 0) (by kernel_rfl) (by kernel_rfl) (by kernel_rfl) rfl rfl (by kernel_rfl) ((H0.at 0 rfl).cell (rfl)) (H0.at 0 rfl).free) trivial ?_
  intro w4 hw4 _
  rw [← hw4] at H4
  clear hw4 H0
  refine k_end ?_
  go_simp
  go_upto_region 1 with (fail)
  refine wp_seq_atS (opsAt Tryd.f19 1) ((true, 0) :: (true, 1) :: (true, 2) :: (false, 3) :: (true, 4) :: (true, 5) :: []) (fun _ => True) (by kernel_rfl) (by kernel_rfl) trivial ?_
  refine k_pure (by kernel_rfl) (d := (some 6)) (by kernel_rfl) (v := .pointer (some ⟨n, 0, none⟩)) (fun _ => by kernel_rfl) ?_
  refine k_pure (by kernel_rfl) (d := (some 7)) (by kernel_rfl) (v := .pointer (some ⟨n, 0, none⟩)) (fun _ => by kernel_rfl) ?_
  refine k_pure (by kernel_rfl) (d := (some 8)) (by kernel_rfl) (v := .pointer (some ⟨n, 3, none⟩)) (fun _ => by kernel_rfl) ?_
  refine k_make (by kernel_rfl) (d := (some 9)) (by kernel_rfl) (v := .slice (some ⟨g, 0, none⟩) sz sz) (run_loadA (ty := 24) (x := (.tmp 8)) (a := ⟨n, 3, none⟩) (by kernel_rfl) (by kernel_rfl) Tryd.underlying24 rfl ((H4.at 0 rfl).cell rfl)) trivial ?_
  intro w8 hw8 _
  replace hw8 := hw8.symm
  subst hw8
  refine k_pure (by kernel_rfl) (d := (some 10)) (by kernel_rfl) (v := .int .i64 ((sz : Nat) : Int)) (fun _ => by kernel_rfl) ?_
  refine k_pure (by kernel_rfl) (d := (some 11)) (by kernel_rfl) (v := .int .i64 0) (fun _ => by kernel_rfl) ?_
  refine k_end ?_
  go_simp
  have J11 := Lib.hid (show Mm w [(n, ownL sz B 0 g), (g, bv (fr sz 0))] w4 from H4)
  clear H4
  go_wp2_with fail
  go_loopw [11] (fun iv wr => ∃ t : Nat, t ≤ sz ∧ iv = .int .i64 t ∧ Hid (Mm w [(n, ownL sz B 0 g), (g, bv (fr sz t))] wr)) (fun i _ => sz - (intOf i).toNat)
  case atStart => exact ⟨0, Nat.zero_le _, rfl, Lib.hid J11.out⟩
  case round =>
    clear J11
    obtain ⟨t, ht1, rfl, hJ⟩ := hrel
    by_cases ht : t < sz
    · have htI : (t : Int) < (sz : Int) := by omega
      have H90 := hJ.out
      clear hJ
      go_upto_region 4 with (fail)
      refine wp_seq_atS (opsAt Tryd.f19 4) ((true, 0) :: (true, 1) :: (true, 2) :: (false, 3) :: (true, 4) :: (true, 5) :: (true, 6) :: (true, 7) :: (false, 8) :: []) (fun _ => True) (by kernel_rfl) (by kernel_rfl) trivial ?_
      refine k_pure (by kernel_rfl) (d := (some 14)) (by kernel_rfl) (v := .pointer (some ⟨n, 0, none⟩)) (fun _ => by kernel_rfl) ?_
      refine k_pure (by kernel_rfl) (d := (some 15)) (by kernel_rfl) (v := .pointer (some ⟨n, 0, none⟩)) (fun _ => by kernel_rfl) ?_
      refine k_pure (by kernel_rfl) (d := (some 16)) (by kernel_rfl) (v := .pointer (some ⟨n, 3, none⟩)) (fun _ => by kernel_rfl) ?_
      refine k_make (by kernel_rfl) (d := (some 17)) (by kernel_rfl) (v := .slice (some ⟨g, 0, none⟩) sz sz) (run_loadA (ty := 24) (x := (.tmp 16)) (a := ⟨n, 3, none⟩) (by kernel_rfl) (by kernel_rfl) Tryd.underlying24 rfl ((H90.at 0 rfl).cell rfl)) trivial ?_
      intro w13 hw13 _
      replace hw13 := hw13.symm
      subst hw13
      refine k_pure (by kernel_rfl) (d := (some 18)) (by kernel_rfl) (v := .int .i64 ((t : Nat) : Int)) (fun _ => by kernel_rfl) ?_
      refine k_pure (by kernel_rfl) (d := (some 19)) (by kernel_rfl) (v := .int .i64 ((t : Nat) : Int)) (fun _ => by kernel_rfl) ?_
      refine k_pure (by kernel_rfl) (d := (some 20)) (by kernel_rfl) (v := .int .u8 (b8 ((t : Nat) : Int))) (fun _ => run_convOpE (x := (.tmp 19)) (s := 3) (d := 5) (u := .int .i64 ((t : Nat) : Int)) (v := .int .u8 (IntKind.u8.wrap ((t : Nat) : Int))) (by kernel_rfl) (by kernel_rfl) (by kernel_rfl) rfl) ?_
      refine k_pure (by kernel_rfl) (d := (some 21)) (by kernel_rfl) (v := .pointer (some ⟨g, t, none⟩)) (fun _ => run_indexSe (t := 24) (x := (.tmp 17)) (y := (.tmp 18)) (b := g) (off := 0) (off' := t) (n := sz) (c := sz) (i := t) (z := ((t : Nat) : Int)) (by kernel_rfl) (by kernel_rfl) (by kernel_rfl) rfl Tryd.underlying24 (by kernel_rfl) (by omega) (Nat.zero_add _)) ?_
      have H18 : Mm w [(n, ownL sz B 0 g), (g, bv (fr sz (t + 1)))] (wr.setCell ⟨g, t, none⟩ (.int .u8 (b8 ((t : Nat) : Int)))) := (by have h := H90.put 1 rfl t (.int .u8 (b8 ((t : Nat) : Int))); rw [(show (bv (fr sz t)).set t (.int .u8 (b8 ((t : Nat) : Int))) = bv (fr sz (t + 1)) from fr_set ht)] at h; exact h)
      refine k_skipOp (by kernel_rfl) (d := none) (by kernel_rfl) (run_storeA (ty := 5) (x := (.tmp 21)) (y := (.tmp 20)) (b := g) (off := t) (v := .int .u8 (b8 ((t : Nat) : Int))) (by kernel_rfl) (by kernel_rfl) (by kernel_rfl) rfl rfl (by kernel_rfl) ((H90.at 1 rfl).cell (bv_at (by rw [fr_length ht1]; exact ht))) (H90.at 1 rfl).free) trivial ?_
      intro w18 hw18 _
      rw [← hw18] at H18
      clear hw18 H90
      refine k_end ?_
      go_simp
      have HJ := Lib.hid (show Mm w [(n, ownL sz B 0 g), (g, bv (fr sz (t + 1)))] w18 from H18)
      clear H18
      go_wp2_with fail
      exact ⟨⟨t + 1, by omega, by go_num, Lib.hid HJ.out⟩, by simp [intOf]; omega⟩
    · have htI : ¬ (t : Int) < (sz : Int) := by omega
      obtain rfl : t = sz := by omega
      have HF := Lib.hid hJ.out
      clear hJ
      go_wp2_with fail
      go_end0
      exact ⟨rfl, HF.out⟩

set_option maxRecDepth 100000 in
set_option maxHeartbeats 1000000 in
theorem fresh_c {w : World} {kI sI bI : Int} :
    Calls Tryd.prog 11 #[.agg #[.int .i64 kI, .int .i64 sI, .int .i64 bI]] w fun e w' => ∃ n g B, e = .returned (.pointer (some ⟨n, 0, none⟩)) ∧ w.heap.size ≤ n ∧ w.heap.size ≤ g ∧ n ≠ g ∧ Mm w [(n, ownL (szO sI bI) B 0 g), (g, bv (fr (szO sI bI) (szO sI bI)))] w' := by
  by_cases hall : sI < 1 ∨ 16 < sI ∨ bI < sI ∨ 32 < bI
  · have hone := szO_one hall
    rw [hone]
    clear hone
    by_cases h0 : sI < 1
    · skip
      clear hall
      go_enter Tryd.func11, Tryd.ntmps11
      go_upto_region 1 with (fail)
      refine wp_gen (fun WW => Mm w [(w.heap.size, [.int .i64 kI, .int .i64 sI, .int .i64 bI])] WW) ((Mm.zero w).new (L := [.int .i64 kI, .int .i64 sI, .int .i64 bI]) rfl (by kernel_rfl)) ?_
      intro W0 H0
      refine wp_seq_atS (opsAt Tryd.f11 1) ((true, 0) :: (false, 1) :: (true, 2) :: (false, 3) :: (true, 4) :: (false, 5) :: (true, 6) :: []) (fun _ => True) (by kernel_rfl) (by kernel_rfl) trivial ?_
      refine k_pure (by kernel_rfl) (d := (some 4)) (by kernel_rfl) (v := .pointer (some ⟨w.heap.size, 1, none⟩)) (fun _ => by kernel_rfl) ?_
      refine k_make (by kernel_rfl) (d := (some 5)) (by kernel_rfl) (v := .int .i64 sI) (run_loadA (ty := 3) (x := (.tmp 4)) (a := ⟨w.heap.size, 1, none⟩) (by kernel_rfl) (by kernel_rfl) Tryd.underlying3 rfl ((H0.at 0 rfl).cell rfl)) trivial ?_
      intro w2 hw2 _
      replace hw2 := hw2.symm
      subst hw2
      refine k_pure (by kernel_rfl) (d := (some 6)) (by kernel_rfl) (v := .pointer (some ⟨w.heap.size, 2, none⟩)) (fun _ => by kernel_rfl) ?_
      refine k_make (by kernel_rfl) (d := (some 7)) (by kernel_rfl) (v := .int .i64 bI) (run_loadA (ty := 3) (x := (.tmp 6)) (a := ⟨w.heap.size, 2, none⟩) (by kernel_rfl) (by kernel_rfl) Tryd.underlying3 rfl ((H0.at 0 rfl).cell rfl)) trivial ?_
      intro w4 hw4 _
      replace hw4 := hw4.symm
      subst hw4
      refine k_pure (by kernel_rfl) (d := (some 8)) (by kernel_rfl) (v := .agg #[.int .i64 sI, .int .i64 bI, .int .i64 0, .slice none 0 0]) (fun _ => by kernel_rfl) ?_
      obtain ⟨n5, hn5⟩ : ∃ n, W0.heap.size = n := ⟨_, rfl⟩
      have H5 : Mm w [(w.heap.size, [.int .i64 kI, .int .i64 sI, .int .i64 bI]), (n5, [.int .i64 sI, .int .i64 bI, .int .i64 0, .slice none 0 0])] (W0.alloc (.cells ([.int .i64 sI, .int .i64 bI, .int .i64 0, .slice none 0 0]).toArray 50)) := H0.new hn5.symm rfl
      have hge5 : w.heap.size ≤ n5 := by rw [← hn5]; exact H0.size
      refine k_make (by kernel_rfl) (d := (some 9)) (by kernel_rfl) (v := .pointer (some ⟨n5, 0, none⟩)) (w' := W0.alloc (.cells ([.int .i64 sI, .int .i64 bI, .int .i64 0, .slice none 0 0]).toArray 50)) (by rw [← hn5]; kernel_rfl) trivial ?_
      intro w5 hw5 _
      rw [← hw5] at H5
      clear hw5 hn5 H0
      refine k_pure (by kernel_rfl) (d := (some 3)) (by kernel_rfl) (v := .pointer (some ⟨n5, 0, none⟩)) (fun _ => by kernel_rfl) ?_
      refine k_end ?_
      go_simp
      go_upto_region 2 with (fail)
      refine wp_seq_atS (opsAt Tryd.f11 2) ((true, 0) :: (false, 1) :: (true, 2) :: (true, 3) :: (true, 4) :: (false, 5) :: (true, 6) :: (true, 7) :: (true, 8) :: (true, 9) :: (false, 10) :: (true, 11) :: (false, 12) :: (true, 13) :: (true, 14) :: (true, 15) :: (true, 16) :: (false, 17) :: (true, 18) :: (true, 19) :: []) (fun _ => True) (by kernel_rfl) (by kernel_rfl) trivial ?_
      refine k_pure (by kernel_rfl) (d := (some 10)) (by kernel_rfl) (v := .pointer (some ⟨w.heap.size, 1, none⟩)) (fun _ => by kernel_rfl) ?_
      refine k_make (by kernel_rfl) (d := (some 11)) (by kernel_rfl) (v := .int .i64 sI) (run_loadA (ty := 3) (x := (.tmp 10)) (a := ⟨w.heap.size, 1, none⟩) (by kernel_rfl) (by kernel_rfl) Tryd.underlying3 rfl ((H5.at 0 rfl).cell rfl)) trivial ?_
      intro w8 hw8 _
      replace hw8 := hw8.symm
      subst hw8
      refine k_pure (by kernel_rfl) (d := (some 12)) (by kernel_rfl) (v := .bool true) (fun _ => run_binOpV (op := .lss) (x := .tmp 11) (y := .const (.int .i64 1)) (t := 3) (t' := 3) (u := .int .i64 sI) (v := .int .i64 1) (by kernel_rfl) (by kernel_rfl) (by kernel_rfl) rfl (lssT (by omega))) ?_
      refine k_pure (by kernel_rfl) (d := (some 13)) (by kernel_rfl) (v := .bool true) (fun _ => by kernel_rfl) ?_
      refine k_skip (by kernel_rfl) (d := (some 14)) (by kernel_rfl) ?_
      refine k_skip' trivial (by kernel_rfl) (d := (some 15)) (by kernel_rfl) ?_
      refine k_skip (by kernel_rfl) (d := (some 16)) (by kernel_rfl) ?_
      refine k_pure (by kernel_rfl) (d := (some 17)) (by kernel_rfl) (v := .bool true) (fun _ => by kernel_rfl) ?_
      refine k_pure (by kernel_rfl) (d := (some 18)) (by kernel_rfl) (v := .bool true) (fun _ => by kernel_rfl) ?_
      refine k_skip (by kernel_rfl) (d := (some 19)) (by kernel_rfl) ?_
      refine k_skip' trivial (by kernel_rfl) (d := (some 20)) (by kernel_rfl) ?_
      refine k_skip (by kernel_rfl) (d := (some 21)) (by kernel_rfl) ?_
      refine k_skip' trivial (by kernel_rfl) (d := (some 22)) (by kernel_rfl) ?_
      refine k_skip (by kernel_rfl) (d := (some 23)) (by kernel_rfl) ?_
      refine k_pure (by kernel_rfl) (d := (some 24)) (by kernel_rfl) (v := .bool true) (fun _ => by kernel_rfl) ?_
      refine k_pure (by kernel_rfl) (d := (some 25)) (by kernel_rfl) (v := .bool true) (fun _ => by kernel_rfl) ?_
      refine k_skip (by kernel_rfl) (d := (some 26)) (by kernel_rfl) ?_
      refine k_skip' trivial (by kernel_rfl) (d := (some 27)) (by kernel_rfl) ?_
      refine k_skip (by kernel_rfl) (d := (some 28)) (by kernel_rfl) ?_
      refine k_pure (by kernel_rfl) (d := (some 29)) (by kernel_rfl) (v := .bool true) (fun _ => by kernel_rfl) ?_
      refine k_end ?_
      go_simp
      go_upto_region 3 with (fail)
      refine wp_seq_atS (opsAt Tryd.f11 3) ((true, 0) :: (true, 1) :: (true, 2) :: (true, 3) :: (false, 4) :: (true, 5) :: (true, 6) :: (false, 7) :: []) (fun _ => True) (by kernel_rfl) (by kernel_rfl) trivial ?_
      refine k_pure (by kernel_rfl) (d := (some 30)) (by kernel_rfl) (v := .pointer (some ⟨n5, 0, none⟩)) (fun _ => by kernel_rfl) ?_
      refine k_pure (by kernel_rfl) (d := (some 31)) (by kernel_rfl) (v := .pointer (some ⟨n5, 0, none⟩)) (fun _ => by kernel_rfl) ?_
      refine k_pure (by kernel_rfl) (d := (some 32)) (by kernel_rfl) (v := .pointer (some ⟨n5, 0, none⟩)) (fun _ => by kernel_rfl) ?_
      refine k_pure (by kernel_rfl) (d := (some 33)) (by kernel_rfl) (v := .pointer (some ⟨n5, 0, none⟩)) (fun _ => by kernel_rfl) ?_
      have H19 : Mm w [(w.heap.size, [.int .i64 kI, .int .i64 sI, .int .i64 bI]), (n5, [.int .i64 ((1 : Nat) : Int), .int .i64 bI, .int .i64 0, .slice none 0 0])] (w5.setCell ⟨n5, 0, none⟩ (.int .i64 1)) := (by have h := H5.put 1 rfl 0 (.int .i64 1); rw [(show (([.int .i64 sI, .int .i64 bI, .int .i64 0, .slice none 0 0]) : List Value).set 0 (.int .i64 1) = [.int .i64 ((1 : Nat) : Int), .int .i64 bI, .int .i64 0, .slice none 0 0] from rfl)] at h; exact h)
      refine k_skipOp (by kernel_rfl) (d := none) (by kernel_rfl) (run_storeA (ty := 3) (x := (.tmp 33)) (y := (.const (.int .i64 1))) (b := n5) (off := 0) (v := .int .i64 1) (by kernel_rfl) (by kernel_rfl) (by kernel_rfl) rfl rfl (by kernel_rfl) ((H5.at 1 rfl).cell (rfl)) (H5.at 1 rfl).free) trivial ?_
      intro w19 hw19 _
      rw [← hw19] at H19
      clear hw19 H5
      refine k_pure (by kernel_rfl) (d := (some 34)) (by kernel_rfl) (v := .pointer (some ⟨n5, 0, none⟩)) (fun _ => by kernel_rfl) ?_
      refine k_pure (by kernel_rfl) (d := (some 35)) (by kernel_rfl) (v := .pointer (some ⟨n5, 1, none⟩)) (fun _ => by kernel_rfl) ?_
      have H22 : Mm w [(w.heap.size, [.int .i64 kI, .int .i64 sI, .int .i64 bI]), (n5, [.int .i64 ((1 : Nat) : Int), .int .i64 16, .int .i64 0, .slice none 0 0])] (w19.setCell ⟨n5, 1, none⟩ (.int .i64 16)) := (by have h := H19.put 1 rfl 1 (.int .i64 16); rw [(show (([.int .i64 ((1 : Nat) : Int), .int .i64 bI, .int .i64 0, .slice none 0 0]) : List Value).set 1 (.int .i64 16) = [.int .i64 ((1 : Nat) : Int), .int .i64 16, .int .i64 0, .slice none 0 0] from rfl)] at h; exact h)
      refine k_skipOp (by kernel_rfl) (d := none) (by kernel_rfl) (run_storeA (ty := 3) (x := (.tmp 35)) (y := (.const (.int .i64 16))) (b := n5) (off := 1) (v := .int .i64 16) (by kernel_rfl) (by kernel_rfl) (by kernel_rfl) rfl rfl (by kernel_rfl) ((H19.at 1 rfl).cell (rfl)) (H19.at 1 rfl).free) trivial ?_
      intro w22 hw22 _
      rw [← hw22] at H22
      clear hw22 H19
      refine k_end ?_
      go_simp
      go_upto_region 4 with (fail)
      refine wp_seq_atS (opsAt Tryd.f11 4) ((true, 0) :: (true, 1) :: (true, 2) :: (true, 3) :: (false, 4) :: (false, 5) :: (true, 6) :: (true, 7) :: (false, 8) :: []) (fun _ => True) (by kernel_rfl) (by kernel_rfl) trivial ?_
      refine k_pure (by kernel_rfl) (d := (some 36)) (by kernel_rfl) (v := .pointer (some ⟨n5, 0, none⟩)) (fun _ => by kernel_rfl) ?_
      refine k_pure (by kernel_rfl) (d := (some 37)) (by kernel_rfl) (v := .pointer (some ⟨n5, 0, none⟩)) (fun _ => by kernel_rfl) ?_
      refine k_pure (by kernel_rfl) (d := (some 38)) (by kernel_rfl) (v := .pointer (some ⟨n5, 0, none⟩)) (fun _ => by kernel_rfl) ?_
      refine k_pure (by kernel_rfl) (d := (some 39)) (by kernel_rfl) (v := .pointer (some ⟨n5, 0, none⟩)) (fun _ => by kernel_rfl) ?_
      refine k_make (by kernel_rfl) (d := (some 40)) (by kernel_rfl) (v := .int .i64 ((1 : Nat) : Int)) (run_loadA (ty := 3) (x := (.tmp 39)) (a := ⟨n5, 0, none⟩) (by kernel_rfl) (by kernel_rfl) Tryd.underlying3 rfl ((H22.at 1 rfl).cell rfl)) trivial ?_
      intro w27 hw27 _
      replace hw27 := hw27.symm
      subst hw27
      obtain ⟨n28, hn28⟩ : ∃ n, w22.heap.size = n := ⟨_, rfl⟩
      have H28 : Mm w [(w.heap.size, [.int .i64 kI, .int .i64 sI, .int .i64 bI]), (n5, [.int .i64 ((1 : Nat) : Int), .int .i64 16, .int .i64 0, .slice none 0 0]), (n28, bv (List.replicate 1 0))] (w22.alloc (.cells (bv (List.replicate 1 0)).toArray 5)) := H22.new hn28.symm rfl
      have hge28 : w.heap.size ≤ n28 := by rw [← hn28]; exact H22.size
      refine k_make (by kernel_rfl) (d := (some 41)) (by kernel_rfl) (v := .slice (some ⟨n28, 0, none⟩) 1 1) (w' := w22.alloc (.cells (bv (List.replicate 1 0)).toArray 5)) (by rw [← hn28]; exact run_mkB (t := 24) (x := (.tmp 40)) (y := (.tmp 40)) (by kernel_rfl) (by kernel_rfl) (by kernel_rfl) Tryd.underlying24 (by kernel_rfl) (by omega)) trivial ?_
      intro w28 hw28 _
      rw [← hw28] at H28
      clear hw28 hn28 H22
      refine k_pure (by kernel_rfl) (d := (some 42)) (by kernel_rfl) (v := .pointer (some ⟨n5, 0, none⟩)) (fun _ => by kernel_rfl) ?_
      refine k_pure (by kernel_rfl) (d := (some 43)) (by kernel_rfl) (v := .pointer (some ⟨n5, 3, none⟩)) (fun _ => by kernel_rfl) ?_
      have H31 : Mm w [(w.heap.size, [.int .i64 kI, .int .i64 sI, .int .i64 bI]), (n5, ownL 1 16 0 n28), (n28, bv (List.replicate 1 0))] (w28.setCell ⟨n5, 3, none⟩ (.slice (some ⟨n28, 0, none⟩) 1 1)) := (by have h := H28.put 1 rfl 3 (.slice (some ⟨n28, 0, none⟩) 1 1); rw [(show (([.int .i64 ((1 : Nat) : Int), .int .i64 16, .int .i64 0, .slice none 0 0]) : List Value).set 3 (.slice (some ⟨n28, 0, none⟩) 1 1) = ownL 1 16 0 n28 from rfl)] at h; exact h)
      refine k_skipOp (by kernel_rfl) (d := none) (by kernel_rfl) (run_storeA (ty := 24) (x := (.tmp 43)) (y := (.tmp 41)) (b := n5) (off := 3) (v := .slice (some ⟨n28, 0, none⟩) 1 1) (by kernel_rfl) (by kernel_rfl) (by kernel_rfl) rfl rfl (by kernel_rfl) ((H28.at 1 rfl).cell (rfl)) (H28.at 1 rfl).free) trivial ?_
      intro w31 hw31 _
      rw [← hw31] at H31
      clear hw31 H28
      refine k_end ?_
      go_simp
      go_upto_region 5 with (fail)
      refine wp_seq_atS (opsAt Tryd.f11 5) ((true, 0) :: (false, 1) :: []) (fun _ => True) (by kernel_rfl) (by kernel_rfl) trivial ?_
      refine k_pure (by kernel_rfl) (d := (some 44)) (by kernel_rfl) (v := .pointer (some ⟨n5, 0, none⟩)) (fun _ => by kernel_rfl) ?_
      refine k_callR (by kernel_rfl) (d := (some 45)) (by kernel_rfl) (f := 19) (args := #[.pointer (some ⟨n5, 0, none⟩)]) (fun _ => by kernel_rfl) (reset2_c (sz := 1) (by omega) (H31.at 1 rfl) (H31.at 2 rfl) (H31.ne 1 2 _ _ _ _ rfl rfl (by decide))) (fun _ w33 ⟨he33, u33⟩ => ⟨_, he33, trivial, ?_⟩)
      have H33 := H31.upd2 (i := 1) (j := 2) (by decide) rfl rfl u33
      clear u33 he33 H31
      refine k_end ?_
      go_simp
      go_upto_region 6 with (fail)
      refine wp_seq_atS (opsAt Tryd.f11 6) ((true, 0) :: (true, 1) :: []) (fun _ => True) (by kernel_rfl) (by kernel_rfl) trivial ?_
      refine k_pure (by kernel_rfl) (d := (some 46)) (by kernel_rfl) (v := .pointer (some ⟨n5, 0, none⟩)) (fun _ => by kernel_rfl) ?_
      refine k_pure (by kernel_rfl) (d := (some 2)) (by kernel_rfl) (v := .pointer (some ⟨n5, 0, none⟩)) (fun _ => by kernel_rfl) ?_
      refine k_end ?_
      go_simp
      have HF := Lib.hid (show Mm w [(n5, ownL 1 16 0 n28), (n28, bv (fr 1 1))] w33 from Mm.drop0 H33 (Nat.le_refl _))
      have HNE := Lib.hid (H33.ne 1 2 _ _ _ _ rfl rfl (by decide))
      clear H33
      go_wp2_with fail
      exact bodyPost_ret_by (by kernel_rfl) (by kernel_rfl) ⟨n5, n28, 16, rfl, by assumption, by assumption, HNE.out, HF.out⟩
    have g0 : 1 ≤ sI := by omega
    clear h0
    by_cases h1 : 16 < sI
    · skip
      go_enter Tryd.func11, Tryd.ntmps11
      go_upto_region 1 with (fail)
      refine wp_gen (fun WW => Mm w [(w.heap.size, [.int .i64 kI, .int .i64 sI, .int .i64 bI])] WW) ((Mm.zero w).new (L := [.int .i64 kI, .int .i64 sI, .int .i64 bI]) rfl (by kernel_rfl)) ?_
      intro W0 H0
      refine wp_seq_atS (opsAt Tryd.f11 1) ((true, 0) :: (false, 1) :: (true, 2) :: (false, 3) :: (true, 4) :: (false, 5) :: (true, 6) :: []) (fun _ => True) (by kernel_rfl) (by kernel_rfl) trivial ?_
      refine k_pure (by kernel_rfl) (d := (some 4)) (by kernel_rfl) (v := .pointer (some ⟨w.heap.size, 1, none⟩)) (fun _ => by kernel_rfl) ?_
      refine k_make (by kernel_rfl) (d := (some 5)) (by kernel_rfl) (v := .int .i64 sI) (run_loadA (ty := 3) (x := (.tmp 4)) (a := ⟨w.heap.size, 1, none⟩) (by kernel_rfl) (by kernel_rfl) Tryd.underlying3 rfl ((H0.at 0 rfl).cell rfl)) trivial ?_
      intro w37 hw37 _
      replace hw37 := hw37.symm
      subst hw37
      refine k_pure (by kernel_rfl) (d := (some 6)) (by kernel_rfl) (v := .pointer (some ⟨w.heap.size, 2, none⟩)) (fun _ => by kernel_rfl) ?_
      refine k_make (by kernel_rfl) (d := (some 7)) (by kernel_rfl) (v := .int .i64 bI) (run_loadA (ty := 3) (x := (.tmp 6)) (a := ⟨w.heap.size, 2, none⟩) (by kernel_rfl) (by kernel_rfl) Tryd.underlying3 rfl ((H0.at 0 rfl).cell rfl)) trivial ?_
      intro w39 hw39 _
      replace hw39 := hw39.symm
      subst hw39
      refine k_pure (by kernel_rfl) (d := (some 8)) (by kernel_rfl) (v := .agg #[.int .i64 sI, .int .i64 bI, .int .i64 0, .slice none 0 0]) (fun _ => by kernel_rfl) ?_
      obtain ⟨n40, hn40⟩ : ∃ n, W0.heap.size = n := ⟨_, rfl⟩
      have H40 : Mm w [(w.heap.size, [.int .i64 kI, .int .i64 sI, .int .i64 bI]), (n40, [.int .i64 sI, .int .i64 bI, .int .i64 0, .slice none 0 0])] (W0.alloc (.cells ([.int .i64 sI, .int .i64 bI, .int .i64 0, .slice none 0 0]).toArray 50)) := H0.new hn40.symm rfl
      have hge40 : w.heap.size ≤ n40 := by rw [← hn40]; exact H0.size
      refine k_make (by kernel_rfl) (d := (some 9)) (by kernel_rfl) (v := .pointer (some ⟨n40, 0, none⟩)) (w' := W0.alloc (.cells ([.int .i64 sI, .int .i64 bI, .int .i64 0, .slice none 0 0]).toArray 50)) (by rw [← hn40]; kernel_rfl) trivial ?_
      intro w40 hw40 _
      rw [← hw40] at H40
      clear hw40 hn40 H0
      refine k_pure (by kernel_rfl) (d := (some 3)) (by kernel_rfl) (v := .pointer (some ⟨n40, 0, none⟩)) (fun _ => by kernel_rfl) ?_
      refine k_end ?_
      go_simp
      go_upto_region 2 with (fail)
      refine wp_seq_atS (opsAt Tryd.f11 2) ((true, 0) :: (false, 1) :: (true, 2) :: (true, 3) :: (true, 4) :: (false, 5) :: (true, 6) :: (true, 7) :: (true, 8) :: (true, 9) :: (false, 10) :: (true, 11) :: (false, 12) :: (true, 13) :: (true, 14) :: (true, 15) :: (true, 16) :: (false, 17) :: (true, 18) :: (true, 19) :: []) (fun _ => True) (by kernel_rfl) (by kernel_rfl) trivial ?_
      refine k_pure (by kernel_rfl) (d := (some 10)) (by kernel_rfl) (v := .pointer (some ⟨w.heap.size, 1, none⟩)) (fun _ => by kernel_rfl) ?_
      refine k_make (by kernel_rfl) (d := (some 11)) (by kernel_rfl) (v := .int .i64 sI) (run_loadA (ty := 3) (x := (.tmp 10)) (a := ⟨w.heap.size, 1, none⟩) (by kernel_rfl) (by kernel_rfl) Tryd.underlying3 rfl ((H40.at 0 rfl).cell rfl)) trivial ?_
      intro w43 hw43 _
      replace hw43 := hw43.symm
      subst hw43
      refine k_pure (by kernel_rfl) (d := (some 12)) (by kernel_rfl) (v := .bool false) (fun _ => run_binOpV (op := .lss) (x := .tmp 11) (y := .const (.int .i64 1)) (t := 3) (t' := 3) (u := .int .i64 sI) (v := .int .i64 1) (by kernel_rfl) (by kernel_rfl) (by kernel_rfl) rfl (lssF (by omega))) ?_
      refine k_pure (by kernel_rfl) (d := (some 13)) (by kernel_rfl) (v := .bool false) (fun _ => by kernel_rfl) ?_
      refine k_pure (by kernel_rfl) (d := (some 14)) (by kernel_rfl) (v := .pointer (some ⟨w.heap.size, 1, none⟩)) (fun _ => by kernel_rfl) ?_
      refine k_make (by kernel_rfl) (d := (some 15)) (by kernel_rfl) (v := .int .i64 sI) (run_loadA (ty := 3) (x := (.tmp 14)) (a := ⟨w.heap.size, 1, none⟩) (by kernel_rfl) (by kernel_rfl) Tryd.underlying3 rfl ((H40.at 0 rfl).cell rfl)) trivial ?_
      intro w46 hw46 _
      replace hw46 := hw46.symm
      subst hw46
      refine k_pure (by kernel_rfl) (d := (some 16)) (by kernel_rfl) (v := .bool true) (fun _ => run_binOpV (op := .gtr) (x := .tmp 15) (y := .const (.int .i64 16)) (t := 3) (t' := 3) (u := .int .i64 sI) (v := .int .i64 16) (by kernel_rfl) (by kernel_rfl) (by kernel_rfl) rfl (gtrT (by omega))) ?_
      refine k_pure (by kernel_rfl) (d := (some 17)) (by kernel_rfl) (v := .bool true) (fun _ => by kernel_rfl) ?_
      refine k_pure (by kernel_rfl) (d := (some 18)) (by kernel_rfl) (v := .bool true) (fun _ => by kernel_rfl) ?_
      refine k_skip (by kernel_rfl) (d := (some 19)) (by kernel_rfl) ?_
      refine k_skip' trivial (by kernel_rfl) (d := (some 20)) (by kernel_rfl) ?_
      refine k_skip (by kernel_rfl) (d := (some 21)) (by kernel_rfl) ?_
      refine k_skip' trivial (by kernel_rfl) (d := (some 22)) (by kernel_rfl) ?_
      refine k_skip (by kernel_rfl) (d := (some 23)) (by kernel_rfl) ?_
      refine k_pure (by kernel_rfl) (d := (some 24)) (by kernel_rfl) (v := .bool true) (fun _ => by kernel_rfl) ?_
      refine k_pure (by kernel_rfl) (d := (some 25)) (by kernel_rfl) (v := .bool true) (fun _ => by kernel_rfl) ?_
      refine k_skip (by kernel_rfl) (d := (some 26)) (by kernel_rfl) ?_
      refine k_skip' trivial (by kernel_rfl) (d := (some 27)) (by kernel_rfl) ?_
      refine k_skip (by kernel_rfl) (d := (some 28)) (by kernel_rfl) ?_
      refine k_pure (by kernel_rfl) (d := (some 29)) (by kernel_rfl) (v := .bool true) (fun _ => by kernel_rfl) ?_
      refine k_end ?_
      go_simp
      go_upto_region 3 with (fail)
      refine wp_seq_atS (opsAt Tryd.f11 3) ((true, 0) :: (true, 1) :: (true, 2) :: (true, 3) :: (false, 4) :: (true, 5) :: (true, 6) :: (false, 7) :: []) (fun _ => True) (by kernel_rfl) (by kernel_rfl) trivial ?_
      refine k_pure (by kernel_rfl) (d := (some 30)) (by kernel_rfl) (v := .pointer (some ⟨n40, 0, none⟩)) (fun _ => by kernel_rfl) ?_
      refine k_pure (by kernel_rfl) (d := (some 31)) (by kernel_rfl) (v := .pointer (some ⟨n40, 0, none⟩)) (fun _ => by kernel_rfl) ?_
      refine k_pure (by kernel_rfl) (d := (some 32)) (by kernel_rfl) (v := .pointer (some ⟨n40, 0, none⟩)) (fun _ => by kernel_rfl) ?_
      refine k_pure (by kernel_rfl) (d := (some 33)) (by kernel_rfl) (v := .pointer (some ⟨n40, 0, none⟩)) (fun _ => by kernel_rfl) ?_
      have H56 : Mm w [(w.heap.size, [.int .i64 kI, .int .i64 sI, .int .i64 bI]), (n40, [.int .i64 ((1 : Nat) : Int), .int .i64 bI, .int .i64 0, .slice none 0 0])] (w40.setCell ⟨n40, 0, none⟩ (.int .i64 1)) := (by have h := H40.put 1 rfl 0 (.int .i64 1); rw [(show (([.int .i64 sI, .int .i64 bI, .int .i64 0, .slice none 0 0]) : List Value).set 0 (.int .i64 1) = [.int .i64 ((1 : Nat) : Int), .int .i64 bI, .int .i64 0, .slice none 0 0] from rfl)] at h; exact h)
      refine k_skipOp (by kernel_rfl) (d := none) (by kernel_rfl) (run_storeA (ty := 3) (x := (.tmp 33)) (y := (.const (.int .i64 1))) (b := n40) (off := 0) (v := .int .i64 1) (by kernel_rfl) (by kernel_rfl) (by kernel_rfl) rfl rfl (by kernel_rfl) ((H40.at 1 rfl).cell (rfl)) (H40.at 1 rfl).free) trivial ?_
      intro w56 hw56 _
      rw [← hw56] at H56
      clear hw56 H40
      refine k_pure (by kernel_rfl) (d := (some 34)) (by kernel_rfl) (v := .pointer (some ⟨n40, 0, none⟩)) (fun _ => by kernel_rfl) ?_
      refine k_pure (by kernel_rfl) (d := (some 35)) (by kernel_rfl) (v := .pointer (some ⟨n40, 1, none⟩)) (fun _ => by kernel_rfl) ?_
      have H59 : Mm w [(w.heap.size, [.int .i64 kI, .int .i64 sI, .int .i64 bI]), (n40, [.int .i64 ((1 : Nat) : Int), .int .i64 16, .int .i64 0, .slice none 0 0])] (w56.setCell ⟨n40, 1, none⟩ (.int .i64 16)) := (by have h := H56.put 1 rfl 1 (.int .i64 16); rw [(show (([.int .i64 ((1 : Nat) : Int), .int .i64 bI, .int .i64 0, .slice none 0 0]) : List Value).set 1 (.int .i64 16) = [.int .i64 ((1 : Nat) : Int), .int .i64 16, .int .i64 0, .slice none 0 0] from rfl)] at h; exact h)
      refine k_skipOp (by kernel_rfl) (d := none) (by kernel_rfl) (run_storeA (ty := 3) (x := (.tmp 35)) (y := (.const (.int .i64 16))) (b := n40) (off := 1) (v := .int .i64 16) (by kernel_rfl) (by kernel_rfl) (by kernel_rfl) rfl rfl (by kernel_rfl) ((H56.at 1 rfl).cell (rfl)) (H56.at 1 rfl).free) trivial ?_
      intro w59 hw59 _
      rw [← hw59] at H59
      clear hw59 H56
      refine k_end ?_
      go_simp
      go_upto_region 4 with (fail)
      refine wp_seq_atS (opsAt Tryd.f11 4) ((true, 0) :: (true, 1) :: (true, 2) :: (true, 3) :: (false, 4) :: (false, 5) :: (true, 6) :: (true, 7) :: (false, 8) :: []) (fun _ => True) (by kernel_rfl) (by kernel_rfl) trivial ?_
      refine k_pure (by kernel_rfl) (d := (some 36)) (by kernel_rfl) (v := .pointer (some ⟨n40, 0, none⟩)) (fun _ => by kernel_rfl) ?_
      refine k_pure (by kernel_rfl) (d := (some 37)) (by kernel_rfl) (v := .pointer (some ⟨n40, 0, none⟩)) (fun _ => by kernel_rfl) ?_
      refine k_pure (by kernel_rfl) (d := (some 38)) (by kernel_rfl) (v := .pointer (some ⟨n40, 0, none⟩)) (fun _ => by kernel_rfl) ?_
      refine k_pure (by kernel_rfl) (d := (some 39)) (by kernel_rfl) (v := .pointer (some ⟨n40, 0, none⟩)) (fun _ => by kernel_rfl) ?_
      refine k_make (by kernel_rfl) (d := (some 40)) (by kernel_rfl) (v := .int .i64 ((1 : Nat) : Int)) (run_loadA (ty := 3) (x := (.tmp 39)) (a := ⟨n40, 0, none⟩) (by kernel_rfl) (by kernel_rfl) Tryd.underlying3 rfl ((H59.at 1 rfl).cell rfl)) trivial ?_
      intro w64 hw64 _
      replace hw64 := hw64.symm
      subst hw64
      obtain ⟨n65, hn65⟩ : ∃ n, w59.heap.size = n := ⟨_, rfl⟩
      have H65 : Mm w [(w.heap.size, [.int .i64 kI, .int .i64 sI, .int .i64 bI]), (n40, [.int .i64 ((1 : Nat) : Int), .int .i64 16, .int .i64 0, .slice none 0 0]), (n65, bv (List.replicate 1 0))] (w59.alloc (.cells (bv (List.replicate 1 0)).toArray 5)) := H59.new hn65.symm rfl
      have hge65 : w.heap.size ≤ n65 := by rw [← hn65]; exact H59.size
      refine k_make (by kernel_rfl) (d := (some 41)) (by kernel_rfl) (v := .slice (some ⟨n65, 0, none⟩) 1 1) (w' := w59.alloc (.cells (bv (List.replicate 1 0)).toArray 5)) (by rw [← hn65]; exact run_mkB (t := 24) (x := (.tmp 40)) (y := (.tmp 40)) (by kernel_rfl) (by kernel_rfl) (by kernel_rfl) Tryd.underlying24 (by kernel_rfl) (by omega)) trivial ?_
      intro w65 hw65 _
      rw [← hw65] at H65
      clear hw65 hn65 H59
      refine k_pure (by kernel_rfl) (d := (some 42)) (by kernel_rfl) (v := .pointer (some ⟨n40, 0, none⟩)) (fun _ => by kernel_rfl) ?_
      refine k_pure (by kernel_rfl) (d := (some 43)) (by kernel_rfl) (v := .pointer (some ⟨n40, 3, none⟩)) (fun _ => by kernel_rfl) ?_
      have H68 : Mm w [(w.heap.size, [.int .i64 kI, .int .i64 sI, .int .i64 bI]), (n40, ownL 1 16 0 n65), (n65, bv (List.replicate 1 0))] (w65.setCell ⟨n40, 3, none⟩ (.slice (some ⟨n65, 0, none⟩) 1 1)) := (by have h := H65.put 1 rfl 3 (.slice (some ⟨n65, 0, none⟩) 1 1); rw [(show (([.int .i64 ((1 : Nat) : Int), .int .i64 16, .int .i64 0, .slice none 0 0]) : List Value).set 3 (.slice (some ⟨n65, 0, none⟩) 1 1) = ownL 1 16 0 n65 from rfl)] at h; exact h)
      refine k_skipOp (by kernel_rfl) (d := none) (by kernel_rfl) (run_storeA (ty := 24) (x := (.tmp 43)) (y := (.tmp 41)) (b := n40) (off := 3) (v := .slice (some ⟨n65, 0, none⟩) 1 1) (by kernel_rfl) (by kernel_rfl) (by kernel_rfl) rfl rfl (by kernel_rfl) ((H65.at 1 rfl).cell (rfl)) (H65.at 1 rfl).free) trivial ?_
      intro w68 hw68 _
      rw [← hw68] at H68
      clear hw68 H65
      refine k_end ?_
      go_simp
      go_upto_region 5 with (fail)
      refine wp_seq_atS (opsAt Tryd.f11 5) ((true, 0) :: (false, 1) :: []) (fun _ => True) (by kernel_rfl) (by kernel_rfl) trivial ?_
      refine k_pure (by kernel_rfl) (d := (some 44)) (by kernel_rfl) (v := .pointer (some ⟨n40, 0, none⟩)) (fun _ => by kernel_rfl) ?_
      refine k_callR (by kernel_rfl) (d := (some 45)) (by kernel_rfl) (f := 19) (args := #[.pointer (some ⟨n40, 0, none⟩)]) (fun _ => by kernel_rfl) (reset2_c (sz := 1) (by omega) (H68.at 1 rfl) (H68.at 2 rfl) (H68.ne 1 2 _ _ _ _ rfl rfl (by decide))) (fun _ w70 ⟨he70, u70⟩ => ⟨_, he70, trivial, ?_⟩)
      have H70 := H68.upd2 (i := 1) (j := 2) (by decide) rfl rfl u70
      clear u70 he70 H68
      refine k_end ?_
      go_simp
      go_upto_region 6 with (fail)
      refine wp_seq_atS (opsAt Tryd.f11 6) ((true, 0) :: (true, 1) :: []) (fun _ => True) (by kernel_rfl) (by kernel_rfl) trivial ?_
      refine k_pure (by kernel_rfl) (d := (some 46)) (by kernel_rfl) (v := .pointer (some ⟨n40, 0, none⟩)) (fun _ => by kernel_rfl) ?_
      refine k_pure (by kernel_rfl) (d := (some 2)) (by kernel_rfl) (v := .pointer (some ⟨n40, 0, none⟩)) (fun _ => by kernel_rfl) ?_
      refine k_end ?_
      go_simp
      have HF := Lib.hid (show Mm w [(n40, ownL 1 16 0 n65), (n65, bv (fr 1 1))] w70 from Mm.drop0 H70 (Nat.le_refl _))
      have HNE := Lib.hid (H70.ne 1 2 _ _ _ _ rfl rfl (by decide))
      clear H70
      go_wp2_with fail
      exact bodyPost_ret_by (by kernel_rfl) (by kernel_rfl) ⟨n40, n65, 16, rfl, by assumption, by assumption, HNE.out, HF.out⟩
    have g1 : sI ≤ 16 := by omega
    clear h1
    by_cases h2 : bI < sI
    · skip
      go_enter Tryd.func11, Tryd.ntmps11
      go_upto_region 1 with (fail)
      refine wp_gen (fun WW => Mm w [(w.heap.size, [.int .i64 kI, .int .i64 sI, .int .i64 bI])] WW) ((Mm.zero w).new (L := [.int .i64 kI, .int .i64 sI, .int .i64 bI]) rfl (by kernel_rfl)) ?_
      intro W0 H0
      refine wp_seq_atS (opsAt Tryd.f11 1) ((true, 0) :: (false, 1) :: (true, 2) :: (false, 3) :: (true, 4) :: (false, 5) :: (true, 6) :: []) (fun _ => True) (by kernel_rfl) (by kernel_rfl) trivial ?_
      refine k_pure (by kernel_rfl) (d := (some 4)) (by kernel_rfl) (v := .pointer (some ⟨w.heap.size, 1, none⟩)) (fun _ => by kernel_rfl) ?_
      refine k_make (by kernel_rfl) (d := (some 5)) (by kernel_rfl) (v := .int .i64 sI) (run_loadA (ty := 3) (x := (.tmp 4)) (a := ⟨w.heap.size, 1, none⟩) (by kernel_rfl) (by kernel_rfl) Tryd.underlying3 rfl ((H0.at 0 rfl).cell rfl)) trivial ?_
      intro w74 hw74 _
      replace hw74 := hw74.symm
      subst hw74
      refine k_pure (by kernel_rfl) (d := (some 6)) (by kernel_rfl) (v := .pointer (some ⟨w.heap.size, 2, none⟩)) (fun _ => by kernel_rfl) ?_
      refine k_make (by kernel_rfl) (d := (some 7)) (by kernel_rfl) (v := .int .i64 bI) (run_loadA (ty := 3) (x := (.tmp 6)) (a := ⟨w.heap.size, 2, none⟩) (by kernel_rfl) (by kernel_rfl) Tryd.underlying3 rfl ((H0.at 0 rfl).cell rfl)) trivial ?_
      intro w76 hw76 _
      replace hw76 := hw76.symm
      subst hw76
      refine k_pure (by kernel_rfl) (d := (some 8)) (by kernel_rfl) (v := .agg #[.int .i64 sI, .int .i64 bI, .int .i64 0, .slice none 0 0]) (fun _ => by kernel_rfl) ?_
      obtain ⟨n77, hn77⟩ : ∃ n, W0.heap.size = n := ⟨_, rfl⟩
      have H77 : Mm w [(w.heap.size, [.int .i64 kI, .int .i64 sI, .int .i64 bI]), (n77, [.int .i64 sI, .int .i64 bI, .int .i64 0, .slice none 0 0])] (W0.alloc (.cells ([.int .i64 sI, .int .i64 bI, .int .i64 0, .slice none 0 0]).toArray 50)) := H0.new hn77.symm rfl
      have hge77 : w.heap.size ≤ n77 := by rw [← hn77]; exact H0.size
      refine k_make (by kernel_rfl) (d := (some 9)) (by kernel_rfl) (v := .pointer (some ⟨n77, 0, none⟩)) (w' := W0.alloc (.cells ([.int .i64 sI, .int .i64 bI, .int .i64 0, .slice none 0 0]).toArray 50)) (by rw [← hn77]; kernel_rfl) trivial ?_
      intro w77 hw77 _
      rw [← hw77] at H77
      clear hw77 hn77 H0
      refine k_pure (by kernel_rfl) (d := (some 3)) (by kernel_rfl) (v := .pointer (some ⟨n77, 0, none⟩)) (fun _ => by kernel_rfl) ?_
      refine k_end ?_
      go_simp
      go_upto_region 2 with (fail)
      refine wp_seq_atS (opsAt Tryd.f11 2) ((true, 0) :: (false, 1) :: (true, 2) :: (true, 3) :: (true, 4) :: (false, 5) :: (true, 6) :: (true, 7) :: (true, 8) :: (true, 9) :: (false, 10) :: (true, 11) :: (false, 12) :: (true, 13) :: (true, 14) :: (true, 15) :: (true, 16) :: (false, 17) :: (true, 18) :: (true, 19) :: []) (fun _ => True) (by kernel_rfl) (by kernel_rfl) trivial ?_
      refine k_pure (by kernel_rfl) (d := (some 10)) (by kernel_rfl) (v := .pointer (some ⟨w.heap.size, 1, none⟩)) (fun _ => by kernel_rfl) ?_
      refine k_make (by kernel_rfl) (d := (some 11)) (by kernel_rfl) (v := .int .i64 sI) (run_loadA (ty := 3) (x := (.tmp 10)) (a := ⟨w.heap.size, 1, none⟩) (by kernel_rfl) (by kernel_rfl) Tryd.underlying3 rfl ((H77.at 0 rfl).cell rfl)) trivial ?_
      intro w80 hw80 _
      replace hw80 := hw80.symm
      subst hw80
      refine k_pure (by kernel_rfl) (d := (some 12)) (by kernel_rfl) (v := .bool false) (fun _ => run_binOpV (op := .lss) (x := .tmp 11) (y := .const (.int .i64 1)) (t := 3) (t' := 3) (u := .int .i64 sI) (v := .int .i64 1) (by kernel_rfl) (by kernel_rfl) (by kernel_rfl) rfl (lssF (by omega))) ?_
      refine k_pure (by kernel_rfl) (d := (some 13)) (by kernel_rfl) (v := .bool false) (fun _ => by kernel_rfl) ?_
      refine k_pure (by kernel_rfl) (d := (some 14)) (by kernel_rfl) (v := .pointer (some ⟨w.heap.size, 1, none⟩)) (fun _ => by kernel_rfl) ?_
      refine k_make (by kernel_rfl) (d := (some 15)) (by kernel_rfl) (v := .int .i64 sI) (run_loadA (ty := 3) (x := (.tmp 14)) (a := ⟨w.heap.size, 1, none⟩) (by kernel_rfl) (by kernel_rfl) Tryd.underlying3 rfl ((H77.at 0 rfl).cell rfl)) trivial ?_
      intro w83 hw83 _
      replace hw83 := hw83.symm
      subst hw83
      refine k_pure (by kernel_rfl) (d := (some 16)) (by kernel_rfl) (v := .bool false) (fun _ => run_binOpV (op := .gtr) (x := .tmp 15) (y := .const (.int .i64 16)) (t := 3) (t' := 3) (u := .int .i64 sI) (v := .int .i64 16) (by kernel_rfl) (by kernel_rfl) (by kernel_rfl) rfl (gtrF (by omega))) ?_
      refine k_pure (by kernel_rfl) (d := (some 17)) (by kernel_rfl) (v := .bool false) (fun _ => by kernel_rfl) ?_
      refine k_pure (by kernel_rfl) (d := (some 18)) (by kernel_rfl) (v := .bool false) (fun _ => by kernel_rfl) ?_
      refine k_pure (by kernel_rfl) (d := (some 19)) (by kernel_rfl) (v := .pointer (some ⟨w.heap.size, 2, none⟩)) (fun _ => by kernel_rfl) ?_
      refine k_make (by kernel_rfl) (d := (some 20)) (by kernel_rfl) (v := .int .i64 bI) (run_loadA (ty := 3) (x := (.tmp 19)) (a := ⟨w.heap.size, 2, none⟩) (by kernel_rfl) (by kernel_rfl) Tryd.underlying3 rfl ((H77.at 0 rfl).cell rfl)) trivial ?_
      intro w87 hw87 _
      replace hw87 := hw87.symm
      subst hw87
      refine k_pure (by kernel_rfl) (d := (some 21)) (by kernel_rfl) (v := .pointer (some ⟨w.heap.size, 1, none⟩)) (fun _ => by kernel_rfl) ?_
      refine k_make (by kernel_rfl) (d := (some 22)) (by kernel_rfl) (v := .int .i64 sI) (run_loadA (ty := 3) (x := (.tmp 21)) (a := ⟨w.heap.size, 1, none⟩) (by kernel_rfl) (by kernel_rfl) Tryd.underlying3 rfl ((H77.at 0 rfl).cell rfl)) trivial ?_
      intro w89 hw89 _
      replace hw89 := hw89.symm
      subst hw89
      refine k_pure (by kernel_rfl) (d := (some 23)) (by kernel_rfl) (v := .bool true) (fun _ => run_binOpV (op := .lss) (x := .tmp 20) (y := .tmp 22) (t := 3) (t' := 3) (u := .int .i64 bI) (v := .int .i64 sI) (by kernel_rfl) (by kernel_rfl) (by kernel_rfl) rfl (lssT (by omega))) ?_
      refine k_pure (by kernel_rfl) (d := (some 24)) (by kernel_rfl) (v := .bool true) (fun _ => by kernel_rfl) ?_
      refine k_pure (by kernel_rfl) (d := (some 25)) (by kernel_rfl) (v := .bool true) (fun _ => by kernel_rfl) ?_
      refine k_skip (by kernel_rfl) (d := (some 26)) (by kernel_rfl) ?_
      refine k_skip' trivial (by kernel_rfl) (d := (some 27)) (by kernel_rfl) ?_
      refine k_skip (by kernel_rfl) (d := (some 28)) (by kernel_rfl) ?_
      refine k_pure (by kernel_rfl) (d := (some 29)) (by kernel_rfl) (v := .bool true) (fun _ => by kernel_rfl) ?_
      refine k_end ?_
      go_simp
      go_upto_region 3 with (fail)
      refine wp_seq_atS (opsAt Tryd.f11 3) ((true, 0) :: (true, 1) :: (true, 2) :: (true, 3) :: (false, 4) :: (true, 5) :: (true, 6) :: (false, 7) :: []) (fun _ => True) (by kernel_rfl) (by kernel_rfl) trivial ?_
      refine k_pure (by kernel_rfl) (d := (some 30)) (by kernel_rfl) (v := .pointer (some ⟨n77, 0, none⟩)) (fun _ => by kernel_rfl) ?_
      refine k_pure (by kernel_rfl) (d := (some 31)) (by kernel_rfl) (v := .pointer (some ⟨n77, 0, none⟩)) (fun _ => by kernel_rfl) ?_
      refine k_pure (by kernel_rfl) (d := (some 32)) (by kernel_rfl) (v := .pointer (some ⟨n77, 0, none⟩)) (fun _ => by kernel_rfl) ?_
      refine k_pure (by kernel_rfl) (d := (some 33)) (by kernel_rfl) (v := .pointer (some ⟨n77, 0, none⟩)) (fun _ => by kernel_rfl) ?_
      have H97 : Mm w [(w.heap.size, [.int .i64 kI, .int .i64 sI, .int .i64 bI]), (n77, [.int .i64 ((1 : Nat) : Int), .int .i64 bI, .int .i64 0, .slice none 0 0])] (w77.setCell ⟨n77, 0, none⟩ (.int .i64 1)) := (by have h := H77.put 1 rfl 0 (.int .i64 1); rw [(show (([.int .i64 sI, .int .i64 bI, .int .i64 0, .slice none 0 0]) : List Value).set 0 (.int .i64 1) = [.int .i64 ((1 : Nat) : Int), .int .i64 bI, .int .i64 0, .slice none 0 0] from rfl)] at h; exact h)
      refine k_skipOp (by kernel_rfl) (d := none) (by kernel_rfl) (run_storeA (ty := 3) (x := (.tmp 33)) (y := (.const (.int .i64 1))) (b := n77) (off := 0) (v := .int .i64 1) (by kernel_rfl) (by kernel_rfl) (by kernel_rfl) rfl rfl (by kernel_rfl) ((H77.at 1 rfl).cell (rfl)) (H77.at 1 rfl).free) trivial ?_
      intro w97 hw97 _
      rw [← hw97] at H97
      clear hw97 H77
      refine k_pure (by kernel_rfl) (d := (some 34)) (by kernel_rfl) (v := .pointer (some ⟨n77, 0, none⟩)) (fun _ => by kernel_rfl) ?_
      refine k_pure (by kernel_rfl) (d := (some 35)) (by kernel_rfl) (v := .pointer (some ⟨n77, 1, none⟩)) (fun _ => by kernel_rfl) ?_
      have H100 : Mm w [(w.heap.size, [.int .i64 kI, .int .i64 sI, .int .i64 bI]), (n77, [.int .i64 ((1 : Nat) : Int), .int .i64 16, .int .i64 0, .slice none 0 0])] (w97.setCell ⟨n77, 1, none⟩ (.int .i64 16)) := (by have h := H97.put 1 rfl 1 (.int .i64 16); rw [(show (([.int .i64 ((1 : Nat) : Int), .int .i64 bI, .int .i64 0, .slice none 0 0]) : List Value).set 1 (.int .i64 16) = [.int .i64 ((1 : Nat) : Int), .int .i64 16, .int .i64 0, .slice none 0 0] from rfl)] at h; exact h)
      refine k_skipOp (by kernel_rfl) (d := none) (by kernel_rfl) (run_storeA (ty := 3) (x := (.tmp 35)) (y := (.const (.int .i64 16))) (b := n77) (off := 1) (v := .int .i64 16) (by kernel_rfl) (by kernel_rfl) (by kernel_rfl) rfl rfl (by kernel_rfl) ((H97.at 1 rfl).cell (rfl)) (H97.at 1 rfl).free) trivial ?_
      intro w100 hw100 _
      rw [← hw100] at H100
      clear hw100 H97
      refine k_end ?_
      go_simp
      go_upto_region 4 with (fail)
      refine wp_seq_atS (opsAt Tryd.f11 4) ((true, 0) :: (true, 1) :: (true, 2) :: (true, 3) :: (false, 4) :: (false, 5) :: (true, 6) :: (true, 7) :: (false, 8) :: []) (fun _ => True) (by kernel_rfl) (by kernel_rfl) trivial ?_
      refine k_pure (by kernel_rfl) (d := (some 36)) (by kernel_rfl) (v := .pointer (some ⟨n77, 0, none⟩)) (fun _ => by kernel_rfl) ?_
      refine k_pure (by kernel_rfl) (d := (some 37)) (by kernel_rfl) (v := .pointer (some ⟨n77, 0, none⟩)) (fun _ => by kernel_rfl) ?_
      refine k_pure (by kernel_rfl) (d := (some 38)) (by kernel_rfl) (v := .pointer (some ⟨n77, 0, none⟩)) (fun _ => by kernel_rfl) ?_
      refine k_pure (by kernel_rfl) (d := (some 39)) (by kernel_rfl) (v := .pointer (some ⟨n77, 0, none⟩)) (fun _ => by kernel_rfl) ?_
      refine k_make (by kernel_rfl) (d := (some 40)) (by kernel_rfl) (v := .int .i64 ((1 : Nat) : Int)) (run_loadA (ty := 3) (x := (.tmp 39)) (a := ⟨n77, 0, none⟩) (by kernel_rfl) (by kernel_rfl) Tryd.underlying3 rfl ((H100.at 1 rfl).cell rfl)) trivial ?_
      intro w105 hw105 _
      replace hw105 := hw105.symm
      subst hw105
      obtain ⟨n106, hn106⟩ : ∃ n, w100.heap.size = n := ⟨_, rfl⟩
      have H106 : Mm w [(w.heap.size, [.int .i64 kI, .int .i64 sI, .int .i64 bI]), (n77, [.int .i64 ((1 : Nat) : Int), .int .i64 16, .int .i64 0, .slice none 0 0]), (n106, bv (List.replicate 1 0))] (w100.alloc (.cells (bv (List.replicate 1 0)).toArray 5)) := H100.new hn106.symm rfl
      have hge106 : w.heap.size ≤ n106 := by rw [← hn106]; exact H100.size
      refine k_make (by kernel_rfl) (d := (some 41)) (by kernel_rfl) (v := .slice (some ⟨n106, 0, none⟩) 1 1) (w' := w100.alloc (.cells (bv (List.replicate 1 0)).toArray 5)) (by rw [← hn106]; exact run_mkB (t := 24) (x := (.tmp 40)) (y := (.tmp 40)) (by kernel_rfl) (by kernel_rfl) (by kernel_rfl) Tryd.underlying24 (by kernel_rfl) (by omega)) trivial ?_
      intro w106 hw106 _
      rw [← hw106] at H106
      clear hw106 hn106 H100
      refine k_pure (by kernel_rfl) (d := (some 42)) (by kernel_rfl) (v := .pointer (some ⟨n77, 0, none⟩)) (fun _ => by kernel_rfl) ?_
      refine k_pure (by kernel_rfl) (d := (some 43)) (by kernel_rfl) (v := .pointer (some ⟨n77, 3, none⟩)) (fun _ => by kernel_rfl) ?_
      have H109 : Mm w [(w.heap.size, [.int .i64 kI, .int .i64 sI, .int .i64 bI]), (n77, ownL 1 16 0 n106), (n106, bv (List.replicate 1 0))] (w106.setCell ⟨n77, 3, none⟩ (.slice (some ⟨n106, 0, none⟩) 1 1)) := (by have h := H106.put 1 rfl 3 (.slice (some ⟨n106, 0, none⟩) 1 1); rw [(show (([.int .i64 ((1 : Nat) : Int), .int .i64 16, .int .i64 0, .slice none 0 0]) : List Value).set 3 (.slice (some ⟨n106, 0, none⟩) 1 1) = ownL 1 16 0 n106 from rfl)] at h; exact h)
      refine k_skipOp (by kernel_rfl) (d := none) (by kernel_rfl) (run_storeA (ty := 24) (x := (.tmp 43)) (y := (.tmp 41)) (b := n77) (off := 3) (v := .slice (some ⟨n106, 0, none⟩) 1 1) (by kernel_rfl) (by kernel_rfl) (by kernel_rfl) rfl rfl (by kernel_rfl) ((H106.at 1 rfl).cell (rfl)) (H106.at 1 rfl).free) trivial ?_
      intro w109 hw109 _
      rw [← hw109] at H109
      clear hw109 H106
      refine k_end ?_
      go_simp
      go_upto_region 5 with (fail)
      refine wp_seq_atS (opsAt Tryd.f11 5) ((true, 0) :: (false, 1) :: []) (fun _ => True) (by kernel_rfl) (by kernel_rfl) trivial ?_
      refine k_pure (by kernel_rfl) (d := (some 44)) (by kernel_rfl) (v := .pointer (some ⟨n77, 0, none⟩)) (fun _ => by kernel_rfl) ?_
      refine k_callR (by kernel_rfl) (d := (some 45)) (by kernel_rfl) (f := 19) (args := #[.pointer (some ⟨n77, 0, none⟩)]) (fun _ => by kernel_rfl) (reset2_c (sz := 1) (by omega) (H109.at 1 rfl) (H109.at 2 rfl) (H109.ne 1 2 _ _ _ _ rfl rfl (by decide))) (fun _ w111 ⟨he111, u111⟩ => ⟨_, he111, trivial, ?_⟩)
      have H111 := H109.upd2 (i := 1) (j := 2) (by decide) rfl rfl u111
      clear u111 he111 H109
      refine k_end ?_
      go_simp
      go_upto_region 6 with (fail)
      refine wp_seq_atS (opsAt Tryd.f11 6) ((true, 0) :: (true, 1) :: []) (fun _ => True) (by kernel_rfl) (by kernel_rfl) trivial ?_
      refine k_pure (by kernel_rfl) (d := (some 46)) (by kernel_rfl) (v := .pointer (some ⟨n77, 0, none⟩)) (fun _ => by kernel_rfl) ?_
      refine k_pure (by kernel_rfl) (d := (some 2)) (by kernel_rfl) (v := .pointer (some ⟨n77, 0, none⟩)) (fun _ => by kernel_rfl) ?_
      refine k_end ?_
      go_simp
      have HF := Lib.hid (show Mm w [(n77, ownL 1 16 0 n106), (n106, bv (fr 1 1))] w111 from Mm.drop0 H111 (Nat.le_refl _))
      have HNE := Lib.hid (H111.ne 1 2 _ _ _ _ rfl rfl (by decide))
      clear H111
      go_wp2_with fail
      exact bodyPost_ret_by (by kernel_rfl) (by kernel_rfl) ⟨n77, n106, 16, rfl, by assumption, by assumption, HNE.out, HF.out⟩
    have g2 : sI ≤ bI := by omega
    clear h2
    have h3 : 32 < bI := by omega
    go_enter Tryd.func11, Tryd.ntmps11
    go_upto_region 1 with (fail)
    refine wp_gen (fun WW => Mm w [(w.heap.size, [.int .i64 kI, .int .i64 sI, .int .i64 bI])] WW) ((Mm.zero w).new (L := [.int .i64 kI, .int .i64 sI, .int .i64 bI]) rfl (by kernel_rfl)) ?_
    intro W0 H0
    refine wp_seq_atS (opsAt Tryd.f11 1) ((true, 0) :: (false, 1) :: (true, 2) :: (false, 3) :: (true, 4) :: (false, 5) :: (true, 6) :: []) (fun _ => True) (by kernel_rfl) (by kernel_rfl) trivial ?_
    refine k_pure (by kernel_rfl) (d := (some 4)) (by kernel_rfl) (v := .pointer (some ⟨w.heap.size, 1, none⟩)) (fun _ => by kernel_rfl) ?_
    refine k_make (by kernel_rfl) (d := (some 5)) (by kernel_rfl) (v := .int .i64 sI) (run_loadA (ty := 3) (x := (.tmp 4)) (a := ⟨w.heap.size, 1, none⟩) (by kernel_rfl) (by kernel_rfl) Tryd.underlying3 rfl ((H0.at 0 rfl).cell rfl)) trivial ?_
    intro w115 hw115 _
    replace hw115 := hw115.symm
    subst hw115
    refine k_pure (by kernel_rfl) (d := (some 6)) (by kernel_rfl) (v := .pointer (some ⟨w.heap.size, 2, none⟩)) (fun _ => by kernel_rfl) ?_
    refine k_make (by kernel_rfl) (d := (some 7)) (by kernel_rfl) (v := .int .i64 bI) (run_loadA (ty := 3) (x := (.tmp 6)) (a := ⟨w.heap.size, 2, none⟩) (by kernel_rfl) (by kernel_rfl) Tryd.underlying3 rfl ((H0.at 0 rfl).cell rfl)) trivial ?_
    intro w117 hw117 _
    replace hw117 := hw117.symm
    subst hw117
    refine k_pure (by kernel_rfl) (d := (some 8)) (by kernel_rfl) (v := .agg #[.int .i64 sI, .int .i64 bI, .int .i64 0, .slice none 0 0]) (fun _ => by kernel_rfl) ?_
    obtain ⟨n118, hn118⟩ : ∃ n, W0.heap.size = n := ⟨_, rfl⟩
    have H118 : Mm w [(w.heap.size, [.int .i64 kI, .int .i64 sI, .int .i64 bI]), (n118, [.int .i64 sI, .int .i64 bI, .int .i64 0, .slice none 0 0])] (W0.alloc (.cells ([.int .i64 sI, .int .i64 bI, .int .i64 0, .slice none 0 0]).toArray 50)) := H0.new hn118.symm rfl
    have hge118 : w.heap.size ≤ n118 := by rw [← hn118]; exact H0.size
    refine k_make (by kernel_rfl) (d := (some 9)) (by kernel_rfl) (v := .pointer (some ⟨n118, 0, none⟩)) (w' := W0.alloc (.cells ([.int .i64 sI, .int .i64 bI, .int .i64 0, .slice none 0 0]).toArray 50)) (by rw [← hn118]; kernel_rfl) trivial ?_
    intro w118 hw118 _
    rw [← hw118] at H118
    clear hw118 hn118 H0
    refine k_pure (by kernel_rfl) (d := (some 3)) (by kernel_rfl) (v := .pointer (some ⟨n118, 0, none⟩)) (fun _ => by kernel_rfl) ?_
    refine k_end ?_
    go_simp
    go_upto_region 2 with (fail)
    refine wp_seq_atS (opsAt Tryd.f11 2) ((true, 0) :: (false, 1) :: (true, 2) :: (true, 3) :: (true, 4) :: (false, 5) :: (true, 6) :: (true, 7) :: (true, 8) :: (true, 9) :: (false, 10) :: (true, 11) :: (false, 12) :: (true, 13) :: (true, 14) :: (true, 15) :: (true, 16) :: (false, 17) :: (true, 18) :: (true, 19) :: []) (fun _ => True) (by kernel_rfl) (by kernel_rfl) trivial ?_
    refine k_pure (by kernel_rfl) (d := (some 10)) (by kernel_rfl) (v := .pointer (some ⟨w.heap.size, 1, none⟩)) (fun _ => by kernel_rfl) ?_
    refine k_make (by kernel_rfl) (d := (some 11)) (by kernel_rfl) (v := .int .i64 sI) (run_loadA (ty := 3) (x := (.tmp 10)) (a := ⟨w.heap.size, 1, none⟩) (by kernel_rfl) (by kernel_rfl) Tryd.underlying3 rfl ((H118.at 0 rfl).cell rfl)) trivial ?_
    intro w121 hw121 _
    replace hw121 := hw121.symm
    subst hw121
    refine k_pure (by kernel_rfl) (d := (some 12)) (by kernel_rfl) (v := .bool false) (fun _ => run_binOpV (op := .lss) (x := .tmp 11) (y := .const (.int .i64 1)) (t := 3) (t' := 3) (u := .int .i64 sI) (v := .int .i64 1) (by kernel_rfl) (by kernel_rfl) (by kernel_rfl) rfl (lssF (by omega))) ?_
    refine k_pure (by kernel_rfl) (d := (some 13)) (by kernel_rfl) (v := .bool false) (fun _ => by kernel_rfl) ?_
    refine k_pure (by kernel_rfl) (d := (some 14)) (by kernel_rfl) (v := .pointer (some ⟨w.heap.size, 1, none⟩)) (fun _ => by kernel_rfl) ?_
    refine k_make (by kernel_rfl) (d := (some 15)) (by kernel_rfl) (v := .int .i64 sI) (run_loadA (ty := 3) (x := (.tmp 14)) (a := ⟨w.heap.size, 1, none⟩) (by kernel_rfl) (by kernel_rfl) Tryd.underlying3 rfl ((H118.at 0 rfl).cell rfl)) trivial ?_
    intro w124 hw124 _
    replace hw124 := hw124.symm
    subst hw124
    refine k_pure (by kernel_rfl) (d := (some 16)) (by kernel_rfl) (v := .bool false) (fun _ => run_binOpV (op := .gtr) (x := .tmp 15) (y := .const (.int .i64 16)) (t := 3) (t' := 3) (u := .int .i64 sI) (v := .int .i64 16) (by kernel_rfl) (by kernel_rfl) (by kernel_rfl) rfl (gtrF (by omega))) ?_
    refine k_pure (by kernel_rfl) (d := (some 17)) (by kernel_rfl) (v := .bool false) (fun _ => by kernel_rfl) ?_
    refine k_pure (by kernel_rfl) (d := (some 18)) (by kernel_rfl) (v := .bool false) (fun _ => by kernel_rfl) ?_
    refine k_pure (by kernel_rfl) (d := (some 19)) (by kernel_rfl) (v := .pointer (some ⟨w.heap.size, 2, none⟩)) (fun _ => by kernel_rfl) ?_
    refine k_make (by kernel_rfl) (d := (some 20)) (by kernel_rfl) (v := .int .i64 bI) (run_loadA (ty := 3) (x := (.tmp 19)) (a := ⟨w.heap.size, 2, none⟩) (by kernel_rfl) (by kernel_rfl) Tryd.underlying3 rfl ((H118.at 0 rfl).cell rfl)) trivial ?_
    intro w128 hw128 _
    replace hw128 := hw128.symm
    subst hw128
    refine k_pure (by kernel_rfl) (d := (some 21)) (by kernel_rfl) (v := .pointer (some ⟨w.heap.size, 1, none⟩)) (fun _ => by kernel_rfl) ?_
    refine k_make (by kernel_rfl) (d := (some 22)) (by kernel_rfl) (v := .int .i64 sI) (run_loadA (ty := 3) (x := (.tmp 21)) (a := ⟨w.heap.size, 1, none⟩) (by kernel_rfl) (by kernel_rfl) Tryd.underlying3 rfl ((H118.at 0 rfl).cell rfl)) trivial ?_
    intro w130 hw130 _
    replace hw130 := hw130.symm
    subst hw130
    refine k_pure (by kernel_rfl) (d := (some 23)) (by kernel_rfl) (v := .bool false) (fun _ => run_binOpV (op := .lss) (x := .tmp 20) (y := .tmp 22) (t := 3) (t' := 3) (u := .int .i64 bI) (v := .int .i64 sI) (by kernel_rfl) (by kernel_rfl) (by kernel_rfl) rfl (lssF (by omega))) ?_
    refine k_pure (by kernel_rfl) (d := (some 24)) (by kernel_rfl) (v := .bool false) (fun _ => by kernel_rfl) ?_
    refine k_pure (by kernel_rfl) (d := (some 25)) (by kernel_rfl) (v := .bool false) (fun _ => by kernel_rfl) ?_
    refine k_pure (by kernel_rfl) (d := (some 26)) (by kernel_rfl) (v := .pointer (some ⟨w.heap.size, 2, none⟩)) (fun _ => by kernel_rfl) ?_
    refine k_make (by kernel_rfl) (d := (some 27)) (by kernel_rfl) (v := .int .i64 bI) (run_loadA (ty := 3) (x := (.tmp 26)) (a := ⟨w.heap.size, 2, none⟩) (by kernel_rfl) (by kernel_rfl) Tryd.underlying3 rfl ((H118.at 0 rfl).cell rfl)) trivial ?_
    intro w134 hw134 _
    replace hw134 := hw134.symm
    subst hw134
    refine k_pure (by kernel_rfl) (d := (some 28)) (by kernel_rfl) (v := .bool true) (fun _ => run_binOpV (op := .gtr) (x := .tmp 27) (y := .const (.int .i64 32)) (t := 3) (t' := 3) (u := .int .i64 bI) (v := .int .i64 32) (by kernel_rfl) (by kernel_rfl) (by kernel_rfl) rfl (gtrT (by omega))) ?_
    refine k_pure (by kernel_rfl) (d := (some 29)) (by kernel_rfl) (v := .bool true) (fun _ => by kernel_rfl) ?_
    refine k_end ?_
    go_simp
    go_upto_region 3 with (fail)
    refine wp_seq_atS (opsAt Tryd.f11 3) ((true, 0) :: (true, 1) :: (true, 2) :: (true, 3) :: (false, 4) :: (true, 5) :: (true, 6) :: (false, 7) :: []) (fun _ => True) (by kernel_rfl) (by kernel_rfl) trivial ?_
    refine k_pure (by kernel_rfl) (d := (some 30)) (by kernel_rfl) (v := .pointer (some ⟨n118, 0, none⟩)) (fun _ => by kernel_rfl) ?_
    refine k_pure (by kernel_rfl) (d := (some 31)) (by kernel_rfl) (v := .pointer (some ⟨n118, 0, none⟩)) (fun _ => by kernel_rfl) ?_
    refine k_pure (by kernel_rfl) (d := (some 32)) (by kernel_rfl) (v := .pointer (some ⟨n118, 0, none⟩)) (fun _ => by kernel_rfl) ?_
    refine k_pure (by kernel_rfl) (d := (some 33)) (by kernel_rfl) (v := .pointer (some ⟨n118, 0, none⟩)) (fun _ => by kernel_rfl) ?_
    have H140 : Mm w [(w.heap.size, [.int .i64 kI, .int .i64 sI, .int .i64 bI]), (n118, [.int .i64 ((1 : Nat) : Int), .int .i64 bI, .int .i64 0, .slice none 0 0])] (w118.setCell ⟨n118, 0, none⟩ (.int .i64 1)) := (by have h := H118.put 1 rfl 0 (.int .i64 1); rw [(show (([.int .i64 sI, .int .i64 bI, .int .i64 0, .slice none 0 0]) : List Value).set 0 (.int .i64 1) = [.int .i64 ((1 : Nat) : Int), .int .i64 bI, .int .i64 0, .slice none 0 0] from rfl)] at h; exact h)
    refine k_skipOp (by kernel_rfl) (d := none) (by kernel_rfl) (run_storeA (ty := 3) (x := (.tmp 33)) (y := (.const (.int .i64 1))) (b := n118) (off := 0) (v := .int .i64 1) (by kernel_rfl) (by kernel_rfl) (by kernel_rfl) rfl rfl (by kernel_rfl) ((H118.at 1 rfl).cell (rfl)) (H118.at 1 rfl).free) trivial ?_
    intro w140 hw140 _
    rw [← hw140] at H140
    clear hw140 H118
    refine k_pure (by kernel_rfl) (d := (some 34)) (by kernel_rfl) (v := .pointer (some ⟨n118, 0, none⟩)) (fun _ => by kernel_rfl) ?_
    refine k_pure (by kernel_rfl) (d := (some 35)) (by kernel_rfl) (v := .pointer (some ⟨n118, 1, none⟩)) (fun _ => by kernel_rfl) ?_
    have H143 : Mm w [(w.heap.size, [.int .i64 kI, .int .i64 sI, .int .i64 bI]), (n118, [.int .i64 ((1 : Nat) : Int), .int .i64 16, .int .i64 0, .slice none 0 0])] (w140.setCell ⟨n118, 1, none⟩ (.int .i64 16)) := (by have h := H140.put 1 rfl 1 (.int .i64 16); rw [(show (([.int .i64 ((1 : Nat) : Int), .int .i64 bI, .int .i64 0, .slice none 0 0]) : List Value).set 1 (.int .i64 16) = [.int .i64 ((1 : Nat) : Int), .int .i64 16, .int .i64 0, .slice none 0 0] from rfl)] at h; exact h)
    refine k_skipOp (by kernel_rfl) (d := none) (by kernel_rfl) (run_storeA (ty := 3) (x := (.tmp 35)) (y := (.const (.int .i64 16))) (b := n118) (off := 1) (v := .int .i64 16) (by kernel_rfl) (by kernel_rfl) (by kernel_rfl) rfl rfl (by kernel_rfl) ((H140.at 1 rfl).cell (rfl)) (H140.at 1 rfl).free) trivial ?_
    intro w143 hw143 _
    rw [← hw143] at H143
    clear hw143 H140
    refine k_end ?_
    go_simp
    go_upto_region 4 with (fail)
    refine wp_seq_atS (opsAt Tryd.f11 4) ((true, 0) :: (true, 1) :: (true, 2) :: (true, 3) :: (false, 4) :: (false, 5) :: (true, 6) :: (true, 7) :: (false, 8) :: []) (fun _ => True) (by kernel_rfl) (by kernel_rfl) trivial ?_
    refine k_pure (by kernel_rfl) (d := (some 36)) (by kernel_rfl) (v := .pointer (some ⟨n118, 0, none⟩)) (fun _ => by kernel_rfl) ?_
    refine k_pure (by kernel_rfl) (d := (some 37)) (by kernel_rfl) (v := .pointer (some ⟨n118, 0, none⟩)) (fun _ => by kernel_rfl) ?_
    refine k_pure (by kernel_rfl) (d := (some 38)) (by kernel_rfl) (v := .pointer (some ⟨n118, 0, none⟩)) (fun _ => by kernel_rfl) ?_
    refine k_pure (by kernel_rfl) (d := (some 39)) (by kernel_rfl) (v := .pointer (some ⟨n118, 0, none⟩)) (fun _ => by kernel_rfl) ?_
    refine k_make (by kernel_rfl) (d := (some 40)) (by kernel_rfl) (v := .int .i64 ((1 : Nat) : Int)) (run_loadA (ty := 3) (x := (.tmp 39)) (a := ⟨n118, 0, none⟩) (by kernel_rfl) (by kernel_rfl) Tryd.underlying3 rfl ((H143.at 1 rfl).cell rfl)) trivial ?_
    intro w148 hw148 _
    replace hw148 := hw148.symm
    subst hw148
    obtain ⟨n149, hn149⟩ : ∃ n, w143.heap.size = n := ⟨_, rfl⟩
    have H149 : Mm w [(w.heap.size, [.int .i64 kI, .int .i64 sI, .int .i64 bI]), (n118, [.int .i64 ((1 : Nat) : Int), .int .i64 16, .int .i64 0, .slice none 0 0]), (n149, bv (List.replicate 1 0))] (w143.alloc (.cells (bv (List.replicate 1 0)).toArray 5)) := H143.new hn149.symm rfl
    have hge149 : w.heap.size ≤ n149 := by rw [← hn149]; exact H143.size
    refine k_make (by kernel_rfl) (d := (some 41)) (by kernel_rfl) (v := .slice (some ⟨n149, 0, none⟩) 1 1) (w' := w143.alloc (.cells (bv (List.replicate 1 0)).toArray 5)) (by rw [← hn149]; exact run_mkB (t := 24) (x := (.tmp 40)) (y := (.tmp 40)) (by kernel_rfl) (by kernel_rfl) (by kernel_rfl) Tryd.underlying24 (by kernel_rfl) (by omega)) trivial ?_
    intro w149 hw149 _
    rw [← hw149] at H149
    clear hw149 hn149 H143
    refine k_pure (by kernel_rfl) (d := (some 42)) (by kernel_rfl) (v := .pointer (some ⟨n118, 0, none⟩)) (fun _ => by kernel_rfl) ?_
    refine k_pure (by kernel_rfl) (d := (some 43)) (by kernel_rfl) (v := .pointer (some ⟨n118, 3, none⟩)) (fun _ => by kernel_rfl) ?_
    have H152 : Mm w [(w.heap.size, [.int .i64 kI, .int .i64 sI, .int .i64 bI]), (n118, ownL 1 16 0 n149), (n149, bv (List.replicate 1 0))] (w149.setCell ⟨n118, 3, none⟩ (.slice (some ⟨n149, 0, none⟩) 1 1)) := (by have h := H149.put 1 rfl 3 (.slice (some ⟨n149, 0, none⟩) 1 1); rw [(show (([.int .i64 ((1 : Nat) : Int), .int .i64 16, .int .i64 0, .slice none 0 0]) : List Value).set 3 (.slice (some ⟨n149, 0, none⟩) 1 1) = ownL 1 16 0 n149 from rfl)] at h; exact h)
    refine k_skipOp (by kernel_rfl) (d := none) (by kernel_rfl) (run_storeA (ty := 24) (x := (.tmp 43)) (y := (.tmp 41)) (b := n118) (off := 3) (v := .slice (some ⟨n149, 0, none⟩) 1 1) (by kernel_rfl) (by kernel_rfl) (by kernel_rfl) rfl rfl (by kernel_rfl) ((H149.at 1 rfl).cell (rfl)) (H149.at 1 rfl).free) trivial ?_
    intro w152 hw152 _
    rw [← hw152] at H152
    clear hw152 H149
    refine k_end ?_
    go_simp
    go_upto_region 5 with (fail)
    refine wp_seq_atS (opsAt Tryd.f11 5) ((true, 0) :: (false, 1) :: []) (fun _ => True) (by kernel_rfl) (by kernel_rfl) trivial ?_
    refine k_pure (by kernel_rfl) (d := (some 44)) (by kernel_rfl) (v := .pointer (some ⟨n118, 0, none⟩)) (fun _ => by kernel_rfl) ?_
    refine k_callR (by kernel_rfl) (d := (some 45)) (by kernel_rfl) (f := 19) (args := #[.pointer (some ⟨n118, 0, none⟩)]) (fun _ => by kernel_rfl) (reset2_c (sz := 1) (by omega) (H152.at 1 rfl) (H152.at 2 rfl) (H152.ne 1 2 _ _ _ _ rfl rfl (by decide))) (fun _ w154 ⟨he154, u154⟩ => ⟨_, he154, trivial, ?_⟩)
    have H154 := H152.upd2 (i := 1) (j := 2) (by decide) rfl rfl u154
    clear u154 he154 H152
    refine k_end ?_
    go_simp
    go_upto_region 6 with (fail)
    refine wp_seq_atS (opsAt Tryd.f11 6) ((true, 0) :: (true, 1) :: []) (fun _ => True) (by kernel_rfl) (by kernel_rfl) trivial ?_
    refine k_pure (by kernel_rfl) (d := (some 46)) (by kernel_rfl) (v := .pointer (some ⟨n118, 0, none⟩)) (fun _ => by kernel_rfl) ?_
    refine k_pure (by kernel_rfl) (d := (some 2)) (by kernel_rfl) (v := .pointer (some ⟨n118, 0, none⟩)) (fun _ => by kernel_rfl) ?_
    refine k_end ?_
    go_simp
    have HF := Lib.hid (show Mm w [(n118, ownL 1 16 0 n149), (n149, bv (fr 1 1))] w154 from Mm.drop0 H154 (Nat.le_refl _))
    have HNE := Lib.hid (H154.ne 1 2 _ _ _ _ rfl rfl (by decide))
    clear H154
    go_wp2_with fail
    exact bodyPost_ret_by (by kernel_rfl) (by kernel_rfl) ⟨n118, n149, 16, rfl, by assumption, by assumption, HNE.out, HF.out⟩
  · obtain ⟨m, hm⟩ : ∃ m : Nat, sI = (m : Int) := ⟨sI.toNat, by omega⟩
    subst hm
    have hsz := szO_s hall
    have hsm : szO (m : Int) bI = m := by omega
    rw [hsm]
    clear hsm hsz
    have g0 : (1 : Int) ≤ (m : Int) := by omega
    have g1 : (m : Int) ≤ 16 := by omega
    have g2 : (m : Int) ≤ bI := by omega
    have g3 : bI ≤ 32 := by omega
    clear hall
    go_enter Tryd.func11, Tryd.ntmps11
    go_upto_region 1 with (fail)
    refine wp_gen (fun WW => Mm w [(w.heap.size, [.int .i64 kI, .int .i64 ((m : Nat) : Int), .int .i64 bI])] WW) ((Mm.zero w).new (L := [.int .i64 kI, .int .i64 ((m : Nat) : Int), .int .i64 bI]) rfl (by kernel_rfl)) ?_
    intro W0 H0
    refine wp_seq_atS (opsAt Tryd.f11 1) ((true, 0) :: (false, 1) :: (true, 2) :: (false, 3) :: (true, 4) :: (false, 5) :: (true, 6) :: []) (fun _ => True) (by kernel_rfl) (by kernel_rfl) trivial ?_
    refine k_pure (by kernel_rfl) (d := (some 4)) (by kernel_rfl) (v := .pointer (some ⟨w.heap.size, 1, none⟩)) (fun _ => by kernel_rfl) ?_
    refine k_make (by kernel_rfl) (d := (some 5)) (by kernel_rfl) (v := .int .i64 ((m : Nat) : Int)) (run_loadA (ty := 3) (x := (.tmp 4)) (a := ⟨w.heap.size, 1, none⟩) (by kernel_rfl) (by kernel_rfl) Tryd.underlying3 rfl ((H0.at 0 rfl).cell rfl)) trivial ?_
    intro w158 hw158 _
    replace hw158 := hw158.symm
    subst hw158
    refine k_pure (by kernel_rfl) (d := (some 6)) (by kernel_rfl) (v := .pointer (some ⟨w.heap.size, 2, none⟩)) (fun _ => by kernel_rfl) ?_
    refine k_make (by kernel_rfl) (d := (some 7)) (by kernel_rfl) (v := .int .i64 bI) (run_loadA (ty := 3) (x := (.tmp 6)) (a := ⟨w.heap.size, 2, none⟩) (by kernel_rfl) (by kernel_rfl) Tryd.underlying3 rfl ((H0.at 0 rfl).cell rfl)) trivial ?_
    intro w160 hw160 _
    replace hw160 := hw160.symm
    subst hw160
    refine k_pure (by kernel_rfl) (d := (some 8)) (by kernel_rfl) (v := .agg #[.int .i64 ((m : Nat) : Int), .int .i64 bI, .int .i64 0, .slice none 0 0]) (fun _ => by kernel_rfl) ?_
    obtain ⟨n161, hn161⟩ : ∃ n, W0.heap.size = n := ⟨_, rfl⟩
    have H161 : Mm w [(w.heap.size, [.int .i64 kI, .int .i64 ((m : Nat) : Int), .int .i64 bI]), (n161, [.int .i64 ((m : Nat) : Int), .int .i64 bI, .int .i64 0, .slice none 0 0])] (W0.alloc (.cells ([.int .i64 ((m : Nat) : Int), .int .i64 bI, .int .i64 0, .slice none 0 0]).toArray 50)) := H0.new hn161.symm rfl
    have hge161 : w.heap.size ≤ n161 := by rw [← hn161]; exact H0.size
    refine k_make (by kernel_rfl) (d := (some 9)) (by kernel_rfl) (v := .pointer (some ⟨n161, 0, none⟩)) (w' := W0.alloc (.cells ([.int .i64 ((m : Nat) : Int), .int .i64 bI, .int .i64 0, .slice none 0 0]).toArray 50)) (by rw [← hn161]; kernel_rfl) trivial ?_
    intro w161 hw161 _
    rw [← hw161] at H161
    clear hw161 hn161 H0
    refine k_pure (by kernel_rfl) (d := (some 3)) (by kernel_rfl) (v := .pointer (some ⟨n161, 0, none⟩)) (fun _ => by kernel_rfl) ?_
    refine k_end ?_
    go_simp
    go_upto_region 2 with (fail)
    refine wp_seq_atS (opsAt Tryd.f11 2) ((true, 0) :: (false, 1) :: (true, 2) :: (true, 3) :: (true, 4) :: (false, 5) :: (true, 6) :: (true, 7) :: (true, 8) :: (true, 9) :: (false, 10) :: (true, 11) :: (false, 12) :: (true, 13) :: (true, 14) :: (true, 15) :: (true, 16) :: (false, 17) :: (true, 18) :: (true, 19) :: []) (fun _ => True) (by kernel_rfl) (by kernel_rfl) trivial ?_
    refine k_pure (by kernel_rfl) (d := (some 10)) (by kernel_rfl) (v := .pointer (some ⟨w.heap.size, 1, none⟩)) (fun _ => by kernel_rfl) ?_
    refine k_make (by kernel_rfl) (d := (some 11)) (by kernel_rfl) (v := .int .i64 ((m : Nat) : Int)) (run_loadA (ty := 3) (x := (.tmp 10)) (a := ⟨w.heap.size, 1, none⟩) (by kernel_rfl) (by kernel_rfl) Tryd.underlying3 rfl ((H161.at 0 rfl).cell rfl)) trivial ?_
    intro w164 hw164 _
    replace hw164 := hw164.symm
    subst hw164
    refine k_pure (by kernel_rfl) (d := (some 12)) (by kernel_rfl) (v := .bool false) (fun _ => run_binOpV (op := .lss) (x := .tmp 11) (y := .const (.int .i64 1)) (t := 3) (t' := 3) (u := .int .i64 ((m : Nat) : Int)) (v := .int .i64 1) (by kernel_rfl) (by kernel_rfl) (by kernel_rfl) rfl (lssF (by omega))) ?_
    refine k_pure (by kernel_rfl) (d := (some 13)) (by kernel_rfl) (v := .bool false) (fun _ => by kernel_rfl) ?_
    refine k_pure (by kernel_rfl) (d := (some 14)) (by kernel_rfl) (v := .pointer (some ⟨w.heap.size, 1, none⟩)) (fun _ => by kernel_rfl) ?_
    refine k_make (by kernel_rfl) (d := (some 15)) (by kernel_rfl) (v := .int .i64 ((m : Nat) : Int)) (run_loadA (ty := 3) (x := (.tmp 14)) (a := ⟨w.heap.size, 1, none⟩) (by kernel_rfl) (by kernel_rfl) Tryd.underlying3 rfl ((H161.at 0 rfl).cell rfl)) trivial ?_
    intro w167 hw167 _
    replace hw167 := hw167.symm
    subst hw167
    refine k_pure (by kernel_rfl) (d := (some 16)) (by kernel_rfl) (v := .bool false) (fun _ => run_binOpV (op := .gtr) (x := .tmp 15) (y := .const (.int .i64 16)) (t := 3) (t' := 3) (u := .int .i64 ((m : Nat) : Int)) (v := .int .i64 16) (by kernel_rfl) (by kernel_rfl) (by kernel_rfl) rfl (gtrF (by omega))) ?_
    refine k_pure (by kernel_rfl) (d := (some 17)) (by kernel_rfl) (v := .bool false) (fun _ => by kernel_rfl) ?_
    refine k_pure (by kernel_rfl) (d := (some 18)) (by kernel_rfl) (v := .bool false) (fun _ => by kernel_rfl) ?_
    refine k_pure (by kernel_rfl) (d := (some 19)) (by kernel_rfl) (v := .pointer (some ⟨w.heap.size, 2, none⟩)) (fun _ => by kernel_rfl) ?_
    refine k_make (by kernel_rfl) (d := (some 20)) (by kernel_rfl) (v := .int .i64 bI) (run_loadA (ty := 3) (x := (.tmp 19)) (a := ⟨w.heap.size, 2, none⟩) (by kernel_rfl) (by kernel_rfl) Tryd.underlying3 rfl ((H161.at 0 rfl).cell rfl)) trivial ?_
    intro w171 hw171 _
    replace hw171 := hw171.symm
    subst hw171
    refine k_pure (by kernel_rfl) (d := (some 21)) (by kernel_rfl) (v := .pointer (some ⟨w.heap.size, 1, none⟩)) (fun _ => by kernel_rfl) ?_
    refine k_make (by kernel_rfl) (d := (some 22)) (by kernel_rfl) (v := .int .i64 ((m : Nat) : Int)) (run_loadA (ty := 3) (x := (.tmp 21)) (a := ⟨w.heap.size, 1, none⟩) (by kernel_rfl) (by kernel_rfl) Tryd.underlying3 rfl ((H161.at 0 rfl).cell rfl)) trivial ?_
    intro w173 hw173 _
    replace hw173 := hw173.symm
    subst hw173
    refine k_pure (by kernel_rfl) (d := (some 23)) (by kernel_rfl) (v := .bool false) (fun _ => run_binOpV (op := .lss) (x := .tmp 20) (y := .tmp 22) (t := 3) (t' := 3) (u := .int .i64 bI) (v := .int .i64 ((m : Nat) : Int)) (by kernel_rfl) (by kernel_rfl) (by kernel_rfl) rfl (lssF (by omega))) ?_
    refine k_pure (by kernel_rfl) (d := (some 24)) (by kernel_rfl) (v := .bool false) (fun _ => by kernel_rfl) ?_
    refine k_pure (by kernel_rfl) (d := (some 25)) (by kernel_rfl) (v := .bool false) (fun _ => by kernel_rfl) ?_
    refine k_pure (by kernel_rfl) (d := (some 26)) (by kernel_rfl) (v := .pointer (some ⟨w.heap.size, 2, none⟩)) (fun _ => by kernel_rfl) ?_
    refine k_make (by kernel_rfl) (d := (some 27)) (by kernel_rfl) (v := .int .i64 bI) (run_loadA (ty := 3) (x := (.tmp 26)) (a := ⟨w.heap.size, 2, none⟩) (by kernel_rfl) (by kernel_rfl) Tryd.underlying3 rfl ((H161.at 0 rfl).cell rfl)) trivial ?_
    intro w177 hw177 _
    replace hw177 := hw177.symm
    subst hw177
    refine k_pure (by kernel_rfl) (d := (some 28)) (by kernel_rfl) (v := .bool false) (fun _ => run_binOpV (op := .gtr) (x := .tmp 27) (y := .const (.int .i64 32)) (t := 3) (t' := 3) (u := .int .i64 bI) (v := .int .i64 32) (by kernel_rfl) (by kernel_rfl) (by kernel_rfl) rfl (gtrF (by omega))) ?_
    refine k_pure (by kernel_rfl) (d := (some 29)) (by kernel_rfl) (v := .bool false) (fun _ => by kernel_rfl) ?_
    refine k_end ?_
    go_simp
    go_upto_region 4 with (fail)
    refine wp_seq_atS (opsAt Tryd.f11 4) ((true, 0) :: (true, 1) :: (true, 2) :: (true, 3) :: (false, 4) :: (false, 5) :: (true, 6) :: (true, 7) :: (false, 8) :: []) (fun _ => True) (by kernel_rfl) (by kernel_rfl) trivial ?_
    refine k_pure (by kernel_rfl) (d := (some 36)) (by kernel_rfl) (v := .pointer (some ⟨n161, 0, none⟩)) (fun _ => by kernel_rfl) ?_
    refine k_pure (by kernel_rfl) (d := (some 37)) (by kernel_rfl) (v := .pointer (some ⟨n161, 0, none⟩)) (fun _ => by kernel_rfl) ?_
    refine k_pure (by kernel_rfl) (d := (some 38)) (by kernel_rfl) (v := .pointer (some ⟨n161, 0, none⟩)) (fun _ => by kernel_rfl) ?_
    refine k_pure (by kernel_rfl) (d := (some 39)) (by kernel_rfl) (v := .pointer (some ⟨n161, 0, none⟩)) (fun _ => by kernel_rfl) ?_
    refine k_make (by kernel_rfl) (d := (some 40)) (by kernel_rfl) (v := .int .i64 ((m : Nat) : Int)) (run_loadA (ty := 3) (x := (.tmp 39)) (a := ⟨n161, 0, none⟩) (by kernel_rfl) (by kernel_rfl) Tryd.underlying3 rfl ((H161.at 1 rfl).cell rfl)) trivial ?_
    intro w183 hw183 _
    replace hw183 := hw183.symm
    subst hw183
    obtain ⟨n184, hn184⟩ : ∃ n, w161.heap.size = n := ⟨_, rfl⟩
    have H184 : Mm w [(w.heap.size, [.int .i64 kI, .int .i64 ((m : Nat) : Int), .int .i64 bI]), (n161, [.int .i64 ((m : Nat) : Int), .int .i64 bI, .int .i64 0, .slice none 0 0]), (n184, bv (List.replicate m 0))] (w161.alloc (.cells (bv (List.replicate m 0)).toArray 5)) := H161.new hn184.symm rfl
    have hge184 : w.heap.size ≤ n184 := by rw [← hn184]; exact H161.size
    refine k_make (by kernel_rfl) (d := (some 41)) (by kernel_rfl) (v := .slice (some ⟨n184, 0, none⟩) m m) (w' := w161.alloc (.cells (bv (List.replicate m 0)).toArray 5)) (by rw [← hn184]; exact run_mkB (t := 24) (x := (.tmp 40)) (y := (.tmp 40)) (by kernel_rfl) (by kernel_rfl) (by kernel_rfl) Tryd.underlying24 (by kernel_rfl) (by omega)) trivial ?_
    intro w184 hw184 _
    rw [← hw184] at H184
    clear hw184 hn184 H161
    refine k_pure (by kernel_rfl) (d := (some 42)) (by kernel_rfl) (v := .pointer (some ⟨n161, 0, none⟩)) (fun _ => by kernel_rfl) ?_
    refine k_pure (by kernel_rfl) (d := (some 43)) (by kernel_rfl) (v := .pointer (some ⟨n161, 3, none⟩)) (fun _ => by kernel_rfl) ?_
    have H187 : Mm w [(w.heap.size, [.int .i64 kI, .int .i64 ((m : Nat) : Int), .int .i64 bI]), (n161, ownL m bI 0 n184), (n184, bv (List.replicate m 0))] (w184.setCell ⟨n161, 3, none⟩ (.slice (some ⟨n184, 0, none⟩) m m)) := (by have h := H184.put 1 rfl 3 (.slice (some ⟨n184, 0, none⟩) m m); rw [(show (([.int .i64 ((m : Nat) : Int), .int .i64 bI, .int .i64 0, .slice none 0 0]) : List Value).set 3 (.slice (some ⟨n184, 0, none⟩) m m) = ownL m bI 0 n184 from rfl)] at h; exact h)
    refine k_skipOp (by kernel_rfl) (d := none) (by kernel_rfl) (run_storeA (ty := 24) (x := (.tmp 43)) (y := (.tmp 41)) (b := n161) (off := 3) (v := .slice (some ⟨n184, 0, none⟩) m m) (by kernel_rfl) (by kernel_rfl) (by kernel_rfl) rfl rfl (by kernel_rfl) ((H184.at 1 rfl).cell (rfl)) (H184.at 1 rfl).free) trivial ?_
    intro w187 hw187 _
    rw [← hw187] at H187
    clear hw187 H184
    refine k_end ?_
    go_simp
    go_upto_region 5 with (fail)
    refine wp_seq_atS (opsAt Tryd.f11 5) ((true, 0) :: (false, 1) :: []) (fun _ => True) (by kernel_rfl) (by kernel_rfl) trivial ?_
    refine k_pure (by kernel_rfl) (d := (some 44)) (by kernel_rfl) (v := .pointer (some ⟨n161, 0, none⟩)) (fun _ => by kernel_rfl) ?_
    refine k_callR (by kernel_rfl) (d := (some 45)) (by kernel_rfl) (f := 19) (args := #[.pointer (some ⟨n161, 0, none⟩)]) (fun _ => by kernel_rfl) (reset2_c (sz := m) (by omega) (H187.at 1 rfl) (H187.at 2 rfl) (H187.ne 1 2 _ _ _ _ rfl rfl (by decide))) (fun _ w189 ⟨he189, u189⟩ => ⟨_, he189, trivial, ?_⟩)
    have H189 := H187.upd2 (i := 1) (j := 2) (by decide) rfl rfl u189
    clear u189 he189 H187
    refine k_end ?_
    go_simp
    go_upto_region 6 with (fail)
    refine wp_seq_atS (opsAt Tryd.f11 6) ((true, 0) :: (true, 1) :: []) (fun _ => True) (by kernel_rfl) (by kernel_rfl) trivial ?_
    refine k_pure (by kernel_rfl) (d := (some 46)) (by kernel_rfl) (v := .pointer (some ⟨n161, 0, none⟩)) (fun _ => by kernel_rfl) ?_
    refine k_pure (by kernel_rfl) (d := (some 2)) (by kernel_rfl) (v := .pointer (some ⟨n161, 0, none⟩)) (fun _ => by kernel_rfl) ?_
    refine k_end ?_
    go_simp
    have HF := Lib.hid (show Mm w [(n161, ownL m bI 0 n184), (n184, bv (fr m m))] w189 from Mm.drop0 H189 (Nat.le_refl _))
    have HNE := Lib.hid (H189.ne 1 2 _ _ _ _ rfl rfl (by decide))
    clear H189
    go_wp2_with fail
    exact bodyPost_ret_by (by kernel_rfl) (by kernel_rfl) ⟨n161, n184, bI, rfl, by assumption, by assumption, HNE.out, HF.out⟩

set_option maxRecDepth 100000 in
set_option maxHeartbeats 1000000 in
theorem ownWrite_c {w : World} {n g sz : Nat} {B : Int} {v : Value} {p : List Int} (h1 : 1 ≤ sz) (h16 : sz ≤ 16) (hO : Bl w n (ownL sz B 0 g)) (hS : Bl w g (bv (own sz p 0))) (hng : n ≠ g) (hp : Rd w .u8 v p) (hl : p.length ≤ 4200) (hv1 : v.ownBlock ≠ some n) (hv2 : v.ownBlock ≠ some g) :
    Calls Tryd.prog 12 #[.pointer (some ⟨n, 0, none⟩), v] w fun e w' => e = .returned (.tuple #[.int .i64 ((p.length : Nat) : Int), .nilIface]) ∧ Mm w [(n, ownL sz B p.length g), (g, bv (own sz p p.length))] w' := by
  obtain ⟨ao, c, rfl, hc0, hno, hcell⟩ := id hp
  obtain ⟨len, hlen⟩ : ∃ len, p.length = len := ⟨_, rfl⟩
  rw [hlen] at hp hv1 hv2 hl hc0 ⊢
  have HN := Lib.hid hO; have HG := Lib.hid hS; have HNE := Lib.hid hng; have HP := Lib.hid hp; have HV1 := Lib.hid hv1; have HV2 := Lib.hid hv2; have HL := Lib.hid hlen; have HNO := Lib.hid hno; have HC0 := Lib.hid hc0
  clear hO hS hng hp hv1 hv2 hlen hno hc0 hcell
  go_enter Tryd.func12, Tryd.ntmps12
  go_upto_region 1 with (fail)
  have H0 : Mm w [(n, ownL sz B 0 g), (g, bv (own sz p 0))] w := (Mm.two HN.out HG.out HNE.out)
  refine wp_seq_atS (opsAt Tryd.f12 1) ((true, 0) :: (true, 1) :: (true, 2) :: []) (fun _ => True) (by kernel_rfl) (by kernel_rfl) trivial ?_
  refine k_pure (by kernel_rfl) (d := (some 9)) (by kernel_rfl) (v := .slice ao len c) (fun _ => by kernel_rfl) ?_
  refine k_pure (by kernel_rfl) (d := (some 10)) (by kernel_rfl) (v := .int .i64 ((len : Nat) : Int)) (fun _ => by kernel_rfl) ?_
  refine k_pure (by kernel_rfl) (d := (some 11)) (by kernel_rfl) (v := .int .i64 0) (fun _ => by kernel_rfl) ?_
  refine k_end ?_
  go_simp
  have J11 := Lib.hid (show Mm w [(n, ownL sz B 0 g), (g, bv (own sz p 0))] w from H0)
  clear H0
  go_wp2_with fail
  go_loopw [11] (fun iv wr => ∃ t : Nat, t ≤ len ∧ iv = .int .i64 t ∧ Hid (Mm w [(n, ownL sz B t g), (g, bv (own sz p t))] wr)) (fun i _ => len - (intOf i).toNat)
  case atStart => exact ⟨0, Nat.zero_le _, rfl, Lib.hid J11.out⟩
  case round =>
    clear J11
    obtain ⟨t, ht1, rfl, hJ⟩ := hrel
    by_cases ht : t < len
    · have htI : (t : Int) < (len : Int) := by omega
      have hc1 : len ≤ c := HC0.out
      obtain ⟨ad, rfl⟩ : ∃ ad, ao = some ad := by cases ao with | none => (have := HNO.out rfl; omega) | some a => exact ⟨a, rfl⟩
      obtain ⟨st, hst⟩ : ∃ st, own sz p t = st := ⟨_, rfl⟩
      have HST := Lib.hid hst
      have HSL := Lib.hid (show st.length = sz by rw [← hst]; exact own_length _ _ _)
      obtain ⟨bb, hbb⟩ : ∃ bb, p.getD t 0 = bb := ⟨_, rfl⟩
      have HBB := Lib.hid hbb
      obtain ⟨k, hk⟩ : ∃ k, t % sz = k := ⟨_, rfl⟩
      obtain ⟨k2, hk2⟩ : ∃ k2, (t + 1) % sz = k2 := ⟨_, rfl⟩
      have hks : k < sz := by rw [← hk]; exact Nat.mod_lt _ (by omega)
      have hk2s : k2 < sz := by rw [← hk2]; exact Nat.mod_lt _ (by omega)
      have HKK := Lib.hid hk; have HK2 := Lib.hid hk2
      have H90 := hJ.out
      rw [hst] at H90
      clear hJ hst hbb hk hk2
      have HPC := Lib.hid (show ∀ j x, p[j]? = some x → w.cell? (ad.add j) = some (.int .u8 x) from by obtain ⟨a2, c2, e2, _, _, h2⟩ := HP.out; injection e2 with e3 e4 e5; exact h2 ad e3.symm)
      go_upto_region 3 with (fail)
      refine wp_seq_atS (opsAt Tryd.f12 3) ((true, 0) :: (false, 1) :: (true, 2) :: []) (fun _ => True) (by kernel_rfl) (by kernel_rfl) trivial ?_
      refine k_pure (by kernel_rfl) (d := (some 13)) (by kernel_rfl) (v := .pointer (some (ad.add t))) (fun _ => run_indexSl (t := 24) (x := (.tmp 9)) (y := (.tmp 11)) (a := ad) (n := len) (c := c) (i := t) (z := ((t : Nat) : Int)) (by kernel_rfl) (by kernel_rfl) (by kernel_rfl) rfl Tryd.underlying24 (by kernel_rfl) (by omega)) ?_
      refine k_make (by kernel_rfl) (d := (some 14)) (by kernel_rfl) (v := .int .u8 bb) (run_loadA (ty := 5) (x := (.tmp 13)) (a := ad.add t) (by kernel_rfl) (by kernel_rfl) Tryd.underlying5 rfl ((H90.cellR HP.out (bsC HV1.out (bsC HV2.out bs0)) HL.out HBB.out (by omega)))) trivial ?_
      intro w4 hw4 _
      replace hw4 := hw4.symm
      subst hw4
      refine k_pure (by kernel_rfl) (d := (some 7)) (by kernel_rfl) (v := .int .u8 bb) (fun _ => by kernel_rfl) ?_
      refine k_end ?_
      go_simp
      go_upto_region 4 with (fail)
      refine wp_region_atS (opsAt Tryd.f12 4) ((true, 0) :: (true, 1) :: (true, 2) :: (true, 3) :: (true, 4) :: (true, 5) :: (true, 6) :: (true, 7) :: (true, 8) :: (true, 9) :: []) (fun W => Mm w [(n, ownL sz B t g), (g, bv st)] W) (by kernel_rfl) rfl (by kernel_rfl) (fun _ _ d _ _ h => by cases d <;> exact h) (by kernel_rfl) (by kernel_rfl) (H90.drew) ?_
      have H6d := H90.drew
      clear H90
      refine k_pure (by kernel_rfl) (d := (some 15)) (by kernel_rfl) (v := .pointer (some ⟨n, 0, none⟩)) (fun _ => by kernel_rfl) ?_
      refine k_pure (by kernel_rfl) (d := (some 16)) (by kernel_rfl) (v := .pointer (some ⟨n, 0, none⟩)) (fun _ => by kernel_rfl) ?_
      refine k_pure (by kernel_rfl) (d := (some 17)) (by kernel_rfl) (v := .pointer (some ⟨n, 2, none⟩)) (fun _ => by kernel_rfl) ?_
      refine k_ifR (by kernel_rfl) (d := (some 18)) (by kernel_rfl) (v := .int .i64 ((t : Nat) : Int)) (fun _ hs => run_loadA (ty := 3) (x := (.tmp 17)) (a := ⟨n, 2, none⟩) (by kernel_rfl) (by kernel_rfl) Tryd.underlying3 rfl ((hs.at 0 rfl).cell rfl)) ?_
      refine k_pure (by kernel_rfl) (d := (some 19)) (by kernel_rfl) (v := .pointer (some ⟨n, 0, none⟩)) (fun _ => by kernel_rfl) ?_
      refine k_pure (by kernel_rfl) (d := (some 20)) (by kernel_rfl) (v := .pointer (some ⟨n, 0, none⟩)) (fun _ => by kernel_rfl) ?_
      refine k_pure (by kernel_rfl) (d := (some 21)) (by kernel_rfl) (v := .pointer (some ⟨n, 0, none⟩)) (fun _ => by kernel_rfl) ?_
      refine k_ifR (by kernel_rfl) (d := (some 22)) (by kernel_rfl) (v := .int .i64 ((sz : Nat) : Int)) (fun _ hs => run_loadA (ty := 3) (x := (.tmp 21)) (a := ⟨n, 0, none⟩) (by kernel_rfl) (by kernel_rfl) Tryd.underlying3 rfl ((hs.at 0 rfl).cell rfl)) ?_
      refine k_pure (by kernel_rfl) (d := (some 23)) (by kernel_rfl) (v := .int .i64 ((k : Nat) : Int)) (fun _ => run_binOpV (op := .rem) (x := .tmp 18) (y := .tmp 22) (t := 3) (t' := 3) (u := .int .i64 ((t : Nat) : Int)) (v := .int .i64 ((sz : Nat) : Int)) (by kernel_rfl) (by kernel_rfl) (by kernel_rfl) rfl (by rw [← HKK.out]; exact remI rfl rfl (by omega))) ?_
      refine k_pure (by kernel_rfl) (d := (some 8)) (by kernel_rfl) (v := .int .i64 ((k : Nat) : Int)) (fun _ => by kernel_rfl) ?_
      refine k_end ?_
      go_simp
      go_upto_region 5 with (fail)
      refine wp_region_atS (opsAt Tryd.f12 5) ((true, 0) :: (true, 1) :: (true, 2) :: (true, 3) :: (true, 4) :: (true, 5) :: (true, 6) :: (true, 7) :: (true, 8) :: (true, 9) :: (true, 10) :: (true, 13) :: (true, 15) :: (true, 16) :: (true, 17) :: (true, 18) :: (true, 19) :: (false, 11) :: (true, 12) :: (true, 14) :: (true, 20) :: (true, 21) :: (false, 22) :: []) (fun W => Mm w [(n, ownL sz B t g), (g, bv st)] W ∨ Mm w [(n, ownL sz B t g), (g, bv (st.set k (b8 (b8 (b8 (31 * st.getD k 0) + bb) + b8 ((t : Nat) : Int)))))] W) (by kernel_rfl) rfl (by kernel_rfl) (fun _ _ d _ _ h => by cases d <;> exact h) (by kernel_rfl) (by kernel_rfl) (Or.inl H6d.drew) ?_
      have H16d := H6d.drew
      clear H6d
      refine k_pure (by kernel_rfl) (d := (some 24)) (by kernel_rfl) (v := .pointer (some ⟨n, 0, none⟩)) (fun _ => by kernel_rfl) ?_
      refine k_pure (by kernel_rfl) (d := (some 25)) (by kernel_rfl) (v := .pointer (some ⟨n, 0, none⟩)) (fun _ => by kernel_rfl) ?_
      refine k_pure (by kernel_rfl) (d := (some 26)) (by kernel_rfl) (v := .pointer (some ⟨n, 3, none⟩)) (fun _ => by kernel_rfl) ?_
      refine k_ifR (by kernel_rfl) (d := (some 27)) (by kernel_rfl) (v := .slice (some ⟨g, 0, none⟩) sz sz) (fun _ hs => run_loadA (ty := 24) (x := (.tmp 26)) (a := ⟨n, 3, none⟩) (by kernel_rfl) (by kernel_rfl) Tryd.underlying24 rfl (hs.elim (fun h => (h.at 0 rfl).cell rfl) (fun h => (h.at 0 rfl).cell rfl))) ?_
      refine k_pure (by kernel_rfl) (d := (some 28)) (by kernel_rfl) (v := .int .i64 ((k : Nat) : Int)) (fun _ => by kernel_rfl) ?_
      refine k_pure (by kernel_rfl) (d := (some 29)) (by kernel_rfl) (v := .pointer (some ⟨n, 0, none⟩)) (fun _ => by kernel_rfl) ?_
      refine k_pure (by kernel_rfl) (d := (some 30)) (by kernel_rfl) (v := .pointer (some ⟨n, 0, none⟩)) (fun _ => by kernel_rfl) ?_
      refine k_pure (by kernel_rfl) (d := (some 31)) (by kernel_rfl) (v := .pointer (some ⟨n, 3, none⟩)) (fun _ => by kernel_rfl) ?_
      refine k_ifR (by kernel_rfl) (d := (some 32)) (by kernel_rfl) (v := .slice (some ⟨g, 0, none⟩) sz sz) (fun _ hs => run_loadA (ty := 24) (x := (.tmp 31)) (a := ⟨n, 3, none⟩) (by kernel_rfl) (by kernel_rfl) Tryd.underlying24 rfl (hs.elim (fun h => (h.at 0 rfl).cell rfl) (fun h => (h.at 0 rfl).cell rfl))) ?_
      refine k_pure (by kernel_rfl) (d := (some 33)) (by kernel_rfl) (v := .int .i64 ((k : Nat) : Int)) (fun _ => by kernel_rfl) ?_
      refine k_pure (by kernel_rfl) (d := (some 34)) (by kernel_rfl) (v := .pointer (some ⟨g, k, none⟩)) (fun _ => run_indexSe (t := 24) (x := (.tmp 32)) (y := (.tmp 33)) (b := g) (off := 0) (off' := k) (n := sz) (c := sz) (i := k) (z := ((k : Nat) : Int)) (by kernel_rfl) (by kernel_rfl) (by kernel_rfl) rfl Tryd.underlying24 (by kernel_rfl) (by omega) (Nat.zero_add _)) ?_
      refine k_pure (by kernel_rfl) (d := (some 37)) (by kernel_rfl) (v := .int .u8 bb) (fun _ => by kernel_rfl) ?_
      refine k_pure (by kernel_rfl) (d := (some 39)) (by kernel_rfl) (v := .pointer (some ⟨n, 0, none⟩)) (fun _ => by kernel_rfl) ?_
      refine k_pure (by kernel_rfl) (d := (some 40)) (by kernel_rfl) (v := .pointer (some ⟨n, 0, none⟩)) (fun _ => by kernel_rfl) ?_
      refine k_pure (by kernel_rfl) (d := (some 41)) (by kernel_rfl) (v := .pointer (some ⟨n, 2, none⟩)) (fun _ => by kernel_rfl) ?_
      refine k_ifR (by kernel_rfl) (d := (some 42)) (by kernel_rfl) (v := .int .i64 ((t : Nat) : Int)) (fun _ hs => run_loadA (ty := 3) (x := (.tmp 41)) (a := ⟨n, 2, none⟩) (by kernel_rfl) (by kernel_rfl) Tryd.underlying3 rfl (hs.elim (fun h => (h.at 0 rfl).cell rfl) (fun h => (h.at 0 rfl).cell rfl))) ?_
      refine k_pure (by kernel_rfl) (d := (some 43)) (by kernel_rfl) (v := .int .u8 (b8 ((t : Nat) : Int))) (fun _ => run_convOpE (x := (.tmp 42)) (s := 3) (d := 5) (u := .int .i64 ((t : Nat) : Int)) (v := .int .u8 (IntKind.u8.wrap ((t : Nat) : Int))) (by kernel_rfl) (by kernel_rfl) (by kernel_rfl) rfl) ?_
      refine k_make (by kernel_rfl) (d := (some 35)) (by kernel_rfl) (v := .int .u8 (st.getD k 0)) (run_loadA (ty := 5) (x := (.tmp 34)) (a := ⟨g, k, none⟩) (by kernel_rfl) (by kernel_rfl) Tryd.underlying5 rfl ((H16d.at 1 rfl).cell (bv_at (by rw [HSL.out]; exact hks)))) (Or.inl H16d) ?_
      intro w34 hw34 _
      replace hw34 := hw34.symm
      subst hw34
      refine k_pure (by kernel_rfl) (d := (some 36)) (by kernel_rfl) (v := .int .u8 (b8 (31 * (st.getD k 0)))) (fun _ => by kernel_rfl) ?_
      refine k_pure (by kernel_rfl) (d := (some 38)) (by kernel_rfl) (v := .int .u8 (b8 ((b8 (31 * (st.getD k 0))) + bb))) (fun _ => by kernel_rfl) ?_
      refine k_pure (by kernel_rfl) (d := (some 44)) (by kernel_rfl) (v := .int .u8 (b8 ((b8 ((b8 (31 * (st.getD k 0))) + bb)) + (b8 ((t : Nat) : Int))))) (fun _ => by kernel_rfl) ?_
      refine k_pure (by kernel_rfl) (d := (some 45)) (by kernel_rfl) (v := .pointer (some ⟨g, k, none⟩)) (fun _ => run_indexSe (t := 24) (x := (.tmp 27)) (y := (.tmp 28)) (b := g) (off := 0) (off' := k) (n := sz) (c := sz) (i := k) (z := ((k : Nat) : Int)) (by kernel_rfl) (by kernel_rfl) (by kernel_rfl) rfl Tryd.underlying24 (by kernel_rfl) (by omega) (Nat.zero_add _)) ?_
      have H39 : Mm w [(n, ownL sz B t g), (g, bv (st.set k (b8 (b8 (b8 (31 * st.getD k 0) + bb) + b8 ((t : Nat) : Int)))))] (wr.drew.drew.setCell ⟨g, k, none⟩ (.int .u8 (b8 ((b8 ((b8 (31 * (st.getD k 0))) + bb)) + (b8 ((t : Nat) : Int)))))) := (by have h := H16d.put 1 rfl k (.int .u8 (b8 ((b8 ((b8 (31 * (st.getD k 0))) + bb)) + (b8 ((t : Nat) : Int))))); rw [(show (bv st).set k (.int .u8 (b8 ((b8 ((b8 (31 * (st.getD k 0))) + bb)) + (b8 ((t : Nat) : Int))))) = bv (st.set k (b8 (b8 (b8 (31 * st.getD k 0) + bb) + b8 ((t : Nat) : Int)))) from bv_set)] at h; exact h)
      refine k_skipOp (by kernel_rfl) (d := none) (by kernel_rfl) (run_storeA (ty := 5) (x := (.tmp 45)) (y := (.tmp 44)) (b := g) (off := k) (v := .int .u8 (b8 ((b8 ((b8 (31 * (st.getD k 0))) + bb)) + (b8 ((t : Nat) : Int))))) (by kernel_rfl) (by kernel_rfl) (by kernel_rfl) rfl rfl (by kernel_rfl) ((H16d.at 1 rfl).cell (bv_at (by rw [HSL.out]; exact hks))) (H16d.at 1 rfl).free) (Or.inr H39) ?_
      intro w39 hw39 _
      rw [← hw39] at H39
      clear hw39 H16d
      refine k_end ?_
      go_simp
      go_upto_region 6 with (fail)
      obtain ⟨s1, hs1⟩ : ∃ s1, (st.set k (b8 (b8 (b8 (31 * st.getD k 0) + bb) + b8 ((t : Nat) : Int)))) = s1 := ⟨_, rfl⟩
      rw [hs1] at H39
      have HS1 := Lib.hid hs1
      have HS1L := Lib.hid (show s1.length = sz by rw [← hs1, List.length_set]; exact HSL.out)
      clear hs1
      refine wp_tree_at (opsAt Tryd.f12 6) (.take 0 (.take 1 (.take 2 (.take 3 (.take 4 (.take 5 (.take 6 (.take 7 (.take 8 (.take 9 (.take 10 (.take 11 (.take 12 (.take 13 (.take 14 (.take 16 (.take 17 (.take 18 (.take 19 (.take 20 (.take 21 (.fork 15 (.fork 22 (.take 23 (.take 24 (.fork 25 .done .nil))) .nil) (.fork 22 (.fork 15 (.take 23 (.take 24 (.fork 25 .done .nil))) .nil) .nil))))))))))))))))))))))) (fun W => Mm w [(n, ownL sz B t g), (g, bv s1)] W ∨ Mm w [(n, ownL sz B t g), (g, bv (s1.set k2 (bits .xor .u8 (s1.getD k2 0) (s1.getD k 0))))] W) (by kernel_rfl) rfl (by kernel_rfl) (fun _ _ d _ _ h => by cases d <;> exact h) (by kernel_rfl) (by kernel_rfl) (Or.inl H39.drew) ?_
      have H40d := H39.drew
      clear H39
      refine t_pure (by kernel_rfl) (d := (some 46)) (by kernel_rfl) (v := .pointer (some ⟨n, 0, none⟩)) (fun _ => by kernel_rfl) ?_
      refine t_pure (by kernel_rfl) (d := (some 47)) (by kernel_rfl) (v := .pointer (some ⟨n, 0, none⟩)) (fun _ => by kernel_rfl) ?_
      refine t_pure (by kernel_rfl) (d := (some 48)) (by kernel_rfl) (v := .pointer (some ⟨n, 3, none⟩)) (fun _ => by kernel_rfl) ?_
      refine t_ifR (by kernel_rfl) (d := (some 49)) (by kernel_rfl) (v := .slice (some ⟨g, 0, none⟩) sz sz) (fun _ hs => run_loadA (ty := 24) (x := (.tmp 48)) (a := ⟨n, 3, none⟩) (by kernel_rfl) (by kernel_rfl) Tryd.underlying24 rfl (hs.elim (fun h => (h.at 0 rfl).cell rfl) (fun h => (h.at 0 rfl).cell rfl))) ?_
      refine t_pure (by kernel_rfl) (d := (some 50)) (by kernel_rfl) (v := .pointer (some ⟨n, 0, none⟩)) (fun _ => by kernel_rfl) ?_
      refine t_pure (by kernel_rfl) (d := (some 51)) (by kernel_rfl) (v := .pointer (some ⟨n, 0, none⟩)) (fun _ => by kernel_rfl) ?_
      refine t_pure (by kernel_rfl) (d := (some 52)) (by kernel_rfl) (v := .pointer (some ⟨n, 2, none⟩)) (fun _ => by kernel_rfl) ?_
      refine t_ifR (by kernel_rfl) (d := (some 53)) (by kernel_rfl) (v := .int .i64 ((t : Nat) : Int)) (fun _ hs => run_loadA (ty := 3) (x := (.tmp 52)) (a := ⟨n, 2, none⟩) (by kernel_rfl) (by kernel_rfl) Tryd.underlying3 rfl (hs.elim (fun h => (h.at 0 rfl).cell rfl) (fun h => (h.at 0 rfl).cell rfl))) ?_
      refine t_pure (by kernel_rfl) (d := (some 54)) (by kernel_rfl) (v := .int .i64 (((t + 1) : Nat) : Int)) (fun _ => run_binOpV (op := .add) (x := (.tmp 53)) (y := (.const (.int .i64 1))) (t := 3) (t' := 3) (u := .int .i64 ((t : Nat) : Int)) (v := .int .i64 1) (by kernel_rfl) (by kernel_rfl) (by kernel_rfl) rfl (addI (by omega) (by omega))) ?_
      refine t_pure (by kernel_rfl) (d := (some 55)) (by kernel_rfl) (v := .pointer (some ⟨n, 0, none⟩)) (fun _ => by kernel_rfl) ?_
      refine t_pure (by kernel_rfl) (d := (some 56)) (by kernel_rfl) (v := .pointer (some ⟨n, 0, none⟩)) (fun _ => by kernel_rfl) ?_
      refine t_pure (by kernel_rfl) (d := (some 57)) (by kernel_rfl) (v := .pointer (some ⟨n, 0, none⟩)) (fun _ => by kernel_rfl) ?_
      refine t_ifR (by kernel_rfl) (d := (some 58)) (by kernel_rfl) (v := .int .i64 ((sz : Nat) : Int)) (fun _ hs => run_loadA (ty := 3) (x := (.tmp 57)) (a := ⟨n, 0, none⟩) (by kernel_rfl) (by kernel_rfl) Tryd.underlying3 rfl (hs.elim (fun h => (h.at 0 rfl).cell rfl) (fun h => (h.at 0 rfl).cell rfl))) ?_
      refine t_pure (by kernel_rfl) (d := (some 59)) (by kernel_rfl) (v := .int .i64 ((k2 : Nat) : Int)) (fun _ => run_binOpV (op := .rem) (x := .tmp 54) (y := .tmp 58) (t := 3) (t' := 3) (u := .int .i64 ((t + 1 : Nat) : Int)) (v := .int .i64 ((sz : Nat) : Int)) (by kernel_rfl) (by kernel_rfl) (by kernel_rfl) rfl (by rw [← HK2.out]; exact remI rfl rfl (by omega))) ?_
      refine t_pure (by kernel_rfl) (d := (some 60)) (by kernel_rfl) (v := .pointer (some ⟨g, k2, none⟩)) (fun _ => run_indexSe (t := 24) (x := (.tmp 49)) (y := (.tmp 59)) (b := g) (off := 0) (off' := k2) (n := sz) (c := sz) (i := k2) (z := ((k2 : Nat) : Int)) (by kernel_rfl) (by kernel_rfl) (by kernel_rfl) rfl Tryd.underlying24 (by kernel_rfl) (by omega) (Nat.zero_add _)) ?_
      refine t_pure (by kernel_rfl) (d := (some 62)) (by kernel_rfl) (v := .pointer (some ⟨n, 0, none⟩)) (fun _ => by kernel_rfl) ?_
      refine t_pure (by kernel_rfl) (d := (some 63)) (by kernel_rfl) (v := .pointer (some ⟨n, 0, none⟩)) (fun _ => by kernel_rfl) ?_
      refine t_pure (by kernel_rfl) (d := (some 64)) (by kernel_rfl) (v := .pointer (some ⟨n, 3, none⟩)) (fun _ => by kernel_rfl) ?_
      refine t_ifR (by kernel_rfl) (d := (some 65)) (by kernel_rfl) (v := .slice (some ⟨g, 0, none⟩) sz sz) (fun _ hs => run_loadA (ty := 24) (x := (.tmp 64)) (a := ⟨n, 3, none⟩) (by kernel_rfl) (by kernel_rfl) Tryd.underlying24 rfl (hs.elim (fun h => (h.at 0 rfl).cell rfl) (fun h => (h.at 0 rfl).cell rfl))) ?_
      refine t_pure (by kernel_rfl) (d := (some 66)) (by kernel_rfl) (v := .int .i64 ((k : Nat) : Int)) (fun _ => by kernel_rfl) ?_
      refine t_pure (by kernel_rfl) (d := (some 67)) (by kernel_rfl) (v := .pointer (some ⟨g, k, none⟩)) (fun _ => run_indexSe (t := 24) (x := (.tmp 65)) (y := (.tmp 66)) (b := g) (off := 0) (off' := k) (n := sz) (c := sz) (i := k) (z := ((k : Nat) : Int)) (by kernel_rfl) (by kernel_rfl) (by kernel_rfl) rfl Tryd.underlying24 (by kernel_rfl) (by omega) (Nat.zero_add _)) ?_
      refine t_make (by kernel_rfl) (d := (some 61)) (by kernel_rfl) (v := .int .u8 (s1.getD k2 0)) (run_loadA (ty := 5) (x := (.tmp 60)) (a := ⟨g, k2, none⟩) (by kernel_rfl) (by kernel_rfl) Tryd.underlying5 rfl ((H40d.at 1 rfl).cell (bv_at (by rw [HS1L.out]; exact hk2s)))) (Or.inl H40d) ?_ ?_
      · skip
        intro w62 hw62 _
        replace hw62 := hw62.symm
        subst hw62
        refine t_make (by kernel_rfl) (d := (some 68)) (by kernel_rfl) (v := .int .u8 (s1.getD k 0)) (run_loadA (ty := 5) (x := (.tmp 67)) (a := ⟨g, k, none⟩) (by kernel_rfl) (by kernel_rfl) Tryd.underlying5 rfl ((H40d.at 1 rfl).cell (bv_at (by rw [HS1L.out]; exact hks)))) (Or.inl H40d) ?_ ?_
        · skip
          intro w63 hw63 _
          replace hw63 := hw63.symm
          subst hw63
          refine t_pure (by kernel_rfl) (d := (some 69)) (by kernel_rfl) (v := .int .u8 (bits .xor .u8 (s1.getD k2 0) (s1.getD k 0))) (fun _ => by kernel_rfl) ?_
          refine t_pure (by kernel_rfl) (d := (some 70)) (by kernel_rfl) (v := .pointer (some ⟨g, k2, none⟩)) (fun _ => run_indexSe (t := 24) (x := (.tmp 49)) (y := (.tmp 59)) (b := g) (off := 0) (off' := k2) (n := sz) (c := sz) (i := k2) (z := ((k2 : Nat) : Int)) (by kernel_rfl) (by kernel_rfl) (by kernel_rfl) rfl Tryd.underlying24 (by kernel_rfl) (by omega) (Nat.zero_add _)) ?_
          have H66 : Mm w [(n, ownL sz B t g), (g, bv (s1.set k2 (bits .xor .u8 (s1.getD k2 0) (s1.getD k 0))))] (w39.drew.setCell ⟨g, k2, none⟩ (.int .u8 (bits .xor .u8 (s1.getD k2 0) (s1.getD k 0)))) := (by have h := H40d.put 1 rfl k2 (.int .u8 (bits .xor .u8 (s1.getD k2 0) (s1.getD k 0))); rw [(show (bv s1).set k2 (.int .u8 (bits .xor .u8 (s1.getD k2 0) (s1.getD k 0))) = bv (s1.set k2 (bits .xor .u8 (s1.getD k2 0) (s1.getD k 0))) from bv_set)] at h; exact h)
          refine t_skipOp (by kernel_rfl) (d := none) (by kernel_rfl) (run_storeA (ty := 5) (x := (.tmp 70)) (y := (.tmp 69)) (b := g) (off := k2) (v := .int .u8 (bits .xor .u8 (s1.getD k2 0) (s1.getD k 0))) (by kernel_rfl) (by kernel_rfl) (by kernel_rfl) rfl rfl (by kernel_rfl) ((H40d.at 1 rfl).cell (bv_at (by rw [HS1L.out]; exact hk2s))) (H40d.at 1 rfl).free) (Or.inr H66) ?_ ?_
          · skip
            intro w66 hw66 _
            rw [← hw66] at H66
            clear hw66 H40d
            refine t_done ?_
            go_simp
            go_upto_region 7 with (fail)
            refine wp_seq_atS (opsAt Tryd.f12 7) ((true, 0) :: (true, 1) :: (true, 2) :: (false, 3) :: (true, 4) :: (true, 5) :: (true, 6) :: (false, 7) :: []) (fun _ => True) (by kernel_rfl) (by kernel_rfl) trivial ?_
            refine k_pure (by kernel_rfl) (d := (some 71)) (by kernel_rfl) (v := .pointer (some ⟨n, 0, none⟩)) (fun _ => by kernel_rfl) ?_
            refine k_pure (by kernel_rfl) (d := (some 72)) (by kernel_rfl) (v := .pointer (some ⟨n, 0, none⟩)) (fun _ => by kernel_rfl) ?_
            refine k_pure (by kernel_rfl) (d := (some 73)) (by kernel_rfl) (v := .pointer (some ⟨n, 2, none⟩)) (fun _ => by kernel_rfl) ?_
            refine k_make (by kernel_rfl) (d := (some 74)) (by kernel_rfl) (v := .int .i64 ((t : Nat) : Int)) (run_loadA (ty := 3) (x := (.tmp 73)) (a := ⟨n, 2, none⟩) (by kernel_rfl) (by kernel_rfl) Tryd.underlying3 rfl ((H66.at 0 rfl).cell rfl)) trivial ?_
            intro w70 hw70 _
            replace hw70 := hw70.symm
            subst hw70
            refine k_pure (by kernel_rfl) (d := (some 75)) (by kernel_rfl) (v := .int .i64 (((t + 1) : Nat) : Int)) (fun _ => run_binOpV (op := .add) (x := (.tmp 74)) (y := (.const (.int .i64 1))) (t := 3) (t' := 3) (u := .int .i64 ((t : Nat) : Int)) (v := .int .i64 1) (by kernel_rfl) (by kernel_rfl) (by kernel_rfl) rfl (addI (by omega) (by omega))) ?_
            refine k_pure (by kernel_rfl) (d := (some 76)) (by kernel_rfl) (v := .pointer (some ⟨n, 0, none⟩)) (fun _ => by kernel_rfl) ?_
            refine k_pure (by kernel_rfl) (d := (some 77)) (by kernel_rfl) (v := .pointer (some ⟨n, 2, none⟩)) (fun _ => by kernel_rfl) ?_
            have H74 : Mm w [(n, ownL sz B (t + 1) g), (g, bv (s1.set k2 (bits .xor .u8 (s1.getD k2 0) (s1.getD k 0))))] (w66.setCell ⟨n, 2, none⟩ (.int .i64 (((t + 1) : Nat) : Int))) := (by have h := H66.put 0 rfl 2 (.int .i64 (((t + 1) : Nat) : Int)); rw [(show (ownL sz B t g).set 2 (.int .i64 (((t + 1) : Nat) : Int)) = ownL sz B (t + 1) g from rfl)] at h; exact h)
            refine k_skipOp (by kernel_rfl) (d := none) (by kernel_rfl) (run_storeA (ty := 3) (x := (.tmp 77)) (y := (.tmp 75)) (b := n) (off := 2) (v := .int .i64 (((t + 1) : Nat) : Int)) (by kernel_rfl) (by kernel_rfl) (by kernel_rfl) rfl rfl (by kernel_rfl) ((H66.at 0 rfl).cell (rfl)) (H66.at 0 rfl).free) trivial ?_
            intro w74 hw74 _
            rw [← hw74] at H74
            clear hw74 H66
            refine k_end ?_
            go_simp
            go_upto_region 8 with (fail)
            refine wp_seq_atS (opsAt Tryd.f12 8) ((true, 0) :: (true, 1) :: []) (fun _ => True) (by kernel_rfl) (by kernel_rfl) trivial ?_
            refine k_pure (by kernel_rfl) (d := (some 78)) (by kernel_rfl) (v := .int .i64 (((t + 1) : Nat) : Int)) (fun _ => run_binOpV (op := .add) (x := (.tmp 11)) (y := (.const (.int .i64 1))) (t := 3) (t' := 3) (u := .int .i64 ((t : Nat) : Int)) (v := .int .i64 1) (by kernel_rfl) (by kernel_rfl) (by kernel_rfl) rfl (addI (by omega) (by omega))) ?_
            refine k_pure (by kernel_rfl) (d := (some 11)) (by kernel_rfl) (v := .int .i64 (((t + 1) : Nat) : Int)) (fun _ => by kernel_rfl) ?_
            refine k_end ?_
            go_simp
            have HJ := Lib.hid (show Mm w [(n, ownL sz B (t + 1) g), (g, bv (own sz p (t + 1)))] w74 from by have h := H74; rw [← HS1.out, own_step HST.out HKK.out HK2.out HBB.out] at h; exact h)
            clear H74
            go_wp2_with fail
            exact ⟨⟨t + 1, by omega, by go_num, Lib.hid HJ.out⟩, by simp [intOf]; omega⟩
          exact t_nil
        exact t_nil
      refine t_make (by kernel_rfl) (d := (some 68)) (by kernel_rfl) (v := .int .u8 (s1.getD k 0)) (run_loadA (ty := 5) (x := (.tmp 67)) (a := ⟨g, k, none⟩) (by kernel_rfl) (by kernel_rfl) Tryd.underlying5 rfl ((H40d.at 1 rfl).cell (bv_at (by rw [HS1L.out]; exact hks)))) (Or.inl H40d) ?_ ?_
      · skip
        intro w77 hw77 _
        replace hw77 := hw77.symm
        subst hw77
        refine t_make (by kernel_rfl) (d := (some 61)) (by kernel_rfl) (v := .int .u8 (s1.getD k2 0)) (run_loadA (ty := 5) (x := (.tmp 60)) (a := ⟨g, k2, none⟩) (by kernel_rfl) (by kernel_rfl) Tryd.underlying5 rfl ((H40d.at 1 rfl).cell (bv_at (by rw [HS1L.out]; exact hk2s)))) (Or.inl H40d) ?_ ?_
        · skip
          intro w78 hw78 _
          replace hw78 := hw78.symm
          subst hw78
          refine t_pure (by kernel_rfl) (d := (some 69)) (by kernel_rfl) (v := .int .u8 (bits .xor .u8 (s1.getD k2 0) (s1.getD k 0))) (fun _ => by kernel_rfl) ?_
          refine t_pure (by kernel_rfl) (d := (some 70)) (by kernel_rfl) (v := .pointer (some ⟨g, k2, none⟩)) (fun _ => run_indexSe (t := 24) (x := (.tmp 49)) (y := (.tmp 59)) (b := g) (off := 0) (off' := k2) (n := sz) (c := sz) (i := k2) (z := ((k2 : Nat) : Int)) (by kernel_rfl) (by kernel_rfl) (by kernel_rfl) rfl Tryd.underlying24 (by kernel_rfl) (by omega) (Nat.zero_add _)) ?_
          have H81 : Mm w [(n, ownL sz B t g), (g, bv (s1.set k2 (bits .xor .u8 (s1.getD k2 0) (s1.getD k 0))))] (w39.drew.setCell ⟨g, k2, none⟩ (.int .u8 (bits .xor .u8 (s1.getD k2 0) (s1.getD k 0)))) := (by have h := H40d.put 1 rfl k2 (.int .u8 (bits .xor .u8 (s1.getD k2 0) (s1.getD k 0))); rw [(show (bv s1).set k2 (.int .u8 (bits .xor .u8 (s1.getD k2 0) (s1.getD k 0))) = bv (s1.set k2 (bits .xor .u8 (s1.getD k2 0) (s1.getD k 0))) from bv_set)] at h; exact h)
          refine t_skipOp (by kernel_rfl) (d := none) (by kernel_rfl) (run_storeA (ty := 5) (x := (.tmp 70)) (y := (.tmp 69)) (b := g) (off := k2) (v := .int .u8 (bits .xor .u8 (s1.getD k2 0) (s1.getD k 0))) (by kernel_rfl) (by kernel_rfl) (by kernel_rfl) rfl rfl (by kernel_rfl) ((H40d.at 1 rfl).cell (bv_at (by rw [HS1L.out]; exact hk2s))) (H40d.at 1 rfl).free) (Or.inr H81) ?_ ?_
          · skip
            intro w81 hw81 _
            rw [← hw81] at H81
            clear hw81 H40d
            refine t_done ?_
            go_simp
            go_upto_region 7 with (fail)
            refine wp_seq_atS (opsAt Tryd.f12 7) ((true, 0) :: (true, 1) :: (true, 2) :: (false, 3) :: (true, 4) :: (true, 5) :: (true, 6) :: (false, 7) :: []) (fun _ => True) (by kernel_rfl) (by kernel_rfl) trivial ?_
            refine k_pure (by kernel_rfl) (d := (some 71)) (by kernel_rfl) (v := .pointer (some ⟨n, 0, none⟩)) (fun _ => by kernel_rfl) ?_
            refine k_pure (by kernel_rfl) (d := (some 72)) (by kernel_rfl) (v := .pointer (some ⟨n, 0, none⟩)) (fun _ => by kernel_rfl) ?_
            refine k_pure (by kernel_rfl) (d := (some 73)) (by kernel_rfl) (v := .pointer (some ⟨n, 2, none⟩)) (fun _ => by kernel_rfl) ?_
            refine k_make (by kernel_rfl) (d := (some 74)) (by kernel_rfl) (v := .int .i64 ((t : Nat) : Int)) (run_loadA (ty := 3) (x := (.tmp 73)) (a := ⟨n, 2, none⟩) (by kernel_rfl) (by kernel_rfl) Tryd.underlying3 rfl ((H81.at 0 rfl).cell rfl)) trivial ?_
            intro w85 hw85 _
            replace hw85 := hw85.symm
            subst hw85
            refine k_pure (by kernel_rfl) (d := (some 75)) (by kernel_rfl) (v := .int .i64 (((t + 1) : Nat) : Int)) (fun _ => run_binOpV (op := .add) (x := (.tmp 74)) (y := (.const (.int .i64 1))) (t := 3) (t' := 3) (u := .int .i64 ((t : Nat) : Int)) (v := .int .i64 1) (by kernel_rfl) (by kernel_rfl) (by kernel_rfl) rfl (addI (by omega) (by omega))) ?_
            refine k_pure (by kernel_rfl) (d := (some 76)) (by kernel_rfl) (v := .pointer (some ⟨n, 0, none⟩)) (fun _ => by kernel_rfl) ?_
            refine k_pure (by kernel_rfl) (d := (some 77)) (by kernel_rfl) (v := .pointer (some ⟨n, 2, none⟩)) (fun _ => by kernel_rfl) ?_
            have H89 : Mm w [(n, ownL sz B (t + 1) g), (g, bv (s1.set k2 (bits .xor .u8 (s1.getD k2 0) (s1.getD k 0))))] (w81.setCell ⟨n, 2, none⟩ (.int .i64 (((t + 1) : Nat) : Int))) := (by have h := H81.put 0 rfl 2 (.int .i64 (((t + 1) : Nat) : Int)); rw [(show (ownL sz B t g).set 2 (.int .i64 (((t + 1) : Nat) : Int)) = ownL sz B (t + 1) g from rfl)] at h; exact h)
            refine k_skipOp (by kernel_rfl) (d := none) (by kernel_rfl) (run_storeA (ty := 3) (x := (.tmp 77)) (y := (.tmp 75)) (b := n) (off := 2) (v := .int .i64 (((t + 1) : Nat) : Int)) (by kernel_rfl) (by kernel_rfl) (by kernel_rfl) rfl rfl (by kernel_rfl) ((H81.at 0 rfl).cell (rfl)) (H81.at 0 rfl).free) trivial ?_
            intro w89 hw89 _
            rw [← hw89] at H89
            clear hw89 H81
            refine k_end ?_
            go_simp
            go_upto_region 8 with (fail)
            refine wp_seq_atS (opsAt Tryd.f12 8) ((true, 0) :: (true, 1) :: []) (fun _ => True) (by kernel_rfl) (by kernel_rfl) trivial ?_
            refine k_pure (by kernel_rfl) (d := (some 78)) (by kernel_rfl) (v := .int .i64 (((t + 1) : Nat) : Int)) (fun _ => run_binOpV (op := .add) (x := (.tmp 11)) (y := (.const (.int .i64 1))) (t := 3) (t' := 3) (u := .int .i64 ((t : Nat) : Int)) (v := .int .i64 1) (by kernel_rfl) (by kernel_rfl) (by kernel_rfl) rfl (addI (by omega) (by omega))) ?_
            refine k_pure (by kernel_rfl) (d := (some 11)) (by kernel_rfl) (v := .int .i64 (((t + 1) : Nat) : Int)) (fun _ => by kernel_rfl) ?_
            refine k_end ?_
            go_simp
            have HJ := Lib.hid (show Mm w [(n, ownL sz B (t + 1) g), (g, bv (own sz p (t + 1)))] w89 from by have h := H89; rw [← HS1.out, own_step HST.out HKK.out HK2.out HBB.out] at h; exact h)
            clear H89
            go_wp2_with fail
            exact ⟨⟨t + 1, by omega, by go_num, Lib.hid HJ.out⟩, by simp [intOf]; omega⟩
          exact t_nil
        exact t_nil
      exact t_nil
    · have htI : ¬ (t : Int) < (len : Int) := by omega
      obtain rfl : t = len := by omega
      have HF := Lib.hid hJ.out
      clear hJ
      go_wp2_with fail
      exact bodyPost_ret_by (by kernel_rfl) (by kernel_rfl) ⟨rfl, HF.out⟩
end Go.Proofs.YtkmofjefjbhbhaaDoor
