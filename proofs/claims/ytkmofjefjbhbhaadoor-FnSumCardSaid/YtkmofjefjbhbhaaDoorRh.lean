/- The reference's hash. -/
import Derived.Test.YtkmofjefjbhbhaaDoorRef
import Derived.Test.YtkmofjefjbhbhaaDoorRsh
namespace Go.Proofs.YtkmofjefjbhbhaaDoor
open Go.RowKit Go.FourQ Go.Sha Go.Sl
theorem sizes_c2 {w : World} {kI sI bI : Int} {sz : Nat} (hk : kI ≠ 1) (hz : szO sI bI = sz) :
    Calls Tryd.prog 15 #[.agg #[.int .i64 kI, .int .i64 sI, .int .i64 bI]] w fun e w' => ∃ B : Int, e = .returned (.tuple #[.int .i64 ((sz : Nat) : Int), .int .i64 B]) ∧ Below w.heap.size w w' := by
  subst hz
  exact sizes_c hk

set_option maxRecDepth 100000 in
set_option maxHeartbeats 1000000 in
theorem hash_c {w : World} {kI sI bI : Int} {v : Value} {l : List Int} (hp : Rd w .u8 v l) (hl : l.length ≤ 4096) :
    Calls Tryd.prog 6 #[.agg #[.int .i64 kI, .int .i64 sI, .int .i64 bI], v] w fun e w' => ∃ v', e = .returned v' ∧ Rd w' .u8 v' (hashO kI sI bI l) ∧ Below w.heap.size w w' := by
  obtain ⟨ao0, c0, rfl, hc0, hno, hcell⟩ := id hp
  obtain ⟨len, hlen⟩ : ∃ len, l.length = len := ⟨_, rfl⟩
  rw [hlen] at hp hl hc0 ⊢
  have HP := Lib.hid hp; have HL := Lib.hid hlen; have HNO := Lib.hid hno; have HC0 := Lib.hid hc0
  clear hp hlen hno hc0 hcell
  by_cases hk : kI = 1
  · skip
    subst hk
    rw [hashO_one]
    go_enter Tryd.func6, Tryd.ntmps6
    go_upto_region 1 with (fail)
    refine wp_gen (fun WW => Mm w [(w.heap.size, hsL 1 sI bI)] WW) ((Mm.zero w).new (L := hsL 1 sI bI) rfl (by kernel_rfl)) ?_
    intro W0 H0
    refine wp_seq_atS (opsAt Tryd.f6 1) ((true, 0) :: (false, 1) :: (true, 2) :: []) (fun _ => True) (by kernel_rfl) (by kernel_rfl) trivial ?_
    refine k_pure (by kernel_rfl) (d := (some 13)) (by kernel_rfl) (v := .pointer (some ⟨w.heap.size, 0, none⟩)) (fun _ => by kernel_rfl) ?_
    refine k_make (by kernel_rfl) (d := (some 14)) (by kernel_rfl) (v := .int .i64 1) (run_loadA (ty := 3) (x := (.tmp 13)) (a := ⟨w.heap.size, 0, none⟩) (by kernel_rfl) (by kernel_rfl) Tryd.underlying3 rfl ((H0.at 0 rfl).cell rfl)) trivial ?_
    intro w2 hw2 _
    replace hw2 := hw2.symm
    subst hw2
    refine k_pure (by kernel_rfl) (d := (some 15)) (by kernel_rfl) (v := .bool true) (fun _ => run_binOpV (op := .eql) (x := .tmp 14) (y := .const (.int .i64 1)) (t := 3) (t' := 3) (u := .int .i64 1) (v := .int .i64 1) (by kernel_rfl) (by kernel_rfl) (by kernel_rfl) rfl (eqlT (rfl))) ?_
    refine k_end ?_
    go_simp
    go_upto_region 2 with (fail)
    refine wp_seq_atS (opsAt Tryd.f6 2) ((true, 0) :: (false, 1) :: (true, 2) :: []) (fun _ => True) (by kernel_rfl) (by kernel_rfl) trivial ?_
    refine k_pure (by kernel_rfl) (d := (some 16)) (by kernel_rfl) (v := .slice ao0 len c0) (fun _ => by kernel_rfl) ?_
    refine k_callR (by kernel_rfl) (d := (some 17)) (by kernel_rfl) (f := 14) (args := #[.slice ao0 len c0]) (fun _ => by kernel_rfl) (sha_c (HP.out.fresh H0 (bsC (Nat.le_refl _) bs0)) (by rw [HL.out]; exact hl)) (fun _ w4 ⟨v4, he4, hrd4, hb4⟩ => ⟨_, he4, trivial, ?_⟩)
    have HR := Lib.hid hrd4; have HF := Lib.hid (Mm.below (H0.go hb4) (bsC (Nat.le_refl _) bs0))
    clear hrd4 hb4 he4 H0
    refine k_pure (by kernel_rfl) (d := (some 4)) (by kernel_rfl) (v := v4) (fun _ => by kernel_rfl) ?_
    refine k_end ?_
    go_simp
    go_wp2_with fail
    exact bodyPost_ret_by (by kernel_rfl) (by kernel_rfl) ⟨_, rfl, HR.out, HF.out⟩
  · skip
    rw [hashO_own hk]
    have HK := Lib.hid hk; clear hk
    obtain ⟨sz, hsz⟩ : ∃ sz, szO sI bI = sz := ⟨_, rfl⟩
    have hs1 : 1 ≤ sz := by rw [← hsz]; exact szO_pos.1
    have hs16 : sz ≤ 16 := by rw [← hsz]; exact szO_pos.2
    rw [hsz]
    have HSZ := Lib.hid hsz; clear hsz
    go_enter Tryd.func6, Tryd.ntmps6
    go_upto_region 1 with (fail)
    refine wp_gen (fun WW => Mm w [(w.heap.size, hsL kI sI bI)] WW) ((Mm.zero w).new (L := hsL kI sI bI) rfl (by kernel_rfl)) ?_
    intro W0 H0
    refine wp_seq_atS (opsAt Tryd.f6 1) ((true, 0) :: (false, 1) :: (true, 2) :: []) (fun _ => True) (by kernel_rfl) (by kernel_rfl) trivial ?_
    refine k_pure (by kernel_rfl) (d := (some 13)) (by kernel_rfl) (v := .pointer (some ⟨w.heap.size, 0, none⟩)) (fun _ => by kernel_rfl) ?_
    refine k_make (by kernel_rfl) (d := (some 14)) (by kernel_rfl) (v := .int .i64 kI) (run_loadA (ty := 3) (x := (.tmp 13)) (a := ⟨w.heap.size, 0, none⟩) (by kernel_rfl) (by kernel_rfl) Tryd.underlying3 rfl ((H0.at 0 rfl).cell rfl)) trivial ?_
    intro w7 hw7 _
    replace hw7 := hw7.symm
    subst hw7
    refine k_pure (by kernel_rfl) (d := (some 15)) (by kernel_rfl) (v := .bool false) (fun _ => run_binOpV (op := .eql) (x := .tmp 14) (y := .const (.int .i64 1)) (t := 3) (t' := 3) (u := .int .i64 kI) (v := .int .i64 1) (by kernel_rfl) (by kernel_rfl) (by kernel_rfl) rfl (eqlF (HK.out))) ?_
    refine k_end ?_
    go_simp
    go_upto_region 3 with (fail)
    refine wp_seq_atS (opsAt Tryd.f6 3) ((false, 0) :: (false, 1) :: (true, 2) :: (true, 3) :: (true, 4) :: (true, 5) :: (true, 6) :: []) (fun _ => True) (by kernel_rfl) (by kernel_rfl) trivial ?_
    obtain ⟨T8, hT8⟩ := H0.at 0 rfl
    refine k_make (by kernel_rfl) (d := (some 19)) (by kernel_rfl) (v := .agg (hsL kI sI bI).toArray) (run_loadRow (ty := 23) (x := (.tmp 2)) (b := w.heap.size) (by kernel_rfl) (by kernel_rfl) hT8 Tryd.underlying23 rfl (by kernel_rfl)) trivial ?_
    intro w8 hw8 _
    replace hw8 := hw8.symm
    subst hw8
    clear hT8
    refine k_callR (by kernel_rfl) (d := (some 20)) (by kernel_rfl) (f := 15) (args := #[.agg (hsL kI sI bI).toArray]) (fun _ => by kernel_rfl) (sizes_c2 HK.out HSZ.out) (fun _ w9 ⟨B0, he9, hb9⟩ => ⟨_, he9, trivial, ?_⟩)
    have H9 := H0.go hb9
    clear H0 hb9 he9
    refine k_pure (by kernel_rfl) (d := (some 18)) (by kernel_rfl) (v := .tuple #[.int .i64 ((sz : Nat) : Int), .int .i64 B0]) (fun _ => by kernel_rfl) ?_
    refine k_pure (by kernel_rfl) (d := (some 21)) (by kernel_rfl) (v := .int .i64 ((sz : Nat) : Int)) (fun _ => by kernel_rfl) ?_
    refine k_pure (by kernel_rfl) (d := (some 22)) (by kernel_rfl) (v := .int .i64 B0) (fun _ => by kernel_rfl) ?_
    refine k_pure (by kernel_rfl) (d := (some 5)) (by kernel_rfl) (v := .int .i64 ((sz : Nat) : Int)) (fun _ => by kernel_rfl) ?_
    refine k_pure (by kernel_rfl) (d := (some 6)) (by kernel_rfl) (v := .int .i64 B0) (fun _ => by kernel_rfl) ?_
    refine k_end ?_
    go_simp
    go_upto_region 4 with (fail)
    refine wp_seq_atS (opsAt Tryd.f6 4) ((true, 0) :: (false, 1) :: (true, 2) :: []) (fun _ => True) (by kernel_rfl) (by kernel_rfl) trivial ?_
    refine k_pure (by kernel_rfl) (d := (some 23)) (by kernel_rfl) (v := .int .i64 ((sz : Nat) : Int)) (fun _ => by kernel_rfl) ?_
    obtain ⟨n16, hn16⟩ : ∃ n, w9.heap.size = n := ⟨_, rfl⟩
    have H16 : Mm w [(w.heap.size, hsL kI sI bI), (n16, bv (List.replicate sz 0))] (w9.alloc (.cells (bv (List.replicate sz 0)).toArray 5)) := H9.new hn16.symm rfl
    have hge16 : w.heap.size ≤ n16 := by rw [← hn16]; exact H9.size
    refine k_make (by kernel_rfl) (d := (some 24)) (by kernel_rfl) (v := .slice (some ⟨n16, 0, none⟩) sz sz) (w' := w9.alloc (.cells (bv (List.replicate sz 0)).toArray 5)) (by rw [← hn16]; exact run_mkB (t := 24) (x := (.tmp 23)) (y := (.tmp 23)) (by kernel_rfl) (by kernel_rfl) (by kernel_rfl) Tryd.underlying24 (by kernel_rfl) (by omega)) trivial ?_
    intro w16 hw16 _
    rw [← hw16] at H16
    clear hw16 hn16 H9
    refine k_pure (by kernel_rfl) (d := (some 7)) (by kernel_rfl) (v := .slice (some ⟨n16, 0, none⟩) sz sz) (fun _ => by kernel_rfl) ?_
    refine k_end ?_
    go_simp
    go_upto_region 5 with (fail)
    refine wp_seq_atS (opsAt Tryd.f6 5) ((true, 0) :: (true, 1) :: (true, 2) :: []) (fun _ => True) (by kernel_rfl) (by kernel_rfl) trivial ?_
    refine k_pure (by kernel_rfl) (d := (some 25)) (by kernel_rfl) (v := .slice (some ⟨n16, 0, none⟩) sz sz) (fun _ => by kernel_rfl) ?_
    refine k_pure (by kernel_rfl) (d := (some 26)) (by kernel_rfl) (v := .int .i64 ((sz : Nat) : Int)) (fun _ => by kernel_rfl) ?_
    refine k_pure (by kernel_rfl) (d := (some 27)) (by kernel_rfl) (v := .int .i64 0) (fun _ => by kernel_rfl) ?_
    refine k_end ?_
    go_simp
    have J27 := Lib.hid (show Mm w [(w.heap.size, hsL kI sI bI), (n16, bv (fr sz 0))] w16 from H16)
    clear H16
    go_wp2_with fail
    go_loopw [27] (fun iv wr => ∃ i : Nat, i ≤ sz ∧ iv = .int .i64 i ∧ Hid (Mm w [(w.heap.size, hsL kI sI bI), (n16, bv (fr sz i))] wr)) (fun iq _ => sz - (intOf iq).toNat)
    case atStart => exact ⟨0, Nat.zero_le _, rfl, Lib.hid J27.out⟩
    case round =>
      clear J27
      obtain ⟨i, hi1, rfl, hJ⟩ := hrel
      have HRR := hJ.out
      clear hJ
      by_cases hi : i < sz
      · have hiI : (i : Int) < (sz : Int) := by omega
        go_upto_region 7 with (fail)
        refine wp_seq_atS (opsAt Tryd.f6 7) ((true, 0) :: (true, 1) :: []) (fun _ => True) (by kernel_rfl) (by kernel_rfl) trivial ?_
        refine k_pure (by kernel_rfl) (d := (some 29)) (by kernel_rfl) (v := .int .i64 ((i : Nat) : Int)) (fun _ => by kernel_rfl) ?_
        refine k_pure (by kernel_rfl) (d := (some 8)) (by kernel_rfl) (v := .int .i64 ((i : Nat) : Int)) (fun _ => by kernel_rfl) ?_
        refine k_end ?_
        go_simp
        go_upto_region 8 with (fail)
        refine wp_seq_atS (opsAt Tryd.f6 8) ((true, 0) :: (true, 1) :: (true, 2) :: (true, 3) :: (true, 4) :: (false, 5) :: []) (fun _ => True) (by kernel_rfl) (by kernel_rfl) trivial ?_
        refine k_pure (by kernel_rfl) (d := (some 30)) (by kernel_rfl) (v := .slice (some ⟨n16, 0, none⟩) sz sz) (fun _ => by kernel_rfl) ?_
        refine k_pure (by kernel_rfl) (d := (some 31)) (by kernel_rfl) (v := .int .i64 ((i : Nat) : Int)) (fun _ => by kernel_rfl) ?_
        refine k_pure (by kernel_rfl) (d := (some 32)) (by kernel_rfl) (v := .int .i64 ((i : Nat) : Int)) (fun _ => by kernel_rfl) ?_
        refine k_pure (by kernel_rfl) (d := (some 33)) (by kernel_rfl) (v := .int .u8 (b8 ((i : Nat) : Int))) (fun _ => run_convOpE (x := (.tmp 32)) (s := 3) (d := 5) (u := .int .i64 ((i : Nat) : Int)) (v := .int .u8 (IntKind.u8.wrap ((i : Nat) : Int))) (by kernel_rfl) (by kernel_rfl) (by kernel_rfl) rfl) ?_
        refine k_pure (by kernel_rfl) (d := (some 34)) (by kernel_rfl) (v := .pointer (some ⟨n16, i, none⟩)) (fun _ => run_indexSe (t := 24) (x := (.tmp 30)) (y := (.tmp 31)) (b := n16) (off := 0) (off' := i) (n := sz) (c := sz) (i := i) (z := ((i : Nat) : Int)) (by kernel_rfl) (by kernel_rfl) (by kernel_rfl) rfl Tryd.underlying24 (by kernel_rfl) (by omega) (Nat.zero_add _)) ?_
        have H27 : Mm w [(w.heap.size, hsL kI sI bI), (n16, bv (fr sz (i + 1)))] (wr.setCell ⟨n16, i, none⟩ (.int .u8 (b8 ((i : Nat) : Int)))) := (by have h := HRR.put 1 rfl i (.int .u8 (b8 ((i : Nat) : Int))); rw [(show (bv (fr sz i)).set i (.int .u8 (b8 ((i : Nat) : Int))) = bv (fr sz (i + 1)) from fr_set hi)] at h; exact h)
        refine k_skipOp (by kernel_rfl) (d := none) (by kernel_rfl) (run_storeA (ty := 5) (x := (.tmp 34)) (y := (.tmp 33)) (b := n16) (off := i) (v := .int .u8 (b8 ((i : Nat) : Int))) (by kernel_rfl) (by kernel_rfl) (by kernel_rfl) rfl rfl (by kernel_rfl) ((HRR.at 1 rfl).cell (bv_at (by rw [fr_length hi1]; exact hi))) (HRR.at 1 rfl).free) trivial ?_
        intro w27 hw27 _
        rw [← hw27] at H27
        clear hw27 HRR
        refine k_end ?_
        go_simp
        go_upto_region 9 with (fail)
        refine wp_seq_atS (opsAt Tryd.f6 9) ((true, 0) :: (true, 1) :: []) (fun _ => True) (by kernel_rfl) (by kernel_rfl) trivial ?_
        refine k_pure (by kernel_rfl) (d := (some 35)) (by kernel_rfl) (v := .int .i64 (((i + 1) : Nat) : Int)) (fun _ => run_binOpV (op := .add) (x := (.tmp 27)) (y := (.const (.int .i64 1))) (t := 3) (t' := 3) (u := .int .i64 ((i : Nat) : Int)) (v := .int .i64 1) (by kernel_rfl) (by kernel_rfl) (by kernel_rfl) rfl (addI (by omega) (by omega))) ?_
        refine k_pure (by kernel_rfl) (d := (some 27)) (by kernel_rfl) (v := .int .i64 (((i + 1) : Nat) : Int)) (fun _ => by kernel_rfl) ?_
        refine k_end ?_
        go_simp
        have HJ := Lib.hid (show Mm w [(w.heap.size, hsL kI sI bI), (n16, bv (fr sz (i + 1)))] w27 from H27)
        clear H27
        go_wp2_with fail
        exact ⟨⟨i + 1, by omega, by go_num, Lib.hid HJ.out⟩, by simp [intOf]; omega⟩
      · have hiI : ¬ (i : Int) < (sz : Int) := by omega
        have hie : i = sz := by omega
        subst hie
        go_upto_region 10 with (fail)
        refine wp_seq_atS (opsAt Tryd.f6 10) ((true, 0) :: (true, 1) :: (true, 2) :: []) (fun _ => True) (by kernel_rfl) (by kernel_rfl) trivial ?_
        refine k_pure (by kernel_rfl) (d := (some 36)) (by kernel_rfl) (v := .slice ao0 len c0) (fun _ => by kernel_rfl) ?_
        refine k_pure (by kernel_rfl) (d := (some 37)) (by kernel_rfl) (v := .int .i64 ((len : Nat) : Int)) (fun _ => by kernel_rfl) ?_
        refine k_pure (by kernel_rfl) (d := (some 38)) (by kernel_rfl) (v := .int .i64 0) (fun _ => by kernel_rfl) ?_
        refine k_end ?_
        go_simp
        have J38 := Lib.hid (show Mm w [(w.heap.size, hsL kI sI bI), (n16, bv (own i l 0))] wr from (by have h := HRR; rw [fr_all i l] at h; exact h))
        clear HRR
        go_wp2_with fail
        go_loopw [38] (fun iv wr => ∃ t : Nat, t ≤ len ∧ iv = .int .i64 t ∧ Hid (Mm w [(w.heap.size, hsL kI sI bI), (n16, bv (own i l t))] wr)) (fun iq _ => len - (intOf iq).toNat)
        case atStart => exact ⟨0, Nat.zero_le _, rfl, Lib.hid J38.out⟩
        case round =>
          clear J38
          obtain ⟨t, ht1, rfl, hJ⟩ := hrel
          have HRR := hJ.out
          clear hJ
          by_cases ht : t < len
          · have htI : (t : Int) < (len : Int) := by omega
            have hc1 : len ≤ c0 := HC0.out
            obtain ⟨ad, rfl⟩ : ∃ ad, ao0 = some ad := by cases ao0 with | none => (have := HNO.out rfl; omega) | some a => exact ⟨a, rfl⟩
            obtain ⟨st, hst⟩ : ∃ st, own i l t = st := ⟨_, rfl⟩
            have HST := Lib.hid hst
            have HSL := Lib.hid (show st.length = i by rw [← hst]; exact own_length _ _ _)
            obtain ⟨bb, hbb⟩ : ∃ bb, l.getD t 0 = bb := ⟨_, rfl⟩
            have HBB := Lib.hid hbb
            obtain ⟨k, hk⟩ : ∃ k, t % i = k := ⟨_, rfl⟩
            obtain ⟨k2, hk2⟩ : ∃ k2, (t + 1) % i = k2 := ⟨_, rfl⟩
            have hks : k < i := by rw [← hk]; exact Nat.mod_lt _ (by omega)
            have hk2s : k2 < i := by rw [← hk2]; exact Nat.mod_lt _ (by omega)
            have HKK := Lib.hid hk; have HK2 := Lib.hid hk2
            rw [hst] at HRR
            clear hst hbb hk hk2
            go_upto_region 12 with (fail)
            refine wp_seq_atS (opsAt Tryd.f6 12) ((true, 0) :: (true, 1) :: (false, 2) :: (true, 3) :: (true, 4) :: []) (fun _ => True) (by kernel_rfl) (by kernel_rfl) trivial ?_
            refine k_pure (by kernel_rfl) (d := (some 40)) (by kernel_rfl) (v := .int .i64 ((t : Nat) : Int)) (fun _ => by kernel_rfl) ?_
            refine k_pure (by kernel_rfl) (d := (some 41)) (by kernel_rfl) (v := .pointer (some (ad.add t))) (fun _ => run_indexSl (t := 24) (x := (.tmp 36)) (y := (.tmp 38)) (a := ad) (n := len) (c := c0) (i := t) (z := ((t : Nat) : Int)) (by kernel_rfl) (by kernel_rfl) (by kernel_rfl) rfl Tryd.underlying24 (by kernel_rfl) (by omega)) ?_
            refine k_make (by kernel_rfl) (d := (some 42)) (by kernel_rfl) (v := .int .u8 bb) (run_loadA (ty := 5) (x := (.tmp 41)) (a := ad.add t) (by kernel_rfl) (by kernel_rfl) Tryd.underlying5 rfl ((HRR.cellN HP.out (bsC (Nat.le_refl _) (bsC (show w.heap.size ≤ n16 by assumption) bs0)) HL.out HBB.out (by omega)))) trivial ?_
            intro w34 hw34 _
            replace hw34 := hw34.symm
            subst hw34
            refine k_pure (by kernel_rfl) (d := (some 9)) (by kernel_rfl) (v := .int .i64 ((t : Nat) : Int)) (fun _ => by kernel_rfl) ?_
            refine k_pure (by kernel_rfl) (d := (some 10)) (by kernel_rfl) (v := .int .u8 bb) (fun _ => by kernel_rfl) ?_
            refine k_end ?_
            go_simp
            go_upto_region 13 with (fail)
            refine wp_seq_atS (opsAt Tryd.f6 13) ((true, 0) :: (true, 1) :: (true, 2) :: (true, 3) :: []) (fun _ => True) (by kernel_rfl) (by kernel_rfl) trivial ?_
            refine k_pure (by kernel_rfl) (d := (some 43)) (by kernel_rfl) (v := .int .i64 ((t : Nat) : Int)) (fun _ => by kernel_rfl) ?_
            refine k_pure (by kernel_rfl) (d := (some 44)) (by kernel_rfl) (v := .int .i64 ((i : Nat) : Int)) (fun _ => by kernel_rfl) ?_
            refine k_pure (by kernel_rfl) (d := (some 45)) (by kernel_rfl) (v := .int .i64 ((k : Nat) : Int)) (fun _ => run_binOpV (op := .rem) (x := .tmp 43) (y := .tmp 44) (t := 3) (t' := 3) (u := .int .i64 ((t : Nat) : Int)) (v := .int .i64 ((i : Nat) : Int)) (by kernel_rfl) (by kernel_rfl) (by kernel_rfl) rfl (by rw [← HKK.out]; exact remI rfl rfl (by omega))) ?_
            refine k_pure (by kernel_rfl) (d := (some 11)) (by kernel_rfl) (v := .int .i64 ((k : Nat) : Int)) (fun _ => by kernel_rfl) ?_
            refine k_end ?_
            go_simp
            go_upto_region 14 with (fail)
            refine wp_seq_atS (opsAt Tryd.f6 14) ((true, 0) :: (true, 1) :: (true, 2) :: (true, 3) :: (true, 4) :: (false, 5) :: (true, 6) :: (true, 7) :: (true, 8) :: (true, 9) :: (true, 10) :: (true, 11) :: (true, 12) :: (false, 13) :: []) (fun _ => True) (by kernel_rfl) (by kernel_rfl) trivial ?_
            refine k_pure (by kernel_rfl) (d := (some 46)) (by kernel_rfl) (v := .slice (some ⟨n16, 0, none⟩) i i) (fun _ => by kernel_rfl) ?_
            refine k_pure (by kernel_rfl) (d := (some 47)) (by kernel_rfl) (v := .int .i64 ((k : Nat) : Int)) (fun _ => by kernel_rfl) ?_
            refine k_pure (by kernel_rfl) (d := (some 48)) (by kernel_rfl) (v := .slice (some ⟨n16, 0, none⟩) i i) (fun _ => by kernel_rfl) ?_
            refine k_pure (by kernel_rfl) (d := (some 49)) (by kernel_rfl) (v := .int .i64 ((k : Nat) : Int)) (fun _ => by kernel_rfl) ?_
            refine k_pure (by kernel_rfl) (d := (some 50)) (by kernel_rfl) (v := .pointer (some ⟨n16, k, none⟩)) (fun _ => run_indexSe (t := 24) (x := (.tmp 48)) (y := (.tmp 49)) (b := n16) (off := 0) (off' := k) (n := i) (c := i) (i := k) (z := ((k : Nat) : Int)) (by kernel_rfl) (by kernel_rfl) (by kernel_rfl) rfl Tryd.underlying24 (by kernel_rfl) (by omega) (Nat.zero_add _)) ?_
            refine k_make (by kernel_rfl) (d := (some 51)) (by kernel_rfl) (v := .int .u8 (st.getD k 0)) (run_loadA (ty := 5) (x := (.tmp 50)) (a := ⟨n16, k, none⟩) (by kernel_rfl) (by kernel_rfl) Tryd.underlying5 rfl ((HRR.at 1 rfl).cell (bv_at (by rw [HSL.out]; exact hks)))) trivial ?_
            intro w45 hw45 _
            replace hw45 := hw45.symm
            subst hw45
            refine k_pure (by kernel_rfl) (d := (some 52)) (by kernel_rfl) (v := .int .u8 (b8 (31 * (st.getD k 0)))) (fun _ => by kernel_rfl) ?_
            refine k_pure (by kernel_rfl) (d := (some 53)) (by kernel_rfl) (v := .int .u8 bb) (fun _ => by kernel_rfl) ?_
            refine k_pure (by kernel_rfl) (d := (some 54)) (by kernel_rfl) (v := .int .u8 (b8 ((b8 (31 * (st.getD k 0))) + bb))) (fun _ => by kernel_rfl) ?_
            refine k_pure (by kernel_rfl) (d := (some 55)) (by kernel_rfl) (v := .int .i64 ((t : Nat) : Int)) (fun _ => by kernel_rfl) ?_
            refine k_pure (by kernel_rfl) (d := (some 56)) (by kernel_rfl) (v := .int .u8 (b8 ((t : Nat) : Int))) (fun _ => run_convOpE (x := (.tmp 55)) (s := 3) (d := 5) (u := .int .i64 ((t : Nat) : Int)) (v := .int .u8 (IntKind.u8.wrap ((t : Nat) : Int))) (by kernel_rfl) (by kernel_rfl) (by kernel_rfl) rfl) ?_
            refine k_pure (by kernel_rfl) (d := (some 57)) (by kernel_rfl) (v := .int .u8 (b8 ((b8 ((b8 (31 * (st.getD k 0))) + bb)) + (b8 ((t : Nat) : Int))))) (fun _ => by kernel_rfl) ?_
            refine k_pure (by kernel_rfl) (d := (some 58)) (by kernel_rfl) (v := .pointer (some ⟨n16, k, none⟩)) (fun _ => run_indexSe (t := 24) (x := (.tmp 46)) (y := (.tmp 47)) (b := n16) (off := 0) (off' := k) (n := i) (c := i) (i := k) (z := ((k : Nat) : Int)) (by kernel_rfl) (by kernel_rfl) (by kernel_rfl) rfl Tryd.underlying24 (by kernel_rfl) (by omega) (Nat.zero_add _)) ?_
            have H53 : Mm w [(w.heap.size, hsL kI sI bI), (n16, bv (st.set k (b8 (b8 (b8 (31 * st.getD k 0) + bb) + b8 ((t : Nat) : Int)))))] (wr.setCell ⟨n16, k, none⟩ (.int .u8 (b8 ((b8 ((b8 (31 * (st.getD k 0))) + bb)) + (b8 ((t : Nat) : Int)))))) := (by have h := HRR.put 1 rfl k (.int .u8 (b8 ((b8 ((b8 (31 * (st.getD k 0))) + bb)) + (b8 ((t : Nat) : Int))))); rw [(show (bv st).set k (.int .u8 (b8 ((b8 ((b8 (31 * (st.getD k 0))) + bb)) + (b8 ((t : Nat) : Int))))) = bv (st.set k (b8 (b8 (b8 (31 * st.getD k 0) + bb) + b8 ((t : Nat) : Int)))) from bv_set)] at h; exact h)
            refine k_skipOp (by kernel_rfl) (d := none) (by kernel_rfl) (run_storeA (ty := 5) (x := (.tmp 58)) (y := (.tmp 57)) (b := n16) (off := k) (v := .int .u8 (b8 ((b8 ((b8 (31 * (st.getD k 0))) + bb)) + (b8 ((t : Nat) : Int))))) (by kernel_rfl) (by kernel_rfl) (by kernel_rfl) rfl rfl (by kernel_rfl) ((HRR.at 1 rfl).cell (bv_at (by rw [HSL.out]; exact hks))) (HRR.at 1 rfl).free) trivial ?_
            intro w53 hw53 _
            rw [← hw53] at H53
            clear hw53 HRR
            refine k_end ?_
            go_simp
            go_upto_region 15 with (fail)
            obtain ⟨s1, hs1⟩ : ∃ s1, (st.set k (b8 (b8 (b8 (31 * st.getD k 0) + bb) + b8 ((t : Nat) : Int)))) = s1 := ⟨_, rfl⟩
            rw [hs1] at H53
            have HS1 := Lib.hid hs1
            have HS1L := Lib.hid (show s1.length = i by rw [← hs1, List.length_set]; exact HSL.out)
            clear hs1
            refine wp_tree_at (opsAt Tryd.f6 15) (.take 0 (.take 1 (.take 2 (.take 3 (.take 4 (.take 5 (.take 7 (.take 8 (.take 9 (.fork 6 (.fork 10 (.take 11 (.take 12 (.fork 13 .done .nil))) .nil) (.fork 10 (.fork 6 (.take 11 (.take 12 (.fork 13 .done .nil))) .nil) .nil))))))))))) (fun W => Mm w [(w.heap.size, hsL kI sI bI), (n16, bv s1)] W ∨ Mm w [(w.heap.size, hsL kI sI bI), (n16, bv (s1.set k2 (bits .xor .u8 (s1.getD k2 0) (s1.getD k 0))))] W) (by kernel_rfl) rfl (by kernel_rfl) (fun _ _ d _ _ h => by cases d <;> exact h) (by kernel_rfl) (by kernel_rfl) (Or.inl H53.drew) ?_
            have H54d := H53.drew
            clear H53
            refine t_pure (by kernel_rfl) (d := (some 59)) (by kernel_rfl) (v := .slice (some ⟨n16, 0, none⟩) i i) (fun _ => by kernel_rfl) ?_
            refine t_pure (by kernel_rfl) (d := (some 60)) (by kernel_rfl) (v := .int .i64 ((t : Nat) : Int)) (fun _ => by kernel_rfl) ?_
            refine t_pure (by kernel_rfl) (d := (some 61)) (by kernel_rfl) (v := .int .i64 (((t + 1) : Nat) : Int)) (fun _ => run_binOpV (op := .add) (x := (.tmp 60)) (y := (.const (.int .i64 1))) (t := 3) (t' := 3) (u := .int .i64 ((t : Nat) : Int)) (v := .int .i64 1) (by kernel_rfl) (by kernel_rfl) (by kernel_rfl) rfl (addI (by omega) (by omega))) ?_
            refine t_pure (by kernel_rfl) (d := (some 62)) (by kernel_rfl) (v := .int .i64 ((i : Nat) : Int)) (fun _ => by kernel_rfl) ?_
            refine t_pure (by kernel_rfl) (d := (some 63)) (by kernel_rfl) (v := .int .i64 ((k2 : Nat) : Int)) (fun _ => run_binOpV (op := .rem) (x := .tmp 61) (y := .tmp 62) (t := 3) (t' := 3) (u := .int .i64 ((t + 1 : Nat) : Int)) (v := .int .i64 ((i : Nat) : Int)) (by kernel_rfl) (by kernel_rfl) (by kernel_rfl) rfl (by rw [← HK2.out]; exact remI rfl rfl (by omega))) ?_
            refine t_pure (by kernel_rfl) (d := (some 64)) (by kernel_rfl) (v := .pointer (some ⟨n16, k2, none⟩)) (fun _ => run_indexSe (t := 24) (x := (.tmp 59)) (y := (.tmp 63)) (b := n16) (off := 0) (off' := k2) (n := i) (c := i) (i := k2) (z := ((k2 : Nat) : Int)) (by kernel_rfl) (by kernel_rfl) (by kernel_rfl) rfl Tryd.underlying24 (by kernel_rfl) (by omega) (Nat.zero_add _)) ?_
            refine t_pure (by kernel_rfl) (d := (some 66)) (by kernel_rfl) (v := .slice (some ⟨n16, 0, none⟩) i i) (fun _ => by kernel_rfl) ?_
            refine t_pure (by kernel_rfl) (d := (some 67)) (by kernel_rfl) (v := .int .i64 ((k : Nat) : Int)) (fun _ => by kernel_rfl) ?_
            refine t_pure (by kernel_rfl) (d := (some 68)) (by kernel_rfl) (v := .pointer (some ⟨n16, k, none⟩)) (fun _ => run_indexSe (t := 24) (x := (.tmp 66)) (y := (.tmp 67)) (b := n16) (off := 0) (off' := k) (n := i) (c := i) (i := k) (z := ((k : Nat) : Int)) (by kernel_rfl) (by kernel_rfl) (by kernel_rfl) rfl Tryd.underlying24 (by kernel_rfl) (by omega) (Nat.zero_add _)) ?_
            refine t_make (by kernel_rfl) (d := (some 65)) (by kernel_rfl) (v := .int .u8 (s1.getD k2 0)) (run_loadA (ty := 5) (x := (.tmp 64)) (a := ⟨n16, k2, none⟩) (by kernel_rfl) (by kernel_rfl) Tryd.underlying5 rfl ((H54d.at 1 rfl).cell (bv_at (by rw [HS1L.out]; exact hk2s)))) (Or.inl H54d) ?_ ?_
            · skip
              intro w64 hw64 _
              replace hw64 := hw64.symm
              subst hw64
              refine t_make (by kernel_rfl) (d := (some 69)) (by kernel_rfl) (v := .int .u8 (s1.getD k 0)) (run_loadA (ty := 5) (x := (.tmp 68)) (a := ⟨n16, k, none⟩) (by kernel_rfl) (by kernel_rfl) Tryd.underlying5 rfl ((H54d.at 1 rfl).cell (bv_at (by rw [HS1L.out]; exact hks)))) (Or.inl H54d) ?_ ?_
              · skip
                intro w65 hw65 _
                replace hw65 := hw65.symm
                subst hw65
                refine t_pure (by kernel_rfl) (d := (some 70)) (by kernel_rfl) (v := .int .u8 (bits .xor .u8 (s1.getD k2 0) (s1.getD k 0))) (fun _ => by kernel_rfl) ?_
                refine t_pure (by kernel_rfl) (d := (some 71)) (by kernel_rfl) (v := .pointer (some ⟨n16, k2, none⟩)) (fun _ => run_indexSe (t := 24) (x := (.tmp 59)) (y := (.tmp 63)) (b := n16) (off := 0) (off' := k2) (n := i) (c := i) (i := k2) (z := ((k2 : Nat) : Int)) (by kernel_rfl) (by kernel_rfl) (by kernel_rfl) rfl Tryd.underlying24 (by kernel_rfl) (by omega) (Nat.zero_add _)) ?_
                have H68 : Mm w [(w.heap.size, hsL kI sI bI), (n16, bv (s1.set k2 (bits .xor .u8 (s1.getD k2 0) (s1.getD k 0))))] (w53.drew.setCell ⟨n16, k2, none⟩ (.int .u8 (bits .xor .u8 (s1.getD k2 0) (s1.getD k 0)))) := (by have h := H54d.put 1 rfl k2 (.int .u8 (bits .xor .u8 (s1.getD k2 0) (s1.getD k 0))); rw [(show (bv s1).set k2 (.int .u8 (bits .xor .u8 (s1.getD k2 0) (s1.getD k 0))) = bv (s1.set k2 (bits .xor .u8 (s1.getD k2 0) (s1.getD k 0))) from bv_set)] at h; exact h)
                refine t_skipOp (by kernel_rfl) (d := none) (by kernel_rfl) (run_storeA (ty := 5) (x := (.tmp 71)) (y := (.tmp 70)) (b := n16) (off := k2) (v := .int .u8 (bits .xor .u8 (s1.getD k2 0) (s1.getD k 0))) (by kernel_rfl) (by kernel_rfl) (by kernel_rfl) rfl rfl (by kernel_rfl) ((H54d.at 1 rfl).cell (bv_at (by rw [HS1L.out]; exact hk2s))) (H54d.at 1 rfl).free) (Or.inr H68) ?_ ?_
                · skip
                  intro w68 hw68 _
                  rw [← hw68] at H68
                  clear hw68 H54d
                  refine t_done ?_
                  go_simp
                  go_upto_region 16 with (fail)
                  refine wp_seq_atS (opsAt Tryd.f6 16) ((true, 0) :: (true, 1) :: []) (fun _ => True) (by kernel_rfl) (by kernel_rfl) trivial ?_
                  refine k_pure (by kernel_rfl) (d := (some 72)) (by kernel_rfl) (v := .int .i64 (((t + 1) : Nat) : Int)) (fun _ => run_binOpV (op := .add) (x := (.tmp 38)) (y := (.const (.int .i64 1))) (t := 3) (t' := 3) (u := .int .i64 ((t : Nat) : Int)) (v := .int .i64 1) (by kernel_rfl) (by kernel_rfl) (by kernel_rfl) rfl (addI (by omega) (by omega))) ?_
                  refine k_pure (by kernel_rfl) (d := (some 38)) (by kernel_rfl) (v := .int .i64 (((t + 1) : Nat) : Int)) (fun _ => by kernel_rfl) ?_
                  refine k_end ?_
                  go_simp
                  have HJ := Lib.hid (show Mm w [(w.heap.size, hsL kI sI bI), (n16, bv (own i l (t + 1)))] w68 from by have h := H68; rw [← HS1.out, own_step HST.out HKK.out HK2.out HBB.out] at h; exact h)
                  clear H68
                  go_wp2_with fail
                  exact ⟨⟨t + 1, by omega, by go_num, Lib.hid HJ.out⟩, by simp [intOf]; omega⟩
                exact t_nil
              exact t_nil
            refine t_make (by kernel_rfl) (d := (some 69)) (by kernel_rfl) (v := .int .u8 (s1.getD k 0)) (run_loadA (ty := 5) (x := (.tmp 68)) (a := ⟨n16, k, none⟩) (by kernel_rfl) (by kernel_rfl) Tryd.underlying5 rfl ((H54d.at 1 rfl).cell (bv_at (by rw [HS1L.out]; exact hks)))) (Or.inl H54d) ?_ ?_
            · skip
              intro w71 hw71 _
              replace hw71 := hw71.symm
              subst hw71
              refine t_make (by kernel_rfl) (d := (some 65)) (by kernel_rfl) (v := .int .u8 (s1.getD k2 0)) (run_loadA (ty := 5) (x := (.tmp 64)) (a := ⟨n16, k2, none⟩) (by kernel_rfl) (by kernel_rfl) Tryd.underlying5 rfl ((H54d.at 1 rfl).cell (bv_at (by rw [HS1L.out]; exact hk2s)))) (Or.inl H54d) ?_ ?_
              · skip
                intro w72 hw72 _
                replace hw72 := hw72.symm
                subst hw72
                refine t_pure (by kernel_rfl) (d := (some 70)) (by kernel_rfl) (v := .int .u8 (bits .xor .u8 (s1.getD k2 0) (s1.getD k 0))) (fun _ => by kernel_rfl) ?_
                refine t_pure (by kernel_rfl) (d := (some 71)) (by kernel_rfl) (v := .pointer (some ⟨n16, k2, none⟩)) (fun _ => run_indexSe (t := 24) (x := (.tmp 59)) (y := (.tmp 63)) (b := n16) (off := 0) (off' := k2) (n := i) (c := i) (i := k2) (z := ((k2 : Nat) : Int)) (by kernel_rfl) (by kernel_rfl) (by kernel_rfl) rfl Tryd.underlying24 (by kernel_rfl) (by omega) (Nat.zero_add _)) ?_
                have H75 : Mm w [(w.heap.size, hsL kI sI bI), (n16, bv (s1.set k2 (bits .xor .u8 (s1.getD k2 0) (s1.getD k 0))))] (w53.drew.setCell ⟨n16, k2, none⟩ (.int .u8 (bits .xor .u8 (s1.getD k2 0) (s1.getD k 0)))) := (by have h := H54d.put 1 rfl k2 (.int .u8 (bits .xor .u8 (s1.getD k2 0) (s1.getD k 0))); rw [(show (bv s1).set k2 (.int .u8 (bits .xor .u8 (s1.getD k2 0) (s1.getD k 0))) = bv (s1.set k2 (bits .xor .u8 (s1.getD k2 0) (s1.getD k 0))) from bv_set)] at h; exact h)
                refine t_skipOp (by kernel_rfl) (d := none) (by kernel_rfl) (run_storeA (ty := 5) (x := (.tmp 71)) (y := (.tmp 70)) (b := n16) (off := k2) (v := .int .u8 (bits .xor .u8 (s1.getD k2 0) (s1.getD k 0))) (by kernel_rfl) (by kernel_rfl) (by kernel_rfl) rfl rfl (by kernel_rfl) ((H54d.at 1 rfl).cell (bv_at (by rw [HS1L.out]; exact hk2s))) (H54d.at 1 rfl).free) (Or.inr H75) ?_ ?_
                · skip
                  intro w75 hw75 _
                  rw [← hw75] at H75
                  clear hw75 H54d
                  refine t_done ?_
                  go_simp
                  go_upto_region 16 with (fail)
                  refine wp_seq_atS (opsAt Tryd.f6 16) ((true, 0) :: (true, 1) :: []) (fun _ => True) (by kernel_rfl) (by kernel_rfl) trivial ?_
                  refine k_pure (by kernel_rfl) (d := (some 72)) (by kernel_rfl) (v := .int .i64 (((t + 1) : Nat) : Int)) (fun _ => run_binOpV (op := .add) (x := (.tmp 38)) (y := (.const (.int .i64 1))) (t := 3) (t' := 3) (u := .int .i64 ((t : Nat) : Int)) (v := .int .i64 1) (by kernel_rfl) (by kernel_rfl) (by kernel_rfl) rfl (addI (by omega) (by omega))) ?_
                  refine k_pure (by kernel_rfl) (d := (some 38)) (by kernel_rfl) (v := .int .i64 (((t + 1) : Nat) : Int)) (fun _ => by kernel_rfl) ?_
                  refine k_end ?_
                  go_simp
                  have HJ := Lib.hid (show Mm w [(w.heap.size, hsL kI sI bI), (n16, bv (own i l (t + 1)))] w75 from by have h := H75; rw [← HS1.out, own_step HST.out HKK.out HK2.out HBB.out] at h; exact h)
                  clear H75
                  go_wp2_with fail
                  exact ⟨⟨t + 1, by omega, by go_num, Lib.hid HJ.out⟩, by simp [intOf]; omega⟩
                exact t_nil
              exact t_nil
            exact t_nil
          · have htI : ¬ (t : Int) < (len : Int) := by omega
            have hte : t = len := by omega
            subst hte
            go_upto_region 17 with (fail)
            refine wp_seq_atS (opsAt Tryd.f6 17) ((true, 0) :: (true, 1) :: (true, 2) :: []) (fun _ => True) (by kernel_rfl) (by kernel_rfl) trivial ?_
            refine k_pure (by kernel_rfl) (d := (some 73)) (by kernel_rfl) (v := .slice (some ⟨n16, 0, none⟩) i i) (fun _ => by kernel_rfl) ?_
            refine k_pure (by kernel_rfl) (d := (some 74)) (by kernel_rfl) (v := .int .i64 ((i : Nat) : Int)) (fun _ => by kernel_rfl) ?_
            refine k_pure (by kernel_rfl) (d := (some 75)) (by kernel_rfl) (v := .int .i64 0) (fun _ => by kernel_rfl) ?_
            refine k_end ?_
            go_simp
            have J75 := Lib.hid (show Mm w [(w.heap.size, hsL kI sI bI), (n16, bv (mixO i l 0))] wr from (by have h := HRR; rw [← HL.out] at h; exact h))
            clear HRR
            go_wp2_with fail
            go_loopw [75] (fun iv wr => ∃ m : Nat, m ≤ i ∧ iv = .int .i64 m ∧ Hid (Mm w [(w.heap.size, hsL kI sI bI), (n16, bv (mixO i l m))] wr)) (fun iq _ => i - (intOf iq).toNat)
            case atStart => exact ⟨0, Nat.zero_le _, rfl, Lib.hid J75.out⟩
            case round =>
              clear J75
              obtain ⟨m, hm1, rfl, hJ⟩ := hrel
              have HRR := hJ.out
              clear hJ
              by_cases hm : m < i
              · have hmI : (m : Int) < (i : Int) := by omega
                go_upto_region 19 with (fail)
                refine wp_seq_atS (opsAt Tryd.f6 19) ((true, 0) :: (true, 1) :: []) (fun _ => True) (by kernel_rfl) (by kernel_rfl) trivial ?_
                refine k_pure (by kernel_rfl) (d := (some 77)) (by kernel_rfl) (v := .int .i64 ((m : Nat) : Int)) (fun _ => by kernel_rfl) ?_
                refine k_pure (by kernel_rfl) (d := (some 12)) (by kernel_rfl) (v := .int .i64 ((m : Nat) : Int)) (fun _ => by kernel_rfl) ?_
                refine k_end ?_
                go_simp
                go_upto_region 20 with (fail)
                obtain ⟨x, hx⟩ : ∃ x, (own i l l.length).getD m 0 = x := ⟨_, rfl⟩
                have HXX := Lib.hid hx
                have HX2 := Lib.hid (show (mixO i l m).getD m 0 = x by rw [mixO_get hm]; exact hx)
                clear hx
                refine wp_seq_atS (opsAt Tryd.f6 20) ((true, 0) :: (true, 1) :: (true, 2) :: (false, 3) :: (true, 4) :: (true, 5) :: (true, 6) :: (true, 7) :: (true, 8) :: (false, 9) :: []) (fun _ => True) (by kernel_rfl) (by kernel_rfl) trivial ?_
                refine k_pure (by kernel_rfl) (d := (some 78)) (by kernel_rfl) (v := .slice (some ⟨n16, 0, none⟩) i i) (fun _ => by kernel_rfl) ?_
                refine k_pure (by kernel_rfl) (d := (some 79)) (by kernel_rfl) (v := .int .i64 ((m : Nat) : Int)) (fun _ => by kernel_rfl) ?_
                refine k_pure (by kernel_rfl) (d := (some 80)) (by kernel_rfl) (v := .pointer (some ⟨n16, m, none⟩)) (fun _ => run_indexSe (t := 24) (x := (.tmp 78)) (y := (.tmp 79)) (b := n16) (off := 0) (off' := m) (n := i) (c := i) (i := m) (z := ((m : Nat) : Int)) (by kernel_rfl) (by kernel_rfl) (by kernel_rfl) rfl Tryd.underlying24 (by kernel_rfl) (by omega) (Nat.zero_add _)) ?_
                refine k_make (by kernel_rfl) (d := (some 81)) (by kernel_rfl) (v := .int .u8 x) (run_loadA (ty := 5) (x := (.tmp 80)) (a := ⟨n16, m, none⟩) (by kernel_rfl) (by kernel_rfl) Tryd.underlying5 rfl ((HRR.at 1 rfl).cell (by rw [← HX2.out]; exact bv_at (by rw [mixO_length hm1]; exact hm)))) trivial ?_
                intro w85 hw85 _
                replace hw85 := hw85.symm
                subst hw85
                refine k_pure (by kernel_rfl) (d := (some 82)) (by kernel_rfl) (v := .slice ao0 t c0) (fun _ => by kernel_rfl) ?_
                refine k_pure (by kernel_rfl) (d := (some 83)) (by kernel_rfl) (v := .int .i64 ((t : Nat) : Int)) (fun _ => by kernel_rfl) ?_
                refine k_pure (by kernel_rfl) (d := (some 84)) (by kernel_rfl) (v := .int .u8 (b8 ((t : Nat) : Int))) (fun _ => run_convOpE (x := (.tmp 83)) (s := 3) (d := 5) (u := .int .i64 ((t : Nat) : Int)) (v := .int .u8 (IntKind.u8.wrap ((t : Nat) : Int))) (by kernel_rfl) (by kernel_rfl) (by kernel_rfl) rfl) ?_
                refine k_pure (by kernel_rfl) (d := (some 85)) (by kernel_rfl) (v := .int .u8 (b8 (x + (b8 ((t : Nat) : Int))))) (fun _ => by kernel_rfl) ?_
                refine k_pure (by kernel_rfl) (d := (some 86)) (by kernel_rfl) (v := .pointer (some ⟨n16, m, none⟩)) (fun _ => run_indexSe (t := 24) (x := (.tmp 78)) (y := (.tmp 79)) (b := n16) (off := 0) (off' := m) (n := i) (c := i) (i := m) (z := ((m : Nat) : Int)) (by kernel_rfl) (by kernel_rfl) (by kernel_rfl) rfl Tryd.underlying24 (by kernel_rfl) (by omega) (Nat.zero_add _)) ?_
                have H90 : Mm w [(w.heap.size, hsL kI sI bI), (n16, bv (mixO i l (m + 1)))] (wr.setCell ⟨n16, m, none⟩ (.int .u8 (b8 (x + (b8 ((t : Nat) : Int)))))) := (by have h := HRR.put 1 rfl m (.int .u8 (b8 (x + (b8 ((t : Nat) : Int))))); rw [(show (bv (mixO i l m)).set m (.int .u8 (b8 (x + (b8 ((t : Nat) : Int))))) = bv (mixO i l (m + 1)) from by have h := mixO_set (l := l) hm; rw [HXX.out, HL.out] at h; exact h)] at h; exact h)
                refine k_skipOp (by kernel_rfl) (d := none) (by kernel_rfl) (run_storeA (ty := 5) (x := (.tmp 86)) (y := (.tmp 85)) (b := n16) (off := m) (v := .int .u8 (b8 (x + (b8 ((t : Nat) : Int))))) (by kernel_rfl) (by kernel_rfl) (by kernel_rfl) rfl rfl (by kernel_rfl) ((HRR.at 1 rfl).cell (bv_at (by rw [mixO_length hm1]; exact hm))) (HRR.at 1 rfl).free) trivial ?_
                intro w90 hw90 _
                rw [← hw90] at H90
                clear hw90 HRR
                refine k_end ?_
                go_simp
                go_upto_region 21 with (fail)
                refine wp_seq_atS (opsAt Tryd.f6 21) ((true, 0) :: (true, 1) :: []) (fun _ => True) (by kernel_rfl) (by kernel_rfl) trivial ?_
                refine k_pure (by kernel_rfl) (d := (some 87)) (by kernel_rfl) (v := .int .i64 (((m + 1) : Nat) : Int)) (fun _ => run_binOpV (op := .add) (x := (.tmp 75)) (y := (.const (.int .i64 1))) (t := 3) (t' := 3) (u := .int .i64 ((m : Nat) : Int)) (v := .int .i64 1) (by kernel_rfl) (by kernel_rfl) (by kernel_rfl) rfl (addI (by omega) (by omega))) ?_
                refine k_pure (by kernel_rfl) (d := (some 75)) (by kernel_rfl) (v := .int .i64 (((m + 1) : Nat) : Int)) (fun _ => by kernel_rfl) ?_
                refine k_end ?_
                go_simp
                have HJ := Lib.hid (show Mm w [(w.heap.size, hsL kI sI bI), (n16, bv (mixO i l (m + 1)))] w90 from H90)
                clear H90
                go_wp2_with fail
                exact ⟨⟨m + 1, by omega, by go_num, Lib.hid HJ.out⟩, by simp [intOf]; omega⟩
              · have hmI : ¬ (m : Int) < (i : Int) := by omega
                have hme : m = i := by omega
                subst hme
                go_upto_region 22 with (fail)
                refine wp_seq_atS (opsAt Tryd.f6 22) ((true, 0) :: (true, 1) :: []) (fun _ => True) (by kernel_rfl) (by kernel_rfl) trivial ?_
                refine k_pure (by kernel_rfl) (d := (some 88)) (by kernel_rfl) (v := .slice (some ⟨n16, 0, none⟩) m m) (fun _ => by kernel_rfl) ?_
                refine k_pure (by kernel_rfl) (d := (some 4)) (by kernel_rfl) (v := .slice (some ⟨n16, 0, none⟩) m m) (fun _ => by kernel_rfl) ?_
                refine k_end ?_
                go_simp
                have HF := Lib.hid (HRR.below (bsC (Nat.le_refl _) (bsC (show w.heap.size ≤ n16 by assumption) bs0)))
                have HR := Lib.hid (show Rd wr .u8 (.slice (some ⟨n16, 0, none⟩) m m) (ownH m l) from by rw [mixO_all] at HRR; exact (HRR.at 1 rfl).rd (ownH_length _ _).symm (Nat.le_refl _) (fun j x hj => by rw [Nat.zero_add]; exact bv_get hj))
                clear HRR
                go_wp2_with fail
                exact bodyPost_ret_by (by kernel_rfl) (by kernel_rfl) ⟨_, rfl, HR.out, HF.out⟩
end Go.Proofs.YtkmofjefjbhbhaaDoor
