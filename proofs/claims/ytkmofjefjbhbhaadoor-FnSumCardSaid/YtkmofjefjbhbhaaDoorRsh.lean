/- The reference's SHA-256, whole. -/
import Derived.Test.YtkmofjefjbhbhaaDoorHb
namespace Go.Proofs.YtkmofjefjbhbhaaDoor
open Go.RowKit Go.FourQ Go.Sha Go.Sl

set_option maxRecDepth 100000 in
set_option maxHeartbeats 1000000 in
theorem sha_c {w : World} {v : Value} {l : List Int} (hp : Rd w .u8 v l) (hl : l.length ≤ 4096) :
    Calls Tryd.prog 14 #[v] w fun e w' => ∃ v', e = .returned v' ∧ Rd w' .u8 v' (sha l) ∧ Below w.heap.size w w' := by
  obtain ⟨ao0, c0, rfl, hc0, hno, hcell⟩ := id hp
  obtain ⟨l0, hl0⟩ : ∃ l0, l.length = l0 := ⟨_, rfl⟩
  rw [hl0] at hp hl ⊢
  obtain ⟨z, hz⟩ : ∃ z, zs l0 = z := ⟨_, rfl⟩
  have hz63 : z ≤ 63 := by subst hz; unfold zs; split <;> omega
  obtain ⟨J, hJJ⟩ : ∃ J, (l0 + (z + 9)) / 64 = J := ⟨_, rfl⟩
  have hJ64 : l0 + 1 + z + 8 = 64 * J := by have := zs_mod l0; rw [hz] at this; omega
  have HP := Lib.hid hp; have HL := Lib.hid hl0; have HZ := Lib.hid hz; have HQ := Lib.hid hJ64; have HJJ := Lib.hid hJJ
  clear hp hl0 hz hJ64 hJJ hc0 hno hcell
  go_enter Tryd.func14, Tryd.ntmps14
  go_upto_region 1 with (fail)
  have H0 : Mm w [] w := (Mm.zero w)
  refine wp_seq_atS (opsAt Tryd.f14 1) ((true, 0) :: (false, 1) :: (false, 2) :: []) (fun _ => True) (by kernel_rfl) (by kernel_rfl) trivial ?_
  refine k_pure (by kernel_rfl) (d := (some 11)) (by kernel_rfl) (v := .agg (wv Go.Sha.H0.list).toArray) (fun _ => by kernel_rfl) ?_
  obtain ⟨n1, hn1⟩ : ∃ n, w.heap.size = n := ⟨_, rfl⟩
  have H1 : Mm w [(n1, wv (List.replicate 8 0))] (w.alloc (.cells (wv (List.replicate 8 0)).toArray 41)) := H0.new hn1.symm rfl
  have hge1 : w.heap.size ≤ n1 := by rw [← hn1]; exact H0.size
  refine k_make (by kernel_rfl) (d := (some 3)) (by kernel_rfl) (v := .pointer (some ⟨n1, 0, none⟩)) (w' := w.alloc (.cells (wv (List.replicate 8 0)).toArray 41)) (by rw [← hn1]; kernel_rfl) trivial ?_
  intro w1 hw1 _
  rw [← hw1] at H1
  clear hw1 hn1 H0
  obtain ⟨T2, hT2⟩ := H1.at 0 rfl
  have H2 : Mm w [(n1, wv Go.Sha.H0.list)] (w1.setRow n1 (wv Go.Sha.H0.list).toArray) := H1.row 0 rfl (wv Go.Sha.H0.list)
  refine k_put (by kernel_rfl) (d := none) (by kernel_rfl) (ty := 41) (x := (.tmp 3)) (y := (.tmp 11)) (by kernel_rfl) (g := n1) (cells := (wv Go.Sha.H0.list).toArray) (by kernel_rfl) (by kernel_rfl) hT2 (by kernel_rfl) (by kernel_rfl) (wv_all _) trivial ?_
  intro w2 hw2 _
  rw [← hw2] at H2
  clear hw2 hT2 H1
  refine k_end ?_
  go_simp
  go_upto_region 2 with (fail)
  obtain ⟨base, hbase⟩ : ∃ base, n1 + 1 = base := ⟨_, rfl⟩
  have hb1 : w.heap.size ≤ base := by omega
  have hb2 : ∀ p ∈ [(n1, wv Go.Sha.H0.list)], p.1 < base := bsC (by show n1 < base; omega) bs0
  have hb3 : base ≤ w2.heap.size := by have := (H2.at 0 rfl).lt; omega
  have HB1 := Lib.hid hb1; have HB2 := Lib.hid hb2
  have HBS := Lib.hid hbase
  clear hb1 hb2 hbase
  refine wp_seq_atS (opsAt Tryd.f14 2) ((false, 0) :: (true, 1) :: (false, 2) :: (true, 3) :: []) (fun _ => True) (by kernel_rfl) (by kernel_rfl) trivial ?_
  obtain ⟨n3, hn3⟩ : ∃ n, w2.heap.size = n := ⟨_, rfl⟩
  have H3 : Mm w [(n1, wv Go.Sha.H0.list)] (w2.alloc (.cells (bv []).toArray 5)) := H2.allocM
  have ho3 : Ow (w2.alloc (.cells (bv []).toArray 5)) base 5 .u8 (.slice (some ⟨n3, 0, none⟩) 0 0) [] := by rw [← hn3]; exact Ow.empty hb3
  refine k_make (by kernel_rfl) (d := (some 12)) (by kernel_rfl) (v := .slice (some ⟨n3, 0, none⟩) 0 0) (w' := (w2.alloc (.cells (bv []).toArray 5))) (by rw [← hn3]; kernel_rfl) trivial ?_
  intro w3 hw3 _
  rw [← hw3] at H3 ho3
  clear hw3 hn3 H2
  refine k_pure (by kernel_rfl) (d := (some 13)) (by kernel_rfl) (v := .slice ao0 l0 c0) (fun _ => by kernel_rfl) ?_
  obtain ⟨i5, hi5, hz5, hs5, hy5⟩ := info_parts (P := Tryd.prog) (e := 5) (z := .int .u8 0) (size := 1) (bytes := 1) (by kernel_rfl)
  obtain ⟨ao5, c5, wz5, hr5, ho5, um5⟩ := app_step (P := Tryd.prog) (t := 24) (ty := 24) Tryd.underlying24 hi5 hz5 hs5 hy5 H3 ho3 (HP.out.fresh H3 (bsC (show w.heap.size ≤ n1 by assumption) bs0)) (n := l0) HL.out (by omega) HB1.out (by have := (H3.at 0 rfl).lt; have := HBS.out; omega) HB2.out
  refine k_make (by kernel_rfl) (d := (some 14)) (by kernel_rfl) (v := .slice ao5 l0 c5) (run_appOp (x := .tmp 12) (y := .tmp 13) (by kernel_rfl) (by kernel_rfl) (by kernel_rfl) hr5) trivial ?_
  intro w5 hw5 _
  rw [← hw5] at ho5 um5
  clear hw5 hr5 hi5 hz5 hs5 hy5 H3 ho3
  refine k_pure (by kernel_rfl) (d := (some 4)) (by kernel_rfl) (v := .slice ao5 l0 c5) (fun _ => by kernel_rfl) ?_
  refine k_end ?_
  go_simp
  go_upto_region 3 with (fail)
  clear hb3
  refine wp_seq_atS (opsAt Tryd.f14 3) ((true, 0) :: (false, 1) :: (false, 2) :: (true, 3) :: []) (fun _ => True) (by kernel_rfl) (by kernel_rfl) trivial ?_
  refine k_pure (by kernel_rfl) (d := (some 15)) (by kernel_rfl) (v := .slice ao5 l0 c5) (fun _ => by kernel_rfl) ?_
  obtain ⟨n8, hn8⟩ : ∃ n, w5.heap.size = n := ⟨_, rfl⟩
  have H8 : Mm w [(n1, wv Go.Sha.H0.list)] (w5.alloc (.cells (bv [128]).toArray 5)) := um5.allocM
  have hrd8 : Rd (w5.alloc (.cells (bv [128]).toArray 5)) .u8 (.slice (some ⟨n8, 0, none⟩) 1 1) [128] := by rw [← hn8]; exact rd_new (l := [128])
  have ho8 := Ow.alloc (o := .cells (bv [128]).toArray 5) ho5
  refine k_make (by kernel_rfl) (d := (some 16)) (by kernel_rfl) (v := .slice (some ⟨n8, 0, none⟩) 1 1) (w' := (w5.alloc (.cells (bv [128]).toArray 5))) (by rw [← hn8]; kernel_rfl) trivial ?_
  intro w8 hw8 _
  rw [← hw8] at H8 ho8 hrd8
  clear hw8 hn8 um5
  obtain ⟨i9, hi9, hz9, hs9, hy9⟩ := info_parts (P := Tryd.prog) (e := 5) (z := .int .u8 0) (size := 1) (bytes := 1) (by kernel_rfl)
  obtain ⟨ao9, c9, wz9, hr9, ho9, um9⟩ := app_step (P := Tryd.prog) (t := 24) (ty := 24) Tryd.underlying24 hi9 hz9 hs9 hy9 H8 ho8 hrd8 (n := l0 + 1) (by rw [List.length_append, List.nil_append, HL.out]; rfl) (by omega) HB1.out (by have := (H8.at 0 rfl).lt; have := HBS.out; omega) HB2.out
  refine k_make (by kernel_rfl) (d := (some 17)) (by kernel_rfl) (v := .slice ao9 (l0 + 1) c9) (run_appOp (x := .tmp 15) (y := .tmp 16) (by kernel_rfl) (by kernel_rfl) (by kernel_rfl) hr9) trivial ?_
  intro w9 hw9 _
  rw [← hw9] at ho9 um9
  clear hw9 hr9 hi9 hz9 hs9 hy9 H8 ho8 hrd8
  refine k_pure (by kernel_rfl) (d := (some 4)) (by kernel_rfl) (v := .slice ao9 (l0 + 1) c9) (fun _ => by kernel_rfl) ?_
  refine k_end ?_
  go_simp
  have J4 := Lib.hid um9; have O4 := Lib.hid (show Ow w9 base 5 .u8 (.slice ao9 (l0 + 1) c9) (l ++ 128 :: List.replicate 0 0) from ho9)
  clear um9 ho9
  go_wp2_with fail
  go_loopw [4] (fun v4 wr => ∃ (i : Nat) (ao : Option Addr) (c : Nat), i ≤ z ∧ v4 = .slice ao (l0 + 1 + i) c ∧ Hid (Ow wr base 5 .u8 (.slice ao (l0 + 1 + i) c) (l ++ 128 :: List.replicate i 0)) ∧ Hid (Mm w [(n1, wv Go.Sha.H0.list)] wr)) (fun v4 _ => l0 + 1 + z - slen v4)
  case atStart => exact ⟨0, ao9, c9, Nat.zero_le _, rfl, O4, J4⟩
  case round =>
    clear J4 O4
    obtain ⟨i, ao, c, hi1, rfl, hO, hJ⟩ := hrel
    have H90 := hJ.out; have O90 := hO.out
    clear hJ hO
    obtain ⟨n, hn⟩ : ∃ n, l0 + 1 + i = n := ⟨_, rfl⟩
    obtain ⟨r, hr⟩ : ∃ r, n % 64 = r := ⟨_, rfl⟩
    rw [hn] at O90 ⊢
    have hstop : r = 56 ↔ i = z := by have := zs_stop (n := l0) (i := i) (by rw [HZ.out]; exact hi1); rw [HZ.out, hn] at this; rw [← hr]; exact this
    have hnb : n ≤ 5000 := by omega
    have HN := Lib.hid hn; have HR := Lib.hid hr; have HSP := Lib.hid hstop
    clear hn hr hstop
    go_upto_region 4 with (fail)
    by_cases hiz : i < z
    · skip
      refine wp_seq_atS (opsAt Tryd.f14 4) ((true, 0) :: (true, 1) :: (true, 2) :: (true, 3) :: []) (fun _ => True) (by kernel_rfl) (by kernel_rfl) trivial ?_
      refine k_pure (by kernel_rfl) (d := (some 18)) (by kernel_rfl) (v := .slice ao n c) (fun _ => by kernel_rfl) ?_
      refine k_pure (by kernel_rfl) (d := (some 19)) (by kernel_rfl) (v := .int .i64 ((n : Nat) : Int)) (fun _ => by kernel_rfl) ?_
      refine k_pure (by kernel_rfl) (d := (some 20)) (by kernel_rfl) (v := .int .i64 ((r : Nat) : Int)) (fun _ => run_binOpV (op := .rem) (x := .tmp 19) (y := .const (.int .i64 64)) (t := 3) (t' := 3) (u := .int .i64 ((n : Nat) : Int)) (v := .int .i64 64) (by kernel_rfl) (by kernel_rfl) (by kernel_rfl) rfl (by rw [← HR.out]; exact remI (m := n) (n := 64) rfl rfl (by decide))) ?_
      refine k_pure (by kernel_rfl) (d := (some 21)) (by kernel_rfl) (v := .bool true) (fun _ => run_binOpV (op := .neq) (x := .tmp 20) (y := .const (.int .i64 56)) (t := 3) (t' := 3) (u := .int .i64 ((r : Nat) : Int)) (v := .int .i64 56) (by kernel_rfl) (by kernel_rfl) (by kernel_rfl) rfl (neqT (by intro e; have := HSP.out.1 (by omega); omega))) ?_
      refine k_end ?_
      go_simp
      go_upto_region 5 with (fail)
      refine wp_seq_atS (opsAt Tryd.f14 5) ((true, 0) :: (false, 1) :: (false, 2) :: (true, 3) :: []) (fun _ => True) (by kernel_rfl) (by kernel_rfl) trivial ?_
      refine k_pure (by kernel_rfl) (d := (some 22)) (by kernel_rfl) (v := .slice ao n c) (fun _ => by kernel_rfl) ?_
      obtain ⟨n13, hn13⟩ : ∃ n, wr.heap.size = n := ⟨_, rfl⟩
      have H13 : Mm w [(n1, wv Go.Sha.H0.list)] (wr.alloc (.cells (bv [0]).toArray 5)) := H90.allocM
      have hrd13 : Rd (wr.alloc (.cells (bv [0]).toArray 5)) .u8 (.slice (some ⟨n13, 0, none⟩) 1 1) [0] := by rw [← hn13]; exact rd_new (l := [0])
      have ho13 := Ow.alloc (o := .cells (bv [0]).toArray 5) O90
      refine k_make (by kernel_rfl) (d := (some 23)) (by kernel_rfl) (v := .slice (some ⟨n13, 0, none⟩) 1 1) (w' := (wr.alloc (.cells (bv [0]).toArray 5))) (by rw [← hn13]; kernel_rfl) trivial ?_
      intro w13 hw13 _
      rw [← hw13] at H13 ho13 hrd13
      clear hw13 hn13 H90
      obtain ⟨i14, hi14, hz14, hs14, hy14⟩ := info_parts (P := Tryd.prog) (e := 5) (z := .int .u8 0) (size := 1) (bytes := 1) (by kernel_rfl)
      obtain ⟨ao14, c14, wz14, hr14, ho14, um14⟩ := app_step (P := Tryd.prog) (t := 24) (ty := 24) Tryd.underlying24 hi14 hz14 hs14 hy14 H13 ho13 hrd13 (n := n + 1) (by have := HN.out; simp only [List.length_append, List.length_cons, List.length_nil, List.length_replicate, HL.out]; omega) (by omega) HB1.out (by have := (H13.at 0 rfl).lt; have := HBS.out; omega) HB2.out
      refine k_make (by kernel_rfl) (d := (some 24)) (by kernel_rfl) (v := .slice ao14 (n + 1) c14) (run_appOp (x := .tmp 22) (y := .tmp 23) (by kernel_rfl) (by kernel_rfl) (by kernel_rfl) hr14) trivial ?_
      intro w14 hw14 _
      rw [← hw14] at ho14 um14
      clear hw14 hr14 hi14 hz14 hs14 hy14 H13 ho13 hrd13
      refine k_pure (by kernel_rfl) (d := (some 4)) (by kernel_rfl) (v := .slice ao14 (n + 1) c14) (fun _ => by kernel_rfl) ?_
      refine k_end ?_
      go_simp
      have HO := Lib.hid (show Ow w14 base 5 .u8 (.slice ao14 (l0 + 1 + (i + 1)) c14) (l ++ 128 :: List.replicate (i + 1) 0) from by have h := ho14; rw [List.append_assoc, List.cons_append, ← List.replicate_succ'] at h; have e : l0 + 1 + (i + 1) = n + 1 := (by have := HN.out; omega); rw [e]; exact h)
      have HJ := Lib.hid um14
      clear um14 ho14
      have hmv : n + 1 = l0 + 1 + (i + 1) := by have := HN.out; omega
      have HMV := Lib.hid hmv; clear hmv
      have hml : l0 + 1 + i = n := HN.out
      have HML := Lib.hid hml; clear hml
      go_wp2_with fail
      exact ⟨⟨i + 1, ao14, c14, by omega, by rw [← HMV.out], HO, HJ⟩, by show l0 + 1 + z - (n + 1) < l0 + 1 + z - n; have := HML.out; omega⟩
    · have hiz0 : i = z := by omega
      subst hiz0
      clear hiz
      refine wp_seq_atS (opsAt Tryd.f14 4) ((true, 0) :: (true, 1) :: (true, 2) :: (true, 3) :: []) (fun _ => True) (by kernel_rfl) (by kernel_rfl) trivial ?_
      refine k_pure (by kernel_rfl) (d := (some 18)) (by kernel_rfl) (v := .slice ao n c) (fun _ => by kernel_rfl) ?_
      refine k_pure (by kernel_rfl) (d := (some 19)) (by kernel_rfl) (v := .int .i64 ((n : Nat) : Int)) (fun _ => by kernel_rfl) ?_
      refine k_pure (by kernel_rfl) (d := (some 20)) (by kernel_rfl) (v := .int .i64 ((r : Nat) : Int)) (fun _ => run_binOpV (op := .rem) (x := .tmp 19) (y := .const (.int .i64 64)) (t := 3) (t' := 3) (u := .int .i64 ((n : Nat) : Int)) (v := .int .i64 64) (by kernel_rfl) (by kernel_rfl) (by kernel_rfl) rfl (by rw [← HR.out]; exact remI (m := n) (n := 64) rfl rfl (by decide))) ?_
      refine k_pure (by kernel_rfl) (d := (some 21)) (by kernel_rfl) (v := .bool false) (fun _ => run_binOpV (op := .neq) (x := .tmp 20) (y := .const (.int .i64 56)) (t := 3) (t' := 3) (u := .int .i64 ((r : Nat) : Int)) (v := .int .i64 56) (by kernel_rfl) (by kernel_rfl) (by kernel_rfl) rfl (neqF (by have := HSP.out.2 rfl; omega))) ?_
      refine k_end ?_
      go_simp
      go_upto_region 6 with (fail)
      refine wp_seq_atS (opsAt Tryd.f14 6) ((true, 0) :: (true, 1) :: (true, 2) :: (true, 3) :: (true, 4) :: []) (fun _ => True) (by kernel_rfl) (by kernel_rfl) trivial ?_
      refine k_pure (by kernel_rfl) (d := (some 25)) (by kernel_rfl) (v := .slice ao0 l0 c0) (fun _ => by kernel_rfl) ?_
      refine k_pure (by kernel_rfl) (d := (some 26)) (by kernel_rfl) (v := .int .i64 ((l0 : Nat) : Int)) (fun _ => by kernel_rfl) ?_
      refine k_pure (by kernel_rfl) (d := (some 27)) (by kernel_rfl) (v := .int .u64 ((l0 : Nat) : Int)) (fun _ => run_convOpE (x := .tmp 26) (s := 3) (d := 43) (u := .int .i64 ((l0 : Nat) : Int)) (v := .int .u64 (IntKind.u64.wrap ((l0 : Nat) : Int))) (by kernel_rfl) (by kernel_rfl) (by kernel_rfl) (by rw [wrapU64 (by omega)])) ?_
      refine k_pure (by kernel_rfl) (d := (some 28)) (by kernel_rfl) (v := .int .u64 ((8 * l0 : Nat) : Int)) (fun _ => run_binOpV (op := .mul) (x := .const (.int .u64 8)) (y := .tmp 27) (t := 43) (t' := 43) (u := .int .u64 8) (v := .int .u64 ((l0 : Nat) : Int)) (by kernel_rfl) (by kernel_rfl) (by kernel_rfl) rfl (mulU64 (by omega) (by omega))) ?_
      refine k_pure (by kernel_rfl) (d := (some 5)) (by kernel_rfl) (v := .int .u64 ((8 * l0 : Nat) : Int)) (fun _ => by kernel_rfl) ?_
      refine k_end ?_
      go_simp
      go_upto_region 7 with (fail)
      refine wp_seq_atS (opsAt Tryd.f14 7) ((true, 0) :: []) (fun _ => True) (by kernel_rfl) (by kernel_rfl) trivial ?_
      refine k_pure (by kernel_rfl) (d := (some 29)) (by kernel_rfl) (v := .int .i64 0) (fun _ => by kernel_rfl) ?_
      refine k_end ?_
      go_simp
      have J4 := Lib.hid H90; have O4 := Lib.hid (show Ow wr base 5 .u8 (.slice ao (n + 0) c) (l ++ 128 :: List.replicate i 0 ++ by8 ((8 * l0 : Nat) : Int) 0) from by rw [show by8 ((8 * l0 : Nat) : Int) 0 = [] from rfl, List.append_nil]; exact O90)
      clear H90 O90
      go_wp2_with fail
      go_loopw [4, 29] (fun v4 v29 wr => ∃ (t : Nat) (ao : Option Addr) (c : Nat), t ≤ 8 ∧ v4 = .slice ao (n + t) c ∧ v29 = .int .i64 t ∧ Hid (Ow wr base 5 .u8 (.slice ao (n + t) c) (l ++ 128 :: List.replicate i 0 ++ by8 ((8 * l0 : Nat) : Int) t)) ∧ Hid (Mm w [(n1, wv Go.Sha.H0.list)] wr)) (fun _ v29 _ => 8 - (intOf v29).toNat)
      case atStart => exact ⟨0, ao, c, by decide, rfl, rfl, O4, J4⟩
      case round =>
        clear J4 O4
        obtain ⟨t, ao, c, ht1, rfl, rfl, hO, hJ⟩ := hrel
        have H90 := hJ.out; have O90 := hO.out
        clear hJ hO
        obtain ⟨n2, hn2⟩ : ∃ n2, n + t = n2 := ⟨_, rfl⟩
        rw [hn2] at O90 ⊢
        have hn2b2 : n2 ≤ 5008 := by omega
        have HN2 := Lib.hid hn2; clear hn2
        by_cases ht : t < 8
        · have htI : (t : Int) < 8 := by omega
          go_upto_region 9 with (fail)
          refine wp_seq_atS (opsAt Tryd.f14 9) ((true, 0) :: (true, 1) :: []) (fun _ => True) (by kernel_rfl) (by kernel_rfl) trivial ?_
          refine k_pure (by kernel_rfl) (d := (some 31)) (by kernel_rfl) (v := .int .i64 ((t : Nat) : Int)) (fun _ => by kernel_rfl) ?_
          refine k_pure (by kernel_rfl) (d := (some 6)) (by kernel_rfl) (v := .int .i64 ((t : Nat) : Int)) (fun _ => by kernel_rfl) ?_
          refine k_end ?_
          go_simp
          go_upto_region 10 with (fail)
          refine wp_seq_atS (opsAt Tryd.f14 10) ((true, 0) :: (true, 1) :: (true, 2) :: (true, 3) :: (true, 4) :: (true, 5) :: (true, 6) :: (false, 7) :: (false, 8) :: (true, 9) :: []) (fun _ => True) (by kernel_rfl) (by kernel_rfl) trivial ?_
          refine k_pure (by kernel_rfl) (d := (some 32)) (by kernel_rfl) (v := .slice ao n2 c) (fun _ => by kernel_rfl) ?_
          refine k_pure (by kernel_rfl) (d := (some 33)) (by kernel_rfl) (v := .int .u64 ((8 * l0 : Nat) : Int)) (fun _ => by kernel_rfl) ?_
          refine k_pure (by kernel_rfl) (d := (some 34)) (by kernel_rfl) (v := .int .i64 ((t : Nat) : Int)) (fun _ => by kernel_rfl) ?_
          refine k_pure (by kernel_rfl) (d := (some 35)) (by kernel_rfl) (v := .int .i64 ((8 * t : Nat) : Int)) (fun _ => run_binOpV (op := .mul) (x := .const (.int .i64 8)) (y := .tmp 34) (t := 3) (t' := 3) (u := .int .i64 8) (v := .int .i64 ((t : Nat) : Int)) (by kernel_rfl) (by kernel_rfl) (by kernel_rfl) rfl (mulI (by omega) (by omega))) ?_
          refine k_pure (by kernel_rfl) (d := (some 36)) (by kernel_rfl) (v := .int .i64 ((56 - 8 * t : Nat) : Int)) (fun _ => run_binOpV (op := .sub) (x := .const (.int .i64 56)) (y := .tmp 35) (t := 3) (t' := 3) (u := .int .i64 56) (v := .int .i64 ((8 * t : Nat) : Int)) (by kernel_rfl) (by kernel_rfl) (by kernel_rfl) rfl (subI (by omega) (by omega))) ?_
          refine k_pure (by kernel_rfl) (d := (some 37)) (by kernel_rfl) (v := .int .u64 (((8 * l0 : Nat) : Int) / 2 ^ (56 - 8 * t))) (fun _ => run_binOpV (op := .shr) (x := .tmp 33) (y := .tmp 36) (t := 43) (t' := 3) (u := .int .u64 ((8 * l0 : Nat) : Int)) (v := .int .i64 ((56 - 8 * t : Nat) : Int)) (by kernel_rfl) (by kernel_rfl) (by kernel_rfl) rfl (shrU (n := 56 - 8 * t) rfl (show 56 - 8 * t ≤ 64 by omega))) ?_
          refine k_pure (by kernel_rfl) (d := (some 38)) (by kernel_rfl) (v := .int .u8 (b8 (((8 * l0 : Nat) : Int) / 2 ^ (56 - 8 * t)))) (fun _ => run_convOpE (x := .tmp 37) (s := 43) (d := 5) (u := .int .u64 (((8 * l0 : Nat) : Int) / 2 ^ (56 - 8 * t))) (v := .int .u8 (IntKind.u8.wrap (((8 * l0 : Nat) : Int) / 2 ^ (56 - 8 * t)))) (by kernel_rfl) (by kernel_rfl) (by kernel_rfl) rfl) ?_
          obtain ⟨n25, hn25⟩ : ∃ n, wr.heap.size = n := ⟨_, rfl⟩
          have H25 : Mm w [(n1, wv Go.Sha.H0.list)] (wr.alloc (.cells (bv [b8 (((8 * l0 : Nat) : Int) / 2 ^ (56 - 8 * t))]).toArray 5)) := H90.allocM
          have hrd25 : Rd (wr.alloc (.cells (bv [b8 (((8 * l0 : Nat) : Int) / 2 ^ (56 - 8 * t))]).toArray 5)) .u8 (.slice (some ⟨n25, 0, none⟩) 1 1) [b8 (((8 * l0 : Nat) : Int) / 2 ^ (56 - 8 * t))] := by rw [← hn25]; exact rd_new (l := [b8 (((8 * l0 : Nat) : Int) / 2 ^ (56 - 8 * t))])
          have ho25 := Ow.alloc (o := .cells (bv [b8 (((8 * l0 : Nat) : Int) / 2 ^ (56 - 8 * t))]).toArray 5) O90
          refine k_make (by kernel_rfl) (d := (some 39)) (by kernel_rfl) (v := .slice (some ⟨n25, 0, none⟩) 1 1) (w' := (wr.alloc (.cells (bv [b8 (((8 * l0 : Nat) : Int) / 2 ^ (56 - 8 * t))]).toArray 5))) (by rw [← hn25]; kernel_rfl) trivial ?_
          intro w25 hw25 _
          rw [← hw25] at H25 ho25 hrd25
          clear hw25 hn25 H90
          obtain ⟨i26, hi26, hz26, hs26, hy26⟩ := info_parts (P := Tryd.prog) (e := 5) (z := .int .u8 0) (size := 1) (bytes := 1) (by kernel_rfl)
          obtain ⟨ao26, c26, wz26, hr26, ho26, um26⟩ := app_step (P := Tryd.prog) (t := 24) (ty := 24) Tryd.underlying24 hi26 hz26 hs26 hy26 H25 ho25 hrd25 (n := n2 + 1) (by have := HN2.out; have := HN.out; simp only [List.length_append, List.length_cons, List.length_nil, List.length_replicate, by8_length, HL.out]; omega) (by omega) HB1.out (by have := (H25.at 0 rfl).lt; have := HBS.out; omega) HB2.out
          refine k_make (by kernel_rfl) (d := (some 40)) (by kernel_rfl) (v := .slice ao26 (n2 + 1) c26) (run_appOp (x := .tmp 32) (y := .tmp 39) (by kernel_rfl) (by kernel_rfl) (by kernel_rfl) hr26) trivial ?_
          intro w26 hw26 _
          rw [← hw26] at ho26 um26
          clear hw26 hr26 hi26 hz26 hs26 hy26 H25 ho25 hrd25
          refine k_pure (by kernel_rfl) (d := (some 4)) (by kernel_rfl) (v := .slice ao26 (n2 + 1) c26) (fun _ => by kernel_rfl) ?_
          refine k_end ?_
          go_simp
          go_upto_region 11 with (fail)
          refine wp_seq_atS (opsAt Tryd.f14 11) ((true, 0) :: (true, 1) :: []) (fun _ => True) (by kernel_rfl) (by kernel_rfl) trivial ?_
          refine k_pure (by kernel_rfl) (d := (some 41)) (by kernel_rfl) (v := .int .i64 (((t + 1) : Nat) : Int)) (fun _ => run_binOpV (op := .add) (x := (.tmp 29)) (y := (.const (.int .i64 1))) (t := 3) (t' := 3) (u := .int .i64 ((t : Nat) : Int)) (v := .int .i64 1) (by kernel_rfl) (by kernel_rfl) (by kernel_rfl) rfl (addI (by omega) (by omega))) ?_
          refine k_pure (by kernel_rfl) (d := (some 29)) (by kernel_rfl) (v := .int .i64 (((t + 1) : Nat) : Int)) (fun _ => by kernel_rfl) ?_
          refine k_end ?_
          go_simp
          have HO := Lib.hid (show Ow w26 base 5 .u8 (.slice ao26 (n + (t + 1)) c26) (l ++ 128 :: List.replicate i 0 ++ by8 ((8 * l0 : Nat) : Int) (t + 1)) from by have h := ho26; rw [List.append_assoc, ← by8_succ] at h; have e : n + (t + 1) = n2 + 1 := (by have := HN2.out; omega); rw [e]; exact h)
          have HJ := Lib.hid um26
          clear um26 ho26
          have HMV := Lib.hid (show n2 + 1 = n + (t + 1) by have := HN2.out; omega)
          go_wp2_with fail
          exact ⟨⟨t + 1, ao26, c26, by omega, by rw [← HMV.out], by go_num, HO, HJ⟩, by simp [intOf]; omega⟩
        · have htI : ¬ (t : Int) < 8 := by omega
          have ht8 : t = 8 := by omega
          subst ht8
          go_upto_region 12 with (fail)
          refine wp_seq_atS (opsAt Tryd.f14 12) ((true, 0) :: []) (fun _ => True) (by kernel_rfl) (by kernel_rfl) trivial ?_
          refine k_pure (by kernel_rfl) (d := (some 7)) (by kernel_rfl) (v := .int .i64 0) (fun _ => by kernel_rfl) ?_
          refine k_end ?_
          go_simp
          obtain ⟨D, hD⟩ : ∃ D, l ++ pad l0 = D := ⟨_, rfl⟩
          have OD : Ow wr base 5 .u8 (.slice ao n2 c) D := by have h := O90; rw [by8_bits, List.append_assoc, List.cons_append] at h; have hz2 := HZ.out; rw [← hD]; unfold pad; rw [hz2]; exact h
          have hDl : D.length = n2 := by have := HN2.out; have := HN.out; have h1 := pad_length l0; rw [HZ.out] at h1; rw [← hD, List.length_append, h1, HL.out]; omega
          have hnJ : n2 = 64 * J := by have := HN2.out; have := HN.out; have := HQ.out; omega
          have HDD := Lib.hid hD; have HDL := Lib.hid hDl; have HNJ := Lib.hid hnJ; have HOD := Lib.hid OD
          have HW := Lib.hid H90
          have HB0 := Lib.hid (show ∀ x, (Value.slice ao n2 c).ownBlock = some x → x ≠ n1 from fun x hx => by have := (HOD.out.lt hx).1; have := HBS.out; omega)
          clear O90 hD OD hDl hnJ H90
          obtain ⟨w1, hw1⟩ : ∃ w1, w1 = wr := ⟨_, rfl⟩
          subst hw1
          have J7 := Lib.hid (Mm.one (HW.out.at 0 rfl))
          go_wp2_with fail
          go_loopw [7] (fun v7 wr => ∃ j q : Nat, j ≤ J ∧ v7 = .int .i64 (q : Int) ∧ Hid (q = 64 * j) ∧ Hid (Mm w1 [(n1, wv (cs Go.Sha.H0 D j).list)] wr)) (fun v7 _ => n2 - (intOf v7).toNat)
          case atStart => exact ⟨0, 0, Nat.zero_le _, rfl, Lib.hid rfl, J7⟩
          case round =>
            clear J7
            obtain ⟨j, q, hj1, rfl, hq, hJ⟩ := hrel
            have H90 := hJ.out
            clear hJ
            obtain ⟨X, hX⟩ : ∃ X, cs Go.Sha.H0 D j = X := ⟨_, rfl⟩
            rw [hX] at H90
            have HX := Lib.hid hX; clear hX
            have hn2b : n2 ≤ 100000 := by have := HN2.out; have := HN.out; omega
            by_cases hjJ : j < J
            · have hqI : (q : Int) < (n2 : Int) := by have := hq.out; have := HNJ.out; omega
              have hq64 : q + 64 ≤ n2 := by have := hq.out; have := HNJ.out; omega
              go_upto_region 15 with (fail)
              obtain ⟨v5, hr5, hd5, hb5⟩ := HOD.out.rd.part (P := Tryd.prog) (t := 24) Tryd.underlying24 (by kernel_rfl) (lo := q) (hi := q + 64) (by omega) (by rw [HDL.out]; exact hq64) (a := some (.int .i64 ((q : Nat) : Int))) (b := some (.int .i64 ((q + 64 : Nat) : Int))) (.inl rfl) (.inl rfl)
              rw [show q + 64 - q = 64 by omega, show (D.drop q).take 64 = blk D j from by unfold blk; rw [hq.out]] at hd5
              have HR5 := Lib.hid hr5; have HD5 := Lib.hid hd5; have HV5 := Lib.hid hb5; clear hr5 hd5 hb5
              have HBL := Lib.hid (show (blk D j).length = 64 by unfold blk; rw [List.length_take, List.length_drop, HDL.out, ← hq.out]; omega)
              refine wp_region_atS (opsAt Tryd.f14 15) ((true, 1) :: (true, 2) :: (true, 3) :: (true, 4) :: (true, 5) :: (false, 0) :: (false, 6) :: (false, 7) :: []) (fun W => Mm w1 [(n1, wv X.list)] W ∨ Mm w1 [(n1, wv (comp X (blk D j)).list)] W) (by kernel_rfl) rfl (by kernel_rfl) (fun _ _ d _ _ h => by cases d <;> exact h) (by kernel_rfl) (by kernel_rfl) (Or.inl H90.drew) ?_
              have H31d := H90.drew
              clear H90
              refine k_pure (by kernel_rfl) (d := (some 49)) (by kernel_rfl) (v := .slice ao n2 c) (fun _ => by kernel_rfl) ?_
              refine k_pure (by kernel_rfl) (d := (some 50)) (by kernel_rfl) (v := .int .i64 ((q : Nat) : Int)) (fun _ => by kernel_rfl) ?_
              refine k_pure (by kernel_rfl) (d := (some 51)) (by kernel_rfl) (v := .int .i64 ((q : Nat) : Int)) (fun _ => by kernel_rfl) ?_
              refine k_pure (by kernel_rfl) (d := (some 52)) (by kernel_rfl) (v := .int .i64 ((q + 64 : Nat) : Int)) (fun _ => run_binOpV (op := .add) (x := .tmp 51) (y := .const (.int .i64 64)) (t := 3) (t' := 3) (u := .int .i64 ((q : Nat) : Int)) (v := .int .i64 64) (by kernel_rfl) (by kernel_rfl) (by kernel_rfl) rfl (addI (by omega) (by omega))) ?_
              refine k_pure (by kernel_rfl) (d := (some 53)) (by kernel_rfl) (v := v5) (fun _ => run_slOp (x := .tmp 49) (lo := (some (.tmp 50))) (hi := (some (.tmp 52))) (mx := none) (v := .slice ao n2 c) (a := (some (.int .i64 ((q : Nat) : Int)))) (b := (some (.int .i64 ((q + 64 : Nat) : Int)))) (c := none) (by kernel_rfl) (by kernel_rfl) (by kernel_rfl) (by kernel_rfl) (by kernel_rfl) (HR5.out _)) ?_
              obtain ⟨T35, hT35⟩ := H31d.at 0 rfl
              refine k_make (by kernel_rfl) (d := (some 48)) (by kernel_rfl) (v := .agg (wv X.list).toArray) (run_loadRow (ty := 41) (x := (.tmp 3)) (b := n1) (by kernel_rfl) (by kernel_rfl) hT35 Tryd.underlying41 rfl (by kernel_rfl)) (Or.inl H31d) ?_
              intro w35 hw35 _
              replace hw35 := hw35.symm
              subst hw35
              clear hT35
              refine k_callR (by kernel_rfl) (d := (some 54)) (by kernel_rfl) (f := 20) (args := #[.agg (wv X.list).toArray, v5]) (fun _ => by kernel_rfl) (shaBlock_c (s := X) (B := blk D j) (HD5.out.mm H31d (bsC (fun e => HB0.out _ (HV5.out _ e) rfl) bs0)) HBL.out) (fun _ w36 ⟨he36, hb36⟩ => ⟨_, he36, (Or.inl (H31d.go hb36)), ?_⟩)
              have H36 := H31d.go hb36
              clear H31d hb36 he36
              obtain ⟨T37, hT37⟩ := H36.at 0 rfl
              have H37 : Mm w1 [(n1, wv (comp X (blk D j)).list)] (w36.setRow n1 (wv (comp X (blk D j)).list).toArray) := H36.row 0 rfl (wv (comp X (blk D j)).list)
              refine k_put (by kernel_rfl) (d := none) (by kernel_rfl) (ty := 41) (x := (.tmp 3)) (y := (.tmp 54)) (by kernel_rfl) (g := n1) (cells := (wv (comp X (blk D j)).list).toArray) (by kernel_rfl) (by kernel_rfl) hT37 (by kernel_rfl) (by kernel_rfl) (wv_all _) (Or.inr H37) ?_
              intro w37 hw37 _
              rw [← hw37] at H37
              clear hw37 hT37 H36
              refine k_end ?_
              go_simp
              go_upto_region 14 with (fail)
              refine wp_seq_atS (opsAt Tryd.f14 14) ((true, 0) :: (true, 1) :: (true, 2) :: []) (fun _ => True) (by kernel_rfl) (by kernel_rfl) trivial ?_
              refine k_pure (by kernel_rfl) (d := (some 46)) (by kernel_rfl) (v := .int .i64 ((q : Nat) : Int)) (fun _ => by kernel_rfl) ?_
              refine k_pure (by kernel_rfl) (d := (some 47)) (by kernel_rfl) (v := .int .i64 (((q + 64) : Nat) : Int)) (fun _ => run_binOpV (op := .add) (x := (.tmp 46)) (y := (.const (.int .i64 64))) (t := 3) (t' := 3) (u := .int .i64 ((q : Nat) : Int)) (v := .int .i64 64) (by kernel_rfl) (by kernel_rfl) (by kernel_rfl) rfl (addI (by omega) (by omega))) ?_
              refine k_pure (by kernel_rfl) (d := (some 7)) (by kernel_rfl) (v := .int .i64 (((q + 64) : Nat) : Int)) (fun _ => by kernel_rfl) ?_
              refine k_end ?_
              go_simp
              have HJ := Lib.hid (show Mm w1 [(n1, wv (cs Go.Sha.H0 D (j + 1)).list)] w37 from by rw [cs, HX.out]; exact H37)
              clear H37
              have HQN := Lib.hid (show q + 64 = 64 * (j + 1) by have := hq.out; omega)
              go_wp2_with fail
              exact ⟨⟨j + 1, q + 64, by omega, by go_num, HQN, HJ⟩, by simp [intOf]; omega⟩
            · have hjJ2 : j = J := by omega
              subst hjJ2
              have hqI : ¬ (q : Int) < (n2 : Int) := by have := hq.out; have := HNJ.out; omega
              have HWW := HW.out.upd (i := 0) rfl H90
              clear H90
              have hb3 : base ≤ wr.heap.size := by have := (HWW.at 0 rfl).lt; have := HBS.out; omega
              go_upto_region 16 with (fail)
              have HB3 := Lib.hid (show ∀ p ∈ [(n1, wv X.list)], p.1 < base from bsC (by show n1 < base; have := HBS.out; omega) bs0)
              refine wp_seq_atS (opsAt Tryd.f14 16) ((false, 0) :: (true, 1) :: []) (fun _ => True) (by kernel_rfl) (by kernel_rfl) trivial ?_
              obtain ⟨n41, hn41⟩ : ∃ n, wr.heap.size = n := ⟨_, rfl⟩
              have H41 : Mm w [(n1, wv X.list)] (wr.alloc (.cells (bv []).toArray 5)) := HWW.allocM
              have ho41 : Ow (wr.alloc (.cells (bv []).toArray 5)) base 5 .u8 (.slice (some ⟨n41, 0, none⟩) 0 0) [] := by rw [← hn41]; exact Ow.empty hb3
              refine k_make (by kernel_rfl) (d := (some 55)) (by kernel_rfl) (v := .slice (some ⟨n41, 0, none⟩) 0 0) (w' := (wr.alloc (.cells (bv []).toArray 5))) (by rw [← hn41]; kernel_rfl) trivial ?_
              intro w41 hw41 _
              rw [← hw41] at H41 ho41
              clear hw41 hn41 HWW
              refine k_pure (by kernel_rfl) (d := (some 8)) (by kernel_rfl) (v := .slice (some ⟨n41, 0, none⟩) 0 0) (fun _ => by kernel_rfl) ?_
              refine k_end ?_
              go_simp
              go_upto_region 17 with (fail)
              clear hb3
              refine wp_seq_atS (opsAt Tryd.f14 17) ((false, 0) :: (true, 1) :: []) (fun _ => True) (by kernel_rfl) (by kernel_rfl) trivial ?_
              obtain ⟨T43, hT43⟩ := H41.at 0 rfl
              refine k_make (by kernel_rfl) (d := (some 56)) (by kernel_rfl) (v := .agg (wv X.list).toArray) (run_loadRow (ty := 41) (x := (.tmp 3)) (b := n1) (by kernel_rfl) (by kernel_rfl) hT43 Tryd.underlying41 rfl (by kernel_rfl)) trivial ?_
              intro w43 hw43 _
              replace hw43 := hw43.symm
              subst hw43
              clear hT43
              refine k_pure (by kernel_rfl) (d := (some 57)) (by kernel_rfl) (v := .int .i64 0) (fun _ => by kernel_rfl) ?_
              refine k_end ?_
              go_simp
              have J4 := Lib.hid H41; have O4 := Lib.hid ho41
              clear H41 ho41
              go_wp2_with fail
              go_loopw [8, 57] (fun v8 v57 wr => ∃ (i m : Nat) (ao : Option Addr) (c : Nat), i ≤ 8 ∧ v8 = .slice ao m c ∧ v57 = .int .i64 i ∧ Hid (m = 4 * i) ∧ Hid (Ow wr base 5 .u8 (.slice ao m c) ((out32 X).take m)) ∧ Hid (Mm w [(n1, wv X.list)] wr)) (fun _ v57 _ => 8 - (intOf v57).toNat)
              case atStart => exact ⟨0, 0, _, _, by decide, rfl, rfl, Lib.hid rfl, O4, J4⟩
              case round =>
                clear J4 O4
                obtain ⟨k, m, ao4, c4, hk1, rfl, rfl, hm, hO, hJ⟩ := hrel
                have H90 := hJ.out; have O90 := hO.out
                clear hJ hO
                by_cases hk : k < 8
                · have hkI : (k : Int) < 8 := by omega
                  obtain ⟨x, hx⟩ : ∃ x, X.list.getD k 0 = x := ⟨_, rfl⟩
                  have HXX := Lib.hid hx; clear hx
                  have hm32 : m ≤ 32 := by have := hm.out; omega
                  go_upto_region 19 with (fail)
                  refine wp_seq_atS (opsAt Tryd.f14 19) ((true, 0) :: (true, 1) :: []) (fun _ => True) (by kernel_rfl) (by kernel_rfl) trivial ?_
                  refine k_pure (by kernel_rfl) (d := (some 59)) (by kernel_rfl) (v := .int .u32 x) (fun _ => (by rw [← HXX.out]; exact run_indexAg (x := .tmp 56) (y := .tmp 57) (X := X) (i := k) (by kernel_rfl) (by kernel_rfl) (by kernel_rfl) Tryd.underlying41 (by kernel_rfl) Tryd.underlying40 rfl hk)) ?_
                  refine k_pure (by kernel_rfl) (d := (some 10)) (by kernel_rfl) (v := .int .u32 x) (fun _ => by kernel_rfl) ?_
                  refine k_end ?_
                  go_simp
                  go_upto_region 20 with (fail)
                  refine wp_seq_atS (opsAt Tryd.f14 20) ((true, 0) :: (true, 1) :: (true, 2) :: (true, 3) :: (true, 4) :: (true, 5) :: (true, 6) :: (true, 7) :: (true, 8) :: (true, 9) :: (true, 10) :: (true, 11) :: (false, 12) :: (false, 13) :: (true, 14) :: []) (fun _ => True) (by kernel_rfl) (by kernel_rfl) trivial ?_
                  refine k_pure (by kernel_rfl) (d := (some 60)) (by kernel_rfl) (v := .slice ao4 m c4) (fun _ => by kernel_rfl) ?_
                  refine k_pure (by kernel_rfl) (d := (some 61)) (by kernel_rfl) (v := .int .u32 x) (fun _ => by kernel_rfl) ?_
                  refine k_pure (by kernel_rfl) (d := (some 62)) (by kernel_rfl) (v := .int .u32 (wR x 24)) (fun _ => run_binOpV (op := .shr) (x := (.tmp 61)) (y := (.const (.int .u64 24))) (t := 40) (t' := 52) (u := .int .u32 x) (v := .int .u64 24) (by kernel_rfl) (by kernel_rfl) (by kernel_rfl) rfl (shrU (n := 24) (by first | rfl | omega) (by first | decide | (show _ ≤ 32; omega)))) ?_
                  refine k_pure (by kernel_rfl) (d := (some 63)) (by kernel_rfl) (v := .int .u8 (b8 (wR x 24))) (fun _ => run_convOpE (x := (.tmp 62)) (s := 40) (d := 5) (u := .int .u32 (wR x 24)) (v := .int .u8 (IntKind.u8.wrap (wR x 24))) (by kernel_rfl) (by kernel_rfl) (by kernel_rfl) rfl) ?_
                  refine k_pure (by kernel_rfl) (d := (some 64)) (by kernel_rfl) (v := .int .u32 x) (fun _ => by kernel_rfl) ?_
                  refine k_pure (by kernel_rfl) (d := (some 65)) (by kernel_rfl) (v := .int .u32 (wR x 16)) (fun _ => run_binOpV (op := .shr) (x := (.tmp 64)) (y := (.const (.int .u64 16))) (t := 40) (t' := 52) (u := .int .u32 x) (v := .int .u64 16) (by kernel_rfl) (by kernel_rfl) (by kernel_rfl) rfl (shrU (n := 16) (by first | rfl | omega) (by first | decide | (show _ ≤ 32; omega)))) ?_
                  refine k_pure (by kernel_rfl) (d := (some 66)) (by kernel_rfl) (v := .int .u8 (b8 (wR x 16))) (fun _ => run_convOpE (x := (.tmp 65)) (s := 40) (d := 5) (u := .int .u32 (wR x 16)) (v := .int .u8 (IntKind.u8.wrap (wR x 16))) (by kernel_rfl) (by kernel_rfl) (by kernel_rfl) rfl) ?_
                  refine k_pure (by kernel_rfl) (d := (some 67)) (by kernel_rfl) (v := .int .u32 x) (fun _ => by kernel_rfl) ?_
                  refine k_pure (by kernel_rfl) (d := (some 68)) (by kernel_rfl) (v := .int .u32 (wR x 8)) (fun _ => run_binOpV (op := .shr) (x := (.tmp 67)) (y := (.const (.int .u64 8))) (t := 40) (t' := 52) (u := .int .u32 x) (v := .int .u64 8) (by kernel_rfl) (by kernel_rfl) (by kernel_rfl) rfl (shrU (n := 8) (by first | rfl | omega) (by first | decide | (show _ ≤ 32; omega)))) ?_
                  refine k_pure (by kernel_rfl) (d := (some 69)) (by kernel_rfl) (v := .int .u8 (b8 (wR x 8))) (fun _ => run_convOpE (x := (.tmp 68)) (s := 40) (d := 5) (u := .int .u32 (wR x 8)) (v := .int .u8 (IntKind.u8.wrap (wR x 8))) (by kernel_rfl) (by kernel_rfl) (by kernel_rfl) rfl) ?_
                  refine k_pure (by kernel_rfl) (d := (some 70)) (by kernel_rfl) (v := .int .u32 x) (fun _ => by kernel_rfl) ?_
                  refine k_pure (by kernel_rfl) (d := (some 71)) (by kernel_rfl) (v := .int .u8 (b8 x)) (fun _ => run_convOpE (x := (.tmp 70)) (s := 40) (d := 5) (u := .int .u32 x) (v := .int .u8 (IntKind.u8.wrap x)) (by kernel_rfl) (by kernel_rfl) (by kernel_rfl) rfl) ?_
                  obtain ⟨n58, hn58⟩ : ∃ n, wr.heap.size = n := ⟨_, rfl⟩
                  have H58 : Mm w [(n1, wv X.list)] (wr.alloc (.cells (bv [b8 (wR x 24), b8 (wR x 16), b8 (wR x 8), b8 x]).toArray 5)) := H90.allocM
                  have hrd58 : Rd (wr.alloc (.cells (bv [b8 (wR x 24), b8 (wR x 16), b8 (wR x 8), b8 x]).toArray 5)) .u8 (.slice (some ⟨n58, 0, none⟩) 4 4) [b8 (wR x 24), b8 (wR x 16), b8 (wR x 8), b8 x] := by rw [← hn58]; exact rd_new (l := [b8 (wR x 24), b8 (wR x 16), b8 (wR x 8), b8 x])
                  have ho58 := Ow.alloc (o := .cells (bv [b8 (wR x 24), b8 (wR x 16), b8 (wR x 8), b8 x]).toArray 5) O90
                  refine k_make (by kernel_rfl) (d := (some 72)) (by kernel_rfl) (v := .slice (some ⟨n58, 0, none⟩) 4 4) (w' := (wr.alloc (.cells (bv [b8 (wR x 24), b8 (wR x 16), b8 (wR x 8), b8 x]).toArray 5))) (by rw [← hn58]; kernel_rfl) trivial ?_
                  intro w58 hw58 _
                  rw [← hw58] at H58 ho58 hrd58
                  clear hw58 hn58 H90
                  obtain ⟨i59, hi59, hz59, hs59, hy59⟩ := info_parts (P := Tryd.prog) (e := 5) (z := .int .u8 0) (size := 1) (bytes := 1) (by kernel_rfl)
                  obtain ⟨ao59, c59, wz59, hr59, ho59, um59⟩ := app_step (P := Tryd.prog) (t := 24) (ty := 24) Tryd.underlying24 hi59 hz59 hs59 hy59 H58 ho58 hrd58 (n := m + 4) (by have := hm.out; rw [List.length_append, List.length_take, show (out32 X).length = 32 from rfl]; simp only [List.length_cons, List.length_nil]; omega) (by omega) HB1.out (by have := (H58.at 0 rfl).lt; have := HBS.out; omega) HB3.out
                  refine k_make (by kernel_rfl) (d := (some 73)) (by kernel_rfl) (v := .slice ao59 (m + 4) c59) (run_appOp (x := .tmp 60) (y := .tmp 72) (by kernel_rfl) (by kernel_rfl) (by kernel_rfl) hr59) trivial ?_
                  intro w59 hw59 _
                  rw [← hw59] at ho59 um59
                  clear hw59 hr59 hi59 hz59 hs59 hy59 H58 ho58 hrd58
                  refine k_pure (by kernel_rfl) (d := (some 8)) (by kernel_rfl) (v := .slice ao59 (m + 4) c59) (fun _ => by kernel_rfl) ?_
                  refine k_end ?_
                  go_simp
                  go_upto_region 21 with (fail)
                  refine wp_seq_atS (opsAt Tryd.f14 21) ((true, 0) :: (true, 1) :: []) (fun _ => True) (by kernel_rfl) (by kernel_rfl) trivial ?_
                  refine k_pure (by kernel_rfl) (d := (some 74)) (by kernel_rfl) (v := .int .i64 (((k + 1) : Nat) : Int)) (fun _ => run_binOpV (op := .add) (x := (.tmp 57)) (y := (.const (.int .i64 1))) (t := 3) (t' := 3) (u := .int .i64 ((k : Nat) : Int)) (v := .int .i64 1) (by kernel_rfl) (by kernel_rfl) (by kernel_rfl) rfl (addI (by omega) (by omega))) ?_
                  refine k_pure (by kernel_rfl) (d := (some 57)) (by kernel_rfl) (v := .int .i64 (((k + 1) : Nat) : Int)) (fun _ => by kernel_rfl) ?_
                  refine k_end ?_
                  go_simp
                  have HO := Lib.hid (show Ow w59 base 5 .u8 (.slice ao59 (m + 4) c59) ((out32 X).take (m + 4)) from by have h := ho59; have e := out_take (X := X) hk; have h1 := hm.out; rw [show 4 * (k + 1) = m + 4 by omega, ← h1, HXX.out] at e; rw [e]; exact h)
                  have HJ := Lib.hid um59
                  clear um59 ho59
                  have HMN := Lib.hid (show m + 4 = 4 * (k + 1) by have := hm.out; omega)
                  go_wp2_with fail
                  exact ⟨⟨k + 1, m + 4, ao59, c59, by omega, rfl, by go_num, HMN, HO, HJ⟩, by simp [intOf]; omega⟩
                · have hkI : ¬ (k : Int) < 8 := by omega
                  have hk8 : k = 8 := by omega
                  subst hk8
                  have HF := Lib.hid (H90.below (bsC (show w.heap.size ≤ n1 by assumption) bs0))
                  have HS := Lib.hid (show Rd wr .u8 (.slice ao4 m c4) (sha l) from by have h := O90.rd; have h1 := hm.out; rw [List.take_of_length_le (by rw [h1]; exact Nat.le_refl _)] at h; unfold sha; rw [HL.out, HZ.out, HJJ.out, HDD.out, HX.out]; exact h)
                  clear H90 O90
                  go_wp2_with fail
                  exact bodyPost_ret_by (by kernel_rfl) (by kernel_rfl) ⟨_, rfl, HS.out, HF.out⟩
end Go.Proofs.YtkmofjefjbhbhaaDoor
