/- A digest's sum: it is filled up, and its words are written out. -/
import Derived.Test.YtkmofjefjbhbhaaDoorWr
namespace Go.Sl
open Go.RowKit Go.FourQ Go.Sha
section
variable {P : Program} {w wr : World} {t : TypeId} {k : IntKind}
theorem bv_all (l : List Int) : ((bv l).toArray).all (·.oneCell') = true := by
  rw [← Array.all_toList]
  simp [bv, Value.oneCell']
theorem dgL_all {h : St} {xs : List Int} {nx len : Nat} : ((dgL h xs nx len).toArray).all (·.oneCell') = true := by
  rw [← Array.all_toList]
  simp [dgL, dgR, bv, wv, Value.oneCell']
theorem Bl.out {c : Nat} {M : List Value} {s : List (Nat × List Value)} (h : Bl w c M) (g : Mm w s wr) (hs : ∀ p ∈ s, p.1 ≠ c) : Bl wr c M := h.of_heap (g.other c h.lt hs)
/-- A part of a slice whose place is known. -/
theorem run_slSl {e : TypeId} {b off off' n c lo m c' : Nat} (ht : P.underlying t = some (.slice e)) (hs : (P.info? e).map (·.size) = some 1) (hlo : lo ≤ n) (hlt : lo < c) (he : off + lo = off') (hm : n - lo = m) (hc : c - lo = c') :
    (Instr.sliceAt t (.slice (some ⟨b, off, none⟩) n c) (some (.int k (lo : Int))) none none).run P w = .ok (.slice (some ⟨b, off', none⟩) m c') w := by
  subst he hm hc
  have hsz : (sizeOf e).run P w = .ok 1 w := by
    cases hq : P.info? e with
    | none => simp [hq] at hs
    | some j => simp [hq] at hs; simp [sizeOf, typeInfo, hq, hs]
  have hb' : (Instr.sliceBounds true n c (some (.int k (lo : Int))) none none).run P w = .ok (lo, n, c) w := by
    unfold Instr.sliceBounds
    simp [run_boundK (P := P) (w := w) hlo, Option.isSome]
  have e2 : ¬ c = lo := by omega
  unfold Instr.sliceAt Instr.slice
  simp [run_underlying ht, hb', hsz, e2, addr_add]
theorem zeros_at {j : Nat} (h0 : 0 < j) (h : j < 72) : (bv (128 :: List.replicate 71 0))[j]? = some (.int .u8 0) := by
  obtain ⟨i, rfl⟩ : ∃ i, j = i + 1 := ⟨j - 1, by omega⟩
  refine bv_get ?_
  rw [List.getElem?_cons_succ, List.getElem?_replicate, if_pos (by omega)]
/-- What a digest is filled up with. -/
theorem pad_cells {n t : Nat} (ht : zs n + 1 = t) : put8 (bv (128 :: List.replicate 71 0)) t (((8 * n : Nat) : Int)) 8 = bv (pad n) ++ (bv (128 :: List.replicate 71 0)).drop (t + 8) := by
  subst ht
  have hz : zs n ≤ 63 := by unfold zs; split <;> omega
  rw [put8_is (by rw [bv_length]; simp only [List.length_cons, List.length_replicate]; omega), ← bv_take, by8_bits]
  have e : (128 :: List.replicate 71 (0 : Int)).take (zs n + 1) = 128 :: List.replicate (zs n) 0 := by rw [List.take_succ_cons, List.take_replicate]; congr 2; omega
  rw [e, ← bv_append]
  rfl
theorem pad_rd {b n t : Nat} (hb : Bl w b (put8 (bv (128 :: List.replicate 71 0)) t (((8 * n : Nat) : Int)) 8)) (ht : zs n + 1 = t) : Rd w .u8 (.slice (some ⟨b, 0, none⟩) (t + 8) 72) (pad n) := by
  have hz : zs n ≤ 63 := by unfold zs; split <;> omega
  refine hb.rd (by rw [pad_length]; omega) (by omega) fun j x hj => ?_
  have hj' := (List.getElem?_eq_some_iff.1 hj).1
  rw [pad_cells ht, Nat.zero_add, List.getElem?_append_left (by rw [bv_length]; exact hj')]
  exact bv_get hj
theorem pad_len (n : Nat) : (pad n).length ≤ 4200 := by rw [pad_length]; unfold zs; split <;> omega
end
end Go.Sl
namespace Go.Proofs.YtkmofjefjbhbhaaDoor
open Go.RowKit Go.FourQ Go.Sha Go.Sl

set_option maxRecDepth 100000 in
set_option maxHeartbeats 1000000 in
theorem checkSum_c {w : World} {b nx : Nat} {sg : St} {s x : List Int} (hD : Bl w b (dgL sg x nx s.length)) (hdg : Dg s sg x nx) (hl : s.length ≤ 4096) (hK : Bl w 0 (wv kc)) :
    Calls Tryd.prog 18 #[.pointer (some ⟨b, 0, none⟩)] w fun e w' => e = .returned (.agg (bv (sha s)).toArray) ∧ ∃ sg2 x2 T2, x2.length = 64 ∧ Mm w [(b, dgL sg2 x2 0 T2)] w' := by
  have HX := Lib.hid hdg.2.1; have hkl := hK.lt
  have hbk : b ≠ 0 := hD.apart hK (by rw [dgL_length hdg.2.1]; show 75 ≠ 64; decide)
  obtain ⟨l0, hl0⟩ : ∃ l0, s.length = l0 := ⟨_, rfl⟩
  rw [hl0] at hD hl
  have HDB := Lib.hid hD; have HDG := Lib.hid hdg; have HK := Lib.hid hK; have HB := Lib.hid hbk; have HL0 := Lib.hid hl0
  clear hD hdg hK hbk hl0
  go_enter Tryd.func18, Tryd.ntmps18
  go_upto_region 1 with (fail)
  refine wp_gen (fun WW => Mm w [(b, dgL sg x nx l0), (w.heap.size, bv (List.replicate 32 0))] WW) ((Mm.one HDB.out).new (L := bv (List.replicate 32 0)) rfl (by kernel_rfl)) ?_
  intro W0 H0
  refine wp_seq_atS (opsAt Tryd.f18 1) ((true, 0) :: (true, 1) :: (true, 2) :: (false, 3) :: (true, 4) :: []) (fun _ => True) (by kernel_rfl) (by kernel_rfl) trivial ?_
  refine k_pure (by kernel_rfl) (d := (some 8)) (by kernel_rfl) (v := .pointer (some ⟨b, 0, none⟩)) (fun _ => by kernel_rfl) ?_
  refine k_pure (by kernel_rfl) (d := (some 9)) (by kernel_rfl) (v := .pointer (some ⟨b, 0, none⟩)) (fun _ => by kernel_rfl) ?_
  refine k_pure (by kernel_rfl) (d := (some 10)) (by kernel_rfl) (v := .pointer (some ⟨b, 73, none⟩)) (fun _ => by kernel_rfl) ?_
  refine k_make (by kernel_rfl) (d := (some 11)) (by kernel_rfl) (v := .int .u64 ((l0 : Nat) : Int)) (run_loadA (ty := 43) (x := (.tmp 10)) (a := ⟨b, 73, none⟩) (by kernel_rfl) (by kernel_rfl) Tryd.underlying43 rfl ((H0.at 0 rfl).cell (dgL_len HX.out))) trivial ?_
  intro w4 hw4 _
  replace hw4 := hw4.symm
  subst hw4
  refine k_pure (by kernel_rfl) (d := (some 3)) (by kernel_rfl) (v := .int .u64 ((l0 : Nat) : Int)) (fun _ => by kernel_rfl) ?_
  refine k_end ?_
  go_simp
  go_upto_region 2 with (fail)
  refine wp_seq_atS (opsAt Tryd.f18 2) ((false, 0) :: []) (fun _ => True) (by kernel_rfl) (by kernel_rfl) trivial ?_
  obtain ⟨n6, hn6⟩ : ∃ n, W0.heap.size = n := ⟨_, rfl⟩
  have H6 : Mm w [(b, dgL sg x nx l0), (w.heap.size, bv (List.replicate 32 0)), (n6, bv (List.replicate 72 0))] (W0.alloc (.cells (bv (List.replicate 72 0)).toArray 53)) := H0.new hn6.symm rfl
  have hge6 : w.heap.size ≤ n6 := by rw [← hn6]; exact H0.size
  refine k_make (by kernel_rfl) (d := (some 4)) (by kernel_rfl) (v := .pointer (some ⟨n6, 0, none⟩)) (w' := W0.alloc (.cells (bv (List.replicate 72 0)).toArray 53)) (by rw [← hn6]; kernel_rfl) trivial ?_
  intro w6 hw6 _
  rw [← hw6] at H6
  clear hw6 hn6 H0
  refine k_end ?_
  go_simp
  go_upto_region 3 with (fail)
  refine wp_seq_atS (opsAt Tryd.f18 3) ((true, 0) :: (false, 1) :: []) (fun _ => True) (by kernel_rfl) (by kernel_rfl) trivial ?_
  refine k_pure (by kernel_rfl) (d := (some 12)) (by kernel_rfl) (v := .pointer (some ⟨n6, 0, none⟩)) (fun _ => by kernel_rfl) ?_
  have H8 : Mm w [(b, dgL sg x nx l0), (w.heap.size, bv (List.replicate 32 0)), (n6, bv (128 :: List.replicate 71 0))] (w6.setCell ⟨n6, 0, none⟩ (.int .u8 128)) := (by have h := H6.put 2 rfl 0 (.int .u8 128); rw [(show (bv (List.replicate 72 0)).set 0 (.int .u8 128) = bv (128 :: List.replicate 71 0) from rfl)] at h; exact h)
  refine k_skipOp (by kernel_rfl) (d := none) (by kernel_rfl) (run_storeA (ty := 5) (x := (.tmp 12)) (y := (.const (.int .u8 128))) (b := n6) (off := 0) (v := .int .u8 128) (by kernel_rfl) (by kernel_rfl) (by kernel_rfl) rfl rfl (by kernel_rfl) ((H6.at 2 rfl).cell (rfl)) (H6.at 2 rfl).free) trivial ?_
  intro w8 hw8 _
  rw [← hw8] at H8
  clear hw8 H6
  refine k_end ?_
  go_simp
  go_upto_region 4 with (fail)
  obtain ⟨t, hT⟩ : ∃ t, zs l0 + 1 = t := ⟨_, rfl⟩
  have hT1 : t ≤ 64 := by subst hT; unfold zs; split <;> omega
  have hT0 : 0 < t := by omega
  have hta : l0 % 64 < 56 → 56 - l0 % 64 = t := by intro h; subst hT; unfold zs; rw [if_pos h]; omega
  have htb : ¬ l0 % 64 < 56 → 120 - l0 % 64 = t := by intro h; subst hT; unfold zs; rw [if_neg h]; omega
  have HT := Lib.hid hT; have HTA := Lib.hid hta; have HTB := Lib.hid htb
  clear hT hta htb
  obtain ⟨r, hr⟩ : ∃ r, l0 % 64 = r := ⟨_, rfl⟩
  have hr64 : r < 64 := by omega
  have HR := Lib.hid hr
  clear hr
  go_upto_region 5 with (fail)
  by_cases h56 : r < 56
  · skip
    refine wp_seq_atS (opsAt Tryd.f18 5) ((true, 0) :: (true, 1) :: (true, 2) :: []) (fun _ => True) (by kernel_rfl) (by kernel_rfl) trivial ?_
    refine k_pure (by kernel_rfl) (d := (some 13)) (by kernel_rfl) (v := .int .u64 ((l0 : Nat) : Int)) (fun _ => by kernel_rfl) ?_
    refine k_pure (by kernel_rfl) (d := (some 14)) (by kernel_rfl) (v := .int .u64 ((r : Nat) : Int)) (fun _ => run_binOpV (op := .rem) (x := .tmp 13) (y := .const (.int .u64 64)) (t := 43) (t' := 43) (u := .int .u64 ((l0 : Nat) : Int)) (v := .int .u64 64) (by kernel_rfl) (by kernel_rfl) (by kernel_rfl) rfl (by rw [← HR.out]; exact remU (m := l0) (n := 64) rfl rfl (by decide))) ?_
    refine k_pure (by kernel_rfl) (d := (some 15)) (by kernel_rfl) (v := .bool true) (fun _ => run_binOpV (op := .lss) (x := .tmp 14) (y := .const (.int .u64 56)) (t := 43) (t' := 43) (u := .int .u64 ((r : Nat) : Int)) (v := .int .u64 56) (by kernel_rfl) (by kernel_rfl) (by kernel_rfl) rfl (lssT (by omega))) ?_
    refine k_end ?_
    go_simp
    go_upto_region 6 with (fail)
    refine wp_seq_atS (opsAt Tryd.f18 6) ((true, 0) :: (true, 1) :: (true, 2) :: (true, 3) :: []) (fun _ => True) (by kernel_rfl) (by kernel_rfl) trivial ?_
    refine k_pure (by kernel_rfl) (d := (some 16)) (by kernel_rfl) (v := .int .u64 ((l0 : Nat) : Int)) (fun _ => by kernel_rfl) ?_
    refine k_pure (by kernel_rfl) (d := (some 17)) (by kernel_rfl) (v := .int .u64 ((r : Nat) : Int)) (fun _ => run_binOpV (op := .rem) (x := .tmp 16) (y := .const (.int .u64 64)) (t := 43) (t' := 43) (u := .int .u64 ((l0 : Nat) : Int)) (v := .int .u64 64) (by kernel_rfl) (by kernel_rfl) (by kernel_rfl) rfl (by rw [← HR.out]; exact remU (m := l0) (n := 64) rfl rfl (by decide))) ?_
    refine k_pure (by kernel_rfl) (d := (some 18)) (by kernel_rfl) (v := .int .u64 ((t : Nat) : Int)) (fun _ => run_binOpV (op := .sub) (x := .const (.int .u64 56)) (y := .tmp 17) (t := 43) (t' := 43) (u := .int .u64 56) (v := .int .u64 ((r : Nat) : Int)) (by kernel_rfl) (by kernel_rfl) (by kernel_rfl) rfl (subU64 (by have h1 := HTA.out (by have := HR.out; omega); have := HR.out; omega) (by omega))) ?_
    refine k_pure (by kernel_rfl) (d := (some 5)) (by kernel_rfl) (v := .int .u64 ((t : Nat) : Int)) (fun _ => by kernel_rfl) ?_
    refine k_end ?_
    go_simp
    go_upto_region 8 with (fail)
    refine wp_seq_atS (opsAt Tryd.f18 8) ((true, 0) :: (true, 1) :: (true, 2) :: []) (fun _ => True) (by kernel_rfl) (by kernel_rfl) trivial ?_
    refine k_pure (by kernel_rfl) (d := (some 22)) (by kernel_rfl) (v := .int .u64 ((l0 : Nat) : Int)) (fun _ => by kernel_rfl) ?_
    refine k_pure (by kernel_rfl) (d := (some 23)) (by kernel_rfl) (v := .int .u64 ((8 * l0 : Nat) : Int)) (fun _ => run_binOpV (op := .shl) (x := .tmp 22) (y := .const (.int .u64 3)) (t := 43) (t' := 52) (u := .int .u64 ((l0 : Nat) : Int)) (v := .int .u64 3) (by kernel_rfl) (by kernel_rfl) (by kernel_rfl) rfl ((shlU (y := 3) (n := 3) rfl (by decide)).trans (by rw [show ((l0 : Nat) : Int) * 2 ^ 3 = ((8 * l0 : Nat) : Int) by omega, wrapU64 (by omega)]))) ?_
    refine k_pure (by kernel_rfl) (d := (some 3)) (by kernel_rfl) (v := .int .u64 ((8 * l0 : Nat) : Int)) (fun _ => by kernel_rfl) ?_
    refine k_end ?_
    go_simp
    go_upto_region 9 with (fail)
    refine wp_seq_atS (opsAt Tryd.f18 9) ((true, 0) :: (true, 1) :: (true, 2) :: (true, 3) :: []) (fun _ => True) (by kernel_rfl) (by kernel_rfl) trivial ?_
    refine k_pure (by kernel_rfl) (d := (some 24)) (by kernel_rfl) (v := .int .u64 ((t : Nat) : Int)) (fun _ => by kernel_rfl) ?_
    refine k_pure (by kernel_rfl) (d := (some 25)) (by kernel_rfl) (v := .int .u64 ((t + 8 : Nat) : Int)) (fun _ => run_binOpV (op := .add) (x := .tmp 24) (y := .const (.int .u64 8)) (t := 43) (t' := 43) (u := .int .u64 ((t : Nat) : Int)) (v := .int .u64 8) (by kernel_rfl) (by kernel_rfl) (by kernel_rfl) rfl (addU64 (by omega) (by omega))) ?_
    refine k_pure (by kernel_rfl) (d := (some 26)) (by kernel_rfl) (v := .slice (some ⟨n6, 0, none⟩) (t + 8) 72) (fun _ => run_slOp (x := .tmp 4) (lo := none) (hi := (some (.tmp 25))) (mx := none) (v := .pointer (some ⟨n6, 0, none⟩)) (a := none) (b := (some (.int .u64 ((t + 8 : Nat) : Int)))) (c := none) (by kernel_rfl) (by kernel_rfl) (by kernel_rfl) (by kernel_rfl) (by kernel_rfl) (run_slArr (n := 72) (off := 0) (lo := 0) (hi := t + 8) (k := .u64) Tryd.underlying53 (by kernel_rfl) (by omega) (by omega) (by omega) rfl rfl rfl (.inr ⟨rfl, rfl⟩) (.inl rfl))) ?_
    refine k_pure (by kernel_rfl) (d := (some 6)) (by kernel_rfl) (v := .slice (some ⟨n6, 0, none⟩) (t + 8) 72) (fun _ => by kernel_rfl) ?_
    refine k_end ?_
    go_simp
    go_upto_region 10 with (fail)
    refine wp_seq_atS (opsAt Tryd.f18 10) ((true, 0) :: (true, 1) :: (true, 2) :: (true, 3) :: (true, 4) :: (false, 5) :: []) (fun _ => True) (by kernel_rfl) (by kernel_rfl) trivial ?_
    refine k_pure (by kernel_rfl) (d := (some 27)) (by kernel_rfl) (v := .slice (some ⟨n6, 0, none⟩) (t + 8) 72) (fun _ => by kernel_rfl) ?_
    refine k_pure (by kernel_rfl) (d := (some 28)) (by kernel_rfl) (v := .int .u64 ((t : Nat) : Int)) (fun _ => by kernel_rfl) ?_
    refine k_pure (by kernel_rfl) (d := (some 29)) (by kernel_rfl) (v := .int .u64 ((t : Nat) : Int)) (fun _ => run_binOpV (op := .add) (x := .tmp 28) (y := .const (.int .u64 0)) (t := 43) (t' := 43) (u := .int .u64 ((t : Nat) : Int)) (v := .int .u64 0) (by kernel_rfl) (by kernel_rfl) (by kernel_rfl) rfl (addU64 (by omega) (by omega))) ?_
    refine k_pure (by kernel_rfl) (d := (some 30)) (by kernel_rfl) (v := .slice (some ⟨n6, t, none⟩) 8 ((72 - t))) (fun _ => run_slOp (x := .tmp 27) (lo := (some (.tmp 29))) (hi := none) (mx := none) (v := .slice (some ⟨n6, 0, none⟩) (t + 8) 72) (a := (some (.int .u64 ((t : Nat) : Int)))) (b := none) (c := none) (by kernel_rfl) (by kernel_rfl) (by kernel_rfl) (by kernel_rfl) (by kernel_rfl) (run_slSl (k := .u64) Tryd.underlying24 (by kernel_rfl) (by omega) (by omega) (by omega) (by omega) rfl)) ?_
    refine k_pure (by kernel_rfl) (d := (some 31)) (by kernel_rfl) (v := .int .u64 ((8 * l0 : Nat) : Int)) (fun _ => by kernel_rfl) ?_
    refine k_callR (by kernel_rfl) (d := (some 32)) (by kernel_rfl) (f := 22) (args := #[.slice (some ⟨n6, t, none⟩) 8 ((72 - t)), .int .u64 ((8 * l0 : Nat) : Int)]) (fun _ => by kernel_rfl) (put64_c (off := t) (n := 8) (x7 := 0) (H8.at 2 rfl) (Nat.le_refl _) (by rw [bv_length]; simp only [List.length_cons, List.length_replicate]; omega) (zeros_at (by omega) (by omega))) (fun _ w19 ⟨he19, u19⟩ => ⟨_, he19, trivial, ?_⟩)
    have H19 : Mm w [(b, dgL sg x nx l0), (w.heap.size, bv (List.replicate 32 0)), (n6, put8 (bv (128 :: List.replicate 71 0)) t (((8 * l0 : Nat) : Int)) 8)] w19 := H8.upd (i := 2) rfl u19
    clear u19 he19 H8
    refine k_end ?_
    go_simp
    go_upto_region 11 with (fail)
    refine wp_seq_atS (opsAt Tryd.f18 11) ((true, 0) :: (true, 1) :: (false, 2) :: []) (fun _ => True) (by kernel_rfl) (by kernel_rfl) trivial ?_
    refine k_pure (by kernel_rfl) (d := (some 33)) (by kernel_rfl) (v := .pointer (some ⟨b, 0, none⟩)) (fun _ => by kernel_rfl) ?_
    refine k_pure (by kernel_rfl) (d := (some 34)) (by kernel_rfl) (v := .slice (some ⟨n6, 0, none⟩) (t + 8) 72) (fun _ => by kernel_rfl) ?_
    refine k_callR (by kernel_rfl) (d := (some 35)) (by kernel_rfl) (f := 8) (args := #[.pointer (some ⟨b, 0, none⟩), .slice (some ⟨n6, 0, none⟩) (t + 8) 72]) (fun _ => by kernel_rfl) (write_c (s := s) (nx := nx) (p := pad l0) (by rw [HL0.out]; exact H19.at 0 rfl) HDG.out (pad_rd (H19.at 2 rfl) HT.out) (by rw [HL0.out]; have := pad_len l0; omega) (pad_len l0) (fun e => H19.ne 2 0 _ _ _ _ rfl rfl (by decide) (Option.some.inj e)) (HK.out.out H19 (bsC HB.out (bsC (by show w.heap.size ≠ 0; omega) (bsC (by show n6 ≠ 0; omega) bs0))))) (fun _ w22 ⟨sg2, x2, nx2, he22, hdg2, u22⟩ => ⟨_, he22, trivial, ?_⟩)
    have H22 : Mm w [(b, dgL sg2 x2 nx2 (s.length + (pad l0).length)), (w.heap.size, bv (List.replicate 32 0)), (n6, put8 (bv (128 :: List.replicate 71 0)) t (((8 * l0 : Nat) : Int)) 8)] w22 := H19.upd (i := 0) rfl u22
    clear u22 he22 H19
    refine k_end ?_
    go_simp
    rw [← HL0.out] at hdg2
    obtain ⟨hnx2, hsha⟩ := sha_dg hdg2
    subst hnx2
    have HX2 := Lib.hid hdg2.2.1; have HS := Lib.hid hsha
    clear hdg2 hsha
    obtain ⟨T2, hT2⟩ : ∃ T2, s.length + (pad l0).length = T2 := ⟨_, rfl⟩
    rw [hT2] at H22
    clear hT2
    go_upto_region 12 with (fail)
    refine wp_seq_atS (opsAt Tryd.f18 12) ((true, 0) :: (true, 1) :: (true, 2) :: (false, 3) :: (true, 4) :: []) (fun _ => True) (by kernel_rfl) (by kernel_rfl) trivial ?_
    refine k_pure (by kernel_rfl) (d := (some 36)) (by kernel_rfl) (v := .pointer (some ⟨b, 0, none⟩)) (fun _ => by kernel_rfl) ?_
    refine k_pure (by kernel_rfl) (d := (some 37)) (by kernel_rfl) (v := .pointer (some ⟨b, 0, none⟩)) (fun _ => by kernel_rfl) ?_
    refine k_pure (by kernel_rfl) (d := (some 38)) (by kernel_rfl) (v := .pointer (some ⟨b, 72, none⟩)) (fun _ => by kernel_rfl) ?_
    refine k_make (by kernel_rfl) (d := (some 39)) (by kernel_rfl) (v := .int .i64 0) (run_loadA (ty := 3) (x := (.tmp 38)) (a := ⟨b, 72, none⟩) (by kernel_rfl) (by kernel_rfl) Tryd.underlying3 rfl ((H22.at 0 rfl).cell (dgL_nx (nx := 0) HX2.out))) trivial ?_
    intro w26 hw26 _
    replace hw26 := hw26.symm
    subst hw26
    refine k_pure (by kernel_rfl) (d := (some 40)) (by kernel_rfl) (v := .bool false) (fun _ => run_binOpV (op := .neq) (x := .tmp 39) (y := .const (.int .i64 0)) (t := 3) (t' := 3) (u := .int .i64 0) (v := .int .i64 0) (by kernel_rfl) (by kernel_rfl) (by kernel_rfl) rfl (neqF (rfl))) ?_
    refine k_end ?_
    go_simp
    go_upto_region 14 with (fail)
    refine wp_seq_atS (opsAt Tryd.f18 14) ((false, 0) :: []) (fun _ => True) (by kernel_rfl) (by kernel_rfl) trivial ?_
    obtain ⟨n27, hn27⟩ : ∃ n, w22.heap.size = n := ⟨_, rfl⟩
    have H27 : Mm w [(b, dgL sg2 x2 0 T2), (w.heap.size, bv (List.replicate 32 0)), (n6, put8 (bv (128 :: List.replicate 71 0)) t (((8 * l0 : Nat) : Int)) 8), (n27, bv (List.replicate 32 0))] (w22.alloc (.cells (bv (List.replicate 32 0)).toArray 47)) := H22.new hn27.symm rfl
    have hge27 : w.heap.size ≤ n27 := by rw [← hn27]; exact H22.size
    refine k_make (by kernel_rfl) (d := (some 7)) (by kernel_rfl) (v := .pointer (some ⟨n27, 0, none⟩)) (w' := w22.alloc (.cells (bv (List.replicate 32 0)).toArray 47)) (by rw [← hn27]; kernel_rfl) trivial ?_
    intro w27 hw27 _
    rw [← hw27] at H27
    clear hw27 hn27 H22
    refine k_end ?_
    go_simp
    go_upto_region 15 with (fail)
    refine wp_region_atS (opsAt Tryd.f18 15) ((true, 0) :: (true, 1) :: (true, 2) :: (true, 3) :: (true, 4) :: (true, 5) :: (false, 6) :: []) (fun W => Mm w [(b, dgL sg2 x2 0 T2), (w.heap.size, bv (List.replicate 32 0)), (n6, put8 (bv (128 :: List.replicate 71 0)) t (((8 * l0 : Nat) : Int)) 8), (n27, bv (List.replicate 32 0))] W ∨ Mm w [(b, dgL sg2 x2 0 T2), (w.heap.size, bv (List.replicate 32 0)), (n6, put8 (bv (128 :: List.replicate 71 0)) t (((8 * l0 : Nat) : Int)) 8), (n27, bv (by4 sg2.a ++ List.replicate 28 0))] W) (by kernel_rfl) rfl (by kernel_rfl) (fun _ _ d _ _ h => by cases d <;> exact h) (by kernel_rfl) (by kernel_rfl) (Or.inl H27.drew) ?_
    have H28d := H27.drew
    clear H27
    refine k_pure (by kernel_rfl) (d := (some 42)) (by kernel_rfl) (v := .slice (some ⟨n27, 0, none⟩) 32 32) (fun _ => by kernel_rfl) ?_
    refine k_pure (by kernel_rfl) (d := (some 43)) (by kernel_rfl) (v := .pointer (some ⟨b, 0, none⟩)) (fun _ => by kernel_rfl) ?_
    refine k_pure (by kernel_rfl) (d := (some 44)) (by kernel_rfl) (v := .pointer (some ⟨b, 0, none⟩)) (fun _ => by kernel_rfl) ?_
    refine k_pure (by kernel_rfl) (d := (some 45)) (by kernel_rfl) (v := .pointer (some ⟨b, 0, none⟩)) (fun _ => by kernel_rfl) ?_
    refine k_pure (by kernel_rfl) (d := (some 46)) (by kernel_rfl) (v := .pointer (some ⟨b, 0, none⟩)) (fun _ => by kernel_rfl) ?_
    refine k_ifR (by kernel_rfl) (d := (some 47)) (by kernel_rfl) (v := .int .u32 sg2.a) (fun _ hs => run_loadA (ty := 40) (x := (.tmp 46)) (a := ⟨b, 0, none⟩) (by kernel_rfl) (by kernel_rfl) Tryd.underlying40 rfl (hs.elim (fun h => (h.at 0 rfl).cell (v := .int .u32 sg2.a) rfl) (fun h => (h.at 0 rfl).cell (v := .int .u32 sg2.a) rfl))) ?_
    refine k_callR (by kernel_rfl) (d := (some 48)) (by kernel_rfl) (f := 23) (args := #[.slice (some ⟨n27, 0, none⟩) 32 32, .int .u32 sg2.a]) (fun _ => by kernel_rfl) (put32_c (off := 0) (n := 32) (x3 := 0) (H28d.at 3 rfl) (by decide) (Nat.le_of_eq rfl) rfl) (fun _ w34 ⟨he34, u34⟩ => ⟨_, he34, (Or.inr (H28d.upd (i := 3) rfl u34)), ?_⟩)
    have H34 : Mm w [(b, dgL sg2 x2 0 T2), (w.heap.size, bv (List.replicate 32 0)), (n6, put8 (bv (128 :: List.replicate 71 0)) t (((8 * l0 : Nat) : Int)) 8), (n27, bv (by4 sg2.a ++ List.replicate 28 0))] w34 := H28d.upd (i := 3) rfl u34
    clear u34 he34 H28d
    refine k_end ?_
    go_simp
    go_upto_region 16 with (fail)
    refine wp_region_atS (opsAt Tryd.f18 16) ((true, 0) :: (true, 1) :: (true, 2) :: (true, 3) :: (true, 4) :: (true, 5) :: (false, 6) :: []) (fun W => Mm w [(b, dgL sg2 x2 0 T2), (w.heap.size, bv (List.replicate 32 0)), (n6, put8 (bv (128 :: List.replicate 71 0)) t (((8 * l0 : Nat) : Int)) 8), (n27, bv (by4 sg2.a ++ List.replicate 28 0))] W ∨ Mm w [(b, dgL sg2 x2 0 T2), (w.heap.size, bv (List.replicate 32 0)), (n6, put8 (bv (128 :: List.replicate 71 0)) t (((8 * l0 : Nat) : Int)) 8), (n27, bv (by4 sg2.a ++ by4 sg2.b ++ List.replicate 24 0))] W) (by kernel_rfl) rfl (by kernel_rfl) (fun _ _ d _ _ h => by cases d <;> exact h) (by kernel_rfl) (by kernel_rfl) (Or.inl H34.drew) ?_
    have H35d := H34.drew
    clear H34
    refine k_pure (by kernel_rfl) (d := (some 49)) (by kernel_rfl) (v := .slice (some ⟨n27, 4, none⟩) 28 28) (fun _ => by kernel_rfl) ?_
    refine k_pure (by kernel_rfl) (d := (some 50)) (by kernel_rfl) (v := .pointer (some ⟨b, 0, none⟩)) (fun _ => by kernel_rfl) ?_
    refine k_pure (by kernel_rfl) (d := (some 51)) (by kernel_rfl) (v := .pointer (some ⟨b, 0, none⟩)) (fun _ => by kernel_rfl) ?_
    refine k_pure (by kernel_rfl) (d := (some 52)) (by kernel_rfl) (v := .pointer (some ⟨b, 0, none⟩)) (fun _ => by kernel_rfl) ?_
    refine k_pure (by kernel_rfl) (d := (some 53)) (by kernel_rfl) (v := .pointer (some ⟨b, 1, none⟩)) (fun _ => by kernel_rfl) ?_
    refine k_ifR (by kernel_rfl) (d := (some 54)) (by kernel_rfl) (v := .int .u32 sg2.b) (fun _ hs => run_loadA (ty := 40) (x := (.tmp 53)) (a := ⟨b, 1, none⟩) (by kernel_rfl) (by kernel_rfl) Tryd.underlying40 rfl (hs.elim (fun h => (h.at 0 rfl).cell (v := .int .u32 sg2.b) rfl) (fun h => (h.at 0 rfl).cell (v := .int .u32 sg2.b) rfl))) ?_
    refine k_callR (by kernel_rfl) (d := (some 55)) (by kernel_rfl) (f := 23) (args := #[.slice (some ⟨n27, 4, none⟩) 28 28, .int .u32 sg2.b]) (fun _ => by kernel_rfl) (put32_c (off := 4) (n := 28) (x3 := 0) (H35d.at 3 rfl) (by decide) (Nat.le_of_eq rfl) rfl) (fun _ w41 ⟨he41, u41⟩ => ⟨_, he41, (Or.inr (H35d.upd (i := 3) rfl u41)), ?_⟩)
    have H41 : Mm w [(b, dgL sg2 x2 0 T2), (w.heap.size, bv (List.replicate 32 0)), (n6, put8 (bv (128 :: List.replicate 71 0)) t (((8 * l0 : Nat) : Int)) 8), (n27, bv (by4 sg2.a ++ by4 sg2.b ++ List.replicate 24 0))] w41 := H35d.upd (i := 3) rfl u41
    clear u41 he41 H35d
    refine k_end ?_
    go_simp
    go_upto_region 17 with (fail)
    refine wp_region_atS (opsAt Tryd.f18 17) ((true, 0) :: (true, 1) :: (true, 2) :: (true, 3) :: (true, 4) :: (true, 5) :: (false, 6) :: []) (fun W => Mm w [(b, dgL sg2 x2 0 T2), (w.heap.size, bv (List.replicate 32 0)), (n6, put8 (bv (128 :: List.replicate 71 0)) t (((8 * l0 : Nat) : Int)) 8), (n27, bv (by4 sg2.a ++ by4 sg2.b ++ List.replicate 24 0))] W ∨ Mm w [(b, dgL sg2 x2 0 T2), (w.heap.size, bv (List.replicate 32 0)), (n6, put8 (bv (128 :: List.replicate 71 0)) t (((8 * l0 : Nat) : Int)) 8), (n27, bv (by4 sg2.a ++ by4 sg2.b ++ by4 sg2.c ++ List.replicate 20 0))] W) (by kernel_rfl) rfl (by kernel_rfl) (fun _ _ d _ _ h => by cases d <;> exact h) (by kernel_rfl) (by kernel_rfl) (Or.inl H41.drew) ?_
    have H42d := H41.drew
    clear H41
    refine k_pure (by kernel_rfl) (d := (some 56)) (by kernel_rfl) (v := .slice (some ⟨n27, 8, none⟩) 24 24) (fun _ => by kernel_rfl) ?_
    refine k_pure (by kernel_rfl) (d := (some 57)) (by kernel_rfl) (v := .pointer (some ⟨b, 0, none⟩)) (fun _ => by kernel_rfl) ?_
    refine k_pure (by kernel_rfl) (d := (some 58)) (by kernel_rfl) (v := .pointer (some ⟨b, 0, none⟩)) (fun _ => by kernel_rfl) ?_
    refine k_pure (by kernel_rfl) (d := (some 59)) (by kernel_rfl) (v := .pointer (some ⟨b, 0, none⟩)) (fun _ => by kernel_rfl) ?_
    refine k_pure (by kernel_rfl) (d := (some 60)) (by kernel_rfl) (v := .pointer (some ⟨b, 2, none⟩)) (fun _ => by kernel_rfl) ?_
    refine k_ifR (by kernel_rfl) (d := (some 61)) (by kernel_rfl) (v := .int .u32 sg2.c) (fun _ hs => run_loadA (ty := 40) (x := (.tmp 60)) (a := ⟨b, 2, none⟩) (by kernel_rfl) (by kernel_rfl) Tryd.underlying40 rfl (hs.elim (fun h => (h.at 0 rfl).cell (v := .int .u32 sg2.c) rfl) (fun h => (h.at 0 rfl).cell (v := .int .u32 sg2.c) rfl))) ?_
    refine k_callR (by kernel_rfl) (d := (some 62)) (by kernel_rfl) (f := 23) (args := #[.slice (some ⟨n27, 8, none⟩) 24 24, .int .u32 sg2.c]) (fun _ => by kernel_rfl) (put32_c (off := 8) (n := 24) (x3 := 0) (H42d.at 3 rfl) (by decide) (Nat.le_of_eq rfl) rfl) (fun _ w48 ⟨he48, u48⟩ => ⟨_, he48, (Or.inr (H42d.upd (i := 3) rfl u48)), ?_⟩)
    have H48 : Mm w [(b, dgL sg2 x2 0 T2), (w.heap.size, bv (List.replicate 32 0)), (n6, put8 (bv (128 :: List.replicate 71 0)) t (((8 * l0 : Nat) : Int)) 8), (n27, bv (by4 sg2.a ++ by4 sg2.b ++ by4 sg2.c ++ List.replicate 20 0))] w48 := H42d.upd (i := 3) rfl u48
    clear u48 he48 H42d
    refine k_end ?_
    go_simp
    go_upto_region 18 with (fail)
    refine wp_region_atS (opsAt Tryd.f18 18) ((true, 0) :: (true, 1) :: (true, 2) :: (true, 3) :: (true, 4) :: (true, 5) :: (false, 6) :: []) (fun W => Mm w [(b, dgL sg2 x2 0 T2), (w.heap.size, bv (List.replicate 32 0)), (n6, put8 (bv (128 :: List.replicate 71 0)) t (((8 * l0 : Nat) : Int)) 8), (n27, bv (by4 sg2.a ++ by4 sg2.b ++ by4 sg2.c ++ List.replicate 20 0))] W ∨ Mm w [(b, dgL sg2 x2 0 T2), (w.heap.size, bv (List.replicate 32 0)), (n6, put8 (bv (128 :: List.replicate 71 0)) t (((8 * l0 : Nat) : Int)) 8), (n27, bv (by4 sg2.a ++ by4 sg2.b ++ by4 sg2.c ++ by4 sg2.d ++ List.replicate 16 0))] W) (by kernel_rfl) rfl (by kernel_rfl) (fun _ _ d _ _ h => by cases d <;> exact h) (by kernel_rfl) (by kernel_rfl) (Or.inl H48.drew) ?_
    have H49d := H48.drew
    clear H48
    refine k_pure (by kernel_rfl) (d := (some 63)) (by kernel_rfl) (v := .slice (some ⟨n27, 12, none⟩) 20 20) (fun _ => by kernel_rfl) ?_
    refine k_pure (by kernel_rfl) (d := (some 64)) (by kernel_rfl) (v := .pointer (some ⟨b, 0, none⟩)) (fun _ => by kernel_rfl) ?_
    refine k_pure (by kernel_rfl) (d := (some 65)) (by kernel_rfl) (v := .pointer (some ⟨b, 0, none⟩)) (fun _ => by kernel_rfl) ?_
    refine k_pure (by kernel_rfl) (d := (some 66)) (by kernel_rfl) (v := .pointer (some ⟨b, 0, none⟩)) (fun _ => by kernel_rfl) ?_
    refine k_pure (by kernel_rfl) (d := (some 67)) (by kernel_rfl) (v := .pointer (some ⟨b, 3, none⟩)) (fun _ => by kernel_rfl) ?_
    refine k_ifR (by kernel_rfl) (d := (some 68)) (by kernel_rfl) (v := .int .u32 sg2.d) (fun _ hs => run_loadA (ty := 40) (x := (.tmp 67)) (a := ⟨b, 3, none⟩) (by kernel_rfl) (by kernel_rfl) Tryd.underlying40 rfl (hs.elim (fun h => (h.at 0 rfl).cell (v := .int .u32 sg2.d) rfl) (fun h => (h.at 0 rfl).cell (v := .int .u32 sg2.d) rfl))) ?_
    refine k_callR (by kernel_rfl) (d := (some 69)) (by kernel_rfl) (f := 23) (args := #[.slice (some ⟨n27, 12, none⟩) 20 20, .int .u32 sg2.d]) (fun _ => by kernel_rfl) (put32_c (off := 12) (n := 20) (x3 := 0) (H49d.at 3 rfl) (by decide) (Nat.le_of_eq rfl) rfl) (fun _ w55 ⟨he55, u55⟩ => ⟨_, he55, (Or.inr (H49d.upd (i := 3) rfl u55)), ?_⟩)
    have H55 : Mm w [(b, dgL sg2 x2 0 T2), (w.heap.size, bv (List.replicate 32 0)), (n6, put8 (bv (128 :: List.replicate 71 0)) t (((8 * l0 : Nat) : Int)) 8), (n27, bv (by4 sg2.a ++ by4 sg2.b ++ by4 sg2.c ++ by4 sg2.d ++ List.replicate 16 0))] w55 := H49d.upd (i := 3) rfl u55
    clear u55 he55 H49d
    refine k_end ?_
    go_simp
    go_upto_region 19 with (fail)
    refine wp_region_atS (opsAt Tryd.f18 19) ((true, 0) :: (true, 1) :: (true, 2) :: (true, 3) :: (true, 4) :: (true, 5) :: (false, 6) :: []) (fun W => Mm w [(b, dgL sg2 x2 0 T2), (w.heap.size, bv (List.replicate 32 0)), (n6, put8 (bv (128 :: List.replicate 71 0)) t (((8 * l0 : Nat) : Int)) 8), (n27, bv (by4 sg2.a ++ by4 sg2.b ++ by4 sg2.c ++ by4 sg2.d ++ List.replicate 16 0))] W ∨ Mm w [(b, dgL sg2 x2 0 T2), (w.heap.size, bv (List.replicate 32 0)), (n6, put8 (bv (128 :: List.replicate 71 0)) t (((8 * l0 : Nat) : Int)) 8), (n27, bv (by4 sg2.a ++ by4 sg2.b ++ by4 sg2.c ++ by4 sg2.d ++ by4 sg2.e ++ List.replicate 12 0))] W) (by kernel_rfl) rfl (by kernel_rfl) (fun _ _ d _ _ h => by cases d <;> exact h) (by kernel_rfl) (by kernel_rfl) (Or.inl H55.drew) ?_
    have H56d := H55.drew
    clear H55
    refine k_pure (by kernel_rfl) (d := (some 70)) (by kernel_rfl) (v := .slice (some ⟨n27, 16, none⟩) 16 16) (fun _ => by kernel_rfl) ?_
    refine k_pure (by kernel_rfl) (d := (some 71)) (by kernel_rfl) (v := .pointer (some ⟨b, 0, none⟩)) (fun _ => by kernel_rfl) ?_
    refine k_pure (by kernel_rfl) (d := (some 72)) (by kernel_rfl) (v := .pointer (some ⟨b, 0, none⟩)) (fun _ => by kernel_rfl) ?_
    refine k_pure (by kernel_rfl) (d := (some 73)) (by kernel_rfl) (v := .pointer (some ⟨b, 0, none⟩)) (fun _ => by kernel_rfl) ?_
    refine k_pure (by kernel_rfl) (d := (some 74)) (by kernel_rfl) (v := .pointer (some ⟨b, 4, none⟩)) (fun _ => by kernel_rfl) ?_
    refine k_ifR (by kernel_rfl) (d := (some 75)) (by kernel_rfl) (v := .int .u32 sg2.e) (fun _ hs => run_loadA (ty := 40) (x := (.tmp 74)) (a := ⟨b, 4, none⟩) (by kernel_rfl) (by kernel_rfl) Tryd.underlying40 rfl (hs.elim (fun h => (h.at 0 rfl).cell (v := .int .u32 sg2.e) rfl) (fun h => (h.at 0 rfl).cell (v := .int .u32 sg2.e) rfl))) ?_
    refine k_callR (by kernel_rfl) (d := (some 76)) (by kernel_rfl) (f := 23) (args := #[.slice (some ⟨n27, 16, none⟩) 16 16, .int .u32 sg2.e]) (fun _ => by kernel_rfl) (put32_c (off := 16) (n := 16) (x3 := 0) (H56d.at 3 rfl) (by decide) (Nat.le_of_eq rfl) rfl) (fun _ w62 ⟨he62, u62⟩ => ⟨_, he62, (Or.inr (H56d.upd (i := 3) rfl u62)), ?_⟩)
    have H62 : Mm w [(b, dgL sg2 x2 0 T2), (w.heap.size, bv (List.replicate 32 0)), (n6, put8 (bv (128 :: List.replicate 71 0)) t (((8 * l0 : Nat) : Int)) 8), (n27, bv (by4 sg2.a ++ by4 sg2.b ++ by4 sg2.c ++ by4 sg2.d ++ by4 sg2.e ++ List.replicate 12 0))] w62 := H56d.upd (i := 3) rfl u62
    clear u62 he62 H56d
    refine k_end ?_
    go_simp
    go_upto_region 20 with (fail)
    refine wp_region_atS (opsAt Tryd.f18 20) ((true, 0) :: (true, 1) :: (true, 2) :: (true, 3) :: (true, 4) :: (true, 5) :: (false, 6) :: []) (fun W => Mm w [(b, dgL sg2 x2 0 T2), (w.heap.size, bv (List.replicate 32 0)), (n6, put8 (bv (128 :: List.replicate 71 0)) t (((8 * l0 : Nat) : Int)) 8), (n27, bv (by4 sg2.a ++ by4 sg2.b ++ by4 sg2.c ++ by4 sg2.d ++ by4 sg2.e ++ List.replicate 12 0))] W ∨ Mm w [(b, dgL sg2 x2 0 T2), (w.heap.size, bv (List.replicate 32 0)), (n6, put8 (bv (128 :: List.replicate 71 0)) t (((8 * l0 : Nat) : Int)) 8), (n27, bv (by4 sg2.a ++ by4 sg2.b ++ by4 sg2.c ++ by4 sg2.d ++ by4 sg2.e ++ by4 sg2.f ++ List.replicate 8 0))] W) (by kernel_rfl) rfl (by kernel_rfl) (fun _ _ d _ _ h => by cases d <;> exact h) (by kernel_rfl) (by kernel_rfl) (Or.inl H62.drew) ?_
    have H63d := H62.drew
    clear H62
    refine k_pure (by kernel_rfl) (d := (some 77)) (by kernel_rfl) (v := .slice (some ⟨n27, 20, none⟩) 12 12) (fun _ => by kernel_rfl) ?_
    refine k_pure (by kernel_rfl) (d := (some 78)) (by kernel_rfl) (v := .pointer (some ⟨b, 0, none⟩)) (fun _ => by kernel_rfl) ?_
    refine k_pure (by kernel_rfl) (d := (some 79)) (by kernel_rfl) (v := .pointer (some ⟨b, 0, none⟩)) (fun _ => by kernel_rfl) ?_
    refine k_pure (by kernel_rfl) (d := (some 80)) (by kernel_rfl) (v := .pointer (some ⟨b, 0, none⟩)) (fun _ => by kernel_rfl) ?_
    refine k_pure (by kernel_rfl) (d := (some 81)) (by kernel_rfl) (v := .pointer (some ⟨b, 5, none⟩)) (fun _ => by kernel_rfl) ?_
    refine k_ifR (by kernel_rfl) (d := (some 82)) (by kernel_rfl) (v := .int .u32 sg2.f) (fun _ hs => run_loadA (ty := 40) (x := (.tmp 81)) (a := ⟨b, 5, none⟩) (by kernel_rfl) (by kernel_rfl) Tryd.underlying40 rfl (hs.elim (fun h => (h.at 0 rfl).cell (v := .int .u32 sg2.f) rfl) (fun h => (h.at 0 rfl).cell (v := .int .u32 sg2.f) rfl))) ?_
    refine k_callR (by kernel_rfl) (d := (some 83)) (by kernel_rfl) (f := 23) (args := #[.slice (some ⟨n27, 20, none⟩) 12 12, .int .u32 sg2.f]) (fun _ => by kernel_rfl) (put32_c (off := 20) (n := 12) (x3 := 0) (H63d.at 3 rfl) (by decide) (Nat.le_of_eq rfl) rfl) (fun _ w69 ⟨he69, u69⟩ => ⟨_, he69, (Or.inr (H63d.upd (i := 3) rfl u69)), ?_⟩)
    have H69 : Mm w [(b, dgL sg2 x2 0 T2), (w.heap.size, bv (List.replicate 32 0)), (n6, put8 (bv (128 :: List.replicate 71 0)) t (((8 * l0 : Nat) : Int)) 8), (n27, bv (by4 sg2.a ++ by4 sg2.b ++ by4 sg2.c ++ by4 sg2.d ++ by4 sg2.e ++ by4 sg2.f ++ List.replicate 8 0))] w69 := H63d.upd (i := 3) rfl u69
    clear u69 he69 H63d
    refine k_end ?_
    go_simp
    go_upto_region 21 with (fail)
    refine wp_region_atS (opsAt Tryd.f18 21) ((true, 0) :: (true, 1) :: (true, 2) :: (true, 3) :: (true, 4) :: (true, 5) :: (false, 6) :: []) (fun W => Mm w [(b, dgL sg2 x2 0 T2), (w.heap.size, bv (List.replicate 32 0)), (n6, put8 (bv (128 :: List.replicate 71 0)) t (((8 * l0 : Nat) : Int)) 8), (n27, bv (by4 sg2.a ++ by4 sg2.b ++ by4 sg2.c ++ by4 sg2.d ++ by4 sg2.e ++ by4 sg2.f ++ List.replicate 8 0))] W ∨ Mm w [(b, dgL sg2 x2 0 T2), (w.heap.size, bv (List.replicate 32 0)), (n6, put8 (bv (128 :: List.replicate 71 0)) t (((8 * l0 : Nat) : Int)) 8), (n27, bv (by4 sg2.a ++ by4 sg2.b ++ by4 sg2.c ++ by4 sg2.d ++ by4 sg2.e ++ by4 sg2.f ++ by4 sg2.g ++ List.replicate 4 0))] W) (by kernel_rfl) rfl (by kernel_rfl) (fun _ _ d _ _ h => by cases d <;> exact h) (by kernel_rfl) (by kernel_rfl) (Or.inl H69.drew) ?_
    have H70d := H69.drew
    clear H69
    refine k_pure (by kernel_rfl) (d := (some 84)) (by kernel_rfl) (v := .slice (some ⟨n27, 24, none⟩) 8 8) (fun _ => by kernel_rfl) ?_
    refine k_pure (by kernel_rfl) (d := (some 85)) (by kernel_rfl) (v := .pointer (some ⟨b, 0, none⟩)) (fun _ => by kernel_rfl) ?_
    refine k_pure (by kernel_rfl) (d := (some 86)) (by kernel_rfl) (v := .pointer (some ⟨b, 0, none⟩)) (fun _ => by kernel_rfl) ?_
    refine k_pure (by kernel_rfl) (d := (some 87)) (by kernel_rfl) (v := .pointer (some ⟨b, 0, none⟩)) (fun _ => by kernel_rfl) ?_
    refine k_pure (by kernel_rfl) (d := (some 88)) (by kernel_rfl) (v := .pointer (some ⟨b, 6, none⟩)) (fun _ => by kernel_rfl) ?_
    refine k_ifR (by kernel_rfl) (d := (some 89)) (by kernel_rfl) (v := .int .u32 sg2.g) (fun _ hs => run_loadA (ty := 40) (x := (.tmp 88)) (a := ⟨b, 6, none⟩) (by kernel_rfl) (by kernel_rfl) Tryd.underlying40 rfl (hs.elim (fun h => (h.at 0 rfl).cell (v := .int .u32 sg2.g) rfl) (fun h => (h.at 0 rfl).cell (v := .int .u32 sg2.g) rfl))) ?_
    refine k_callR (by kernel_rfl) (d := (some 90)) (by kernel_rfl) (f := 23) (args := #[.slice (some ⟨n27, 24, none⟩) 8 8, .int .u32 sg2.g]) (fun _ => by kernel_rfl) (put32_c (off := 24) (n := 8) (x3 := 0) (H70d.at 3 rfl) (by decide) (Nat.le_of_eq rfl) rfl) (fun _ w76 ⟨he76, u76⟩ => ⟨_, he76, (Or.inr (H70d.upd (i := 3) rfl u76)), ?_⟩)
    have H76 : Mm w [(b, dgL sg2 x2 0 T2), (w.heap.size, bv (List.replicate 32 0)), (n6, put8 (bv (128 :: List.replicate 71 0)) t (((8 * l0 : Nat) : Int)) 8), (n27, bv (by4 sg2.a ++ by4 sg2.b ++ by4 sg2.c ++ by4 sg2.d ++ by4 sg2.e ++ by4 sg2.f ++ by4 sg2.g ++ List.replicate 4 0))] w76 := H70d.upd (i := 3) rfl u76
    clear u76 he76 H70d
    refine k_end ?_
    go_simp
    go_upto_region 22 with (fail)
    refine wp_seq_atS (opsAt Tryd.f18 22) ((true, 0) :: (true, 1) :: (true, 2) :: (false, 3) :: (true, 4) :: []) (fun _ => True) (by kernel_rfl) (by kernel_rfl) trivial ?_
    refine k_pure (by kernel_rfl) (d := (some 91)) (by kernel_rfl) (v := .pointer (some ⟨b, 0, none⟩)) (fun _ => by kernel_rfl) ?_
    refine k_pure (by kernel_rfl) (d := (some 92)) (by kernel_rfl) (v := .pointer (some ⟨b, 0, none⟩)) (fun _ => by kernel_rfl) ?_
    refine k_pure (by kernel_rfl) (d := (some 93)) (by kernel_rfl) (v := .pointer (some ⟨b, 74, none⟩)) (fun _ => by kernel_rfl) ?_
    refine k_make (by kernel_rfl) (d := (some 94)) (by kernel_rfl) (v := .bool false) (run_loadA (ty := 4) (x := (.tmp 93)) (a := ⟨b, 74, none⟩) (by kernel_rfl) (by kernel_rfl) Tryd.underlying4 rfl ((H76.at 0 rfl).cell (dgL_is HX2.out))) trivial ?_
    intro w80 hw80 _
    replace hw80 := hw80.symm
    subst hw80
    refine k_pure (by kernel_rfl) (d := (some 95)) (by kernel_rfl) (v := .bool true) (fun _ => by kernel_rfl) ?_
    refine k_end ?_
    go_simp
    go_upto_region 23 with (fail)
    refine wp_region_atS (opsAt Tryd.f18 23) ((true, 0) :: (true, 1) :: (true, 2) :: (true, 3) :: (true, 4) :: (true, 5) :: (false, 6) :: []) (fun W => Mm w [(b, dgL sg2 x2 0 T2), (w.heap.size, bv (List.replicate 32 0)), (n6, put8 (bv (128 :: List.replicate 71 0)) t (((8 * l0 : Nat) : Int)) 8), (n27, bv (by4 sg2.a ++ by4 sg2.b ++ by4 sg2.c ++ by4 sg2.d ++ by4 sg2.e ++ by4 sg2.f ++ by4 sg2.g ++ List.replicate 4 0))] W ∨ Mm w [(b, dgL sg2 x2 0 T2), (w.heap.size, bv (List.replicate 32 0)), (n6, put8 (bv (128 :: List.replicate 71 0)) t (((8 * l0 : Nat) : Int)) 8), (n27, bv (by4 sg2.a ++ by4 sg2.b ++ by4 sg2.c ++ by4 sg2.d ++ by4 sg2.e ++ by4 sg2.f ++ by4 sg2.g ++ by4 sg2.h))] W) (by kernel_rfl) rfl (by kernel_rfl) (fun _ _ d _ _ h => by cases d <;> exact h) (by kernel_rfl) (by kernel_rfl) (Or.inl H76.drew) ?_
    have H82d := H76.drew
    clear H76
    refine k_pure (by kernel_rfl) (d := (some 96)) (by kernel_rfl) (v := .slice (some ⟨n27, 28, none⟩) 4 4) (fun _ => by kernel_rfl) ?_
    refine k_pure (by kernel_rfl) (d := (some 97)) (by kernel_rfl) (v := .pointer (some ⟨b, 0, none⟩)) (fun _ => by kernel_rfl) ?_
    refine k_pure (by kernel_rfl) (d := (some 98)) (by kernel_rfl) (v := .pointer (some ⟨b, 0, none⟩)) (fun _ => by kernel_rfl) ?_
    refine k_pure (by kernel_rfl) (d := (some 99)) (by kernel_rfl) (v := .pointer (some ⟨b, 0, none⟩)) (fun _ => by kernel_rfl) ?_
    refine k_pure (by kernel_rfl) (d := (some 100)) (by kernel_rfl) (v := .pointer (some ⟨b, 7, none⟩)) (fun _ => by kernel_rfl) ?_
    refine k_ifR (by kernel_rfl) (d := (some 101)) (by kernel_rfl) (v := .int .u32 sg2.h) (fun _ hs => run_loadA (ty := 40) (x := (.tmp 100)) (a := ⟨b, 7, none⟩) (by kernel_rfl) (by kernel_rfl) Tryd.underlying40 rfl (hs.elim (fun h => (h.at 0 rfl).cell (v := .int .u32 sg2.h) rfl) (fun h => (h.at 0 rfl).cell (v := .int .u32 sg2.h) rfl))) ?_
    refine k_callR (by kernel_rfl) (d := (some 102)) (by kernel_rfl) (f := 23) (args := #[.slice (some ⟨n27, 28, none⟩) 4 4, .int .u32 sg2.h]) (fun _ => by kernel_rfl) (put32_c (off := 28) (n := 4) (x3 := 0) (H82d.at 3 rfl) (by decide) (Nat.le_of_eq rfl) rfl) (fun _ w88 ⟨he88, u88⟩ => ⟨_, he88, (Or.inr (H82d.upd (i := 3) rfl u88)), ?_⟩)
    have H88 : Mm w [(b, dgL sg2 x2 0 T2), (w.heap.size, bv (List.replicate 32 0)), (n6, put8 (bv (128 :: List.replicate 71 0)) t (((8 * l0 : Nat) : Int)) 8), (n27, bv (by4 sg2.a ++ by4 sg2.b ++ by4 sg2.c ++ by4 sg2.d ++ by4 sg2.e ++ by4 sg2.f ++ by4 sg2.g ++ by4 sg2.h))] w88 := H82d.upd (i := 3) rfl u88
    clear u88 he88 H82d
    refine k_end ?_
    go_simp
    go_upto_region 24 with (fail)
    refine wp_seq_atS (opsAt Tryd.f18 24) ((false, 0) :: (false, 1) :: []) (fun _ => True) (by kernel_rfl) (by kernel_rfl) trivial ?_
    obtain ⟨T89, hT89⟩ := H88.at 3 rfl
    refine k_make (by kernel_rfl) (d := (some 103)) (by kernel_rfl) (v := .agg (bv (by4 sg2.a ++ by4 sg2.b ++ by4 sg2.c ++ by4 sg2.d ++ by4 sg2.e ++ by4 sg2.f ++ by4 sg2.g ++ by4 sg2.h)).toArray) (run_loadRow (ty := 47) (x := (.tmp 7)) (b := n27) (by kernel_rfl) (by kernel_rfl) hT89 Tryd.underlying47 rfl (by kernel_rfl)) trivial ?_
    intro w89 hw89 _
    replace hw89 := hw89.symm
    subst hw89
    clear hT89
    obtain ⟨T90, hT90⟩ := H88.at 1 rfl
    have H90 : Mm w [(b, dgL sg2 x2 0 T2), (w.heap.size, bv (by4 sg2.a ++ by4 sg2.b ++ by4 sg2.c ++ by4 sg2.d ++ by4 sg2.e ++ by4 sg2.f ++ by4 sg2.g ++ by4 sg2.h)), (n6, put8 (bv (128 :: List.replicate 71 0)) t (((8 * l0 : Nat) : Int)) 8), (n27, bv (by4 sg2.a ++ by4 sg2.b ++ by4 sg2.c ++ by4 sg2.d ++ by4 sg2.e ++ by4 sg2.f ++ by4 sg2.g ++ by4 sg2.h))] (w88.setRow w.heap.size (bv (by4 sg2.a ++ by4 sg2.b ++ by4 sg2.c ++ by4 sg2.d ++ by4 sg2.e ++ by4 sg2.f ++ by4 sg2.g ++ by4 sg2.h)).toArray) := H88.row 1 rfl (bv (by4 sg2.a ++ by4 sg2.b ++ by4 sg2.c ++ by4 sg2.d ++ by4 sg2.e ++ by4 sg2.f ++ by4 sg2.g ++ by4 sg2.h))
    refine k_put (by kernel_rfl) (d := none) (by kernel_rfl) (ty := 47) (x := (.tmp 2)) (y := (.tmp 103)) (by kernel_rfl) (g := w.heap.size) (cells := (bv (by4 sg2.a ++ by4 sg2.b ++ by4 sg2.c ++ by4 sg2.d ++ by4 sg2.e ++ by4 sg2.f ++ by4 sg2.g ++ by4 sg2.h)).toArray) (by kernel_rfl) (by kernel_rfl) hT90 (by kernel_rfl) (by kernel_rfl) (bv_all _) trivial ?_
    intro w90 hw90 _
    rw [← hw90] at H90
    clear hw90 hT90 H88
    refine k_end ?_
    go_simp
    obtain ⟨T, hT⟩ := H90.at 1 rfl
    have HF := Lib.hid (H90.end1 (bsC (Nat.le_refl _) (bsC (by show w.heap.size ≤ n6; omega) (bsC (by show w.heap.size ≤ n27; omega) bs0))))
    clear H90
    go_wp2_with fail
    exact bodyPost_ret_by (results_cell_row rfl _ _ (w.heap.size) _ (bv (by4 sg2.a ++ by4 sg2.b ++ by4 sg2.c ++ by4 sg2.d ++ by4 sg2.e ++ by4 sg2.f ++ by4 sg2.g ++ by4 sg2.h)).toArray _ _ rfl hT Tryd.underlying47 rfl (by kernel_rfl)) rfl ⟨by rw [HS.out]; rfl, sg2, x2, T2, HX2.out, HF.out⟩
  · skip
    refine wp_seq_atS (opsAt Tryd.f18 5) ((true, 0) :: (true, 1) :: (true, 2) :: []) (fun _ => True) (by kernel_rfl) (by kernel_rfl) trivial ?_
    refine k_pure (by kernel_rfl) (d := (some 13)) (by kernel_rfl) (v := .int .u64 ((l0 : Nat) : Int)) (fun _ => by kernel_rfl) ?_
    refine k_pure (by kernel_rfl) (d := (some 14)) (by kernel_rfl) (v := .int .u64 ((r : Nat) : Int)) (fun _ => run_binOpV (op := .rem) (x := .tmp 13) (y := .const (.int .u64 64)) (t := 43) (t' := 43) (u := .int .u64 ((l0 : Nat) : Int)) (v := .int .u64 64) (by kernel_rfl) (by kernel_rfl) (by kernel_rfl) rfl (by rw [← HR.out]; exact remU (m := l0) (n := 64) rfl rfl (by decide))) ?_
    refine k_pure (by kernel_rfl) (d := (some 15)) (by kernel_rfl) (v := .bool false) (fun _ => run_binOpV (op := .lss) (x := .tmp 14) (y := .const (.int .u64 56)) (t := 43) (t' := 43) (u := .int .u64 ((r : Nat) : Int)) (v := .int .u64 56) (by kernel_rfl) (by kernel_rfl) (by kernel_rfl) rfl (lssF (by omega))) ?_
    refine k_end ?_
    go_simp
    go_upto_region 7 with (fail)
    refine wp_seq_atS (opsAt Tryd.f18 7) ((true, 0) :: (true, 1) :: (true, 2) :: (true, 3) :: []) (fun _ => True) (by kernel_rfl) (by kernel_rfl) trivial ?_
    refine k_pure (by kernel_rfl) (d := (some 19)) (by kernel_rfl) (v := .int .u64 ((l0 : Nat) : Int)) (fun _ => by kernel_rfl) ?_
    refine k_pure (by kernel_rfl) (d := (some 20)) (by kernel_rfl) (v := .int .u64 ((r : Nat) : Int)) (fun _ => run_binOpV (op := .rem) (x := .tmp 19) (y := .const (.int .u64 64)) (t := 43) (t' := 43) (u := .int .u64 ((l0 : Nat) : Int)) (v := .int .u64 64) (by kernel_rfl) (by kernel_rfl) (by kernel_rfl) rfl (by rw [← HR.out]; exact remU (m := l0) (n := 64) rfl rfl (by decide))) ?_
    refine k_pure (by kernel_rfl) (d := (some 21)) (by kernel_rfl) (v := .int .u64 ((t : Nat) : Int)) (fun _ => run_binOpV (op := .sub) (x := .const (.int .u64 120)) (y := .tmp 20) (t := 43) (t' := 43) (u := .int .u64 120) (v := .int .u64 ((r : Nat) : Int)) (by kernel_rfl) (by kernel_rfl) (by kernel_rfl) rfl (subU64 (by have h1 := HTB.out (by have := HR.out; omega); have := HR.out; omega) (by omega))) ?_
    refine k_pure (by kernel_rfl) (d := (some 5)) (by kernel_rfl) (v := .int .u64 ((t : Nat) : Int)) (fun _ => by kernel_rfl) ?_
    refine k_end ?_
    go_simp
    go_upto_region 8 with (fail)
    refine wp_seq_atS (opsAt Tryd.f18 8) ((true, 0) :: (true, 1) :: (true, 2) :: []) (fun _ => True) (by kernel_rfl) (by kernel_rfl) trivial ?_
    refine k_pure (by kernel_rfl) (d := (some 22)) (by kernel_rfl) (v := .int .u64 ((l0 : Nat) : Int)) (fun _ => by kernel_rfl) ?_
    refine k_pure (by kernel_rfl) (d := (some 23)) (by kernel_rfl) (v := .int .u64 ((8 * l0 : Nat) : Int)) (fun _ => run_binOpV (op := .shl) (x := .tmp 22) (y := .const (.int .u64 3)) (t := 43) (t' := 52) (u := .int .u64 ((l0 : Nat) : Int)) (v := .int .u64 3) (by kernel_rfl) (by kernel_rfl) (by kernel_rfl) rfl ((shlU (y := 3) (n := 3) rfl (by decide)).trans (by rw [show ((l0 : Nat) : Int) * 2 ^ 3 = ((8 * l0 : Nat) : Int) by omega, wrapU64 (by omega)]))) ?_
    refine k_pure (by kernel_rfl) (d := (some 3)) (by kernel_rfl) (v := .int .u64 ((8 * l0 : Nat) : Int)) (fun _ => by kernel_rfl) ?_
    refine k_end ?_
    go_simp
    go_upto_region 9 with (fail)
    refine wp_seq_atS (opsAt Tryd.f18 9) ((true, 0) :: (true, 1) :: (true, 2) :: (true, 3) :: []) (fun _ => True) (by kernel_rfl) (by kernel_rfl) trivial ?_
    refine k_pure (by kernel_rfl) (d := (some 24)) (by kernel_rfl) (v := .int .u64 ((t : Nat) : Int)) (fun _ => by kernel_rfl) ?_
    refine k_pure (by kernel_rfl) (d := (some 25)) (by kernel_rfl) (v := .int .u64 ((t + 8 : Nat) : Int)) (fun _ => run_binOpV (op := .add) (x := .tmp 24) (y := .const (.int .u64 8)) (t := 43) (t' := 43) (u := .int .u64 ((t : Nat) : Int)) (v := .int .u64 8) (by kernel_rfl) (by kernel_rfl) (by kernel_rfl) rfl (addU64 (by omega) (by omega))) ?_
    refine k_pure (by kernel_rfl) (d := (some 26)) (by kernel_rfl) (v := .slice (some ⟨n6, 0, none⟩) (t + 8) 72) (fun _ => run_slOp (x := .tmp 4) (lo := none) (hi := (some (.tmp 25))) (mx := none) (v := .pointer (some ⟨n6, 0, none⟩)) (a := none) (b := (some (.int .u64 ((t + 8 : Nat) : Int)))) (c := none) (by kernel_rfl) (by kernel_rfl) (by kernel_rfl) (by kernel_rfl) (by kernel_rfl) (run_slArr (n := 72) (off := 0) (lo := 0) (hi := t + 8) (k := .u64) Tryd.underlying53 (by kernel_rfl) (by omega) (by omega) (by omega) rfl rfl rfl (.inr ⟨rfl, rfl⟩) (.inl rfl))) ?_
    refine k_pure (by kernel_rfl) (d := (some 6)) (by kernel_rfl) (v := .slice (some ⟨n6, 0, none⟩) (t + 8) 72) (fun _ => by kernel_rfl) ?_
    refine k_end ?_
    go_simp
    go_upto_region 10 with (fail)
    refine wp_seq_atS (opsAt Tryd.f18 10) ((true, 0) :: (true, 1) :: (true, 2) :: (true, 3) :: (true, 4) :: (false, 5) :: []) (fun _ => True) (by kernel_rfl) (by kernel_rfl) trivial ?_
    refine k_pure (by kernel_rfl) (d := (some 27)) (by kernel_rfl) (v := .slice (some ⟨n6, 0, none⟩) (t + 8) 72) (fun _ => by kernel_rfl) ?_
    refine k_pure (by kernel_rfl) (d := (some 28)) (by kernel_rfl) (v := .int .u64 ((t : Nat) : Int)) (fun _ => by kernel_rfl) ?_
    refine k_pure (by kernel_rfl) (d := (some 29)) (by kernel_rfl) (v := .int .u64 ((t : Nat) : Int)) (fun _ => run_binOpV (op := .add) (x := .tmp 28) (y := .const (.int .u64 0)) (t := 43) (t' := 43) (u := .int .u64 ((t : Nat) : Int)) (v := .int .u64 0) (by kernel_rfl) (by kernel_rfl) (by kernel_rfl) rfl (addU64 (by omega) (by omega))) ?_
    refine k_pure (by kernel_rfl) (d := (some 30)) (by kernel_rfl) (v := .slice (some ⟨n6, t, none⟩) 8 ((72 - t))) (fun _ => run_slOp (x := .tmp 27) (lo := (some (.tmp 29))) (hi := none) (mx := none) (v := .slice (some ⟨n6, 0, none⟩) (t + 8) 72) (a := (some (.int .u64 ((t : Nat) : Int)))) (b := none) (c := none) (by kernel_rfl) (by kernel_rfl) (by kernel_rfl) (by kernel_rfl) (by kernel_rfl) (run_slSl (k := .u64) Tryd.underlying24 (by kernel_rfl) (by omega) (by omega) (by omega) (by omega) rfl)) ?_
    refine k_pure (by kernel_rfl) (d := (some 31)) (by kernel_rfl) (v := .int .u64 ((8 * l0 : Nat) : Int)) (fun _ => by kernel_rfl) ?_
    refine k_callR (by kernel_rfl) (d := (some 32)) (by kernel_rfl) (f := 22) (args := #[.slice (some ⟨n6, t, none⟩) 8 ((72 - t)), .int .u64 ((8 * l0 : Nat) : Int)]) (fun _ => by kernel_rfl) (put64_c (off := t) (n := 8) (x7 := 0) (H8.at 2 rfl) (Nat.le_refl _) (by rw [bv_length]; simp only [List.length_cons, List.length_replicate]; omega) (zeros_at (by omega) (by omega))) (fun _ w101 ⟨he101, u101⟩ => ⟨_, he101, trivial, ?_⟩)
    have H101 : Mm w [(b, dgL sg x nx l0), (w.heap.size, bv (List.replicate 32 0)), (n6, put8 (bv (128 :: List.replicate 71 0)) t (((8 * l0 : Nat) : Int)) 8)] w101 := H8.upd (i := 2) rfl u101
    clear u101 he101 H8
    refine k_end ?_
    go_simp
    go_upto_region 11 with (fail)
    refine wp_seq_atS (opsAt Tryd.f18 11) ((true, 0) :: (true, 1) :: (false, 2) :: []) (fun _ => True) (by kernel_rfl) (by kernel_rfl) trivial ?_
    refine k_pure (by kernel_rfl) (d := (some 33)) (by kernel_rfl) (v := .pointer (some ⟨b, 0, none⟩)) (fun _ => by kernel_rfl) ?_
    refine k_pure (by kernel_rfl) (d := (some 34)) (by kernel_rfl) (v := .slice (some ⟨n6, 0, none⟩) (t + 8) 72) (fun _ => by kernel_rfl) ?_
    refine k_callR (by kernel_rfl) (d := (some 35)) (by kernel_rfl) (f := 8) (args := #[.pointer (some ⟨b, 0, none⟩), .slice (some ⟨n6, 0, none⟩) (t + 8) 72]) (fun _ => by kernel_rfl) (write_c (s := s) (nx := nx) (p := pad l0) (by rw [HL0.out]; exact H101.at 0 rfl) HDG.out (pad_rd (H101.at 2 rfl) HT.out) (by rw [HL0.out]; have := pad_len l0; omega) (pad_len l0) (fun e => H101.ne 2 0 _ _ _ _ rfl rfl (by decide) (Option.some.inj e)) (HK.out.out H101 (bsC HB.out (bsC (by show w.heap.size ≠ 0; omega) (bsC (by show n6 ≠ 0; omega) bs0))))) (fun _ w104 ⟨sg2, x2, nx2, he104, hdg2, u104⟩ => ⟨_, he104, trivial, ?_⟩)
    have H104 : Mm w [(b, dgL sg2 x2 nx2 (s.length + (pad l0).length)), (w.heap.size, bv (List.replicate 32 0)), (n6, put8 (bv (128 :: List.replicate 71 0)) t (((8 * l0 : Nat) : Int)) 8)] w104 := H101.upd (i := 0) rfl u104
    clear u104 he104 H101
    refine k_end ?_
    go_simp
    rw [← HL0.out] at hdg2
    obtain ⟨hnx2, hsha⟩ := sha_dg hdg2
    subst hnx2
    have HX2 := Lib.hid hdg2.2.1; have HS := Lib.hid hsha
    clear hdg2 hsha
    obtain ⟨T2, hT2⟩ : ∃ T2, s.length + (pad l0).length = T2 := ⟨_, rfl⟩
    rw [hT2] at H104
    clear hT2
    go_upto_region 12 with (fail)
    refine wp_seq_atS (opsAt Tryd.f18 12) ((true, 0) :: (true, 1) :: (true, 2) :: (false, 3) :: (true, 4) :: []) (fun _ => True) (by kernel_rfl) (by kernel_rfl) trivial ?_
    refine k_pure (by kernel_rfl) (d := (some 36)) (by kernel_rfl) (v := .pointer (some ⟨b, 0, none⟩)) (fun _ => by kernel_rfl) ?_
    refine k_pure (by kernel_rfl) (d := (some 37)) (by kernel_rfl) (v := .pointer (some ⟨b, 0, none⟩)) (fun _ => by kernel_rfl) ?_
    refine k_pure (by kernel_rfl) (d := (some 38)) (by kernel_rfl) (v := .pointer (some ⟨b, 72, none⟩)) (fun _ => by kernel_rfl) ?_
    refine k_make (by kernel_rfl) (d := (some 39)) (by kernel_rfl) (v := .int .i64 0) (run_loadA (ty := 3) (x := (.tmp 38)) (a := ⟨b, 72, none⟩) (by kernel_rfl) (by kernel_rfl) Tryd.underlying3 rfl ((H104.at 0 rfl).cell (dgL_nx (nx := 0) HX2.out))) trivial ?_
    intro w108 hw108 _
    replace hw108 := hw108.symm
    subst hw108
    refine k_pure (by kernel_rfl) (d := (some 40)) (by kernel_rfl) (v := .bool false) (fun _ => run_binOpV (op := .neq) (x := .tmp 39) (y := .const (.int .i64 0)) (t := 3) (t' := 3) (u := .int .i64 0) (v := .int .i64 0) (by kernel_rfl) (by kernel_rfl) (by kernel_rfl) rfl (neqF (rfl))) ?_
    refine k_end ?_
    go_simp
    go_upto_region 14 with (fail)
    refine wp_seq_atS (opsAt Tryd.f18 14) ((false, 0) :: []) (fun _ => True) (by kernel_rfl) (by kernel_rfl) trivial ?_
    obtain ⟨n109, hn109⟩ : ∃ n, w104.heap.size = n := ⟨_, rfl⟩
    have H109 : Mm w [(b, dgL sg2 x2 0 T2), (w.heap.size, bv (List.replicate 32 0)), (n6, put8 (bv (128 :: List.replicate 71 0)) t (((8 * l0 : Nat) : Int)) 8), (n109, bv (List.replicate 32 0))] (w104.alloc (.cells (bv (List.replicate 32 0)).toArray 47)) := H104.new hn109.symm rfl
    have hge109 : w.heap.size ≤ n109 := by rw [← hn109]; exact H104.size
    refine k_make (by kernel_rfl) (d := (some 7)) (by kernel_rfl) (v := .pointer (some ⟨n109, 0, none⟩)) (w' := w104.alloc (.cells (bv (List.replicate 32 0)).toArray 47)) (by rw [← hn109]; kernel_rfl) trivial ?_
    intro w109 hw109 _
    rw [← hw109] at H109
    clear hw109 hn109 H104
    refine k_end ?_
    go_simp
    go_upto_region 15 with (fail)
    refine wp_region_atS (opsAt Tryd.f18 15) ((true, 0) :: (true, 1) :: (true, 2) :: (true, 3) :: (true, 4) :: (true, 5) :: (false, 6) :: []) (fun W => Mm w [(b, dgL sg2 x2 0 T2), (w.heap.size, bv (List.replicate 32 0)), (n6, put8 (bv (128 :: List.replicate 71 0)) t (((8 * l0 : Nat) : Int)) 8), (n109, bv (List.replicate 32 0))] W ∨ Mm w [(b, dgL sg2 x2 0 T2), (w.heap.size, bv (List.replicate 32 0)), (n6, put8 (bv (128 :: List.replicate 71 0)) t (((8 * l0 : Nat) : Int)) 8), (n109, bv (by4 sg2.a ++ List.replicate 28 0))] W) (by kernel_rfl) rfl (by kernel_rfl) (fun _ _ d _ _ h => by cases d <;> exact h) (by kernel_rfl) (by kernel_rfl) (Or.inl H109.drew) ?_
    have H110d := H109.drew
    clear H109
    refine k_pure (by kernel_rfl) (d := (some 42)) (by kernel_rfl) (v := .slice (some ⟨n109, 0, none⟩) 32 32) (fun _ => by kernel_rfl) ?_
    refine k_pure (by kernel_rfl) (d := (some 43)) (by kernel_rfl) (v := .pointer (some ⟨b, 0, none⟩)) (fun _ => by kernel_rfl) ?_
    refine k_pure (by kernel_rfl) (d := (some 44)) (by kernel_rfl) (v := .pointer (some ⟨b, 0, none⟩)) (fun _ => by kernel_rfl) ?_
    refine k_pure (by kernel_rfl) (d := (some 45)) (by kernel_rfl) (v := .pointer (some ⟨b, 0, none⟩)) (fun _ => by kernel_rfl) ?_
    refine k_pure (by kernel_rfl) (d := (some 46)) (by kernel_rfl) (v := .pointer (some ⟨b, 0, none⟩)) (fun _ => by kernel_rfl) ?_
    refine k_ifR (by kernel_rfl) (d := (some 47)) (by kernel_rfl) (v := .int .u32 sg2.a) (fun _ hs => run_loadA (ty := 40) (x := (.tmp 46)) (a := ⟨b, 0, none⟩) (by kernel_rfl) (by kernel_rfl) Tryd.underlying40 rfl (hs.elim (fun h => (h.at 0 rfl).cell (v := .int .u32 sg2.a) rfl) (fun h => (h.at 0 rfl).cell (v := .int .u32 sg2.a) rfl))) ?_
    refine k_callR (by kernel_rfl) (d := (some 48)) (by kernel_rfl) (f := 23) (args := #[.slice (some ⟨n109, 0, none⟩) 32 32, .int .u32 sg2.a]) (fun _ => by kernel_rfl) (put32_c (off := 0) (n := 32) (x3 := 0) (H110d.at 3 rfl) (by decide) (Nat.le_of_eq rfl) rfl) (fun _ w116 ⟨he116, u116⟩ => ⟨_, he116, (Or.inr (H110d.upd (i := 3) rfl u116)), ?_⟩)
    have H116 : Mm w [(b, dgL sg2 x2 0 T2), (w.heap.size, bv (List.replicate 32 0)), (n6, put8 (bv (128 :: List.replicate 71 0)) t (((8 * l0 : Nat) : Int)) 8), (n109, bv (by4 sg2.a ++ List.replicate 28 0))] w116 := H110d.upd (i := 3) rfl u116
    clear u116 he116 H110d
    refine k_end ?_
    go_simp
    go_upto_region 16 with (fail)
    refine wp_region_atS (opsAt Tryd.f18 16) ((true, 0) :: (true, 1) :: (true, 2) :: (true, 3) :: (true, 4) :: (true, 5) :: (false, 6) :: []) (fun W => Mm w [(b, dgL sg2 x2 0 T2), (w.heap.size, bv (List.replicate 32 0)), (n6, put8 (bv (128 :: List.replicate 71 0)) t (((8 * l0 : Nat) : Int)) 8), (n109, bv (by4 sg2.a ++ List.replicate 28 0))] W ∨ Mm w [(b, dgL sg2 x2 0 T2), (w.heap.size, bv (List.replicate 32 0)), (n6, put8 (bv (128 :: List.replicate 71 0)) t (((8 * l0 : Nat) : Int)) 8), (n109, bv (by4 sg2.a ++ by4 sg2.b ++ List.replicate 24 0))] W) (by kernel_rfl) rfl (by kernel_rfl) (fun _ _ d _ _ h => by cases d <;> exact h) (by kernel_rfl) (by kernel_rfl) (Or.inl H116.drew) ?_
    have H117d := H116.drew
    clear H116
    refine k_pure (by kernel_rfl) (d := (some 49)) (by kernel_rfl) (v := .slice (some ⟨n109, 4, none⟩) 28 28) (fun _ => by kernel_rfl) ?_
    refine k_pure (by kernel_rfl) (d := (some 50)) (by kernel_rfl) (v := .pointer (some ⟨b, 0, none⟩)) (fun _ => by kernel_rfl) ?_
    refine k_pure (by kernel_rfl) (d := (some 51)) (by kernel_rfl) (v := .pointer (some ⟨b, 0, none⟩)) (fun _ => by kernel_rfl) ?_
    refine k_pure (by kernel_rfl) (d := (some 52)) (by kernel_rfl) (v := .pointer (some ⟨b, 0, none⟩)) (fun _ => by kernel_rfl) ?_
    refine k_pure (by kernel_rfl) (d := (some 53)) (by kernel_rfl) (v := .pointer (some ⟨b, 1, none⟩)) (fun _ => by kernel_rfl) ?_
    refine k_ifR (by kernel_rfl) (d := (some 54)) (by kernel_rfl) (v := .int .u32 sg2.b) (fun _ hs => run_loadA (ty := 40) (x := (.tmp 53)) (a := ⟨b, 1, none⟩) (by kernel_rfl) (by kernel_rfl) Tryd.underlying40 rfl (hs.elim (fun h => (h.at 0 rfl).cell (v := .int .u32 sg2.b) rfl) (fun h => (h.at 0 rfl).cell (v := .int .u32 sg2.b) rfl))) ?_
    refine k_callR (by kernel_rfl) (d := (some 55)) (by kernel_rfl) (f := 23) (args := #[.slice (some ⟨n109, 4, none⟩) 28 28, .int .u32 sg2.b]) (fun _ => by kernel_rfl) (put32_c (off := 4) (n := 28) (x3 := 0) (H117d.at 3 rfl) (by decide) (Nat.le_of_eq rfl) rfl) (fun _ w123 ⟨he123, u123⟩ => ⟨_, he123, (Or.inr (H117d.upd (i := 3) rfl u123)), ?_⟩)
    have H123 : Mm w [(b, dgL sg2 x2 0 T2), (w.heap.size, bv (List.replicate 32 0)), (n6, put8 (bv (128 :: List.replicate 71 0)) t (((8 * l0 : Nat) : Int)) 8), (n109, bv (by4 sg2.a ++ by4 sg2.b ++ List.replicate 24 0))] w123 := H117d.upd (i := 3) rfl u123
    clear u123 he123 H117d
    refine k_end ?_
    go_simp
    go_upto_region 17 with (fail)
    refine wp_region_atS (opsAt Tryd.f18 17) ((true, 0) :: (true, 1) :: (true, 2) :: (true, 3) :: (true, 4) :: (true, 5) :: (false, 6) :: []) (fun W => Mm w [(b, dgL sg2 x2 0 T2), (w.heap.size, bv (List.replicate 32 0)), (n6, put8 (bv (128 :: List.replicate 71 0)) t (((8 * l0 : Nat) : Int)) 8), (n109, bv (by4 sg2.a ++ by4 sg2.b ++ List.replicate 24 0))] W ∨ Mm w [(b, dgL sg2 x2 0 T2), (w.heap.size, bv (List.replicate 32 0)), (n6, put8 (bv (128 :: List.replicate 71 0)) t (((8 * l0 : Nat) : Int)) 8), (n109, bv (by4 sg2.a ++ by4 sg2.b ++ by4 sg2.c ++ List.replicate 20 0))] W) (by kernel_rfl) rfl (by kernel_rfl) (fun _ _ d _ _ h => by cases d <;> exact h) (by kernel_rfl) (by kernel_rfl) (Or.inl H123.drew) ?_
    have H124d := H123.drew
    clear H123
    refine k_pure (by kernel_rfl) (d := (some 56)) (by kernel_rfl) (v := .slice (some ⟨n109, 8, none⟩) 24 24) (fun _ => by kernel_rfl) ?_
    refine k_pure (by kernel_rfl) (d := (some 57)) (by kernel_rfl) (v := .pointer (some ⟨b, 0, none⟩)) (fun _ => by kernel_rfl) ?_
    refine k_pure (by kernel_rfl) (d := (some 58)) (by kernel_rfl) (v := .pointer (some ⟨b, 0, none⟩)) (fun _ => by kernel_rfl) ?_
    refine k_pure (by kernel_rfl) (d := (some 59)) (by kernel_rfl) (v := .pointer (some ⟨b, 0, none⟩)) (fun _ => by kernel_rfl) ?_
    refine k_pure (by kernel_rfl) (d := (some 60)) (by kernel_rfl) (v := .pointer (some ⟨b, 2, none⟩)) (fun _ => by kernel_rfl) ?_
    refine k_ifR (by kernel_rfl) (d := (some 61)) (by kernel_rfl) (v := .int .u32 sg2.c) (fun _ hs => run_loadA (ty := 40) (x := (.tmp 60)) (a := ⟨b, 2, none⟩) (by kernel_rfl) (by kernel_rfl) Tryd.underlying40 rfl (hs.elim (fun h => (h.at 0 rfl).cell (v := .int .u32 sg2.c) rfl) (fun h => (h.at 0 rfl).cell (v := .int .u32 sg2.c) rfl))) ?_
    refine k_callR (by kernel_rfl) (d := (some 62)) (by kernel_rfl) (f := 23) (args := #[.slice (some ⟨n109, 8, none⟩) 24 24, .int .u32 sg2.c]) (fun _ => by kernel_rfl) (put32_c (off := 8) (n := 24) (x3 := 0) (H124d.at 3 rfl) (by decide) (Nat.le_of_eq rfl) rfl) (fun _ w130 ⟨he130, u130⟩ => ⟨_, he130, (Or.inr (H124d.upd (i := 3) rfl u130)), ?_⟩)
    have H130 : Mm w [(b, dgL sg2 x2 0 T2), (w.heap.size, bv (List.replicate 32 0)), (n6, put8 (bv (128 :: List.replicate 71 0)) t (((8 * l0 : Nat) : Int)) 8), (n109, bv (by4 sg2.a ++ by4 sg2.b ++ by4 sg2.c ++ List.replicate 20 0))] w130 := H124d.upd (i := 3) rfl u130
    clear u130 he130 H124d
    refine k_end ?_
    go_simp
    go_upto_region 18 with (fail)
    refine wp_region_atS (opsAt Tryd.f18 18) ((true, 0) :: (true, 1) :: (true, 2) :: (true, 3) :: (true, 4) :: (true, 5) :: (false, 6) :: []) (fun W => Mm w [(b, dgL sg2 x2 0 T2), (w.heap.size, bv (List.replicate 32 0)), (n6, put8 (bv (128 :: List.replicate 71 0)) t (((8 * l0 : Nat) : Int)) 8), (n109, bv (by4 sg2.a ++ by4 sg2.b ++ by4 sg2.c ++ List.replicate 20 0))] W ∨ Mm w [(b, dgL sg2 x2 0 T2), (w.heap.size, bv (List.replicate 32 0)), (n6, put8 (bv (128 :: List.replicate 71 0)) t (((8 * l0 : Nat) : Int)) 8), (n109, bv (by4 sg2.a ++ by4 sg2.b ++ by4 sg2.c ++ by4 sg2.d ++ List.replicate 16 0))] W) (by kernel_rfl) rfl (by kernel_rfl) (fun _ _ d _ _ h => by cases d <;> exact h) (by kernel_rfl) (by kernel_rfl) (Or.inl H130.drew) ?_
    have H131d := H130.drew
    clear H130
    refine k_pure (by kernel_rfl) (d := (some 63)) (by kernel_rfl) (v := .slice (some ⟨n109, 12, none⟩) 20 20) (fun _ => by kernel_rfl) ?_
    refine k_pure (by kernel_rfl) (d := (some 64)) (by kernel_rfl) (v := .pointer (some ⟨b, 0, none⟩)) (fun _ => by kernel_rfl) ?_
    refine k_pure (by kernel_rfl) (d := (some 65)) (by kernel_rfl) (v := .pointer (some ⟨b, 0, none⟩)) (fun _ => by kernel_rfl) ?_
    refine k_pure (by kernel_rfl) (d := (some 66)) (by kernel_rfl) (v := .pointer (some ⟨b, 0, none⟩)) (fun _ => by kernel_rfl) ?_
    refine k_pure (by kernel_rfl) (d := (some 67)) (by kernel_rfl) (v := .pointer (some ⟨b, 3, none⟩)) (fun _ => by kernel_rfl) ?_
    refine k_ifR (by kernel_rfl) (d := (some 68)) (by kernel_rfl) (v := .int .u32 sg2.d) (fun _ hs => run_loadA (ty := 40) (x := (.tmp 67)) (a := ⟨b, 3, none⟩) (by kernel_rfl) (by kernel_rfl) Tryd.underlying40 rfl (hs.elim (fun h => (h.at 0 rfl).cell (v := .int .u32 sg2.d) rfl) (fun h => (h.at 0 rfl).cell (v := .int .u32 sg2.d) rfl))) ?_
    refine k_callR (by kernel_rfl) (d := (some 69)) (by kernel_rfl) (f := 23) (args := #[.slice (some ⟨n109, 12, none⟩) 20 20, .int .u32 sg2.d]) (fun _ => by kernel_rfl) (put32_c (off := 12) (n := 20) (x3 := 0) (H131d.at 3 rfl) (by decide) (Nat.le_of_eq rfl) rfl) (fun _ w137 ⟨he137, u137⟩ => ⟨_, he137, (Or.inr (H131d.upd (i := 3) rfl u137)), ?_⟩)
    have H137 : Mm w [(b, dgL sg2 x2 0 T2), (w.heap.size, bv (List.replicate 32 0)), (n6, put8 (bv (128 :: List.replicate 71 0)) t (((8 * l0 : Nat) : Int)) 8), (n109, bv (by4 sg2.a ++ by4 sg2.b ++ by4 sg2.c ++ by4 sg2.d ++ List.replicate 16 0))] w137 := H131d.upd (i := 3) rfl u137
    clear u137 he137 H131d
    refine k_end ?_
    go_simp
    go_upto_region 19 with (fail)
    refine wp_region_atS (opsAt Tryd.f18 19) ((true, 0) :: (true, 1) :: (true, 2) :: (true, 3) :: (true, 4) :: (true, 5) :: (false, 6) :: []) (fun W => Mm w [(b, dgL sg2 x2 0 T2), (w.heap.size, bv (List.replicate 32 0)), (n6, put8 (bv (128 :: List.replicate 71 0)) t (((8 * l0 : Nat) : Int)) 8), (n109, bv (by4 sg2.a ++ by4 sg2.b ++ by4 sg2.c ++ by4 sg2.d ++ List.replicate 16 0))] W ∨ Mm w [(b, dgL sg2 x2 0 T2), (w.heap.size, bv (List.replicate 32 0)), (n6, put8 (bv (128 :: List.replicate 71 0)) t (((8 * l0 : Nat) : Int)) 8), (n109, bv (by4 sg2.a ++ by4 sg2.b ++ by4 sg2.c ++ by4 sg2.d ++ by4 sg2.e ++ List.replicate 12 0))] W) (by kernel_rfl) rfl (by kernel_rfl) (fun _ _ d _ _ h => by cases d <;> exact h) (by kernel_rfl) (by kernel_rfl) (Or.inl H137.drew) ?_
    have H138d := H137.drew
    clear H137
    refine k_pure (by kernel_rfl) (d := (some 70)) (by kernel_rfl) (v := .slice (some ⟨n109, 16, none⟩) 16 16) (fun _ => by kernel_rfl) ?_
    refine k_pure (by kernel_rfl) (d := (some 71)) (by kernel_rfl) (v := .pointer (some ⟨b, 0, none⟩)) (fun _ => by kernel_rfl) ?_
    refine k_pure (by kernel_rfl) (d := (some 72)) (by kernel_rfl) (v := .pointer (some ⟨b, 0, none⟩)) (fun _ => by kernel_rfl) ?_
    refine k_pure (by kernel_rfl) (d := (some 73)) (by kernel_rfl) (v := .pointer (some ⟨b, 0, none⟩)) (fun _ => by kernel_rfl) ?_
    refine k_pure (by kernel_rfl) (d := (some 74)) (by kernel_rfl) (v := .pointer (some ⟨b, 4, none⟩)) (fun _ => by kernel_rfl) ?_
    refine k_ifR (by kernel_rfl) (d := (some 75)) (by kernel_rfl) (v := .int .u32 sg2.e) (fun _ hs => run_loadA (ty := 40) (x := (.tmp 74)) (a := ⟨b, 4, none⟩) (by kernel_rfl) (by kernel_rfl) Tryd.underlying40 rfl (hs.elim (fun h => (h.at 0 rfl).cell (v := .int .u32 sg2.e) rfl) (fun h => (h.at 0 rfl).cell (v := .int .u32 sg2.e) rfl))) ?_
    refine k_callR (by kernel_rfl) (d := (some 76)) (by kernel_rfl) (f := 23) (args := #[.slice (some ⟨n109, 16, none⟩) 16 16, .int .u32 sg2.e]) (fun _ => by kernel_rfl) (put32_c (off := 16) (n := 16) (x3 := 0) (H138d.at 3 rfl) (by decide) (Nat.le_of_eq rfl) rfl) (fun _ w144 ⟨he144, u144⟩ => ⟨_, he144, (Or.inr (H138d.upd (i := 3) rfl u144)), ?_⟩)
    have H144 : Mm w [(b, dgL sg2 x2 0 T2), (w.heap.size, bv (List.replicate 32 0)), (n6, put8 (bv (128 :: List.replicate 71 0)) t (((8 * l0 : Nat) : Int)) 8), (n109, bv (by4 sg2.a ++ by4 sg2.b ++ by4 sg2.c ++ by4 sg2.d ++ by4 sg2.e ++ List.replicate 12 0))] w144 := H138d.upd (i := 3) rfl u144
    clear u144 he144 H138d
    refine k_end ?_
    go_simp
    go_upto_region 20 with (fail)
    refine wp_region_atS (opsAt Tryd.f18 20) ((true, 0) :: (true, 1) :: (true, 2) :: (true, 3) :: (true, 4) :: (true, 5) :: (false, 6) :: []) (fun W => Mm w [(b, dgL sg2 x2 0 T2), (w.heap.size, bv (List.replicate 32 0)), (n6, put8 (bv (128 :: List.replicate 71 0)) t (((8 * l0 : Nat) : Int)) 8), (n109, bv (by4 sg2.a ++ by4 sg2.b ++ by4 sg2.c ++ by4 sg2.d ++ by4 sg2.e ++ List.replicate 12 0))] W ∨ Mm w [(b, dgL sg2 x2 0 T2), (w.heap.size, bv (List.replicate 32 0)), (n6, put8 (bv (128 :: List.replicate 71 0)) t (((8 * l0 : Nat) : Int)) 8), (n109, bv (by4 sg2.a ++ by4 sg2.b ++ by4 sg2.c ++ by4 sg2.d ++ by4 sg2.e ++ by4 sg2.f ++ List.replicate 8 0))] W) (by kernel_rfl) rfl (by kernel_rfl) (fun _ _ d _ _ h => by cases d <;> exact h) (by kernel_rfl) (by kernel_rfl) (Or.inl H144.drew) ?_
    have H145d := H144.drew
    clear H144
    refine k_pure (by kernel_rfl) (d := (some 77)) (by kernel_rfl) (v := .slice (some ⟨n109, 20, none⟩) 12 12) (fun _ => by kernel_rfl) ?_
    refine k_pure (by kernel_rfl) (d := (some 78)) (by kernel_rfl) (v := .pointer (some ⟨b, 0, none⟩)) (fun _ => by kernel_rfl) ?_
    refine k_pure (by kernel_rfl) (d := (some 79)) (by kernel_rfl) (v := .pointer (some ⟨b, 0, none⟩)) (fun _ => by kernel_rfl) ?_
    refine k_pure (by kernel_rfl) (d := (some 80)) (by kernel_rfl) (v := .pointer (some ⟨b, 0, none⟩)) (fun _ => by kernel_rfl) ?_
    refine k_pure (by kernel_rfl) (d := (some 81)) (by kernel_rfl) (v := .pointer (some ⟨b, 5, none⟩)) (fun _ => by kernel_rfl) ?_
    refine k_ifR (by kernel_rfl) (d := (some 82)) (by kernel_rfl) (v := .int .u32 sg2.f) (fun _ hs => run_loadA (ty := 40) (x := (.tmp 81)) (a := ⟨b, 5, none⟩) (by kernel_rfl) (by kernel_rfl) Tryd.underlying40 rfl (hs.elim (fun h => (h.at 0 rfl).cell (v := .int .u32 sg2.f) rfl) (fun h => (h.at 0 rfl).cell (v := .int .u32 sg2.f) rfl))) ?_
    refine k_callR (by kernel_rfl) (d := (some 83)) (by kernel_rfl) (f := 23) (args := #[.slice (some ⟨n109, 20, none⟩) 12 12, .int .u32 sg2.f]) (fun _ => by kernel_rfl) (put32_c (off := 20) (n := 12) (x3 := 0) (H145d.at 3 rfl) (by decide) (Nat.le_of_eq rfl) rfl) (fun _ w151 ⟨he151, u151⟩ => ⟨_, he151, (Or.inr (H145d.upd (i := 3) rfl u151)), ?_⟩)
    have H151 : Mm w [(b, dgL sg2 x2 0 T2), (w.heap.size, bv (List.replicate 32 0)), (n6, put8 (bv (128 :: List.replicate 71 0)) t (((8 * l0 : Nat) : Int)) 8), (n109, bv (by4 sg2.a ++ by4 sg2.b ++ by4 sg2.c ++ by4 sg2.d ++ by4 sg2.e ++ by4 sg2.f ++ List.replicate 8 0))] w151 := H145d.upd (i := 3) rfl u151
    clear u151 he151 H145d
    refine k_end ?_
    go_simp
    go_upto_region 21 with (fail)
    refine wp_region_atS (opsAt Tryd.f18 21) ((true, 0) :: (true, 1) :: (true, 2) :: (true, 3) :: (true, 4) :: (true, 5) :: (false, 6) :: []) (fun W => Mm w [(b, dgL sg2 x2 0 T2), (w.heap.size, bv (List.replicate 32 0)), (n6, put8 (bv (128 :: List.replicate 71 0)) t (((8 * l0 : Nat) : Int)) 8), (n109, bv (by4 sg2.a ++ by4 sg2.b ++ by4 sg2.c ++ by4 sg2.d ++ by4 sg2.e ++ by4 sg2.f ++ List.replicate 8 0))] W ∨ Mm w [(b, dgL sg2 x2 0 T2), (w.heap.size, bv (List.replicate 32 0)), (n6, put8 (bv (128 :: List.replicate 71 0)) t (((8 * l0 : Nat) : Int)) 8), (n109, bv (by4 sg2.a ++ by4 sg2.b ++ by4 sg2.c ++ by4 sg2.d ++ by4 sg2.e ++ by4 sg2.f ++ by4 sg2.g ++ List.replicate 4 0))] W) (by kernel_rfl) rfl (by kernel_rfl) (fun _ _ d _ _ h => by cases d <;> exact h) (by kernel_rfl) (by kernel_rfl) (Or.inl H151.drew) ?_
    have H152d := H151.drew
    clear H151
    refine k_pure (by kernel_rfl) (d := (some 84)) (by kernel_rfl) (v := .slice (some ⟨n109, 24, none⟩) 8 8) (fun _ => by kernel_rfl) ?_
    refine k_pure (by kernel_rfl) (d := (some 85)) (by kernel_rfl) (v := .pointer (some ⟨b, 0, none⟩)) (fun _ => by kernel_rfl) ?_
    refine k_pure (by kernel_rfl) (d := (some 86)) (by kernel_rfl) (v := .pointer (some ⟨b, 0, none⟩)) (fun _ => by kernel_rfl) ?_
    refine k_pure (by kernel_rfl) (d := (some 87)) (by kernel_rfl) (v := .pointer (some ⟨b, 0, none⟩)) (fun _ => by kernel_rfl) ?_
    refine k_pure (by kernel_rfl) (d := (some 88)) (by kernel_rfl) (v := .pointer (some ⟨b, 6, none⟩)) (fun _ => by kernel_rfl) ?_
    refine k_ifR (by kernel_rfl) (d := (some 89)) (by kernel_rfl) (v := .int .u32 sg2.g) (fun _ hs => run_loadA (ty := 40) (x := (.tmp 88)) (a := ⟨b, 6, none⟩) (by kernel_rfl) (by kernel_rfl) Tryd.underlying40 rfl (hs.elim (fun h => (h.at 0 rfl).cell (v := .int .u32 sg2.g) rfl) (fun h => (h.at 0 rfl).cell (v := .int .u32 sg2.g) rfl))) ?_
    refine k_callR (by kernel_rfl) (d := (some 90)) (by kernel_rfl) (f := 23) (args := #[.slice (some ⟨n109, 24, none⟩) 8 8, .int .u32 sg2.g]) (fun _ => by kernel_rfl) (put32_c (off := 24) (n := 8) (x3 := 0) (H152d.at 3 rfl) (by decide) (Nat.le_of_eq rfl) rfl) (fun _ w158 ⟨he158, u158⟩ => ⟨_, he158, (Or.inr (H152d.upd (i := 3) rfl u158)), ?_⟩)
    have H158 : Mm w [(b, dgL sg2 x2 0 T2), (w.heap.size, bv (List.replicate 32 0)), (n6, put8 (bv (128 :: List.replicate 71 0)) t (((8 * l0 : Nat) : Int)) 8), (n109, bv (by4 sg2.a ++ by4 sg2.b ++ by4 sg2.c ++ by4 sg2.d ++ by4 sg2.e ++ by4 sg2.f ++ by4 sg2.g ++ List.replicate 4 0))] w158 := H152d.upd (i := 3) rfl u158
    clear u158 he158 H152d
    refine k_end ?_
    go_simp
    go_upto_region 22 with (fail)
    refine wp_seq_atS (opsAt Tryd.f18 22) ((true, 0) :: (true, 1) :: (true, 2) :: (false, 3) :: (true, 4) :: []) (fun _ => True) (by kernel_rfl) (by kernel_rfl) trivial ?_
    refine k_pure (by kernel_rfl) (d := (some 91)) (by kernel_rfl) (v := .pointer (some ⟨b, 0, none⟩)) (fun _ => by kernel_rfl) ?_
    refine k_pure (by kernel_rfl) (d := (some 92)) (by kernel_rfl) (v := .pointer (some ⟨b, 0, none⟩)) (fun _ => by kernel_rfl) ?_
    refine k_pure (by kernel_rfl) (d := (some 93)) (by kernel_rfl) (v := .pointer (some ⟨b, 74, none⟩)) (fun _ => by kernel_rfl) ?_
    refine k_make (by kernel_rfl) (d := (some 94)) (by kernel_rfl) (v := .bool false) (run_loadA (ty := 4) (x := (.tmp 93)) (a := ⟨b, 74, none⟩) (by kernel_rfl) (by kernel_rfl) Tryd.underlying4 rfl ((H158.at 0 rfl).cell (dgL_is HX2.out))) trivial ?_
    intro w162 hw162 _
    replace hw162 := hw162.symm
    subst hw162
    refine k_pure (by kernel_rfl) (d := (some 95)) (by kernel_rfl) (v := .bool true) (fun _ => by kernel_rfl) ?_
    refine k_end ?_
    go_simp
    go_upto_region 23 with (fail)
    refine wp_region_atS (opsAt Tryd.f18 23) ((true, 0) :: (true, 1) :: (true, 2) :: (true, 3) :: (true, 4) :: (true, 5) :: (false, 6) :: []) (fun W => Mm w [(b, dgL sg2 x2 0 T2), (w.heap.size, bv (List.replicate 32 0)), (n6, put8 (bv (128 :: List.replicate 71 0)) t (((8 * l0 : Nat) : Int)) 8), (n109, bv (by4 sg2.a ++ by4 sg2.b ++ by4 sg2.c ++ by4 sg2.d ++ by4 sg2.e ++ by4 sg2.f ++ by4 sg2.g ++ List.replicate 4 0))] W ∨ Mm w [(b, dgL sg2 x2 0 T2), (w.heap.size, bv (List.replicate 32 0)), (n6, put8 (bv (128 :: List.replicate 71 0)) t (((8 * l0 : Nat) : Int)) 8), (n109, bv (by4 sg2.a ++ by4 sg2.b ++ by4 sg2.c ++ by4 sg2.d ++ by4 sg2.e ++ by4 sg2.f ++ by4 sg2.g ++ by4 sg2.h))] W) (by kernel_rfl) rfl (by kernel_rfl) (fun _ _ d _ _ h => by cases d <;> exact h) (by kernel_rfl) (by kernel_rfl) (Or.inl H158.drew) ?_
    have H164d := H158.drew
    clear H158
    refine k_pure (by kernel_rfl) (d := (some 96)) (by kernel_rfl) (v := .slice (some ⟨n109, 28, none⟩) 4 4) (fun _ => by kernel_rfl) ?_
    refine k_pure (by kernel_rfl) (d := (some 97)) (by kernel_rfl) (v := .pointer (some ⟨b, 0, none⟩)) (fun _ => by kernel_rfl) ?_
    refine k_pure (by kernel_rfl) (d := (some 98)) (by kernel_rfl) (v := .pointer (some ⟨b, 0, none⟩)) (fun _ => by kernel_rfl) ?_
    refine k_pure (by kernel_rfl) (d := (some 99)) (by kernel_rfl) (v := .pointer (some ⟨b, 0, none⟩)) (fun _ => by kernel_rfl) ?_
    refine k_pure (by kernel_rfl) (d := (some 100)) (by kernel_rfl) (v := .pointer (some ⟨b, 7, none⟩)) (fun _ => by kernel_rfl) ?_
    refine k_ifR (by kernel_rfl) (d := (some 101)) (by kernel_rfl) (v := .int .u32 sg2.h) (fun _ hs => run_loadA (ty := 40) (x := (.tmp 100)) (a := ⟨b, 7, none⟩) (by kernel_rfl) (by kernel_rfl) Tryd.underlying40 rfl (hs.elim (fun h => (h.at 0 rfl).cell (v := .int .u32 sg2.h) rfl) (fun h => (h.at 0 rfl).cell (v := .int .u32 sg2.h) rfl))) ?_
    refine k_callR (by kernel_rfl) (d := (some 102)) (by kernel_rfl) (f := 23) (args := #[.slice (some ⟨n109, 28, none⟩) 4 4, .int .u32 sg2.h]) (fun _ => by kernel_rfl) (put32_c (off := 28) (n := 4) (x3 := 0) (H164d.at 3 rfl) (by decide) (Nat.le_of_eq rfl) rfl) (fun _ w170 ⟨he170, u170⟩ => ⟨_, he170, (Or.inr (H164d.upd (i := 3) rfl u170)), ?_⟩)
    have H170 : Mm w [(b, dgL sg2 x2 0 T2), (w.heap.size, bv (List.replicate 32 0)), (n6, put8 (bv (128 :: List.replicate 71 0)) t (((8 * l0 : Nat) : Int)) 8), (n109, bv (by4 sg2.a ++ by4 sg2.b ++ by4 sg2.c ++ by4 sg2.d ++ by4 sg2.e ++ by4 sg2.f ++ by4 sg2.g ++ by4 sg2.h))] w170 := H164d.upd (i := 3) rfl u170
    clear u170 he170 H164d
    refine k_end ?_
    go_simp
    go_upto_region 24 with (fail)
    refine wp_seq_atS (opsAt Tryd.f18 24) ((false, 0) :: (false, 1) :: []) (fun _ => True) (by kernel_rfl) (by kernel_rfl) trivial ?_
    obtain ⟨T171, hT171⟩ := H170.at 3 rfl
    refine k_make (by kernel_rfl) (d := (some 103)) (by kernel_rfl) (v := .agg (bv (by4 sg2.a ++ by4 sg2.b ++ by4 sg2.c ++ by4 sg2.d ++ by4 sg2.e ++ by4 sg2.f ++ by4 sg2.g ++ by4 sg2.h)).toArray) (run_loadRow (ty := 47) (x := (.tmp 7)) (b := n109) (by kernel_rfl) (by kernel_rfl) hT171 Tryd.underlying47 rfl (by kernel_rfl)) trivial ?_
    intro w171 hw171 _
    replace hw171 := hw171.symm
    subst hw171
    clear hT171
    obtain ⟨T172, hT172⟩ := H170.at 1 rfl
    have H172 : Mm w [(b, dgL sg2 x2 0 T2), (w.heap.size, bv (by4 sg2.a ++ by4 sg2.b ++ by4 sg2.c ++ by4 sg2.d ++ by4 sg2.e ++ by4 sg2.f ++ by4 sg2.g ++ by4 sg2.h)), (n6, put8 (bv (128 :: List.replicate 71 0)) t (((8 * l0 : Nat) : Int)) 8), (n109, bv (by4 sg2.a ++ by4 sg2.b ++ by4 sg2.c ++ by4 sg2.d ++ by4 sg2.e ++ by4 sg2.f ++ by4 sg2.g ++ by4 sg2.h))] (w170.setRow w.heap.size (bv (by4 sg2.a ++ by4 sg2.b ++ by4 sg2.c ++ by4 sg2.d ++ by4 sg2.e ++ by4 sg2.f ++ by4 sg2.g ++ by4 sg2.h)).toArray) := H170.row 1 rfl (bv (by4 sg2.a ++ by4 sg2.b ++ by4 sg2.c ++ by4 sg2.d ++ by4 sg2.e ++ by4 sg2.f ++ by4 sg2.g ++ by4 sg2.h))
    refine k_put (by kernel_rfl) (d := none) (by kernel_rfl) (ty := 47) (x := (.tmp 2)) (y := (.tmp 103)) (by kernel_rfl) (g := w.heap.size) (cells := (bv (by4 sg2.a ++ by4 sg2.b ++ by4 sg2.c ++ by4 sg2.d ++ by4 sg2.e ++ by4 sg2.f ++ by4 sg2.g ++ by4 sg2.h)).toArray) (by kernel_rfl) (by kernel_rfl) hT172 (by kernel_rfl) (by kernel_rfl) (bv_all _) trivial ?_
    intro w172 hw172 _
    rw [← hw172] at H172
    clear hw172 hT172 H170
    refine k_end ?_
    go_simp
    obtain ⟨T, hT⟩ := H172.at 1 rfl
    have HF := Lib.hid (H172.end1 (bsC (Nat.le_refl _) (bsC (by show w.heap.size ≤ n6; omega) (bsC (by show w.heap.size ≤ n109; omega) bs0))))
    clear H172
    go_wp2_with fail
    exact bodyPost_ret_by (results_cell_row rfl _ _ (w.heap.size) _ (bv (by4 sg2.a ++ by4 sg2.b ++ by4 sg2.c ++ by4 sg2.d ++ by4 sg2.e ++ by4 sg2.f ++ by4 sg2.g ++ by4 sg2.h)).toArray _ _ rfl hT Tryd.underlying47 rfl (by kernel_rfl)) rfl ⟨by rw [HS.out]; rfl, sg2, x2, T2, HX2.out, HF.out⟩

set_option maxRecDepth 100000 in
set_option maxHeartbeats 1000000 in
theorem sum_c {w : World} {b nx : Nat} {sg : St} {s x : List Int} (hD : Bl w b (dgL sg x nx s.length)) (hdg : Dg s sg x nx) (hl : s.length ≤ 4096) (hK : Bl w 0 (wv kc)) :
    Calls Tryd.prog 10 #[.pointer (some ⟨b, 0, none⟩), .slice none 0 0] w fun e w' => ∃ v', e = .returned v' ∧ Ow w' w.heap.size 5 .u8 v' (sha s) ∧ Below w.heap.size w w' := by
  have HX := Lib.hid hdg.2.1; have hkl := hK.lt; have hshl : (sha s).length = 32 := rfl
  have HDB := Lib.hid hD; have HDG := Lib.hid hdg; have HK := Lib.hid hK; have HSL := Lib.hid hshl
  clear hD hdg hK hshl
  go_enter Tryd.func10, Tryd.ntmps10
  go_upto_region 1 with (fail)
  have H0 : Mm w [] w := (Mm.zero w)
  refine wp_seq_atS (opsAt Tryd.f10 1) ((true, 0) :: (true, 1) :: (false, 2) :: (false, 3) :: (false, 4) :: []) (fun _ => True) (by kernel_rfl) (by kernel_rfl) trivial ?_
  refine k_pure (by kernel_rfl) (d := (some 7)) (by kernel_rfl) (v := .pointer (some ⟨b, 0, none⟩)) (fun _ => by kernel_rfl) ?_
  refine k_pure (by kernel_rfl) (d := (some 8)) (by kernel_rfl) (v := .pointer (some ⟨b, 0, none⟩)) (fun _ => by kernel_rfl) ?_
  obtain ⟨T3, hT3⟩ : Bl w b (dgL sg x nx s.length) := HDB.out
  refine k_make (by kernel_rfl) (d := (some 9)) (by kernel_rfl) (v := .agg (dgL sg x nx s.length).toArray) (run_loadRow (ty := 45) (x := (.tmp 8)) (b := b) (by kernel_rfl) (by kernel_rfl) hT3 Tryd.underlying45 rfl (by rw [show (dgL sg x nx s.length).toArray.size = 75 from dgL_length HX.out]; kernel_rfl)) trivial ?_
  intro w3 hw3 _
  replace hw3 := hw3.symm
  subst hw3
  clear hT3
  obtain ⟨n4, hn4⟩ : ∃ n, w.heap.size = n := ⟨_, rfl⟩
  have H4 : Mm w [(n4, wv (List.replicate 8 0) ++ dgR (List.replicate 64 0) 0 0)] (w.alloc (.cells (wv (List.replicate 8 0) ++ dgR (List.replicate 64 0) 0 0).toArray 45)) := H0.new hn4.symm rfl
  have hge4 : w.heap.size ≤ n4 := by rw [← hn4]; exact H0.size
  refine k_make (by kernel_rfl) (d := (some 5)) (by kernel_rfl) (v := .pointer (some ⟨n4, 0, none⟩)) (w' := w.alloc (.cells (wv (List.replicate 8 0) ++ dgR (List.replicate 64 0) 0 0).toArray 45)) (by rw [← hn4]; kernel_rfl) trivial ?_
  intro w4 hw4 _
  rw [← hw4] at H4
  clear hw4 hn4 H0
  obtain ⟨T5, hT5⟩ := H4.at 0 rfl
  have H5 : Mm w [(n4, dgL sg x nx s.length)] (w4.setRow n4 (dgL sg x nx s.length).toArray) := H4.row 0 rfl (dgL sg x nx s.length)
  refine k_put (by kernel_rfl) (d := none) (by kernel_rfl) (ty := 45) (x := (.tmp 5)) (y := (.tmp 9)) (by kernel_rfl) (g := n4) (cells := (dgL sg x nx s.length).toArray) (by kernel_rfl) (by kernel_rfl) hT5 (by rw [show (dgL sg x nx s.length).toArray.size = 75 from dgL_length HX.out]; kernel_rfl) (show 75 = (dgL sg x nx s.length).length from (dgL_length HX.out).symm) dgL_all trivial ?_
  intro w5 hw5 _
  rw [← hw5] at H5
  clear hw5 hT5 H4
  refine k_end ?_
  go_simp
  go_upto_region 2 with (fail)
  refine wp_seq_atS (opsAt Tryd.f10 2) ((false, 0) :: (false, 1) :: (false, 2) :: []) (fun _ => True) (by kernel_rfl) (by kernel_rfl) trivial ?_
  refine k_callR (by kernel_rfl) (d := (some 10)) (by kernel_rfl) (f := 18) (args := #[.pointer (some ⟨n4, 0, none⟩)]) (fun _ => by kernel_rfl) (checkSum_c (s := s) (H5.at 0 rfl) HDG.out hl (HK.out.out H5 (bsC (by show n4 ≠ 0; omega) bs0))) (fun _ w6 ⟨he6, sg2, x2, T2, hx2, u6⟩ => ⟨_, he6, trivial, ?_⟩)
  have H6 : Mm w [(n4, dgL sg2 x2 0 T2)] w6 := H5.upd (i := 0) rfl u6
  clear u6 he6 H5
  obtain ⟨n7, hn7⟩ : ∃ n, w6.heap.size = n := ⟨_, rfl⟩
  have H7 : Mm w [(n4, dgL sg2 x2 0 T2), (n7, bv (List.replicate 32 0))] (w6.alloc (.cells (bv (List.replicate 32 0)).toArray 47)) := H6.new hn7.symm rfl
  have hge7 : w.heap.size ≤ n7 := by rw [← hn7]; exact H6.size
  refine k_make (by kernel_rfl) (d := (some 6)) (by kernel_rfl) (v := .pointer (some ⟨n7, 0, none⟩)) (w' := w6.alloc (.cells (bv (List.replicate 32 0)).toArray 47)) (by rw [← hn7]; kernel_rfl) trivial ?_
  intro w7 hw7 _
  rw [← hw7] at H7
  clear hw7 hn7 H6
  obtain ⟨T8, hT8⟩ := H7.at 1 rfl
  have H8 : Mm w [(n4, dgL sg2 x2 0 T2), (n7, bv (sha s))] (w7.setRow n7 (bv (sha s)).toArray) := H7.row 1 rfl (bv (sha s))
  refine k_put (by kernel_rfl) (d := none) (by kernel_rfl) (ty := 47) (x := (.tmp 6)) (y := (.tmp 10)) (by kernel_rfl) (g := n7) (cells := (bv (sha s)).toArray) (by kernel_rfl) (by kernel_rfl) hT8 (by rw [show (bv (sha s)).toArray.size = 32 from bv_length.trans HSL.out]; kernel_rfl) (show 32 = (bv (sha s)).length from (bv_length.trans HSL.out).symm) (bv_all _) trivial ?_
  intro w8 hw8 _
  rw [← hw8] at H8
  clear hw8 hT8 H7
  refine k_end ?_
  go_simp
  go_upto_region 3 with (fail)
  have HX2 := Lib.hid hx2
  clear hx2
  refine wp_seq_atS (opsAt Tryd.f10 3) ((true, 0) :: (false, 1) :: []) (fun _ => True) (by kernel_rfl) (by kernel_rfl) trivial ?_
  refine k_pure (by kernel_rfl) (d := (some 11)) (by kernel_rfl) (v := .pointer (some ⟨n4, 74, none⟩)) (fun _ => by kernel_rfl) ?_
  refine k_make (by kernel_rfl) (d := (some 12)) (by kernel_rfl) (v := .bool false) (run_loadA (ty := 4) (x := (.tmp 11)) (a := ⟨n4, 74, none⟩) (by kernel_rfl) (by kernel_rfl) Tryd.underlying4 rfl ((H8.at 0 rfl).cell (dgL_is HX2.out))) trivial ?_
  intro w10 hw10 _
  replace hw10 := hw10.symm
  subst hw10
  refine k_end ?_
  go_simp
  go_upto_region 5 with (fail)
  refine wp_seq_atS (opsAt Tryd.f10 5) ((true, 0) :: (true, 1) :: (false, 2) :: (true, 3) :: []) (fun _ => True) (by kernel_rfl) (by kernel_rfl) trivial ?_
  refine k_pure (by kernel_rfl) (d := (some 16)) (by kernel_rfl) (v := .slice none 0 0) (fun _ => by kernel_rfl) ?_
  refine k_pure (by kernel_rfl) (d := (some 17)) (by kernel_rfl) (v := .slice (some ⟨n7, 0, none⟩) 32 32) (fun _ => by kernel_rfl) ?_
  obtain ⟨i12, hi12, hz12, hs12, hy12⟩ := info_parts (P := Tryd.prog) (e := 5) (z := .int .u8 0) (size := 1) (bytes := 1) (by kernel_rfl)
  have hrd12 : Rd w8 .u8 (.slice (some ⟨n7, 0, none⟩) 32 32) (sha s) := (H8.at 1 rfl).rd (by rw [HSL.out]) (Nat.le_refl _) (fun j x hj => by rw [Nat.zero_add]; exact bv_get hj)
  obtain ⟨v12, wz12, hr12, ho12, hg12⟩ := run_app (P := Tryd.prog) (w := w8) (base := w.heap.size) (k := .u8) (e := 5) (v := .slice none 0 0) (l := []) (m := sha s) (t := 24) (ty := 24) Tryd.underlying24 hi12 hz12 hs12 hy12 (by decide) Ow.nil hrd12 (by rw [HSL.out]; decide) H8.size
  refine k_make (by kernel_rfl) (d := (some 18)) (by kernel_rfl) (v := v12) (run_appOp (x := .tmp 16) (y := .tmp 17) (by kernel_rfl) (by kernel_rfl) (by kernel_rfl) hr12) trivial ?_
  intro w12 hw12 _
  subst hw12
  have HO := Lib.hid ho12
  have HB := Lib.hid (below_grown (H8.below (bsC (by show w.heap.size ≤ n4; omega) (bsC (by show w.heap.size ≤ n7; omega) bs0))) H8.size hg12 (fun b hb => by cases hb))
  clear ho12 hg12 hr12 hrd12 H8
  refine k_pure (by kernel_rfl) (d := (some 4)) (by kernel_rfl) (v := v12) (fun _ => by kernel_rfl) ?_
  refine k_end ?_
  go_simp
  go_wp2_with fail
  exact bodyPost_ret_by (by kernel_rfl) (by kernel_rfl) ⟨v12, rfl, HO.out, HB.out⟩
end Go.Proofs.YtkmofjefjbhbhaaDoor
