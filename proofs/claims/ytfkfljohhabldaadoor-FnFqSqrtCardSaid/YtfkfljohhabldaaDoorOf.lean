/- The reference's numbers of bytes, and bytes of numbers. -/
import Derived.Test.YtfkfljohhabldaaDoorSettle
namespace Go.Proofs.YtfkfljohhabldaaDoor
open Go.RowKit Go.FourQ

theorem results_fps1 {P : Program} {w : World} {fn : Func} {p : Tmp} {ty : TypeId} (h : fn.results = #[.cell p ty]) (tmps : Array Value) (g : Nat) (x : Nat) (d : TypeDesc)
    (hp : tmps.getD p undef = .pointer (some ⟨g, 0, none⟩)) (hg : Fps w g [x])
    (hu : P.underlying ty = some d) (hd : (match d with | .struct _ | .array _ _ => true | _ => false) = true) (hi : (P.info? ty).map (·.size) = some 16) :
    (results fn tmps).run P w = .ok (.agg (fpC x)) w := by
  rw [← fps_one]
  exact results_fps h tmps g [x] d hp hg hu hd hi

theorem shl_by (b k : Nat) (hb : b < 256) : ∃ e : Nat, e = b * 256 ^ (k % 2) ∧ e < 65536 := by
  refine ⟨_, rfl, ?_⟩
  rcases (by omega : k % 2 = 0 ∨ k % 2 = 1) with h | h <;> rw [h] <;> omega

set_option maxRecDepth 100000 in
set_option maxHeartbeats 4000000 in
theorem of_c (w : World) (x : Nat) (hx : x < 256 ^ 16) :
    Calls Tryd.prog 12 #[.agg (fpC x)] w fun e w' => e = .returned (.agg (dgA (digs 8 (x % pp)))) ∧ Below w.heap.size w w' := by
  have HX := Lib.hid hx
  clear hx
  go_enter Tryd.func12, Tryd.ntmps12
  go_wp2_with (refine wpList_load_row rfl 22 _ rfl w.heap.size rfl _ (fpC x) _ _ (hp3_0 _ _ _) Tryd.underlying22 rfl (by kernel_rfl) ?_)
  go_loopw [8] (fun i wr => ∃ k : Nat, k ≤ 16 ∧ i = .int .i64 k ∧ Ds wr (w.heap.size + 1) (digs 8 0) ∧ Ds wr (w.heap.size + 1 + 1) (digs 8 (x % 256 ^ k)) ∧ Below w.heap.size w wr ∧ w.heap.size + 1 + 1 < wr.heap.size) (fun i _ => 16 - (intOf i).toNat)
  case atStart =>
    refine ⟨0, by decide, rfl, ?_, ?_, ?_, by simp⟩
    · exact (Ds.new _ (digs 8 0) _ _ _ (by simp) zero_digs.symm).alloc _
    · rw [Nat.pow_zero, Nat.mod_one]; exact Ds.new _ (digs 8 0) _ _ _ (by simp) zero_digs.symm
    · exact (((Below.refl _ _).alloc (Nat.le_refl _) _).alloc (by simp) _).alloc (by simp; omega) _
  case round =>
    obtain ⟨k, hk, rfl, hz, hd, hbel, hsz⟩ := hrel
    by_cases hlt : k < 16
    · obtain ⟨s1, s2, s3, s4⟩ := of_step x k hlt
      have hget := digs_get 8 (x % 256 ^ k) (k / 2) (by omega)
      have hcell := hd.cell hget
      have hfree := hd.free (k / 2)
      have hidx := fun wx => run_index_one (P := Tryd.prog) (k := .i64) Tryd.underlying22 Tryd.underlying5 rfl (by kernel_rfl) hlt (fpC_get x k hlt) wx
      unfold byteV at hidx
      obtain ⟨d, hd'⟩ : ∃ d, x % 256 ^ k / 65536 ^ (k / 2) % 65536 = d := ⟨_, rfl⟩
      obtain ⟨b, hb', hbb⟩ : ∃ b, x / 256 ^ k % 256 = b ∧ b < 256 := ⟨_, rfl, Nat.mod_lt _ (by decide)⟩
      rw [hd', hb'] at s3 s4
      rw [hd'] at hcell s1
      rw [hb'] at hidx s2
      have HS := Lib.hid (And.intro s3 s4); have HD := Lib.hid hd
      clear s2 s3 s4 hd hget hd' hb'
      obtain ⟨i, hi⟩ : ∃ i, k / 2 = i := ⟨_, rfl⟩
      rw [hi] at hcell hfree HS
      have hi2 : i < 8 := by omega
      have hiq : (k : Int) / 2 = (i : Int) := by omega
      have hwi : IntKind.i64.wrap (i : Int) = (i : Int) := IntWalk.i64_in _ ⟨by omega, by omega⟩
      have hwb : IntKind.u64.wrap (b : Int) = (b : Int) := by rw [IntKind.wrap_u64]; omega
      have hi3 : (i : Int) < 8 := by omega
      have HI := Lib.hid hi
      rcases (by omega : k % 2 = 0 ∨ k % 2 = 1) with h2 | h2
      · rw [h2, Nat.pow_zero, Nat.mul_one] at HS
        have hir : (k : Int).tmod 2 = 0 := by rw [Int.tmod_eq_emod_of_nonneg (by omega)]; omega
        have h80 : IntKind.i64.wrap 0 = 0 := by rfl
        obtain ⟨n, hn⟩ : ∃ n, d + b = n := ⟨_, rfl⟩
        have hwn : IntKind.u64.wrap ((d : Int) + (b : Int)) = (n : Int) := by rw [IntKind.wrap_u64]; omega
        rw [hn] at HS
        have HB := Lib.hid hbb; have HN := Lib.hid hn
        clear hi h2 hbb s1 hn
        go_wp2_with fail
        go_still_tail 14, (by kernel_rfl)
        change wpList _ _ _ _ _ wr.drew
        go_wp2_with fail
        refine ⟨⟨k + 1, by omega, by go_num, ?_, ?_, ?_, ?_⟩, by simp [intOf]; omega⟩
        · exact hz.setOther (w := wr) i (.int .u64 (n : Int)) (by omega)
        · rw [← HS.out.2]; exact HD.out.set (w := wr) i n
        · exact (hbel.setCell (p := ⟨w.heap.size + 1 + 1, i, none⟩) (by simp; omega) _).drew
        · simpa using hsz
      · rw [h2, Nat.pow_one] at HS
        have hir : (k : Int).tmod 2 = 1 := by rw [Int.tmod_eq_emod_of_nonneg (by omega)]; omega
        have h80 : IntKind.i64.wrap 8 = 8 := by rfl
        obtain ⟨e, he⟩ : ∃ e, b * 256 = e := ⟨_, rfl⟩
        have hwe : IntKind.u64.wrap ((b : Int) * 256) = (e : Int) := by rw [IntKind.wrap_u64]; omega
        obtain ⟨n, hn⟩ : ∃ n, d + e = n := ⟨_, rfl⟩
        have hwn : IntKind.u64.wrap ((d : Int) + (e : Int)) = (n : Int) := by rw [IntKind.wrap_u64]; omega
        rw [he, hn] at HS
        have HB := Lib.hid hbb; have HN := Lib.hid (And.intro he hn)
        clear hi h2 hbb s1 hn he
        go_wp2_with fail
        go_still_tail 14, (by kernel_rfl)
        change wpList _ _ _ _ _ wr.drew
        go_wp2_with fail
        refine ⟨⟨k + 1, by omega, by go_num, ?_, ?_, ?_, ?_⟩, by simp [intOf]; omega⟩
        · exact hz.setOther (w := wr) i (.int .u64 (n : Int)) (by omega)
        · rw [← HS.out.2]; exact HD.out.set (w := wr) i n
        · exact (hbel.setCell (p := ⟨w.heap.size + 1 + 1, i, none⟩) (by simp; omega) _).drew
        · simpa using hsz
    · have hk16 : k = 16 := by omega
      subst hk16
      rw [Nat.mod_eq_of_lt HX.out] at hd
      obtain ⟨T, hT⟩ := hd
      have HT := Lib.hid hT
      clear hT
      obtain ⟨T1, hT1⟩ := hz
      have HT1 := Lib.hid hT1
      clear hT1
      have HV : val (digs 8 x) = x := by rw [val_digs]; exact Nat.mod_eq_of_lt (Nat.lt_of_lt_of_le HX.out (by decide +kernel))
      have C := settle_c wr (digs 8 x) (digs_length 8 x) (fun d h => Nat.lt_trans (digs_lt 8 x d h) (by decide))
      rw [HV] at C
      have HC := Lib.hid C
      clear C HV
      go_wp2_with (refine wpList_load_row rfl 26 _ rfl (w.heap.size + 1 + 1) rfl T _ _ _ HT.out Tryd.underlying26 rfl (by rw [size_dgA, digs_length]; kernel_rfl) ?_)
      refine HC.out.mono ?_
      rintro e w1 ⟨rfl, hb1⟩
      have HT2 := Lib.hid (nb_heap HT1.out w1 hb1)
      go_wp2_with (refine wpList_store_row rfl 26 _ _ rfl _ (dgA (digs 8 (x % pp))) rfl rfl _ _ HT2.out (by rw [size_dgA, digs_length]; kernel_rfl) (by rw [size_dgA, size_dgA, digs_length, digs_length]) (all_dgA _) ?_)
      exact bodyPost_ret_by (results_ds rfl _ (w.heap.size + 1) (digs 8 (x % pp)) _ rfl (setRow_ds _ ⟨T1, HT2.out⟩) Tryd.underlying26 rfl (by kernel_rfl)) rfl ⟨rfl, below_setRow (hbel.trans (hb1.mono (by omega))) (by omega)⟩

theorem byte_mod (n k i : Nat) : n % 256 ^ k / 256 ^ i % 256 = if i < k then n / 256 ^ i % 256 else 0 := by
  by_cases h : i < k
  · rw [if_pos h]
    have e : ∀ m : Nat, m / 256 ^ i % 256 = m % 256 ^ (i + 1) / 256 ^ i := fun m => by rw [Nat.pow_succ, Nat.mod_mul_right_div_self]
    rw [e, e, Nat.mod_mod_of_dvd _ (Nat.pow_dvd_pow 256 h)]
  · rw [if_neg h, Nat.div_eq_of_lt (Nat.lt_of_lt_of_le (Nat.mod_lt _ (Nat.pow_pos (by decide))) (Nat.pow_le_pow_right (by decide) (by omega)))]

theorem fps_byte (n k : Nat) (hk : k < 16) : (fps [n % 256 ^ k]).setIfInBounds k (byteV n k) = fps [n % 256 ^ (k + 1)] := by
  rw [fps_one, fps_one]
  apply Array.ext_getElem?
  intro j
  rcases Nat.lt_or_ge j 16 with hj | hj
  · by_cases hjk : j = k
    · subst hjk
      rw [Array.getElem?_setIfInBounds_self_of_lt (by rw [size_fpC]; exact hj), fpC_get _ _ hj]
      unfold byteV
      rw [byte_mod, if_pos (by omega)]
    · rw [Array.getElem?_setIfInBounds_ne (fun e => hjk e.symm), fpC_get _ _ hj, fpC_get _ _ hj]
      unfold byteV
      rw [byte_mod, byte_mod]
      by_cases h : j < k
      · rw [if_pos h, if_pos (by omega)]
      · rw [if_neg h, if_neg (by omega)]
  · rw [Array.getElem?_eq_none (by simp [size_fpC]; exact hj), Array.getElem?_eq_none (by simp [size_fpC]; exact hj)]

theorem setCell_fps {w : World} {b k : Nat} {l m : List Nat} {v : Value} (h : Fps w b l) (e : (fps l).setIfInBounds k v = fps m) : Fps (w.setCell ⟨b, k, none⟩ v) b m := by
  obtain ⟨T, hT⟩ := h
  exact ⟨T, by rw [heap_setCell_same w b k _ T _ hT, e]⟩

theorem zero_fpC : fpC 0 = #[.int .u8 0, .int .u8 0, .int .u8 0, .int .u8 0, .int .u8 0, .int .u8 0, .int .u8 0, .int .u8 0, .int .u8 0, .int .u8 0, .int .u8 0, .int .u8 0, .int .u8 0, .int .u8 0, .int .u8 0, .int .u8 0] := by rfl
theorem zero_fps : fps [0] = #[.int .u8 0, .int .u8 0, .int .u8 0, .int .u8 0, .int .u8 0, .int .u8 0, .int .u8 0, .int .u8 0, .int .u8 0, .int .u8 0, .int .u8 0, .int .u8 0, .int .u8 0, .int .u8 0, .int .u8 0, .int .u8 0] := by rfl

theorem dig_byte (x k : Nat) : x / 65536 ^ (k / 2) % 65536 / 256 ^ (k % 2) % 256 = x / 256 ^ k % 256 := by
  have e : (256 : Nat) ^ k = 65536 ^ (k / 2) * 256 ^ (k % 2) := by
    rw [pow256, ← Nat.pow_add]
    congr 1
    omega
  rw [e, ← Nat.div_div_eq_div_mul]
  generalize x / 65536 ^ (k / 2) = d
  rcases (by omega : k % 2 = 0 ∨ k % 2 = 1) with h | h <;> rw [h] <;> omega

set_option maxRecDepth 100000 in
set_option maxHeartbeats 4000000 in
theorem bytes_c (w : World) (x : Nat) (hx : x < 256 ^ 16) :
    Calls Tryd.prog 45 #[.agg (dgA (digs 8 x))] w fun e w' => e = .returned (.agg (fpC x)) ∧ Below w.heap.size w w' := by
  have HX := Lib.hid hx
  clear hx
  go_enter Tryd.func45, Tryd.ntmps45
  go_wp2_with fail
  go_loopw [6] (fun i wr => ∃ k : Nat, k ≤ 16 ∧ i = .int .i64 k ∧ Ds wr w.heap.size (digs 8 x) ∧ Fps wr (w.heap.size + 1) [0] ∧ Fps wr (w.heap.size + 1 + 1) [x % 256 ^ k] ∧ Below w.heap.size w wr ∧ w.heap.size + 1 + 1 < wr.heap.size) (fun i _ => 16 - (intOf i).toNat)
  case atStart =>
    refine ⟨0, by decide, rfl, ?_, ?_, ?_, ?_, by simp⟩
    · exact ((Ds.new _ (digs 8 x) _ _ _ rfl rfl).alloc _).alloc _
    · exact (Fps.new _ [0] _ _ _ (by simp) zero_fps.symm).alloc _
    · rw [Nat.pow_zero, Nat.mod_one]; exact Fps.new _ [0] _ _ _ (by simp) zero_fps.symm
    · exact (((Below.refl _ _).alloc (Nat.le_refl _) _).alloc (by simp) _).alloc (by simp; omega) _
  case round =>
    obtain ⟨k, hk, rfl, hd, hz, ho, hbel, hsz⟩ := hrel
    by_cases hlt : k < 16
    · have hget := digs_get 8 x (k / 2) (by omega)
      have hcell := hd.cell hget
      have hdb := dig_byte x k
      obtain ⟨d, hd', hdlt⟩ : ∃ d, x / 65536 ^ (k / 2) % 65536 = d ∧ d < 65536 := ⟨_, rfl, Nat.mod_lt _ (by decide)⟩
      rw [hd'] at hcell hdb
      obtain ⟨i, hi⟩ : ∃ i, k / 2 = i := ⟨_, rfl⟩
      rw [hi] at hcell
      have hold := ho.cell (k := 0) rfl (o := 0) rfl k hlt
      rw [Nat.zero_add] at hold
      unfold byteV at hold
      generalize x % 256 ^ k / 256 ^ k % 256 = ob at hold
      have hfr := ho.free k
      have hi2 : i < 8 := by omega
      have hiq : (k : Int) / 2 = (i : Int) := by omega
      have hi3 : (i : Int) < 8 := by omega
      have HD := Lib.hid hd; have HO := Lib.hid ho
      have HST := Lib.hid (fps_byte x k hlt)
      rcases (by omega : k % 2 = 0 ∨ k % 2 = 1) with h2 | h2
      · rw [h2, Nat.pow_zero, Nat.div_one] at hdb
        have hir : (k : Int) % 2 = 0 := by omega
        obtain ⟨n, hn, hn'⟩ : ∃ n : Nat, d % 256 = n ∧ IntKind.u8.wrap (d : Int) = (n : Int) := ⟨_, rfl, by rw [IntKind.wrap_u8]; omega⟩
        have hbv : byteV x k = .int .u8 (n : Int) := by unfold byteV; rw [← hdb, hn]
        have HBV := Lib.hid hbv
        clear hd ho hi h2 hdb hn hget hd' hbv
        go_wp2_with fail
        refine ⟨⟨k + 1, by omega, by go_num, ?_, ?_, ?_, ?_, by simpa using hsz⟩, by simp [intOf]; omega⟩
        · exact HD.out.setOther _ _ (by omega)
        · exact hz.of_heap (heap_setCell_other _ _ _ _ (by simp))
        · exact setCell_fps HO.out (by rw [← HBV.out]; exact HST.out)
        · exact hbel.setCell (p := ⟨w.heap.size + 1 + 1, k, none⟩) (by simp; omega) _
      · rw [h2, Nat.pow_one] at hdb
        have hir : (k : Int) % 2 = 1 := by omega
        obtain ⟨n, hn, hn'⟩ : ∃ n : Nat, d / 256 % 256 = n ∧ IntKind.u8.wrap ((d : Int) / 256) = (n : Int) := ⟨_, rfl, by rw [IntKind.wrap_u8]; omega⟩
        have hbv : byteV x k = .int .u8 (n : Int) := by unfold byteV; rw [← hdb, hn]
        have HBV := Lib.hid hbv
        clear hd ho hi h2 hdb hn hget hd' hbv
        go_wp2_with fail
        refine ⟨⟨k + 1, by omega, by go_num, ?_, ?_, ?_, ?_, by simpa using hsz⟩, by simp [intOf]; omega⟩
        · exact HD.out.setOther _ _ (by omega)
        · exact hz.of_heap (heap_setCell_other _ _ _ _ (by simp))
        · exact setCell_fps HO.out (by rw [← HBV.out]; exact HST.out)
        · exact hbel.setCell (p := ⟨w.heap.size + 1 + 1, k, none⟩) (by simp; omega) _
    · have hk16 : k = 16 := by omega
      subst hk16
      rw [Nat.mod_eq_of_lt HX.out] at ho
      obtain ⟨T, hT⟩ := ho
      have HT := Lib.hid hT
      obtain ⟨T1, hT1⟩ := hz
      have HT1 := Lib.hid hT1
      clear hT1 hT
      go_wp2_with (first | (refine wpList_load_row rfl 22 _ rfl (w.heap.size + 1 + 1) rfl T (fps [x]) _ _ HT.out Tryd.underlying22 rfl (by rw [size_fps]; kernel_rfl) ?_) | (refine wpList_store_row rfl 22 _ _ rfl _ (fps [x]) rfl rfl _ _ HT1.out (by rw [size_fps]; kernel_rfl) (by rw [size_fps, size_fps]; rfl) (by rw [fps_one]; exact all_fpC _) ?_))
      exact bodyPost_ret_by (results_fps1 rfl _ (w.heap.size + 1) x _ rfl (setRow_fps [x] ⟨T1, HT1.out⟩) Tryd.underlying22 rfl (by kernel_rfl)) rfl ⟨rfl, below_setRow hbel (by omega)⟩

end Go.Proofs.YtfkfljohhabldaaDoor
