/- The reference's numbers: the prime; what digits of any size stand for modulo the prime. Digits below 2^48. -/
import Derived.Test.YtfkfljohhabldaaDoorQuiet
import Derived.Test.YtfkfljohhabldaaDoorFp
namespace Go.Proofs.YtfkfljohhabldaaDoor
open Go.RowKit Go.FourQ

theorem pp_digs : dgA (digs 8 pp) = #[.int .u64 65535, .int .u64 65535, .int .u64 65535, .int .u64 65535, .int .u64 65535, .int .u64 65535, .int .u64 65535, .int .u64 32767] := by rfl

theorem zero_digs : dgA (digs 8 0) = #[.int .u64 0, .int .u64 0, .int .u64 0, .int .u64 0, .int .u64 0, .int .u64 0, .int .u64 0, .int .u64 0] := by rfl

theorem zero_agg : Value.agg #[.int .u64 0, .int .u64 0, .int .u64 0, .int .u64 0, .int .u64 0, .int .u64 0, .int .u64 0, .int .u64 0] = .agg (dgA (digs 8 0)) := by rfl

theorem prime_c (w : World) : Calls Tryd.prog 65 #[] w fun e w' => e = .returned (.agg (dgA (digs 8 pp))) ∧ Below w.heap.size w w' := by
  rw [pp_digs]
  go_enter Tryd.func65, Tryd.ntmps65
  go_wp2
  refine bodyPost_ret_by (by simp [results, Tryd.results65, go_sem]) rfl ⟨rfl, ?_⟩
  exact (Below.refl _ _).alloc (Nat.le_refl _) _


theorem wrap_add48 {a b : Nat} (ha : a < 281474976710656) (hb : b < 281474976710656) : IntKind.u64.wrap ((a : Int) + (b : Int)) = ((a + b : Nat) : Int) := by rw [IntKind.wrap_u64]; omega

theorem fold_lt {T : Nat} (h : 0 < T / 170141183460469231731687303715884105728) : fold T + 1 < T := by unfold fold; omega

theorem chain8 (T : Nat) : ∃ t0 t1 t2 t3 t4 t5 t6 t7 c : Nat, digs 8 T = [t0, t1, t2, t3, t4, t5, t6, t7] ∧ T / 65536 ^ 8 = c ∧ t0 < 65536 ∧ t1 < 65536 ∧ t2 < 65536 ∧ t3 < 65536 ∧ t4 < 65536 ∧ t5 < 65536 ∧ t6 < 65536 ∧ t7 < 65536 ∧
    T = t0 + 65536 * t1 + 4294967296 * t2 + 281474976710656 * t3 + 18446744073709551616 * t4 + 1208925819614629174706176 * t5 + 79228162514264337593543950336 * t6 + 5192296858534827628530496329220096 * t7 + 340282366920938463463374607431768211456 * c := by
  refine ⟨_, _, _, _, _, _, _, _, _, rfl, rfl, ?_⟩
  simp only [Nat.div_div_eq_div_mul, Nat.reduceMul, Nat.reducePow]
  omega

theorem settle_fin {D : List Nat} {c : Nat} (hl : D.length = 8) (hD : ∀ d ∈ D, d < 281474976710656) (hc : c = Ck D 8) :
    ∃ l0 l7 : Nat, (Lk D 8)[0]? = some l0 ∧ (Lk D 8)[7]? = some l7 ∧ l0 < 65536 ∧ l7 < 65536 ∧ c < 17179869184 ∧ (∀ E : List Nat, E = ((Lk D 8).set 7 (l7 % 32768)).set 0 (l0 + (2 * c + l7 / 32768)) →
      E.length = 8 ∧ (∀ d ∈ E, d < 281474976710656) ∧ val E = fold (val D) ∧ 2 * c + l7 / 32768 = val D / 170141183460469231731687303715884105728 ∧
      (2 * c + l7 / 32768 = 0 → (∀ d ∈ E, d < 65536) ∧ val E < 170141183460469231731687303715884105728)) := by
  have ht : D.take 8 = D := List.take_of_length_le (by omega)
  have hd8 : D.drop 8 = [] := List.drop_of_length_le (by omega)
  have h7 : D[7]? = some (D[7]'(by omega)) := List.getElem?_eq_getElem _
  have hcb : c < 17179869184 := by
    have e := (LC_step h7).2
    have h1 := hD (D[7]'(by omega)) (List.getElem_mem _)
    have h2 := Ck_bound D 281474976710656 (by decide) hD 7 (by omega)
    rw [hc, ← e]
    omega
  unfold Ck at hc
  unfold Lk
  rw [ht] at hc ⊢
  rw [hd8, List.append_nil]
  generalize val D = T at *
  obtain ⟨t0, t1, t2, t3, t4, t5, t6, t7, c', hdg, hc', b0, b1, b2, b3, b4, b5, b6, b7, hT⟩ := chain8 T
  rw [hc'] at hc
  subst hc
  rw [hdg]
  refine ⟨t0, t7, rfl, rfl, b0, b7, hcb, ?_⟩
  rintro E rfl
  have q1 : T / 170141183460469231731687303715884105728 = 2 * c + t7 / 32768 := by clear hD hc' hdg; omega
  have q2 : T % 170141183460469231731687303715884105728 = t0 + 65536 * t1 + 4294967296 * t2 + 281474976710656 * t3 + 18446744073709551616 * t4 + 1208925819614629174706176 * t5 + 79228162514264337593543950336 * t6 + 5192296858534827628530496329220096 * (t7 % 32768) := by clear hD hc' hdg; omega
  have qv : val (([t0, t1, t2, t3, t4, t5, t6, t7].set 7 (t7 % 32768)).set 0 (t0 + (2 * c + t7 / 32768))) = fold T := by
    unfold fold
    rw [q1, q2]
    clear q1 q2 hT hdg hc' hD
    simp only [List.set, val]
    omega
  have qm : ∀ d, d ∈ ([t0, t1, t2, t3, t4, t5, t6, t7].set 7 (t7 % 32768)).set 0 (t0 + (2 * c + t7 / 32768)) → d = t0 + (2 * c + t7 / 32768) ∨ d < 65536 := by
    clear qv q1 q2 hT hdg hc' hD
    intro d hd
    simp only [List.set, List.mem_cons, List.not_mem_nil, or_false] at hd
    omega
  have qn : fold T = T % 170141183460469231731687303715884105728 + (2 * c + t7 / 32768) := by unfold fold; rw [q1]
  have ql : T % 170141183460469231731687303715884105728 < 170141183460469231731687303715884105728 := Nat.mod_lt _ (by decide)
  have qb : t0 + (2 * c + t7 / 32768) < 281474976710656 := by clear qv q1 q2 hT hdg hc' hD qm qn ql; omega
  clear hT hdg hc' hD q2
  refine ⟨by simp only [List.length_set, List.length_cons, List.length_nil], ?_, qv, q1.symm, fun h0 => ⟨?_, ?_⟩⟩
  · intro d hd
    rcases qm d hd with rfl | h
    · exact qb
    · exact Nat.lt_trans h (by decide)
  · intro d hd
    rcases qm d hd with rfl | h
    · rw [h0]; exact b0
    · exact h
  · rw [qv, qn, h0, Nat.add_zero]
    exact ql

set_option maxRecDepth 100000 in
set_option maxHeartbeats 4000000 in
theorem settle_c (w : World) (D0 : List Nat) (h8 : D0.length = 8) (hb : ∀ d ∈ D0, d < 281474976710656) :
    Calls Tryd.prog 46 #[.agg (dgA D0)] w fun e w' => e = .returned (.agg (dgA (digs 8 (val D0 % pp)))) ∧ Below w.heap.size w w' := by
  have H8 := Lib.hid h8; have HB := Lib.hid hb
  clear h8 hb
  obtain ⟨R, hR⟩ : ∃ R, val D0 % pp = R := ⟨_, rfl⟩
  rw [hR]
  have HR := Lib.hid hR
  clear hR
  go_enter Tryd.func46, Tryd.ntmps46
  go_wp2_with fail
  go_loopg [3] (val D0 + 1) (fun g c wr => ∃ (D : List Nat) (cc : Nat), c = .int .u64 cc ∧ Ds wr w.heap.size D ∧ Ds wr (w.heap.size + 1) (digs 8 0) ∧ Below w.heap.size w wr ∧ w.heap.size + 1 < wr.heap.size ∧ cc < 281474976710656 ∧
    Hid (D.length = 8 ∧ (∀ d ∈ D, d < 281474976710656) ∧ val D % pp = val D0 % pp ∧ (cc = 0 → (∀ d ∈ D, d < 65536) ∧ val D < 170141183460469231731687303715884105728) ∧ (cc ≠ 0 → val D < g)))
  case atStart =>
    refine ⟨D0, 1, rfl, (Ds.new _ D0 _ _ _ rfl rfl).alloc _, Ds.new _ (digs 8 0) _ _ _ (by simp) zero_digs.symm, ?_, by simp, by decide, H8.out, HB.out, rfl, fun h => absurd h (by decide), fun _ => Nat.lt_succ_self _⟩
    exact ((Below.refl _ _).alloc (Nat.le_refl _) _).alloc (by simp) _
  case round =>
    obtain ⟨D, cc, rfl, hd, hz, hbel, hsz, hcc, hh⟩ := hrel
    by_cases h0 : 0 < cc
    · have h0' : decide ((0 : Int) < (cc : Int)) = true := by simp; exact h0
      obtain ⟨T, hT⟩ := hd
      have HT := Lib.hid hT
      clear hT
      go_wp2_with (refine wpList_load_row rfl 26 _ rfl w.heap.size rfl T _ _ _ HT.out Tryd.underlying26 rfl (by rw [size_dgA, hh.out.1]; kernel_rfl) ?_)
      obtain ⟨wo, rfl⟩ : ∃ wo : World, wo = wr := ⟨_, rfl⟩
      have hlen := hh.out.1
      have hDb := hh.out.2.1
      have hd : Ds wo w.heap.size D := ⟨T, HT.out⟩
      have HL := Lib.hid hlen; have HDb := Lib.hid hDb
      clear hlen hDb HT
      go_loopw [3, 9] (fun c i wr => ∃ k cn : Nat, k ≤ 8 ∧ i = .int .i64 k ∧ c = .int .u64 cn ∧ Hid (cn = Ck D k) ∧ Ds wr w.heap.size (Lk D k) ∧ Ds wr (w.heap.size + 1) (digs 8 0) ∧ Below w.heap.size w wr ∧ w.heap.size + 1 < wr.heap.size) (fun _ i _ => 8 - (intOf i).toNat)
      case atStart => exact ⟨0, 0, by decide, rfl, rfl, (Ck_zero D).symm, by rw [Lk_zero]; exact hd, hz, hbel, hsz⟩
      case round =>
        obtain ⟨k, c, hk, rfl, rfl, hc, hd1, hz1, hbel1, hsz1⟩ := hrel
        by_cases hlt : k < 8
        · obtain ⟨d, hdk⟩ : ∃ d, D[k]? = some d := ⟨D[k]'(by rw [HL.out]; exact hlt), List.getElem?_eq_getElem _⟩
          have hdb := HDb.out d (List.mem_of_getElem? hdk)
          have hcb := Ck_bound D 281474976710656 (by decide) HDb.out k (by rw [HL.out]; exact hk)
          have hstep := LC_step hdk
          rw [← hc.out] at hcb hstep
          have hidx := fun wx => run_index_one (P := Tryd.prog) (k := .i64) Tryd.underlying26 Tryd.underlying24 rfl (by kernel_rfl) hlt (dgA_get hdk) wx
          have hcell := hd1.cell (i := k) (d := (Lk D k)[k]'(by rw [Lk_length D k (by rw [HL.out]; exact hk), HL.out]; exact hlt)) (List.getElem?_eq_getElem _)
          have hfree := hd1.free k
          generalize (Lk D k)[k]'_ = ov at hcell
          have HS := Lib.hid hstep; have HD1 := Lib.hid hd1
          clear hstep hdk hd1
          have hw := wrap_add48 hcb hdb
          obtain ⟨sm, hsm⟩ : ∃ sm, c + d = sm := ⟨_, rfl⟩
          rw [hsm] at hw
          obtain ⟨q, hq, hq'⟩ : ∃ q : Nat, sm / 65536 = q ∧ IntKind.u64.wrap ((sm : Int) / 65536) = (q : Int) := ⟨_, rfl, by rw [IntKind.wrap_u64]; omega⟩
          obtain ⟨r, hr, hr'⟩ : ∃ r : Nat, sm % 65536 = r ∧ (sm : Int) % 65536 = (r : Int) := ⟨_, rfl, by omega⟩
          have HQ := Lib.hid (And.intro hsm (And.intro hq hr))
          clear hcb hdb hsm hq hr
          go_wp2_with fail
          refine ⟨⟨k + 1, q, by omega, by go_num, rfl, ?_, ?_, hz1.setOther _ _ (by omega), hbel1.setCell (p := ⟨w.heap.size, k, none⟩) (Nat.le_refl _) _, by simpa using hsz1⟩, by simp [intOf]; omega⟩
          · have h2 := HS.out.2
            rw [HQ.out.1, HQ.out.2.1] at h2
            exact h2
          · have h1 := HS.out.1
            rw [HQ.out.1, HQ.out.2.2] at h1
            rw [← h1]
            exact HD1.out.set k r
        · have hk8 : k = 8 := by omega
          subst hk8
          have hl7 := Lk_length D 8 (by rw [HL.out]; exact Nat.le_refl _)
          rw [HL.out] at hl7
          obtain ⟨l0, l7, g0, g7, hl0, hl7', hcb, hfin⟩ := settle_fin HL.out HDb.out (c := c) hc.out
          obtain ⟨c2, hc2, hc2'⟩ : ∃ q : Nat, 2 * c = q ∧ IntKind.u64.wrap (2 * (c : Int)) = (q : Int) := ⟨_, rfl, by rw [IntKind.wrap_u64]; omega⟩
          obtain ⟨q7, hq7, hq7'⟩ : ∃ q : Nat, l7 / 32768 = q ∧ IntKind.u64.wrap ((l7 : Int) / 32768) = (q : Int) := ⟨_, rfl, by rw [IntKind.wrap_u64]; omega⟩
          obtain ⟨r7, hr7, hr7'⟩ : ∃ q : Nat, l7 % 32768 = q ∧ (l7 : Int) % 32768 = (q : Int) := ⟨_, rfl, by omega⟩
          obtain ⟨cn, hcn, hcn'⟩ : ∃ q : Nat, c2 + q7 = q ∧ IntKind.u64.wrap ((c2 : Int) + (q7 : Int)) = (q : Int) := ⟨_, rfl, by rw [IntKind.wrap_u64]; omega⟩
          obtain ⟨n0, hn0, hn0'⟩ : ∃ q : Nat, l0 + cn = q ∧ IntKind.u64.wrap ((l0 : Int) + (cn : Int)) = (q : Int) := ⟨_, rfl, by rw [IntKind.wrap_u64]; omega⟩
          have hcnb : cn < 281474976710656 := by omega
          have k7 := hd1.cell g7
          have k0 := hd1.cell g0
          have f7 := hd1.free 7
          have f0 := hd1.free 0
          have HN := Lib.hid (And.intro hcn (And.intro hq7 (And.intro hr7 (And.intro hn0 hc2))))
          have HC := Lib.hid hcnb
          have HF := Lib.hid hfin
          clear hcn hq7 hr7 hn0 hc2 hcnb hfin hl0 hl7' g0 g7 hcb
          go_wp2_with fail
          have hE := HF.out _ rfl
          have e1 : 2 * c + l7 / 32768 = cn := by rw [HN.out.2.2.2.2, HN.out.2.1]; exact HN.out.1
          rw [e1, HN.out.2.2.1, HN.out.2.2.2.1] at hE
          obtain ⟨E1, E2, E3, E4, E5⟩ := hE
          go_roundg (if cn = 0 then 0 else val (((Lk D 8).set 7 r7).set 0 n0) + 1)
          case measure =>
            have h1 := hh.out.2.2.2.2 (by omega)
            by_cases h2 : cn = 0
            · rw [if_pos h2]; omega
            · rw [if_neg h2, E3]
              have h3 := fold_lt (T := val D) (by rw [← E4]; omega)
              omega
          case rel =>
            refine ⟨_, cn, rfl, (hd1.set 7 r7).set 0 n0, (hz1.setOther _ _ (by omega)).setOther _ _ (by omega), (hbel1.setCell (p := ⟨w.heap.size, 7, none⟩) (Nat.le_refl _) _).setCell (p := ⟨w.heap.size, 0, none⟩) (Nat.le_refl _) _, by simpa using hsz1, HC.out, E1, E2, ?_, E5, fun hne => ?_⟩
            · rw [E3, fold_mod]; exact hh.out.2.2.1
            · rw [if_neg hne]; exact Nat.lt_succ_self _
    · have h00 : cc = 0 := by omega
      subst h00
      obtain ⟨hl, hDb, hmod, hz0, _⟩ := hh.out
      obtain ⟨hlt, hv⟩ := hz0 rfl
      have hDd : D = digs 8 (val D) := by have := digs_val D hlt; rw [hl] at this; exact this.symm
      generalize hV : val D = V at *
      subst hDd
      have hvm : val D0 % pp = if V = pp then 0 else V := by
        rw [← hmod]
        have hvp : V ≤ pp := by unfold pp; omega
        by_cases hpe : V = pp
        · rw [if_pos hpe, hpe]; exact Nat.mod_self pp
        · rw [if_neg hpe]; exact Nat.mod_eq_of_lt (by omega)
      rw [HR.out] at hvm
      have HV := Lib.hid hv
      have HVM := Lib.hid hvm
      clear hlt hmod hvm hz0 hDb hl hV hh hv
      obtain ⟨T, hT⟩ := hd
      have HT := Lib.hid hT
      have hd : Ds wr w.heap.size (digs 8 V) := ⟨T, hT⟩
      clear hT
      go_wp2_with fail
      refine wp_region_nb (by kernel_rfl) (by kernel_rfl) ?_
      refine q_load rfl 26 _ rfl w.heap.size rfl T _ _ _ (nb_heap HT.out) Tryd.underlying26 rfl (by rw [size_dgA, digs_length]; kernel_rfl) ?_
      refine q_call rfl 65 #[] (.agg (dgA (digs 8 pp))) (fun _ => by kernel_rfl) (nb_calls prime_c) ?_
      refine q_eql rfl 26 _ _ _ rfl _ _ (decide (V = pp)) rfl rfl (by kernel_rfl) (fun w' => eql_digs Tryd.underlying26 (by kernel_rfl) Tryd.underlying24 (by have := HV.out; omega) (by decide +kernel) w') ?_
      refine wpQuiet_nil ?_
      intro w1 hb1
      have hz1 := hz.nb hb1
      have hbel1 := hbel.trans (hb1.mono (by omega))
      obtain ⟨T1, hT1⟩ := hz1
      by_cases hpe : V = pp
      · have hR : R = 0 := by rw [HVM.out, if_pos hpe]
        subst hR
        clear hz hb1 hd
        have hdec : decide (V = pp) = true := by simpa using hpe
        rw [hdec]
        have HP := Lib.hid hpe
        clear hpe hdec
        have HT1 := Lib.hid hT1
        clear hT1
        go_wp2_with (refine wpList_store_row rfl 26 _ _ rfl _ (dgA (digs 8 0)) rfl zero_agg _ _ HT1.out (by kernel_rfl) rfl (all_dgA _) ?_)
        exact bodyPost_ret_by (results_ds rfl _ (w.heap.size + 1) (digs 8 0) _ rfl (setRow_ds (digs 8 0) ⟨T1, HT1.out⟩) Tryd.underlying26 rfl (by kernel_rfl)) rfl ⟨rfl, below_setRow hbel1 (by omega)⟩
      · have hR : R = V := by rw [HVM.out, if_neg hpe]
        subst hR
        have hd1 := hd.nb hb1
        clear hz hb1 hd
        have hdec : decide (R = pp) = false := by simpa using hpe
        rw [hdec]
        have HP := Lib.hid hpe
        clear hpe hdec
        have HT1 := Lib.hid hT1
        obtain ⟨T2, hT2⟩ := hd1
        have HT2 := Lib.hid hT2
        clear hT1 hT2
        go_wp2_with (first | (refine wpList_load_row rfl 26 _ rfl w.heap.size rfl T2 _ _ _ HT2.out Tryd.underlying26 rfl (by rw [size_dgA, digs_length]; kernel_rfl) ?_) | (refine wpList_store_row rfl 26 _ _ rfl _ (dgA (digs 8 R)) rfl rfl _ _ HT1.out (by rw [size_dgA, digs_length]; kernel_rfl) (by rw [size_dgA, size_dgA, digs_length, digs_length]) (all_dgA _) ?_))
        exact bodyPost_ret_by (results_ds rfl _ (w.heap.size + 1) (digs 8 R) _ rfl (setRow_ds _ ⟨T1, HT1.out⟩) Tryd.underlying26 rfl (by kernel_rfl)) rfl ⟨rfl, below_setRow hbel1 (by omega)⟩

end Go.Proofs.YtfkfljohhabldaaDoor
