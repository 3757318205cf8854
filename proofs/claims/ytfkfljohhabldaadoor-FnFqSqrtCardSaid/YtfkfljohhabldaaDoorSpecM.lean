/- Products of the reference. Digits below 2^16. -/
import Derived.Test.YtfkfljohhabldaaDoorSpecA
namespace Go.FourQ

theorem mem_set_le {l : List Nat} {i v B : Nat} (h : ∀ d ∈ l, d ≤ B) (hv : v ≤ B) : ∀ d ∈ l.set i v, d ≤ B := by
  intro d hd
  rcases List.mem_or_eq_of_mem_set hd with h1 | h1
  · exact h d h1
  · rw [h1]; exact hv

theorem ext8 {l : List Nat} (h : l.length = 8) : l = dF fun i => l.getD i 0 := by
  refine List.ext_getElem? fun i => ?_
  rcases Nat.lt_or_ge i 8 with hi | hi
  · rw [dF_get _ hi, List.getD, List.getElem?_eq_getElem (by omega)]; rfl
  · rw [List.getElem?_eq_none (by omega), List.getElem?_eq_none (by rw [dF_length]; exact hi)]

theorem split16 {D : List Nat} (h : D.length = 16) : val D = val (dF fun i => D.getD i 0) + 65536 ^ 8 * val (dF fun i => D.getD (i + 8) 0) := by
  have e := List.take_append_drop 8 D
  have h1 : (D.take 8).length = 8 := by rw [List.length_take]; omega
  have h2 : (D.drop 8).length = 8 := by rw [List.length_drop]; omega
  have e1 : D.take 8 = dF fun i => D.getD i 0 := by
    rw [ext8 h1]
    exact dF_ext fun i hi => by simp only [List.getD, List.getElem?_take, if_pos hi]
  have e2 : D.drop 8 = dF fun i => D.getD (i + 8) 0 := by
    rw [ext8 h2]
    exact dF_ext fun i _ => by simp only [List.getD, List.getElem?_drop]; rw [Nat.add_comm]
  conv => lhs; rw [← e, val_append, h1, e1, e2]

theorem val_twoF (f g : Nat → Nat) : val (dF fun i => f i + 2 * g i) = val (dF f) + 2 * val (dF g) := by
  simp only [val_dF]; omega

theorem fold16 {a b : Nat} : (a + 2 * b) % pp = (a + 65536 ^ 8 * b) % pp := by
  have : (65536 ^ 8 : Nat) = 2 + 2 * pp := by decide +kernel
  rw [this, Nat.add_mul, ← Nat.add_assoc, Nat.mul_assoc, Nat.mul_left_comm, Nat.add_mul_mod_self_left]

theorem mul_step {x y i j X Y V : Nat} (hV : V = x % 65536 ^ i * y + 65536 ^ i * X * (y % 65536 ^ j)) (hY : y / 65536 ^ j % 65536 = Y) : V + 65536 ^ (i + j) * (X * Y) = x % 65536 ^ i * y + 65536 ^ i * X * (y % 65536 ^ (j + 1)) := by
  rw [Nat.pow_succ 65536 j, Nat.mod_mul, hY, hV, Nat.mul_add, ← Nat.add_assoc, Nat.pow_add]
  congr 1
  simp only [Nat.mul_assoc, Nat.mul_left_comm, Nat.mul_comm]

theorem mul_round {x y i X V : Nat} (hy : y < 65536 ^ 8) (hV : V = x % 65536 ^ i * y + 65536 ^ i * X * (y % 65536 ^ 8)) (hX : x / 65536 ^ i % 65536 = X) : V = x % 65536 ^ (i + 1) * y := by
  rw [hV, Nat.mod_eq_of_lt hy, Nat.pow_succ, Nat.mod_mul, hX, ← Nat.add_mul]

theorem zero_digs16 : dgA (digs 16 0) = #[.int .u64 0, .int .u64 0, .int .u64 0, .int .u64 0, .int .u64 0, .int .u64 0, .int .u64 0, .int .u64 0, .int .u64 0, .int .u64 0, .int .u64 0, .int .u64 0, .int .u64 0, .int .u64 0, .int .u64 0, .int .u64 0] := by rfl

theorem getD_some {D : List Nat} {k : Nat} (h : k < D.length) : D[k]? = some (D.getD k 0) := by rw [List.getD, List.getElem?_eq_getElem h]; rfl
theorem getD_le {D : List Nat} {B : Nat} (h : ∀ d ∈ D, d ≤ B) (k : Nat) : D.getD k 0 ≤ B := by
  rw [List.getD]
  cases hq : D[k]? with
  | none => exact Nat.zero_le _
  | some d => exact h d (List.mem_of_getElem? hq)
theorem dF_zero : dF (fun _ => 0) = digs 8 0 := by rfl

theorem zeros16 : ∀ d ∈ digs 16 0, d ≤ 8 * 0 * 4294836225 := by decide

theorem prod_le {X Y : Nat} (hX : X < 65536) (hY : Y < 65536) : X * Y ≤ 4294836225 := Nat.mul_le_mul (Nat.le_of_lt_succ hX) (Nat.le_of_lt_succ hY)

end Go.FourQ
namespace Go.Proofs.YtfkfljohhabldaaDoor
open Go.RowKit Go.FourQ

set_option maxRecDepth 100000 in
set_option maxHeartbeats 1000000 in
theorem mul_c (w : World) {x y : Nat} (hx : x < 65536 ^ 8) (hy : y < 65536 ^ 8) :
    Calls Tryd.prog 60 #[.agg (dgA (digs 8 x)), .agg (dgA (digs 8 y))] w fun e w' => e = .returned (.agg (dgA (digs 8 (x * y % pp)))) ∧ Below w.heap.size w w' := by
  have C : ∀ (D : List Nat), D.length = 16 → val D = x * y → (∀ d ∈ D, d ≤ 64 * 4294836225) → ∀ wr, Calls Tryd.prog 46 #[.agg (dgA (dF fun i => D.getD i 0 + 2 * D.getD (i + 8) 0))] wr fun e w' => e = .returned (.agg (dgA (digs 8 (x * y % pp)))) ∧ Below wr.heap.size wr w' := fun D hl hv hb wr => by
    have hg : ∀ i, D.getD i 0 ≤ 64 * 4294836225 := fun i => by
      rw [List.getD]
      cases hq : D[i]? with
      | none => exact Nat.zero_le _
      | some d => exact hb d (List.mem_of_getElem? hq)
    have := settle_c wr (dF fun i => D.getD i 0 + 2 * D.getD (i + 8) 0) rfl (dF_all fun i _ => by have := hg i; have := hg (i + 8); show D.getD i 0 + 2 * D.getD (i + 8) 0 < _; omega)
    rwa [val_twoF, fold16, ← split16 hl, hv] at this
  have S1 : ∀ (i V : Nat), V = x % 65536 ^ i * y + 65536 ^ i * (dg x i) * (y % 65536 ^ 8) → V = x % 65536 ^ (i + 1) * y := fun i V h => mul_round hy h rfl
  have S2 : ∀ (i j V : Nat), V = x % 65536 ^ i * y + 65536 ^ i * (dg x i) * (y % 65536 ^ j) → V + 65536 ^ (i + j) * (dg x i * dg y j) = x % 65536 ^ i * y + 65536 ^ i * (dg x i) * (y % 65536 ^ (j + 1)) := fun i j V h => mul_step h rfl
  rw [digs_dF x, digs_dF y]
  obtain ⟨R, hR⟩ : ∃ R, digs 8 (x * y % pp) = R := ⟨_, rfl⟩
  have hRl : R.length = 8 := by rw [← hR, digs_length]
  rw [hR] at C ⊢
  have hx8 : x % 65536 ^ 8 * y = x * y := by rw [Nat.mod_eq_of_lt hx]
  have HC := Lib.hid C; have HRL := Lib.hid hRl; have HS1 := Lib.hid S1; have HS2 := Lib.hid S2; have HX8 := Lib.hid hx8
  clear C hx hy hR hRl S1 S2 hx8
  have hidx : ∀ (z k : Nat), k < 8 → ∀ wx, _ := fun z k hlt wx => run_index_one (P := Tryd.prog) (k := .i64) Tryd.underlying26 Tryd.underlying24 rfl (by kernel_rfl) hlt (dgA_get (dF_get (dg z) hlt)) wx
  have HI := Lib.hid hidx
  clear hidx
  go_enter Tryd.func60, Tryd.ntmps60
  go_upto_region 2 with (fail)
  rw [← zero_digs, ← zero_digs16]
  generalize hW : (((w.alloc (.cells (dgA (dF (dg x))) 26)).alloc (.cells (dgA (dF (dg y))) 26)).alloc (.cells (dgA (digs 8 0)) 26)).alloc (.cells (dgA (digs 16 0)) 112) = W
  have g0 : W.heap[w.heap.size]? = some (.cells (dgA (dF (dg x))) 26 (0, 0)) := hW ▸ hp4_0 (w := w) _ _ _ _
  have g1 : Ds W (w.heap.size + 1) (dF (dg y)) := ⟨_, hW ▸ hp4_1 (w := w) _ _ _ _⟩
  have g2 : Ds W (w.heap.size + 1 + 1) (digs 8 0) := ⟨_, hW ▸ hp4_2 (w := w) _ _ _ _⟩
  have g3 : Ds W (w.heap.size + 1 + 1 + 1) (digs 16 0) := ⟨_, hW ▸ hp4_3 (w := w) _ _ _ _⟩
  have gB : Below w.heap.size w W := hW ▸ nb_alloc (nb_alloc (nb_alloc (nb_alloc (Below.refl _ _) _) _) _) _
  have gS : w.heap.size + 1 + 1 + 1 < W.heap.size := by rw [← hW]; simp
  clear hW
  have G0 := Lib.hid g0
  clear g0
  go_wp2_with (refine wpList_load_row rfl 26 _ rfl w.heap.size rfl _ (dgA (dF (dg x))) _ _ G0.out Tryd.underlying26 rfl (by kernel_rfl) ?_)
  clear G0
  go_loopw [14] (fun iv wr => ∃ (i : Nat) (D : List Nat), i ≤ 8 ∧ iv = .int .i64 i ∧ Ds wr (w.heap.size + 1 + 1 + 1) D ∧ Ds wr (w.heap.size + 1) (dF (dg y)) ∧ Ds wr (w.heap.size + 1 + 1) (digs 8 0) ∧ Below w.heap.size w wr ∧ w.heap.size + 1 + 1 + 1 < wr.heap.size ∧ Hid (D.length = 16 ∧ val D = x % 65536 ^ i * y ∧ ∀ d ∈ D, d ≤ (8 * i) * 4294836225)) (fun i _ => 8 - (intOf i).toNat)
  case atStart => exact ⟨0, digs 16 0, by decide, rfl, g3, g1, g2, gB, gS, digs_length 16 0, by rw [Nat.pow_zero, Nat.mod_one, Nat.zero_mul]; rfl, zeros16⟩
  case round =>
    obtain ⟨i, D, hi, rfl, hD, hB, hZ, hbel, hsz, hh⟩ := hrel
    clear g1 g2 g3 gB gS
    by_cases hlt : i < 8
    · have hidx := HI.out x i hlt
      obtain ⟨TB, hTB⟩ := hB
      have HTB := Lib.hid hTB
      clear hTB
      have hX := dg_lt x i
      generalize hXd : dg x i = X at hidx hX
      have HXD := Lib.hid hXd
      clear hXd
      go_wp2_with (refine wpList_load_row rfl 26 _ rfl (w.heap.size + 1) rfl _ (dgA (dF (dg y))) _ _ HTB.out Tryd.underlying26 rfl (by kernel_rfl) ?_)
      obtain ⟨wo, rfl⟩ : ∃ wo : World, wo = wr := ⟨_, rfl⟩
      clear hidx
      go_loopw [19] (fun jv wr => ∃ (j : Nat) (D : List Nat), j ≤ 8 ∧ jv = .int .i64 j ∧ Ds wr (w.heap.size + 1 + 1 + 1) D ∧ Ds wr (w.heap.size + 1) (dF (dg y)) ∧ Ds wr (w.heap.size + 1 + 1) (digs 8 0) ∧ Below w.heap.size w wr ∧ w.heap.size + 1 + 1 + 1 < wr.heap.size ∧ Hid (D.length = 16 ∧ val D = x % 65536 ^ i * y + 65536 ^ i * dg x i * (y % 65536 ^ j) ∧ ∀ d ∈ D, d ≤ (8 * i + j) * 4294836225)) (fun j _ => 8 - (intOf j).toNat)
      case atStart =>
        refine ⟨0, D, by decide, rfl, hD, ⟨_, HTB.out⟩, hZ, hbel, hsz, hh.out.1, ?_, hh.out.2.2⟩
        rw [Nat.pow_zero, Nat.mod_one, Nat.mul_zero]; exact hh.out.2.1
      case round =>
        obtain ⟨j, D, hj, rfl, hD, hB, hZ, hbel, hsz, hh⟩ := hrel
        by_cases hjt : j < 8
        · have hidx := HI.out y j hjt
          have hY := dg_lt y j
          have hst := HS2.out i j (val D) hh.out.2.1
          rw [HXD.out] at hst
          generalize hYd : dg y j = Y at hidx hY hst
          have hij : i + j < D.length := by rw [hh.out.1]; omega
          have hcell := hD.cell (List.getElem?_eq_getElem hij)
          have hfree := hD.free (i + j)
          have hdb := hh.out.2.2 _ (List.getElem_mem hij)
          have hvs := val_set D (i + j) D[i + j] (X * Y) (List.getElem?_eq_getElem hij)
          rw [hst] at hvs
          generalize D[i + j] = d at hcell hdb hvs
          have hXY := prod_le hX hY
          have hPI : (X : Int) * (Y : Int) = ((X * Y : Nat) : Int) := (Int.natCast_mul X Y).symm
          obtain ⟨p, hp⟩ : ∃ p, X * Y = p := ⟨_, rfl⟩
          rw [hp] at hPI hvs hXY
          have hd64 : d ≤ 64 * 4294836225 := Nat.le_trans hdb (Nat.mul_le_mul_right _ (by omega))
          have hwp : IntKind.u64.wrap ((X : Int) * (Y : Int)) = (p : Int) := by rw [hPI, IntKind.wrap_u64]; omega
          obtain ⟨n, hn⟩ : ∃ n, d + p = n := ⟨_, rfl⟩
          have hwn : IntKind.u64.wrap ((d : Int) + (p : Int)) = (n : Int) := by rw [IntKind.wrap_u64]; omega
          rw [hn] at hvs
          have hnB : n ≤ (8 * i + (j + 1)) * 4294836225 := by rw [← hn, show 8 * i + (j + 1) = (8 * i + j) + 1 from rfl, Nat.add_mul, Nat.one_mul]; exact Nat.add_le_add hdb hXY
          have hall := mem_set_le (i := i + j) (fun q hq => Nat.le_trans (hh.out.2.2 q hq) (Nat.mul_le_mul_right 4294836225 (show 8 * i + j ≤ 8 * i + (j + 1) by omega))) hnB
          have hlen : (D.set (i + j) n).length = 16 := by rw [List.length_set]; exact hh.out.1
          rw [← HXD.out] at hvs
          have HH := Lib.hid (And.intro hlen (And.intro hvs hall))
          have HD := Lib.hid hD
          have hc2 : (i : Int) + (j : Int) = ((i + j : Nat) : Int) := rfl
          have hcij : i + j < 16 := by omega
          obtain ⟨t, ht⟩ : ∃ t, i + j = t := ⟨_, rfl⟩
          rw [ht] at hcell hfree HH hc2 hcij
          have hwt : IntKind.i64.wrap ((i : Int) + (j : Int)) = (t : Int) := by rw [hc2]; exact IntWalk.i64_in _ ⟨by omega, by omega⟩
          have HN := Lib.hid hn; have HP := Lib.hid hp; have HT := Lib.hid ht; have HHH := Lib.hid hh
          clear hlen hvs hall hD hnB hd64 hPI hXY hdb hYd hij hst hn hp ht hc2 hh
          go_wp2_with fail
          refine ⟨⟨j + 1, D.set t n, by omega, by go_num, ?_, ?_, ?_, ?_, ?_, HH.out⟩, by simp [intOf]; omega⟩
          · exact HD.out.set t n
          · exact hB.setOther _ _ (by omega)
          · exact hZ.setOther _ _ (by omega)
          · exact hbel.setCell (p := ⟨w.heap.size + 1 + 1 + 1, t, none⟩) (by simp; omega) _
          · simpa using hsz
        · have hj8 : j = 8 := by omega
          subst hj8
          have hv := HS1.out i (val D) hh.out.2.1
          have HV := Lib.hid hv
          clear hv
          go_wp2_with fail
          refine ⟨⟨i + 1, D, by omega, by go_num, hD, hB, hZ, hbel, hsz, hh.out.1, HV.out, fun d hd => ?_⟩, by simp [intOf]; omega⟩
          exact hh.out.2.2 d hd
    · have hi8 : i = 8 := by omega
      obtain ⟨hl, hv, hb⟩ := hh.out
      rw [hi8] at hv hb
      rw [HX8.out] at hv
      clear hi8
      have C := HC.out D hl hv hb
      have HCD := Lib.hid C
      have HL := Lib.hid hl; have HBD := Lib.hid hb
      clear hh hl hv hb C HC
      go_wp2_with fail
      rw [← zero_digs]
      have K0 : Ds (wr.alloc (.cells (dgA (digs 8 0)) 26)) wr.heap.size (dF fun _ => 0) := Ds.new _ _ _ _ _ rfl (by rw [dF_zero])
      have K1 := hD.alloc (.cells (dgA (digs 8 0)) 26)
      have K2 := hZ.alloc (.cells (dgA (digs 8 0)) 26)
      have K3 := hbel.alloc hbel.size (.cells (dgA (digs 8 0)) 26)
      have K4 : wr.heap.size < (wr.alloc (.cells (dgA (digs 8 0)) 26)).heap.size := by simp
      obtain ⟨q, hq⟩ : ∃ q, wr.heap.size = q := ⟨_, rfl⟩
      rw [hq] at K0 K4 hsz ⊢
      clear hD hB hZ hbel hq
      generalize wr.alloc (.cells (dgA (digs 8 0)) 26) = w1 at *
      go_loopw [39] (fun iv wr => ∃ k : Nat, k ≤ 8 ∧ iv = .int .i64 k ∧ Ds wr (w.heap.size + 1 + 1 + 1) D ∧ Ds wr q (dF (upTo k (fun _ => 0) fun i => D.getD i 0 + 2 * D.getD (i + 8) 0)) ∧ Ds wr (w.heap.size + 1 + 1) (digs 8 0) ∧ Below w.heap.size w wr ∧ q < wr.heap.size) (fun i _ => 8 - (intOf i).toNat)
      case atStart => exact ⟨0, by decide, rfl, K1, K0, K2, K3, K4⟩
      case round =>
        obtain ⟨k, hk, rfl, hD, hO, hZ, hbel, hsz2⟩ := hrel
        by_cases hlt : k < 8
        · have hca := hD.cell (getD_some (D := D) (k := k) (by rw [HL.out]; omega))
          have hcb := hD.cell (getD_some (D := D) (k := k + 8) (by rw [HL.out]; omega))
          have hfree := hO.free k
          have hco := hO.cell (dF_get _ hlt)
          have hst := upTo_set (fun _ => 0) (fun i => D.getD i 0 + 2 * D.getD (i + 8) 0) hlt
          have ha := getD_le HBD.out k
          have hb := getD_le HBD.out (k + 8)
          generalize D.getD k 0 = a at hca hst ha
          generalize D.getD (k + 8) 0 = b at hcb hst hb
          obtain ⟨c, hc⟩ : ∃ c, 2 * b = c := ⟨_, rfl⟩
          have hwc : IntKind.u64.wrap (2 * (b : Int)) = (c : Int) := by rw [IntKind.wrap_u64]; omega
          obtain ⟨s, hs⟩ : ∃ s, a + c = s := ⟨_, rfl⟩
          have hws : IntKind.u64.wrap ((a : Int) + (c : Int)) = (s : Int) := by rw [IntKind.wrap_u64]; omega
          rw [hc, hs] at hst
          obtain ⟨t, ht⟩ : ∃ t, k + 8 = t := ⟨_, rfl⟩
          have hwt : IntKind.i64.wrap ((k : Int) + 8) = (t : Int) := by rw [IntWalk.i64_in _ ⟨by omega, by omega⟩]; omega
          have ht16 : (t : Int) < 16 := by omega
          have hk16 : (k : Int) < 16 := by omega
          rw [ht] at hcb
          have HST := Lib.hid hst; have HO := Lib.hid hO; have HS := Lib.hid hs; have HCC := Lib.hid hc; have HT := Lib.hid ht
          clear hst hO hs hc ht K0 K1 K2 K3 K4 ha hb
          go_wp2_with fail
          go_still_tail 11, (by kernel_rfl)
          change wpList _ _ _ _ _ wr.drew
          go_wp2_with fail
          go_roundw
          case rel =>
            refine ⟨k + 1, by omega, by go_num, ?_, ?_, ?_, ?_, ?_⟩
            · exact hD.setOther (w := wr) k _ (by omega)
            · rw [← HST.out]; exact HO.out.set (w := wr) k s
            · exact hZ.setOther (w := wr) k _ (by omega)
            · exact (hbel.setCell (p := ⟨q, k, none⟩) (by simp; omega) _).drew
            · simpa using hsz2
          case measure => simp [intOf]; omega
        · have hk8 : k = 8 := by omega
          subst hk8
          rw [upTo_eight] at hO
          obtain ⟨T, hT⟩ := hO
          obtain ⟨T1, hT1⟩ := hZ
          have HT := Lib.hid hT; have HT1 := Lib.hid hT1
          clear hT hT1 K0 K1 K2 K3 K4
          go_wp2_with (refine wpList_load_row rfl 26 _ rfl q rfl T _ _ _ HT.out Tryd.underlying26 rfl (by kernel_rfl) ?_)
          refine (HCD.out wr).mono ?_
          rintro e w1 ⟨rfl, hb1⟩
          have HT2 := Lib.hid (nb_heap HT1.out w1 hb1)
          have hbel1 := hbel.trans (hb1.mono (by omega))
          go_wp2_with (refine wpList_store_row rfl 26 _ _ rfl _ (dgA R) rfl rfl _ _ HT2.out (by rw [size_dgA, HRL.out]; kernel_rfl) (by rw [size_dgA, size_dgA, digs_length, HRL.out]) (all_dgA _) ?_)
          exact bodyPost_ret_by (results_ds rfl _ (w.heap.size + 1 + 1) R _ rfl (setRow_ds _ ⟨T1, HT2.out⟩) Tryd.underlying26 rfl (by rw [HRL.out]; kernel_rfl)) rfl ⟨rfl, below_setRow hbel1 (by omega)⟩

end Go.Proofs.YtfkfljohhabldaaDoor
