/- The package takes whole blocks in. The package's constants lie at their place. -/
import Derived.Test.YtkmofjefjbhbhaaDoorBlkI
namespace Go.Proofs.YtkmofjefjbhbhaaDoor
open Go.RowKit Go.FourQ Go.Sha Go.Sl

set_option maxRecDepth 100000 in
set_option maxHeartbeats 8000000 in
theorem blockG_c {w : World} {b k : Nat} {s : St} {R : List Value} {v : Value} {l : List Int} (hD : Bl w b (wv s.list ++ R)) (hp : Rd w .u8 v l) (hl : l.length = 64 * k) (hK : Bl w 0 (wv kc)) :
    Calls Tryd.prog 21 #[.pointer (some ⟨b, 0, none⟩), v] w fun e w' => e = .returned (.tuple #[]) ∧ Mm w [(b, wv (cs s l k).list ++ R)] w' := by
  have HDB := Lib.hid hD; have HP := Lib.hid hp; have HL := Lib.hid hl; have HGK := Lib.hid hK; have hbl := hD.lt; have hkl := hK.lt
  clear hD hp hl hK
  go_enter Tryd.func21, Tryd.ntmps21
  go_upto_region 1 with (fail)
  refine wp_gen (fun WW => Mm w [(w.heap.size, wv (List.replicate 64 0))] WW) ((Mm.zero w).new (L := wv (List.replicate 64 0)) rfl (by kernel_rfl)) ?_
  intro W0 H0
  refine wp_region_atS (opsAt Tryd.f21 1) ((true, 0) :: (true, 1) :: (true, 2) :: (true, 3) :: (true, 4) :: (true, 5) :: (true, 6) :: (true, 7) :: (true, 8) :: (true, 9) :: (true, 10) :: (true, 11) :: (true, 12) :: (true, 13) :: (true, 14) :: (true, 15) :: (true, 16) :: (true, 17) :: (true, 18) :: (true, 19) :: (true, 20) :: (true, 21) :: (true, 22) :: (true, 23) :: (true, 24) :: (true, 25) :: (true, 26) :: (true, 27) :: (true, 28) :: (true, 29) :: (true, 30) :: (true, 31) :: (true, 32) :: (true, 33) :: (true, 34) :: (true, 35) :: (true, 36) :: (true, 37) :: (true, 38) :: (true, 39) :: (true, 40) :: (true, 41) :: (true, 42) :: (true, 43) :: (true, 44) :: (true, 45) :: (true, 46) :: (true, 47) :: []) (fun W => Mm w [(w.heap.size, wv (List.replicate 64 0))] W) (by kernel_rfl) rfl (by kernel_rfl) (fun _ _ d _ _ h => by cases d <;> exact h) (by kernel_rfl) (by kernel_rfl) (H0.drew) ?_
  have H1d := H0.drew
  clear H0
  refine k_pure (by kernel_rfl) (d := (some 29)) (by kernel_rfl) (v := .pointer (some ⟨b, 0, none⟩)) (fun _ => by kernel_rfl) ?_
  refine k_pure (by kernel_rfl) (d := (some 30)) (by kernel_rfl) (v := .pointer (some ⟨b, 0, none⟩)) (fun _ => by kernel_rfl) ?_
  refine k_pure (by kernel_rfl) (d := (some 31)) (by kernel_rfl) (v := .pointer (some ⟨b, 0, none⟩)) (fun _ => by kernel_rfl) ?_
  refine k_pure (by kernel_rfl) (d := (some 32)) (by kernel_rfl) (v := .pointer (some ⟨b, 0, none⟩)) (fun _ => by kernel_rfl) ?_
  refine k_ifR (by kernel_rfl) (d := (some 33)) (by kernel_rfl) (v := .int .u32 s.a) (fun _ hs => run_loadA (ty := 40) (x := (.tmp 32)) (a := ⟨b, 0, none⟩) (by kernel_rfl) (by kernel_rfl) Tryd.underlying40 rfl (hs.old (HDB.out.cell (v := .int .u32 s.a) rfl) (bsC (Nat.le_refl _) bs0))) ?_
  refine k_pure (by kernel_rfl) (d := (some 34)) (by kernel_rfl) (v := .pointer (some ⟨b, 0, none⟩)) (fun _ => by kernel_rfl) ?_
  refine k_pure (by kernel_rfl) (d := (some 35)) (by kernel_rfl) (v := .pointer (some ⟨b, 0, none⟩)) (fun _ => by kernel_rfl) ?_
  refine k_pure (by kernel_rfl) (d := (some 36)) (by kernel_rfl) (v := .pointer (some ⟨b, 0, none⟩)) (fun _ => by kernel_rfl) ?_
  refine k_pure (by kernel_rfl) (d := (some 37)) (by kernel_rfl) (v := .pointer (some ⟨b, 1, none⟩)) (fun _ => by kernel_rfl) ?_
  refine k_ifR (by kernel_rfl) (d := (some 38)) (by kernel_rfl) (v := .int .u32 s.b) (fun _ hs => run_loadA (ty := 40) (x := (.tmp 37)) (a := ⟨b, 1, none⟩) (by kernel_rfl) (by kernel_rfl) Tryd.underlying40 rfl (hs.old (HDB.out.cell (v := .int .u32 s.b) rfl) (bsC (Nat.le_refl _) bs0))) ?_
  refine k_pure (by kernel_rfl) (d := (some 39)) (by kernel_rfl) (v := .pointer (some ⟨b, 0, none⟩)) (fun _ => by kernel_rfl) ?_
  refine k_pure (by kernel_rfl) (d := (some 40)) (by kernel_rfl) (v := .pointer (some ⟨b, 0, none⟩)) (fun _ => by kernel_rfl) ?_
  refine k_pure (by kernel_rfl) (d := (some 41)) (by kernel_rfl) (v := .pointer (some ⟨b, 0, none⟩)) (fun _ => by kernel_rfl) ?_
  refine k_pure (by kernel_rfl) (d := (some 42)) (by kernel_rfl) (v := .pointer (some ⟨b, 2, none⟩)) (fun _ => by kernel_rfl) ?_
  refine k_ifR (by kernel_rfl) (d := (some 43)) (by kernel_rfl) (v := .int .u32 s.c) (fun _ hs => run_loadA (ty := 40) (x := (.tmp 42)) (a := ⟨b, 2, none⟩) (by kernel_rfl) (by kernel_rfl) Tryd.underlying40 rfl (hs.old (HDB.out.cell (v := .int .u32 s.c) rfl) (bsC (Nat.le_refl _) bs0))) ?_
  refine k_pure (by kernel_rfl) (d := (some 44)) (by kernel_rfl) (v := .pointer (some ⟨b, 0, none⟩)) (fun _ => by kernel_rfl) ?_
  refine k_pure (by kernel_rfl) (d := (some 45)) (by kernel_rfl) (v := .pointer (some ⟨b, 0, none⟩)) (fun _ => by kernel_rfl) ?_
  refine k_pure (by kernel_rfl) (d := (some 46)) (by kernel_rfl) (v := .pointer (some ⟨b, 0, none⟩)) (fun _ => by kernel_rfl) ?_
  refine k_pure (by kernel_rfl) (d := (some 47)) (by kernel_rfl) (v := .pointer (some ⟨b, 3, none⟩)) (fun _ => by kernel_rfl) ?_
  refine k_ifR (by kernel_rfl) (d := (some 48)) (by kernel_rfl) (v := .int .u32 s.d) (fun _ hs => run_loadA (ty := 40) (x := (.tmp 47)) (a := ⟨b, 3, none⟩) (by kernel_rfl) (by kernel_rfl) Tryd.underlying40 rfl (hs.old (HDB.out.cell (v := .int .u32 s.d) rfl) (bsC (Nat.le_refl _) bs0))) ?_
  refine k_pure (by kernel_rfl) (d := (some 49)) (by kernel_rfl) (v := .pointer (some ⟨b, 0, none⟩)) (fun _ => by kernel_rfl) ?_
  refine k_pure (by kernel_rfl) (d := (some 50)) (by kernel_rfl) (v := .pointer (some ⟨b, 0, none⟩)) (fun _ => by kernel_rfl) ?_
  refine k_pure (by kernel_rfl) (d := (some 51)) (by kernel_rfl) (v := .pointer (some ⟨b, 0, none⟩)) (fun _ => by kernel_rfl) ?_
  refine k_pure (by kernel_rfl) (d := (some 52)) (by kernel_rfl) (v := .pointer (some ⟨b, 4, none⟩)) (fun _ => by kernel_rfl) ?_
  refine k_ifR (by kernel_rfl) (d := (some 53)) (by kernel_rfl) (v := .int .u32 s.e) (fun _ hs => run_loadA (ty := 40) (x := (.tmp 52)) (a := ⟨b, 4, none⟩) (by kernel_rfl) (by kernel_rfl) Tryd.underlying40 rfl (hs.old (HDB.out.cell (v := .int .u32 s.e) rfl) (bsC (Nat.le_refl _) bs0))) ?_
  refine k_pure (by kernel_rfl) (d := (some 54)) (by kernel_rfl) (v := .pointer (some ⟨b, 0, none⟩)) (fun _ => by kernel_rfl) ?_
  refine k_pure (by kernel_rfl) (d := (some 55)) (by kernel_rfl) (v := .pointer (some ⟨b, 0, none⟩)) (fun _ => by kernel_rfl) ?_
  refine k_pure (by kernel_rfl) (d := (some 56)) (by kernel_rfl) (v := .pointer (some ⟨b, 0, none⟩)) (fun _ => by kernel_rfl) ?_
  refine k_pure (by kernel_rfl) (d := (some 57)) (by kernel_rfl) (v := .pointer (some ⟨b, 5, none⟩)) (fun _ => by kernel_rfl) ?_
  refine k_ifR (by kernel_rfl) (d := (some 58)) (by kernel_rfl) (v := .int .u32 s.f) (fun _ hs => run_loadA (ty := 40) (x := (.tmp 57)) (a := ⟨b, 5, none⟩) (by kernel_rfl) (by kernel_rfl) Tryd.underlying40 rfl (hs.old (HDB.out.cell (v := .int .u32 s.f) rfl) (bsC (Nat.le_refl _) bs0))) ?_
  refine k_pure (by kernel_rfl) (d := (some 59)) (by kernel_rfl) (v := .pointer (some ⟨b, 0, none⟩)) (fun _ => by kernel_rfl) ?_
  refine k_pure (by kernel_rfl) (d := (some 60)) (by kernel_rfl) (v := .pointer (some ⟨b, 0, none⟩)) (fun _ => by kernel_rfl) ?_
  refine k_pure (by kernel_rfl) (d := (some 61)) (by kernel_rfl) (v := .pointer (some ⟨b, 0, none⟩)) (fun _ => by kernel_rfl) ?_
  refine k_pure (by kernel_rfl) (d := (some 62)) (by kernel_rfl) (v := .pointer (some ⟨b, 6, none⟩)) (fun _ => by kernel_rfl) ?_
  refine k_ifR (by kernel_rfl) (d := (some 63)) (by kernel_rfl) (v := .int .u32 s.g) (fun _ hs => run_loadA (ty := 40) (x := (.tmp 62)) (a := ⟨b, 6, none⟩) (by kernel_rfl) (by kernel_rfl) Tryd.underlying40 rfl (hs.old (HDB.out.cell (v := .int .u32 s.g) rfl) (bsC (Nat.le_refl _) bs0))) ?_
  refine k_pure (by kernel_rfl) (d := (some 64)) (by kernel_rfl) (v := .pointer (some ⟨b, 0, none⟩)) (fun _ => by kernel_rfl) ?_
  refine k_pure (by kernel_rfl) (d := (some 65)) (by kernel_rfl) (v := .pointer (some ⟨b, 0, none⟩)) (fun _ => by kernel_rfl) ?_
  refine k_pure (by kernel_rfl) (d := (some 66)) (by kernel_rfl) (v := .pointer (some ⟨b, 0, none⟩)) (fun _ => by kernel_rfl) ?_
  refine k_pure (by kernel_rfl) (d := (some 67)) (by kernel_rfl) (v := .pointer (some ⟨b, 7, none⟩)) (fun _ => by kernel_rfl) ?_
  refine k_ifR (by kernel_rfl) (d := (some 68)) (by kernel_rfl) (v := .int .u32 s.h) (fun _ hs => run_loadA (ty := 40) (x := (.tmp 67)) (a := ⟨b, 7, none⟩) (by kernel_rfl) (by kernel_rfl) Tryd.underlying40 rfl (hs.old (HDB.out.cell (v := .int .u32 s.h) rfl) (bsC (Nat.le_refl _) bs0))) ?_
  refine k_pure (by kernel_rfl) (d := (some 5)) (by kernel_rfl) (v := .int .u32 s.a) (fun _ => by kernel_rfl) ?_
  refine k_pure (by kernel_rfl) (d := (some 6)) (by kernel_rfl) (v := .int .u32 s.b) (fun _ => by kernel_rfl) ?_
  refine k_pure (by kernel_rfl) (d := (some 7)) (by kernel_rfl) (v := .int .u32 s.c) (fun _ => by kernel_rfl) ?_
  refine k_pure (by kernel_rfl) (d := (some 8)) (by kernel_rfl) (v := .int .u32 s.d) (fun _ => by kernel_rfl) ?_
  refine k_pure (by kernel_rfl) (d := (some 9)) (by kernel_rfl) (v := .int .u32 s.e) (fun _ => by kernel_rfl) ?_
  refine k_pure (by kernel_rfl) (d := (some 10)) (by kernel_rfl) (v := .int .u32 s.f) (fun _ => by kernel_rfl) ?_
  refine k_pure (by kernel_rfl) (d := (some 11)) (by kernel_rfl) (v := .int .u32 s.g) (fun _ => by kernel_rfl) ?_
  refine k_pure (by kernel_rfl) (d := (some 12)) (by kernel_rfl) (v := .int .u32 s.h) (fun _ => by kernel_rfl) ?_
  refine k_end ?_
  go_simp
  have J1 := Lib.hid H1d
  clear H1d
  go_wp2_with fail
  go_loopw [1, 5, 6, 7, 8, 9, 10, 11, 12] (fun v1 v5 v6 v7 v8 v9 v10 v11 v12 wr => ∃ (j : Nat) (X : St) (M : List Int), j ≤ k ∧ Rd w .u8 v1 (l.drop (64 * j)) ∧ v5 = .int .u32 X.a ∧ v6 = .int .u32 X.b ∧ v7 = .int .u32 X.c ∧ v8 = .int .u32 X.d ∧ v9 = .int .u32 X.e ∧ v10 = .int .u32 X.f ∧ v11 = .int .u32 X.g ∧ v12 = .int .u32 X.h ∧ Hid (X = cs s l j) ∧ M.length = 64 ∧ Hid (Mm w [(w.heap.size, wv M)] wr)) (fun v1 _ _ _ _ _ _ _ _ _ => slen v1)
  case atStart => exact ⟨0, s, List.replicate 64 0, Nat.zero_le _, by rw [Nat.mul_zero, List.drop_zero]; exact HP.out, rfl, rfl, rfl, rfl, rfl, rfl, rfl, rfl, Lib.hid rfl, List.length_replicate, Lib.hid J1.out⟩
  case round =>
    clear J1
    obtain ⟨j, X, M, hj, hv1, rfl, rfl, rfl, rfl, rfl, rfl, rfl, rfl, hX, hM, hJ⟩ := hrel
    have HM := Lib.hid hM
    clear hM
    obtain ⟨n, hn⟩ : ∃ n, (l.drop (64 * j)).length = n := ⟨_, rfl⟩
    have HN2 := Lib.hid (show n = 64 * k - 64 * j by rw [← hn, List.length_drop, HL.out])
    by_cases hjk : j < k
    · have hn64N : 64 ≤ n := by have := HN2.out; omega
      obtain ⟨ad, c, rfl, hc, hcell⟩ := hv1.some' (by omega)
      obtain ⟨B, hB⟩ : ∃ B, blk l j = B := ⟨_, rfl⟩
      have HC := Lib.hid (show ∀ i, i < 64 → w.cell? (ad.add i) = some (.int .u8 (B.getD i 0)) from by rw [← hB]; exact blk_cell hcell hn hn64N)
      have HV1 := Lib.hid hv1; have HNN := Lib.hid hn; have HBB := Lib.hid hB
      rw [hn]
      have hn64 : (64 : Int) ≤ (n : Int) := by omega
      clear hv1 hcell hB hn
      go_wp2_with fail
      refine wp_code (c' := codeAt Tryd.f21 2) (by kernel_rfl) (inner_c HC.out HM.out hn64N HGK.out hJ.out (fun _ _ d _ _ h => by cases d <;> exact h) ?_)
      clear hJ
      intro V wr' y21 y22 y23 y24 y25 y26 y27 y28 y80 y81 y82 y83 y84 y85 y86 y87 y88 y89 y90 y91 y92 y93 y94 y95 y96 y97 y98 y99 y100 y101 y102 y103 y104 y105 y106 y107 y108 y109 y110 y111 y112 y113 y114 y115 y116 y117 y118 y119 y120 y121 y122 y123 y124 y125 y126 y127 y128 y129 y130 y131 y132 y133 y134 y135 y136 y137 y138 y139 y140 y141 y142 y143 y144 y145 y146 y147 y148 y149 y150 y151 y152 y153 y154 y155 y156 y157 y158 y159 y160 y161 y162 y163 y164 y165 y166 y167 y168 y169 y170 y171 y172 y173 y174 y175 y176 y177 y178 y179 y180 y181 y182 y183 y184 y185 y186 y187 y188 y189 y190 y191 y192 y193 y194 y195 y196 y197 y198 y199 y200 y201 y202 y203 y204 y205 y206 y207 y208 y209 y210 y211 y212 y213 y214 y215 y216 hV0 H90
      have hV := Lib.hid hV0
      clear hV0
      go_upto_region 26 with (fail)
      refine wp_seq_atS (opsAt Tryd.f21 26) ((true, 0) :: (true, 1) :: (true, 2) :: (true, 3) :: []) (fun _ => True) (by kernel_rfl) (by kernel_rfl) trivial ?_
      refine k_pure (by kernel_rfl) (d := (some 217)) (by kernel_rfl) (v := .int .u32 X.a) (fun _ => by kernel_rfl) ?_
      refine k_pure (by kernel_rfl) (d := (some 218)) (by kernel_rfl) (v := .int .u32 V.a) (fun _ => by kernel_rfl) ?_
      refine k_pure (by kernel_rfl) (d := (some 219)) (by kernel_rfl) (v := .int .u32 (wA X.a V.a)) (fun _ => by kernel_rfl) ?_
      refine k_pure (by kernel_rfl) (d := (some 5)) (by kernel_rfl) (v := .int .u32 (wA X.a V.a)) (fun _ => by kernel_rfl) ?_
      refine k_end ?_
      go_simp
      go_upto_region 27 with (fail)
      refine wp_seq_atS (opsAt Tryd.f21 27) ((true, 0) :: (true, 1) :: (true, 2) :: (true, 3) :: []) (fun _ => True) (by kernel_rfl) (by kernel_rfl) trivial ?_
      refine k_pure (by kernel_rfl) (d := (some 220)) (by kernel_rfl) (v := .int .u32 X.b) (fun _ => by kernel_rfl) ?_
      refine k_pure (by kernel_rfl) (d := (some 221)) (by kernel_rfl) (v := .int .u32 V.b) (fun _ => by kernel_rfl) ?_
      refine k_pure (by kernel_rfl) (d := (some 222)) (by kernel_rfl) (v := .int .u32 (wA X.b V.b)) (fun _ => by kernel_rfl) ?_
      refine k_pure (by kernel_rfl) (d := (some 6)) (by kernel_rfl) (v := .int .u32 (wA X.b V.b)) (fun _ => by kernel_rfl) ?_
      refine k_end ?_
      go_simp
      go_upto_region 28 with (fail)
      refine wp_seq_atS (opsAt Tryd.f21 28) ((true, 0) :: (true, 1) :: (true, 2) :: (true, 3) :: []) (fun _ => True) (by kernel_rfl) (by kernel_rfl) trivial ?_
      refine k_pure (by kernel_rfl) (d := (some 223)) (by kernel_rfl) (v := .int .u32 X.c) (fun _ => by kernel_rfl) ?_
      refine k_pure (by kernel_rfl) (d := (some 224)) (by kernel_rfl) (v := .int .u32 V.c) (fun _ => by kernel_rfl) ?_
      refine k_pure (by kernel_rfl) (d := (some 225)) (by kernel_rfl) (v := .int .u32 (wA X.c V.c)) (fun _ => by kernel_rfl) ?_
      refine k_pure (by kernel_rfl) (d := (some 7)) (by kernel_rfl) (v := .int .u32 (wA X.c V.c)) (fun _ => by kernel_rfl) ?_
      refine k_end ?_
      go_simp
      go_upto_region 29 with (fail)
      refine wp_seq_atS (opsAt Tryd.f21 29) ((true, 0) :: (true, 1) :: (true, 2) :: (true, 3) :: []) (fun _ => True) (by kernel_rfl) (by kernel_rfl) trivial ?_
      refine k_pure (by kernel_rfl) (d := (some 226)) (by kernel_rfl) (v := .int .u32 X.d) (fun _ => by kernel_rfl) ?_
      refine k_pure (by kernel_rfl) (d := (some 227)) (by kernel_rfl) (v := .int .u32 V.d) (fun _ => by kernel_rfl) ?_
      refine k_pure (by kernel_rfl) (d := (some 228)) (by kernel_rfl) (v := .int .u32 (wA X.d V.d)) (fun _ => by kernel_rfl) ?_
      refine k_pure (by kernel_rfl) (d := (some 8)) (by kernel_rfl) (v := .int .u32 (wA X.d V.d)) (fun _ => by kernel_rfl) ?_
      refine k_end ?_
      go_simp
      go_upto_region 30 with (fail)
      refine wp_seq_atS (opsAt Tryd.f21 30) ((true, 0) :: (true, 1) :: (true, 2) :: (true, 3) :: []) (fun _ => True) (by kernel_rfl) (by kernel_rfl) trivial ?_
      refine k_pure (by kernel_rfl) (d := (some 229)) (by kernel_rfl) (v := .int .u32 X.e) (fun _ => by kernel_rfl) ?_
      refine k_pure (by kernel_rfl) (d := (some 230)) (by kernel_rfl) (v := .int .u32 V.e) (fun _ => by kernel_rfl) ?_
      refine k_pure (by kernel_rfl) (d := (some 231)) (by kernel_rfl) (v := .int .u32 (wA X.e V.e)) (fun _ => by kernel_rfl) ?_
      refine k_pure (by kernel_rfl) (d := (some 9)) (by kernel_rfl) (v := .int .u32 (wA X.e V.e)) (fun _ => by kernel_rfl) ?_
      refine k_end ?_
      go_simp
      go_upto_region 31 with (fail)
      refine wp_seq_atS (opsAt Tryd.f21 31) ((true, 0) :: (true, 1) :: (true, 2) :: (true, 3) :: []) (fun _ => True) (by kernel_rfl) (by kernel_rfl) trivial ?_
      refine k_pure (by kernel_rfl) (d := (some 232)) (by kernel_rfl) (v := .int .u32 X.f) (fun _ => by kernel_rfl) ?_
      refine k_pure (by kernel_rfl) (d := (some 233)) (by kernel_rfl) (v := .int .u32 V.f) (fun _ => by kernel_rfl) ?_
      refine k_pure (by kernel_rfl) (d := (some 234)) (by kernel_rfl) (v := .int .u32 (wA X.f V.f)) (fun _ => by kernel_rfl) ?_
      refine k_pure (by kernel_rfl) (d := (some 10)) (by kernel_rfl) (v := .int .u32 (wA X.f V.f)) (fun _ => by kernel_rfl) ?_
      refine k_end ?_
      go_simp
      go_upto_region 32 with (fail)
      refine wp_seq_atS (opsAt Tryd.f21 32) ((true, 0) :: (true, 1) :: (true, 2) :: (true, 3) :: []) (fun _ => True) (by kernel_rfl) (by kernel_rfl) trivial ?_
      refine k_pure (by kernel_rfl) (d := (some 235)) (by kernel_rfl) (v := .int .u32 X.g) (fun _ => by kernel_rfl) ?_
      refine k_pure (by kernel_rfl) (d := (some 236)) (by kernel_rfl) (v := .int .u32 V.g) (fun _ => by kernel_rfl) ?_
      refine k_pure (by kernel_rfl) (d := (some 237)) (by kernel_rfl) (v := .int .u32 (wA X.g V.g)) (fun _ => by kernel_rfl) ?_
      refine k_pure (by kernel_rfl) (d := (some 11)) (by kernel_rfl) (v := .int .u32 (wA X.g V.g)) (fun _ => by kernel_rfl) ?_
      refine k_end ?_
      go_simp
      go_upto_region 33 with (fail)
      refine wp_seq_atS (opsAt Tryd.f21 33) ((true, 0) :: (true, 1) :: (true, 2) :: (true, 3) :: []) (fun _ => True) (by kernel_rfl) (by kernel_rfl) trivial ?_
      refine k_pure (by kernel_rfl) (d := (some 238)) (by kernel_rfl) (v := .int .u32 X.h) (fun _ => by kernel_rfl) ?_
      refine k_pure (by kernel_rfl) (d := (some 239)) (by kernel_rfl) (v := .int .u32 V.h) (fun _ => by kernel_rfl) ?_
      refine k_pure (by kernel_rfl) (d := (some 240)) (by kernel_rfl) (v := .int .u32 (wA X.h V.h)) (fun _ => by kernel_rfl) ?_
      refine k_pure (by kernel_rfl) (d := (some 12)) (by kernel_rfl) (v := .int .u32 (wA X.h V.h)) (fun _ => by kernel_rfl) ?_
      refine k_end ?_
      go_simp
      go_upto_region 34 with (fail)
      obtain ⟨v2, hr2, hd2, _⟩ := HV1.out.part (P := Tryd.prog) (t := 24) Tryd.underlying24 (by kernel_rfl) (lo := 64) (hi := (l.drop (64 * j)).length) (by rw [HNN.out]; omega) (Nat.le_refl _) (a := some (.int .i64 64)) (b := none) (.inl rfl) (.inr ⟨rfl, rfl⟩)
      rw [HNN.out] at hr2 hd2
      have hd3 : Rd w .u8 v2 (l.drop (64 * (j + 1))) := by have e : ((l.drop (64 * j)).drop 64).take (n - 64) = l.drop (64 * (j + 1)) := (by rw [List.drop_drop, show 64 * j + 64 = 64 * (j + 1) by omega]; exact List.take_of_length_le (by rw [List.length_drop, HL.out]; have := HN2.out; omega)); rw [e] at hd2; exact hd2
      have HD3 := Lib.hid hd3; have HR2 := Lib.hid hr2
      clear hd2 hd3 hr2
      refine wp_seq_atS (opsAt Tryd.f21 34) ((true, 0) :: (true, 1) :: (true, 2) :: []) (fun _ => True) (by kernel_rfl) (by kernel_rfl) trivial ?_
      refine k_pure (by kernel_rfl) (d := (some 241)) (by kernel_rfl) (v := .slice (some ad) n c) (fun _ => by kernel_rfl) ?_
      refine k_pure (by kernel_rfl) (d := (some 242)) (by kernel_rfl) (v := v2) (fun _ => run_slOp (x := .tmp 241) (lo := some (.const (.int .i64 64))) (hi := none) (mx := none) (v := .slice (some ad) n c) (a := some (.int .i64 64)) (b := none) (c := none) (by kernel_rfl) (by kernel_rfl) (by kernel_rfl) (by kernel_rfl) (by kernel_rfl) (HR2.out _)) ?_
      refine k_pure (by kernel_rfl) (d := (some 1)) (by kernel_rfl) (v := v2) (fun _ => by kernel_rfl) ?_
      refine k_end ?_
      go_simp
      have hlen2 : slen v2 + 64 ≤ n := by obtain ⟨ao, c2, rfl, _⟩ := HD3.out; show (l.drop (64 * (j + 1))).length + 64 ≤ n; rw [List.length_drop, HL.out]; have := HN2.out; omega
      have HJ := Lib.hid H90
      clear H90
      have HXN := Lib.hid (show sum8 X V = cs s l (j + 1) from by rw [cs, HBB.out, ← hX.out, hV.out]; rfl)
      have HLN := Lib.hid (wm_length (B := B) (t := 64) HM.out (Nat.le_refl _))
      go_wp2_with fail
      exact ⟨⟨j + 1, sum8 X V, wm B M 64, by omega, HD3.out, rfl, rfl, rfl, rfl, rfl, rfl, rfl, rfl, HXN, HLN.out, Lib.hid HJ.out⟩, by first | (show slen v2 < n; omega) | (have := hlen2; simp [slen] at this ⊢; omega)⟩
    · skip
      obtain rfl : j = k := by omega
      have hn0 : n = 0 := by have := HN2.out; omega
      obtain ⟨ao, c, rfl, hc, hno, hcell⟩ := hv1
      rw [hn]
      have hn64 : ¬ (64 : Int) ≤ (n : Int) := by omega
      clear hcell hno hn hn0
      have H89 := hJ.out
      clear hJ
      have H90 := H89.take HDB.out (bsC (Nat.le_refl _) bs0)
      clear H89
      go_upto_region 35 with (fail)
      refine wp_region_atS (opsAt Tryd.f21 35) ((true, 0) :: (true, 1) :: (true, 2) :: (true, 3) :: (true, 4) :: (true, 5) :: (true, 6) :: (true, 7) :: (true, 8) :: (true, 9) :: (true, 10) :: (true, 11) :: (true, 12) :: (true, 13) :: (true, 14) :: (true, 15) :: (true, 16) :: (true, 17) :: (true, 18) :: (true, 20) :: (true, 21) :: (true, 24) :: (true, 25) :: (true, 28) :: (true, 29) :: (true, 32) :: (true, 33) :: (true, 36) :: (true, 37) :: (true, 40) :: (true, 41) :: (true, 44) :: (true, 45) :: (false, 19) :: (true, 22) :: (false, 23) :: (true, 26) :: (false, 27) :: (true, 30) :: (false, 31) :: (true, 34) :: (false, 35) :: (true, 38) :: (false, 39) :: (true, 42) :: (false, 43) :: (true, 46) :: (false, 47) :: []) (fun _ => True) (by kernel_rfl) rfl (by kernel_rfl) (fun _ _ d _ _ h => by cases d <;> exact h) (by kernel_rfl) (by kernel_rfl) (trivial) ?_
      have H84d := H90.drew
      clear H90
      refine k_pure (by kernel_rfl) (d := (some 243)) (by kernel_rfl) (v := .pointer (some ⟨b, 0, none⟩)) (fun _ => by kernel_rfl) ?_
      refine k_pure (by kernel_rfl) (d := (some 244)) (by kernel_rfl) (v := .pointer (some ⟨b, 0, none⟩)) (fun _ => by kernel_rfl) ?_
      refine k_pure (by kernel_rfl) (d := (some 245)) (by kernel_rfl) (v := .pointer (some ⟨b, 0, none⟩)) (fun _ => by kernel_rfl) ?_
      refine k_pure (by kernel_rfl) (d := (some 246)) (by kernel_rfl) (v := .pointer (some ⟨b, 0, none⟩)) (fun _ => by kernel_rfl) ?_
      refine k_pure (by kernel_rfl) (d := (some 247)) (by kernel_rfl) (v := .pointer (some ⟨b, 0, none⟩)) (fun _ => by kernel_rfl) ?_
      refine k_pure (by kernel_rfl) (d := (some 248)) (by kernel_rfl) (v := .pointer (some ⟨b, 0, none⟩)) (fun _ => by kernel_rfl) ?_
      refine k_pure (by kernel_rfl) (d := (some 249)) (by kernel_rfl) (v := .pointer (some ⟨b, 0, none⟩)) (fun _ => by kernel_rfl) ?_
      refine k_pure (by kernel_rfl) (d := (some 250)) (by kernel_rfl) (v := .pointer (some ⟨b, 0, none⟩)) (fun _ => by kernel_rfl) ?_
      refine k_pure (by kernel_rfl) (d := (some 251)) (by kernel_rfl) (v := .int .u32 X.a) (fun _ => by kernel_rfl) ?_
      refine k_pure (by kernel_rfl) (d := (some 252)) (by kernel_rfl) (v := .int .u32 X.b) (fun _ => by kernel_rfl) ?_
      refine k_pure (by kernel_rfl) (d := (some 253)) (by kernel_rfl) (v := .int .u32 X.c) (fun _ => by kernel_rfl) ?_
      refine k_pure (by kernel_rfl) (d := (some 254)) (by kernel_rfl) (v := .int .u32 X.d) (fun _ => by kernel_rfl) ?_
      refine k_pure (by kernel_rfl) (d := (some 255)) (by kernel_rfl) (v := .int .u32 X.e) (fun _ => by kernel_rfl) ?_
      refine k_pure (by kernel_rfl) (d := (some 256)) (by kernel_rfl) (v := .int .u32 X.f) (fun _ => by kernel_rfl) ?_
      refine k_pure (by kernel_rfl) (d := (some 257)) (by kernel_rfl) (v := .int .u32 X.g) (fun _ => by kernel_rfl) ?_
      refine k_pure (by kernel_rfl) (d := (some 258)) (by kernel_rfl) (v := .int .u32 X.h) (fun _ => by kernel_rfl) ?_
      refine k_pure (by kernel_rfl) (d := (some 259)) (by kernel_rfl) (v := .pointer (some ⟨b, 0, none⟩)) (fun _ => by kernel_rfl) ?_
      refine k_pure (by kernel_rfl) (d := (some 260)) (by kernel_rfl) (v := .pointer (some ⟨b, 0, none⟩)) (fun _ => by kernel_rfl) ?_
      refine k_pure (by kernel_rfl) (d := (some 261)) (by kernel_rfl) (v := .pointer (some ⟨b, 0, none⟩)) (fun _ => by kernel_rfl) ?_
      refine k_pure (by kernel_rfl) (d := (some 262)) (by kernel_rfl) (v := .pointer (some ⟨b, 0, none⟩)) (fun _ => by kernel_rfl) ?_
      refine k_pure (by kernel_rfl) (d := (some 263)) (by kernel_rfl) (v := .pointer (some ⟨b, 0, none⟩)) (fun _ => by kernel_rfl) ?_
      refine k_pure (by kernel_rfl) (d := (some 265)) (by kernel_rfl) (v := .pointer (some ⟨b, 0, none⟩)) (fun _ => by kernel_rfl) ?_
      refine k_pure (by kernel_rfl) (d := (some 266)) (by kernel_rfl) (v := .pointer (some ⟨b, 0, none⟩)) (fun _ => by kernel_rfl) ?_
      refine k_pure (by kernel_rfl) (d := (some 268)) (by kernel_rfl) (v := .pointer (some ⟨b, 0, none⟩)) (fun _ => by kernel_rfl) ?_
      refine k_pure (by kernel_rfl) (d := (some 269)) (by kernel_rfl) (v := .pointer (some ⟨b, 0, none⟩)) (fun _ => by kernel_rfl) ?_
      refine k_pure (by kernel_rfl) (d := (some 271)) (by kernel_rfl) (v := .pointer (some ⟨b, 0, none⟩)) (fun _ => by kernel_rfl) ?_
      refine k_pure (by kernel_rfl) (d := (some 272)) (by kernel_rfl) (v := .pointer (some ⟨b, 0, none⟩)) (fun _ => by kernel_rfl) ?_
      refine k_pure (by kernel_rfl) (d := (some 274)) (by kernel_rfl) (v := .pointer (some ⟨b, 0, none⟩)) (fun _ => by kernel_rfl) ?_
      refine k_pure (by kernel_rfl) (d := (some 275)) (by kernel_rfl) (v := .pointer (some ⟨b, 0, none⟩)) (fun _ => by kernel_rfl) ?_
      refine k_pure (by kernel_rfl) (d := (some 277)) (by kernel_rfl) (v := .pointer (some ⟨b, 0, none⟩)) (fun _ => by kernel_rfl) ?_
      refine k_pure (by kernel_rfl) (d := (some 278)) (by kernel_rfl) (v := .pointer (some ⟨b, 0, none⟩)) (fun _ => by kernel_rfl) ?_
      refine k_pure (by kernel_rfl) (d := (some 280)) (by kernel_rfl) (v := .pointer (some ⟨b, 0, none⟩)) (fun _ => by kernel_rfl) ?_
      refine k_pure (by kernel_rfl) (d := (some 281)) (by kernel_rfl) (v := .pointer (some ⟨b, 0, none⟩)) (fun _ => by kernel_rfl) ?_
      have H118 : Mm w [(b, wv [X.a, s.b, s.c, s.d, s.e, s.f, s.g, s.h] ++ R), (w.heap.size, wv M)] (wr.drew.setCell ⟨b, 0, none⟩ (.int .u32 X.a)) := (by have h := H84d.put 0 rfl 0 (.int .u32 X.a); rw [(show (wv s.list ++ R).set 0 (.int .u32 X.a) = wv [X.a, s.b, s.c, s.d, s.e, s.f, s.g, s.h] ++ R from rfl)] at h; exact h)
      refine k_skipOp (by kernel_rfl) (d := none) (by kernel_rfl) (run_storeA (ty := 40) (x := (.tmp 261)) (y := (.tmp 251)) (b := b) (off := 0) (v := .int .u32 X.a) (by kernel_rfl) (by kernel_rfl) (by kernel_rfl) rfl rfl (by kernel_rfl) ((H84d.at 0 rfl).cell (rfl)) (H84d.at 0 rfl).free) trivial ?_
      intro w118 hw118 _
      rw [← hw118] at H118
      clear hw118 H84d
      refine k_pure (by kernel_rfl) (d := (some 264)) (by kernel_rfl) (v := .pointer (some ⟨b, 1, none⟩)) (fun _ => by kernel_rfl) ?_
      have H120 : Mm w [(b, wv [X.a, X.b, s.c, s.d, s.e, s.f, s.g, s.h] ++ R), (w.heap.size, wv M)] (w118.setCell ⟨b, 1, none⟩ (.int .u32 X.b)) := (by have h := H118.put 0 rfl 1 (.int .u32 X.b); rw [(show (wv [X.a, s.b, s.c, s.d, s.e, s.f, s.g, s.h] ++ R).set 1 (.int .u32 X.b) = wv [X.a, X.b, s.c, s.d, s.e, s.f, s.g, s.h] ++ R from rfl)] at h; exact h)
      refine k_skipOp (by kernel_rfl) (d := none) (by kernel_rfl) (run_storeA (ty := 40) (x := (.tmp 264)) (y := (.tmp 252)) (b := b) (off := 1) (v := .int .u32 X.b) (by kernel_rfl) (by kernel_rfl) (by kernel_rfl) rfl rfl (by kernel_rfl) ((H118.at 0 rfl).cell (rfl)) (H118.at 0 rfl).free) trivial ?_
      intro w120 hw120 _
      rw [← hw120] at H120
      clear hw120 H118
      refine k_pure (by kernel_rfl) (d := (some 267)) (by kernel_rfl) (v := .pointer (some ⟨b, 2, none⟩)) (fun _ => by kernel_rfl) ?_
      have H122 : Mm w [(b, wv [X.a, X.b, X.c, s.d, s.e, s.f, s.g, s.h] ++ R), (w.heap.size, wv M)] (w120.setCell ⟨b, 2, none⟩ (.int .u32 X.c)) := (by have h := H120.put 0 rfl 2 (.int .u32 X.c); rw [(show (wv [X.a, X.b, s.c, s.d, s.e, s.f, s.g, s.h] ++ R).set 2 (.int .u32 X.c) = wv [X.a, X.b, X.c, s.d, s.e, s.f, s.g, s.h] ++ R from rfl)] at h; exact h)
      refine k_skipOp (by kernel_rfl) (d := none) (by kernel_rfl) (run_storeA (ty := 40) (x := (.tmp 267)) (y := (.tmp 253)) (b := b) (off := 2) (v := .int .u32 X.c) (by kernel_rfl) (by kernel_rfl) (by kernel_rfl) rfl rfl (by kernel_rfl) ((H120.at 0 rfl).cell (rfl)) (H120.at 0 rfl).free) trivial ?_
      intro w122 hw122 _
      rw [← hw122] at H122
      clear hw122 H120
      refine k_pure (by kernel_rfl) (d := (some 270)) (by kernel_rfl) (v := .pointer (some ⟨b, 3, none⟩)) (fun _ => by kernel_rfl) ?_
      have H124 : Mm w [(b, wv [X.a, X.b, X.c, X.d, s.e, s.f, s.g, s.h] ++ R), (w.heap.size, wv M)] (w122.setCell ⟨b, 3, none⟩ (.int .u32 X.d)) := (by have h := H122.put 0 rfl 3 (.int .u32 X.d); rw [(show (wv [X.a, X.b, X.c, s.d, s.e, s.f, s.g, s.h] ++ R).set 3 (.int .u32 X.d) = wv [X.a, X.b, X.c, X.d, s.e, s.f, s.g, s.h] ++ R from rfl)] at h; exact h)
      refine k_skipOp (by kernel_rfl) (d := none) (by kernel_rfl) (run_storeA (ty := 40) (x := (.tmp 270)) (y := (.tmp 254)) (b := b) (off := 3) (v := .int .u32 X.d) (by kernel_rfl) (by kernel_rfl) (by kernel_rfl) rfl rfl (by kernel_rfl) ((H122.at 0 rfl).cell (rfl)) (H122.at 0 rfl).free) trivial ?_
      intro w124 hw124 _
      rw [← hw124] at H124
      clear hw124 H122
      refine k_pure (by kernel_rfl) (d := (some 273)) (by kernel_rfl) (v := .pointer (some ⟨b, 4, none⟩)) (fun _ => by kernel_rfl) ?_
      have H126 : Mm w [(b, wv [X.a, X.b, X.c, X.d, X.e, s.f, s.g, s.h] ++ R), (w.heap.size, wv M)] (w124.setCell ⟨b, 4, none⟩ (.int .u32 X.e)) := (by have h := H124.put 0 rfl 4 (.int .u32 X.e); rw [(show (wv [X.a, X.b, X.c, X.d, s.e, s.f, s.g, s.h] ++ R).set 4 (.int .u32 X.e) = wv [X.a, X.b, X.c, X.d, X.e, s.f, s.g, s.h] ++ R from rfl)] at h; exact h)
      refine k_skipOp (by kernel_rfl) (d := none) (by kernel_rfl) (run_storeA (ty := 40) (x := (.tmp 273)) (y := (.tmp 255)) (b := b) (off := 4) (v := .int .u32 X.e) (by kernel_rfl) (by kernel_rfl) (by kernel_rfl) rfl rfl (by kernel_rfl) ((H124.at 0 rfl).cell (rfl)) (H124.at 0 rfl).free) trivial ?_
      intro w126 hw126 _
      rw [← hw126] at H126
      clear hw126 H124
      refine k_pure (by kernel_rfl) (d := (some 276)) (by kernel_rfl) (v := .pointer (some ⟨b, 5, none⟩)) (fun _ => by kernel_rfl) ?_
      have H128 : Mm w [(b, wv [X.a, X.b, X.c, X.d, X.e, X.f, s.g, s.h] ++ R), (w.heap.size, wv M)] (w126.setCell ⟨b, 5, none⟩ (.int .u32 X.f)) := (by have h := H126.put 0 rfl 5 (.int .u32 X.f); rw [(show (wv [X.a, X.b, X.c, X.d, X.e, s.f, s.g, s.h] ++ R).set 5 (.int .u32 X.f) = wv [X.a, X.b, X.c, X.d, X.e, X.f, s.g, s.h] ++ R from rfl)] at h; exact h)
      refine k_skipOp (by kernel_rfl) (d := none) (by kernel_rfl) (run_storeA (ty := 40) (x := (.tmp 276)) (y := (.tmp 256)) (b := b) (off := 5) (v := .int .u32 X.f) (by kernel_rfl) (by kernel_rfl) (by kernel_rfl) rfl rfl (by kernel_rfl) ((H126.at 0 rfl).cell (rfl)) (H126.at 0 rfl).free) trivial ?_
      intro w128 hw128 _
      rw [← hw128] at H128
      clear hw128 H126
      refine k_pure (by kernel_rfl) (d := (some 279)) (by kernel_rfl) (v := .pointer (some ⟨b, 6, none⟩)) (fun _ => by kernel_rfl) ?_
      have H130 : Mm w [(b, wv [X.a, X.b, X.c, X.d, X.e, X.f, X.g, s.h] ++ R), (w.heap.size, wv M)] (w128.setCell ⟨b, 6, none⟩ (.int .u32 X.g)) := (by have h := H128.put 0 rfl 6 (.int .u32 X.g); rw [(show (wv [X.a, X.b, X.c, X.d, X.e, X.f, s.g, s.h] ++ R).set 6 (.int .u32 X.g) = wv [X.a, X.b, X.c, X.d, X.e, X.f, X.g, s.h] ++ R from rfl)] at h; exact h)
      refine k_skipOp (by kernel_rfl) (d := none) (by kernel_rfl) (run_storeA (ty := 40) (x := (.tmp 279)) (y := (.tmp 257)) (b := b) (off := 6) (v := .int .u32 X.g) (by kernel_rfl) (by kernel_rfl) (by kernel_rfl) rfl rfl (by kernel_rfl) ((H128.at 0 rfl).cell (rfl)) (H128.at 0 rfl).free) trivial ?_
      intro w130 hw130 _
      rw [← hw130] at H130
      clear hw130 H128
      refine k_pure (by kernel_rfl) (d := (some 282)) (by kernel_rfl) (v := .pointer (some ⟨b, 7, none⟩)) (fun _ => by kernel_rfl) ?_
      have H132 : Mm w [(b, wv [X.a, X.b, X.c, X.d, X.e, X.f, X.g, X.h] ++ R), (w.heap.size, wv M)] (w130.setCell ⟨b, 7, none⟩ (.int .u32 X.h)) := (by have h := H130.put 0 rfl 7 (.int .u32 X.h); rw [(show (wv [X.a, X.b, X.c, X.d, X.e, X.f, X.g, s.h] ++ R).set 7 (.int .u32 X.h) = wv [X.a, X.b, X.c, X.d, X.e, X.f, X.g, X.h] ++ R from rfl)] at h; exact h)
      refine k_skipOp (by kernel_rfl) (d := none) (by kernel_rfl) (run_storeA (ty := 40) (x := (.tmp 282)) (y := (.tmp 258)) (b := b) (off := 7) (v := .int .u32 X.h) (by kernel_rfl) (by kernel_rfl) (by kernel_rfl) rfl rfl (by kernel_rfl) ((H130.at 0 rfl).cell (rfl)) (H130.at 0 rfl).free) trivial ?_
      intro w132 hw132 _
      rw [← hw132] at H132
      clear hw132 H130
      refine k_end ?_
      go_simp
      have HF := Lib.hid (show Mm w [(b, wv X.list ++ R)] w132 from H132.end1 (bsC (Nat.le_refl _) bs0))
      clear H132
      have HX2 := Lib.hid hX.out
      clear hX
      go_wp2_with fail
      go_end0
      exact ⟨rfl, by have h := HF.out; rw [HX2.out] at h; exact h⟩
end Go.Proofs.YtkmofjefjbhbhaaDoor
