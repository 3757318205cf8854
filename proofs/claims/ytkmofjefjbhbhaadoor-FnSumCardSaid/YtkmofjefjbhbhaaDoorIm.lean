/- The thin package's hash. -/
import Derived.Test.YtkmofjefjbhbhaaDoorOs
namespace Go.Proofs.YtkmofjefjbhbhaaDoor
open Go.RowKit Go.FourQ Go.Sha Go.Sl
theorem fresh_c2 {w : World} {kI sI bI : Int} {sz : Nat} (hz : szO sI bI = sz) :
    Calls Tryd.prog 11 #[.agg #[.int .i64 kI, .int .i64 sI, .int .i64 bI]] w fun e w' => ∃ n g B, e = .returned (.pointer (some ⟨n, 0, none⟩)) ∧ w.heap.size ≤ n ∧ w.heap.size ≤ g ∧ n ≠ g ∧ Mm w [(n, ownL sz B 0 g), (g, bv (fr sz sz))] w' := by
  subst hz
  exact fresh_c

set_option maxRecDepth 100000 in
set_option maxHeartbeats 1000000 in
theorem implSum_c {w : World} {kI sI bI : Int} {v : Value} {l : List Int} (hp : Rd w .u8 v l) (hl : l.length ≤ 4096) (hK : Bl w 0 (wv kc)) :
    Calls Tryd.prog 5 #[.agg #[.int .i64 kI, .int .i64 sI, .int .i64 bI], v] w fun e w' => ∃ v', e = .returned v' ∧ Rd w' .u8 v' (hashO kI sI bI l) ∧ Below w.heap.size w w' := by
  have HP := Lib.hid hp; have HK := Lib.hid hK; have hkl := hK.lt
  clear hp hK
  by_cases hk : kI = 1
  · skip
    subst hk
    rw [hashO_one]
    go_enter Tryd.func5, Tryd.ntmps5
    go_upto_region 1 with (fail)
    refine wp_gen (fun WW => Mm w [(w.heap.size, hsL 1 sI bI)] WW) ((Mm.zero w).new (L := hsL 1 sI bI) rfl (by kernel_rfl)) ?_
    intro W0 H0
    refine wp_seq_atS (opsAt Tryd.f5 1) ((true, 0) :: (false, 1) :: (true, 2) :: []) (fun _ => True) (by kernel_rfl) (by kernel_rfl) trivial ?_
    refine k_pure (by kernel_rfl) (d := (some 7)) (by kernel_rfl) (v := .pointer (some ⟨w.heap.size, 0, none⟩)) (fun _ => by kernel_rfl) ?_
    refine k_make (by kernel_rfl) (d := (some 8)) (by kernel_rfl) (v := .int .i64 1) (run_loadA (ty := 3) (x := (.tmp 7)) (a := ⟨w.heap.size, 0, none⟩) (by kernel_rfl) (by kernel_rfl) Tryd.underlying3 rfl ((H0.at 0 rfl).cell rfl)) trivial ?_
    intro w2 hw2 _
    replace hw2 := hw2.symm
    subst hw2
    refine k_pure (by kernel_rfl) (d := (some 9)) (by kernel_rfl) (v := .bool true) (fun _ => run_binOpV (op := .eql) (x := .tmp 8) (y := .const (.int .i64 1)) (t := 3) (t' := 3) (u := .int .i64 1) (v := .int .i64 1) (by kernel_rfl) (by kernel_rfl) (by kernel_rfl) rfl (eqlT (rfl))) ?_
    refine k_end ?_
    go_simp
    go_upto_region 2 with (fail)
    have HD0 := H0.drop0 (Nat.le_refl _)
    clear H0
    refine wp_seq_atS (opsAt Tryd.f5 2) ((false, 0) :: (true, 1) :: []) (fun _ => True) (by kernel_rfl) (by kernel_rfl) trivial ?_
    refine k_callR (by kernel_rfl) (d := (some 10)) (by kernel_rfl) (f := 7) (args := #[]) (fun _ => by kernel_rfl) (new_c) (fun _ w3 ⟨nd, he3, hge3, u3⟩ => ⟨_, he3, trivial, ?_⟩)
    have H3 := HD0.trans0 u3
    have hgd : w.heap.size ≤ nd := Nat.le_trans HD0.size hge3
    clear u3 he3 hge3 HD0
    refine k_pure (by kernel_rfl) (d := (some 5)) (by kernel_rfl) (v := .pointer (some ⟨nd, 0, none⟩)) (fun _ => by kernel_rfl) ?_
    refine k_end ?_
    go_simp
    go_upto_region 3 with (fail)
    have hnd : nd < w3.heap.size := (H3.at 0 rfl).lt
    refine wp_seq_atS (opsAt Tryd.f5 3) ((true, 0) :: (true, 1) :: (false, 2) :: (false, 3) :: []) (fun _ => True) (by kernel_rfl) (by kernel_rfl) trivial ?_
    refine k_pure (by kernel_rfl) (d := (some 11)) (by kernel_rfl) (v := .pointer (some ⟨nd, 0, none⟩)) (fun _ => by kernel_rfl) ?_
    refine k_pure (by kernel_rfl) (d := (some 12)) (by kernel_rfl) (v := v) (fun _ => by kernel_rfl) ?_
    refine k_callR (by kernel_rfl) (d := (some 13)) (by kernel_rfl) (f := 9) (args := #[v]) (fun _ => by kernel_rfl) (copied_c (HP.out.fresh H3 (bsC hgd bs0)) hl) (fun _ w7 ⟨vc, he7, ho7, hb7⟩ => ⟨_, he7, trivial, ?_⟩)
    have H7 := H3.go hb7
    have HO := Lib.hid ho7; have HV := Lib.hid (show vc.ownBlock ≠ some nd from fun e => by have := (ho7.lt e).1; omega)
    clear ho7
    clear he7 H3 hb7
    refine k_callR (by kernel_rfl) (d := (some 14)) (by kernel_rfl) (f := 8) (args := #[.pointer (some ⟨nd, 0, none⟩), vc]) (fun _ => by kernel_rfl) (write_c (s := []) (nx := 0) (p := l) (H7.at 0 rfl) (dg_new List.length_replicate) HO.out.rd (by simp only [List.length_nil]; omega) (by omega) HV.out (HK.out.out H7 (bsC (by show nd ≠ 0; omega) bs0))) (fun _ w8 ⟨sg2, x2, nx2, he8, hdg2, u8⟩ => ⟨_, he8, trivial, ?_⟩)
    have H8 : Mm w [(nd, dgL sg2 x2 nx2 (([] : List Int).length + l.length))] w8 := H7.upd (i := 0) rfl u8
    clear u8 he8 H7
    refine k_end ?_
    go_simp
    have HDG := Lib.hid (show Dg l sg2 x2 nx2 from hdg2)
    clear hdg2
    have HM := Lib.hid (show Mm w [(nd, dgL sg2 x2 nx2 l.length)] w8 from by have h := H8; rw [List.length_nil, Nat.zero_add] at h; exact h)
    clear H8
    go_upto_region 4 with (fail)
    refine wp_seq_atS (opsAt Tryd.f5 4) ((true, 0) :: (false, 1) :: (true, 2) :: []) (fun _ => True) (by kernel_rfl) (by kernel_rfl) trivial ?_
    refine k_pure (by kernel_rfl) (d := (some 15)) (by kernel_rfl) (v := .pointer (some ⟨nd, 0, none⟩)) (fun _ => by kernel_rfl) ?_
    refine k_callR (by kernel_rfl) (d := (some 16)) (by kernel_rfl) (f := 10) (args := #[.pointer (some ⟨nd, 0, none⟩), .slice none 0 0]) (fun _ => by kernel_rfl) (sum_c (s := l) (HM.out.at 0 rfl) HDG.out hl (HK.out.out HM.out (bsC (by show nd ≠ 0; omega) bs0))) (fun _ w10 ⟨v10, he10, ho10, hb10⟩ => ⟨_, he10, trivial, ?_⟩)
    have HR := Lib.hid ho10.rd; have HF := Lib.hid (Mm.below (HM.out.go hb10) (bsC hgd bs0))
    clear ho10 hb10 he10
    refine k_pure (by kernel_rfl) (d := (some 4)) (by kernel_rfl) (v := v10) (fun _ => by kernel_rfl) ?_
    refine k_end ?_
    go_simp
    go_wp2_with fail
    exact bodyPost_ret_by (by kernel_rfl) (by kernel_rfl) ⟨_, rfl, HR.out, HF.out⟩
  · skip
    rw [hashO_own hk]
    have HK1 := Lib.hid hk; clear hk
    obtain ⟨sz, hsz⟩ : ∃ sz, szO sI bI = sz := ⟨_, rfl⟩
    have hs1 : 1 ≤ sz := by rw [← hsz]; exact szO_pos.1
    have hs16 : sz ≤ 16 := by rw [← hsz]; exact szO_pos.2
    rw [hsz]
    have HSZ := Lib.hid hsz; clear hsz
    go_enter Tryd.func5, Tryd.ntmps5
    go_upto_region 1 with (fail)
    refine wp_gen (fun WW => Mm w [(w.heap.size, hsL kI sI bI)] WW) ((Mm.zero w).new (L := hsL kI sI bI) rfl (by kernel_rfl)) ?_
    intro W0 H0
    refine wp_seq_atS (opsAt Tryd.f5 1) ((true, 0) :: (false, 1) :: (true, 2) :: []) (fun _ => True) (by kernel_rfl) (by kernel_rfl) trivial ?_
    refine k_pure (by kernel_rfl) (d := (some 7)) (by kernel_rfl) (v := .pointer (some ⟨w.heap.size, 0, none⟩)) (fun _ => by kernel_rfl) ?_
    refine k_make (by kernel_rfl) (d := (some 8)) (by kernel_rfl) (v := .int .i64 kI) (run_loadA (ty := 3) (x := (.tmp 7)) (a := ⟨w.heap.size, 0, none⟩) (by kernel_rfl) (by kernel_rfl) Tryd.underlying3 rfl ((H0.at 0 rfl).cell rfl)) trivial ?_
    intro w13 hw13 _
    replace hw13 := hw13.symm
    subst hw13
    refine k_pure (by kernel_rfl) (d := (some 9)) (by kernel_rfl) (v := .bool false) (fun _ => run_binOpV (op := .eql) (x := .tmp 8) (y := .const (.int .i64 1)) (t := 3) (t' := 3) (u := .int .i64 kI) (v := .int .i64 1) (by kernel_rfl) (by kernel_rfl) (by kernel_rfl) rfl (eqlF (HK1.out))) ?_
    refine k_end ?_
    go_simp
    go_upto_region 5 with (fail)
    refine wp_seq_atS (opsAt Tryd.f5 5) ((false, 0) :: (false, 1) :: (true, 2) :: []) (fun _ => True) (by kernel_rfl) (by kernel_rfl) trivial ?_
    obtain ⟨T14, hT14⟩ := H0.at 0 rfl
    refine k_make (by kernel_rfl) (d := (some 17)) (by kernel_rfl) (v := .agg (hsL kI sI bI).toArray) (run_loadRow (ty := 23) (x := (.tmp 2)) (b := w.heap.size) (by kernel_rfl) (by kernel_rfl) hT14 Tryd.underlying23 rfl (by kernel_rfl)) trivial ?_
    intro w14 hw14 _
    replace hw14 := hw14.symm
    subst hw14
    clear hT14
    refine k_callR (by kernel_rfl) (d := (some 18)) (by kernel_rfl) (f := 11) (args := #[.agg (hsL kI sI bI).toArray]) (fun _ => by kernel_rfl) (fresh_c2 HSZ.out) (fun _ w15 ⟨nd, gd, B, he15, hgn15, hgg15, hne15, u15⟩ => ⟨_, he15, trivial, ?_⟩)
    have H15 := (H0.drop0 (Nat.le_refl _)).trans0 u15
    have hgd : w.heap.size ≤ nd := Nat.le_trans H0.size hgn15
    have hgg : w.heap.size ≤ gd := Nat.le_trans H0.size hgg15
    have HNE := Lib.hid hne15
    clear hgn15 hgg15 hne15
    clear he15 H0 u15
    refine k_pure (by kernel_rfl) (d := (some 6)) (by kernel_rfl) (v := .pointer (some ⟨nd, 0, none⟩)) (fun _ => by kernel_rfl) ?_
    refine k_end ?_
    go_simp
    go_upto_region 6 with (fail)
    have hnd : nd < w15.heap.size := (H15.at 0 rfl).lt
    have hng : gd < w15.heap.size := (H15.at 1 rfl).lt
    refine wp_seq_atS (opsAt Tryd.f5 6) ((true, 0) :: (true, 1) :: (false, 2) :: (false, 3) :: []) (fun _ => True) (by kernel_rfl) (by kernel_rfl) trivial ?_
    refine k_pure (by kernel_rfl) (d := (some 19)) (by kernel_rfl) (v := .pointer (some ⟨nd, 0, none⟩)) (fun _ => by kernel_rfl) ?_
    refine k_pure (by kernel_rfl) (d := (some 20)) (by kernel_rfl) (v := v) (fun _ => by kernel_rfl) ?_
    refine k_callR (by kernel_rfl) (d := (some 21)) (by kernel_rfl) (f := 9) (args := #[v]) (fun _ => by kernel_rfl) (copied_c (HP.out.fresh H15 (bsC hgd (bsC hgg bs0))) hl) (fun _ w19 ⟨vc, he19, ho19, hb19⟩ => ⟨_, he19, trivial, ?_⟩)
    have H19 := H15.go hb19
    have HO := Lib.hid ho19; have HV := Lib.hid (show vc.ownBlock ≠ some nd from fun e => by have := (ho19.lt e).1; omega); have HV2 := Lib.hid (show vc.ownBlock ≠ some gd from fun e => by have := (ho19.lt e).1; omega)
    clear ho19
    clear he19 H15 hb19
    refine k_callR (by kernel_rfl) (d := (some 22)) (by kernel_rfl) (f := 12) (args := #[.pointer (some ⟨nd, 0, none⟩), vc]) (fun _ => by kernel_rfl) (ownWrite_c (sz := sz) (p := l) hs1 hs16 (H19.at 0 rfl) (by have h := H19.at 1 rfl; rw [fr_all sz l] at h; exact h) HNE.out HO.out.rd (by omega) HV.out HV2.out) (fun _ w20 ⟨he20, u20⟩ => ⟨_, he20, trivial, ?_⟩)
    have H20 := H19.upd2 (i := 0) (j := 1) (by decide) rfl rfl u20
    clear he20 H19 u20
    refine k_end ?_
    go_simp
    have HM := Lib.hid (show Mm w [(nd, ownL sz B l.length gd), (gd, bv (own sz l l.length))] w20 from H20)
    clear H20
    go_upto_region 7 with (fail)
    refine wp_seq_atS (opsAt Tryd.f5 7) ((true, 0) :: (false, 1) :: (true, 2) :: []) (fun _ => True) (by kernel_rfl) (by kernel_rfl) trivial ?_
    refine k_pure (by kernel_rfl) (d := (some 23)) (by kernel_rfl) (v := .pointer (some ⟨nd, 0, none⟩)) (fun _ => by kernel_rfl) ?_
    refine k_callR (by kernel_rfl) (d := (some 24)) (by kernel_rfl) (f := 13) (args := #[.pointer (some ⟨nd, 0, none⟩), .slice none 0 0]) (fun _ => by kernel_rfl) (ownSum_c hs16 (HM.out.at 0 rfl) (HM.out.at 1 rfl)) (fun _ w22 ⟨v22, he22, hr22, hb22⟩ => ⟨_, he22, trivial, ?_⟩)
    have HR := Lib.hid hr22; have HF := Lib.hid (Mm.below (HM.out.go hb22) (bsC hgd (bsC hgg bs0)))
    clear hr22 hb22 he22
    refine k_pure (by kernel_rfl) (d := (some 4)) (by kernel_rfl) (v := v22) (fun _ => by kernel_rfl) ?_
    refine k_end ?_
    go_simp
    go_wp2_with fail
    exact bodyPost_ret_by (by kernel_rfl) (by kernel_rfl) ⟨_, rfl, HR.out, HF.out⟩
end Go.Proofs.YtkmofjefjbhbhaaDoor
