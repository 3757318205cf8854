/- The package's own hash is written out. -/
import Derived.Test.YtkmofjefjbhbhaaDoorHb
namespace Go.Proofs.YtkmofjefjbhbhaaDoor
open Go.RowKit Go.FourQ Go.Sha Go.Sl

set_option maxRecDepth 100000 in
set_option maxHeartbeats 1000000 in
theorem ownSum_c {w : World} {n g sz : Nat} {B : Int} {p : List Int} (h16 : sz ≤ 16) (hO : Bl w n (ownL sz B p.length g)) (hS : Bl w g (bv (own sz p p.length))) :
    Calls Tryd.prog 13 #[.pointer (some ⟨n, 0, none⟩), .slice none 0 0] w fun e w' => ∃ v', e = .returned v' ∧ Rd w' .u8 v' (ownH sz p) ∧ Below w.heap.size w w' := by
  obtain ⟨len, hlen⟩ : ∃ len, p.length = len := ⟨_, rfl⟩
  rw [hlen] at hO hS
  obtain ⟨st, hst⟩ : ∃ st, own sz p len = st := ⟨_, rfl⟩
  obtain ⟨res, hres⟩ : ∃ res, ownH sz p = res := ⟨_, rfl⟩
  have hrl : res.length = sz := by rw [← hres]; exact ownH_length _ _
  have hsl : st.length = sz := by rw [← hst]; exact own_length _ _ _
  have htk : ∀ t, t < sz → res.take (t + 1) = res.take t ++ [b8 (st.getD t 0 + b8 ((len : Nat) : Int))] := by intro t ht; subst hres hst hlen; exact ownH_take ht
  rw [hst] at hS
  rw [hres]
  have HN := Lib.hid hO; have HG := Lib.hid hS; have HR := Lib.hid hrl; have HS := Lib.hid hsl; have HT := Lib.hid htk
  clear hO hS hrl hsl htk hst hres hlen
  go_enter Tryd.func13, Tryd.ntmps13
  go_upto_region 1 with (fail)
  have H0 : Mm w [] w := (Mm.zero w)
  refine wp_seq_atS (opsAt Tryd.f13 1) ((true, 0) :: (true, 1) :: (true, 2) :: (false, 3) :: (true, 4) :: (true, 5) :: []) (fun _ => True) (by kernel_rfl) (by kernel_rfl) trivial ?_
  refine k_pure (by kernel_rfl) (d := (some 7)) (by kernel_rfl) (v := .pointer (some ⟨n, 0, none⟩)) (fun _ => by kernel_rfl) ?_
  refine k_pure (by kernel_rfl) (d := (some 8)) (by kernel_rfl) (v := .pointer (some ⟨n, 0, none⟩)) (fun _ => by kernel_rfl) ?_
  refine k_pure (by kernel_rfl) (d := (some 9)) (by kernel_rfl) (v := .pointer (some ⟨n, 3, none⟩)) (fun _ => by kernel_rfl) ?_
  refine k_make (by kernel_rfl) (d := (some 10)) (by kernel_rfl) (v := .slice (some ⟨g, 0, none⟩) sz sz) (run_loadA (ty := 24) (x := (.tmp 9)) (a := ⟨n, 3, none⟩) (by kernel_rfl) (by kernel_rfl) Tryd.underlying24 rfl (HN.out.cell rfl)) trivial ?_
  intro w4 hw4 _
  replace hw4 := hw4.symm
  subst hw4
  refine k_pure (by kernel_rfl) (d := (some 11)) (by kernel_rfl) (v := .int .i64 ((sz : Nat) : Int)) (fun _ => by kernel_rfl) ?_
  refine k_pure (by kernel_rfl) (d := (some 12)) (by kernel_rfl) (v := .int .i64 0) (fun _ => by kernel_rfl) ?_
  refine k_end ?_
  go_simp
  have J12 := Lib.hid (show Mm w [] w from H0)
  clear H0
  go_wp2_with fail
  go_loopw [1, 12] (fun v1 iv wr => ∃ (t : Nat) (ao : Option Addr) (c : Nat), t ≤ sz ∧ v1 = .slice ao t c ∧ iv = .int .i64 t ∧ Hid (Ow wr w.heap.size 5 .u8 (.slice ao t c) (res.take t)) ∧ Hid (Mm w [] wr)) (fun _ i _ => sz - (intOf i).toNat)
  case atStart => exact ⟨0, none, 0, Nat.zero_le _, rfl, rfl, Lib.hid Ow.nil, Lib.hid J12.out⟩
  case round =>
    clear J12
    obtain ⟨t, ao, c, ht1, rfl, rfl, hO, hJ⟩ := hrel
    by_cases ht : t < sz
    · have htI : (t : Int) < (sz : Int) := by omega
      have H90 := hJ.out; have O90 := hO.out
      clear hJ hO
      obtain ⟨x, hx⟩ : ∃ x, st.getD t 0 = x := ⟨_, rfl⟩
      have HX := Lib.hid hx
      clear hx
      go_upto_region 3 with (fail)
      refine wp_seq_atS (opsAt Tryd.f13 3) ((true, 0) :: (false, 1) :: (true, 2) :: []) (fun _ => True) (by kernel_rfl) (by kernel_rfl) trivial ?_
      refine k_pure (by kernel_rfl) (d := (some 14)) (by kernel_rfl) (v := .pointer (some ⟨g, t, none⟩)) (fun _ => run_indexSe (t := 24) (x := (.tmp 10)) (y := (.tmp 12)) (b := g) (off := 0) (off' := t) (n := sz) (c := sz) (i := t) (z := ((t : Nat) : Int)) (by kernel_rfl) (by kernel_rfl) (by kernel_rfl) rfl Tryd.underlying24 (by kernel_rfl) (by omega) (Nat.zero_add _)) ?_
      refine k_make (by kernel_rfl) (d := (some 15)) (by kernel_rfl) (v := .int .u8 x) (run_loadA (ty := 5) (x := (.tmp 14)) (a := ⟨g, t, none⟩) (by kernel_rfl) (by kernel_rfl) Tryd.underlying5 rfl (H90.old (HG.out.cell (by rw [← HX.out]; exact bv_at (by rw [HS.out]; exact ht))) bs0)) trivial ?_
      intro w7 hw7 _
      replace hw7 := hw7.symm
      subst hw7
      refine k_pure (by kernel_rfl) (d := (some 6)) (by kernel_rfl) (v := .int .u8 x) (fun _ => by kernel_rfl) ?_
      refine k_end ?_
      go_simp
      go_upto_region 4 with (fail)
      refine wp_seq_atS (opsAt Tryd.f13 4) ((true, 0) :: (true, 1) :: (true, 2) :: (true, 3) :: (true, 4) :: (false, 5) :: (true, 6) :: (true, 7) :: (false, 8) :: (false, 9) :: (true, 10) :: []) (fun _ => True) (by kernel_rfl) (by kernel_rfl) trivial ?_
      refine k_pure (by kernel_rfl) (d := (some 16)) (by kernel_rfl) (v := .slice ao t c) (fun _ => by kernel_rfl) ?_
      refine k_pure (by kernel_rfl) (d := (some 17)) (by kernel_rfl) (v := .int .u8 x) (fun _ => by kernel_rfl) ?_
      refine k_pure (by kernel_rfl) (d := (some 18)) (by kernel_rfl) (v := .pointer (some ⟨n, 0, none⟩)) (fun _ => by kernel_rfl) ?_
      refine k_pure (by kernel_rfl) (d := (some 19)) (by kernel_rfl) (v := .pointer (some ⟨n, 0, none⟩)) (fun _ => by kernel_rfl) ?_
      refine k_pure (by kernel_rfl) (d := (some 20)) (by kernel_rfl) (v := .pointer (some ⟨n, 2, none⟩)) (fun _ => by kernel_rfl) ?_
      refine k_make (by kernel_rfl) (d := (some 21)) (by kernel_rfl) (v := .int .i64 ((len : Nat) : Int)) (run_loadA (ty := 3) (x := (.tmp 20)) (a := ⟨n, 2, none⟩) (by kernel_rfl) (by kernel_rfl) Tryd.underlying3 rfl (H90.old (HN.out.cell rfl) bs0)) trivial ?_
      intro w14 hw14 _
      replace hw14 := hw14.symm
      subst hw14
      refine k_pure (by kernel_rfl) (d := (some 22)) (by kernel_rfl) (v := .int .u8 (b8 ((len : Nat) : Int))) (fun _ => run_convOpE (x := (.tmp 21)) (s := 3) (d := 5) (u := .int .i64 ((len : Nat) : Int)) (v := .int .u8 (IntKind.u8.wrap ((len : Nat) : Int))) (by kernel_rfl) (by kernel_rfl) (by kernel_rfl) rfl) ?_
      refine k_pure (by kernel_rfl) (d := (some 23)) (by kernel_rfl) (v := .int .u8 (b8 (x + (b8 ((len : Nat) : Int))))) (fun _ => by kernel_rfl) ?_
      obtain ⟨n17, hn17⟩ : ∃ n, wr.heap.size = n := ⟨_, rfl⟩
      have H17 : Mm w [] (wr.alloc (.cells (bv [b8 (x + b8 ((len : Nat) : Int))]).toArray 5)) := H90.allocM
      have hrd17 : Rd (wr.alloc (.cells (bv [b8 (x + b8 ((len : Nat) : Int))]).toArray 5)) .u8 (.slice (some ⟨n17, 0, none⟩) 1 1) [b8 (x + b8 ((len : Nat) : Int))] := by rw [← hn17]; exact rd_new (l := [b8 (x + b8 ((len : Nat) : Int))])
      have ho17 := Ow.alloc (o := .cells (bv [b8 (x + b8 ((len : Nat) : Int))]).toArray 5) O90
      refine k_make (by kernel_rfl) (d := (some 24)) (by kernel_rfl) (v := .slice (some ⟨n17, 0, none⟩) 1 1) (w' := (wr.alloc (.cells (bv [b8 (x + b8 ((len : Nat) : Int))]).toArray 5))) (by rw [← hn17]; kernel_rfl) trivial ?_
      intro w17 hw17 _
      rw [← hw17] at H17 ho17 hrd17
      clear hw17 hn17 H90
      obtain ⟨i18, hi18, hz18, hs18, hy18⟩ := info_parts (P := Tryd.prog) (e := 5) (z := .int .u8 0) (size := 1) (bytes := 1) (by kernel_rfl)
      obtain ⟨ao18, c18, wz18, hr18, ho18, um18⟩ := app_step (P := Tryd.prog) (t := 24) (ty := 24) Tryd.underlying24 hi18 hz18 hs18 hy18 H17 ho17 hrd17 (n := t + 1) (by rw [List.length_append, List.length_take, HR.out]; simp only [List.length_cons, List.length_nil]; omega) (by omega) (Nat.le_refl _) H17.size bs0
      refine k_make (by kernel_rfl) (d := (some 25)) (by kernel_rfl) (v := .slice ao18 (t + 1) c18) (run_appOp (x := .tmp 16) (y := .tmp 24) (by kernel_rfl) (by kernel_rfl) (by kernel_rfl) hr18) trivial ?_
      intro w18 hw18 _
      rw [← hw18] at ho18 um18
      clear hw18 hr18 hi18 hz18 hs18 hy18 H17 ho17 hrd17
      refine k_pure (by kernel_rfl) (d := (some 1)) (by kernel_rfl) (v := .slice ao18 (t + 1) c18) (fun _ => by kernel_rfl) ?_
      refine k_end ?_
      go_simp
      go_upto_region 5 with (fail)
      refine wp_seq_atS (opsAt Tryd.f13 5) ((true, 0) :: (true, 1) :: []) (fun _ => True) (by kernel_rfl) (by kernel_rfl) trivial ?_
      refine k_pure (by kernel_rfl) (d := (some 26)) (by kernel_rfl) (v := .int .i64 (((t + 1) : Nat) : Int)) (fun _ => run_binOpV (op := .add) (x := (.tmp 12)) (y := (.const (.int .i64 1))) (t := 3) (t' := 3) (u := .int .i64 ((t : Nat) : Int)) (v := .int .i64 1) (by kernel_rfl) (by kernel_rfl) (by kernel_rfl) rfl (addI (by omega) (by omega))) ?_
      refine k_pure (by kernel_rfl) (d := (some 12)) (by kernel_rfl) (v := .int .i64 (((t + 1) : Nat) : Int)) (fun _ => by kernel_rfl) ?_
      refine k_end ?_
      go_simp
      have HO := Lib.hid (show Ow w18 w.heap.size 5 .u8 (.slice ao18 (t + 1) c18) (res.take (t + 1)) from by rw [HT.out t ht, HX.out]; exact ho18)
      have HJ := Lib.hid um18
      clear um18 ho18
      go_wp2_with fail
      exact ⟨⟨t + 1, ao18, c18, by omega, rfl, by go_num, HO, HJ⟩, by simp [intOf]; omega⟩
    · have htI : ¬ (t : Int) < (sz : Int) := by omega
      obtain rfl : t = sz := by omega
      have HF := Lib.hid (mm_below hJ.out)
      have HO := Lib.hid (show Ow wr w.heap.size 5 .u8 (.slice ao t c) res from by have h := hO.out; rw [List.take_of_length_le (by rw [HR.out]; exact Nat.le_refl _)] at h; exact h)
      clear hJ hO
      go_wp2_with fail
      exact bodyPost_ret_by (by kernel_rfl) (by kernel_rfl) ⟨_, rfl, HO.out.rd, HF.out⟩
end Go.Proofs.YtkmofjefjbhbhaaDoor
