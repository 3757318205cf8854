/- Eight bytes are written; a digest takes bytes in. -/
import Derived.Test.YtkmofjefjbhbhaaDoorCp
import Derived.Test.YtkmofjefjbhbhaaDoorBlk
namespace Go.Proofs.YtkmofjefjbhbhaaDoor
open Go.RowKit Go.FourQ Go.Sha Go.Sl

set_option maxRecDepth 100000 in
set_option maxHeartbeats 1000000 in
theorem put64_c {w : World} {b off n c : Nat} {x x7 : Int} {L : List Value} (hD : Bl w b L) (hn : 8 ≤ n) (hl : off + n ≤ L.length) (h7 : L[off + 7]? = some (.int .u8 x7)) :
    Calls Tryd.prog 22 #[.slice (some ⟨b, off, none⟩) n c, .int .u64 x] w fun e w' => e = .returned (.tuple #[]) ∧ Mm w [(b, put8 L off x 8)] w' := by
  have HD := Lib.hid hD; have HL7 := Lib.hid h7
  clear hD h7
  go_enter Tryd.func22, Tryd.ntmps22
  go_upto_region 0 with (fail)
  have H0 : Mm w [(b, L)] w := (Mm.one HD.out)
  refine wp_seq_atS (opsAt Tryd.f22 0) ((true, 0) :: (true, 1) :: (false, 2) :: []) (fun _ => True) (by kernel_rfl) (by kernel_rfl) trivial ?_
  refine k_pure (by kernel_rfl) (d := (some 5)) (by kernel_rfl) (v := .slice (some ⟨b, off, none⟩) n c) (fun _ => by kernel_rfl) ?_
  refine k_pure (by kernel_rfl) (d := (some 6)) (by kernel_rfl) (v := .pointer (some ⟨b, off + 7, none⟩)) (fun _ => run_indexSz (t := 24) (x := (.tmp 5)) (y := (.const (.int .i64 7))) (b := b) (off := off) (n := n) (c := c) (i := 7) (z := 7) (by kernel_rfl) (by kernel_rfl) (by kernel_rfl) rfl Tryd.underlying24 (by kernel_rfl) (by omega)) ?_
  refine k_make (by kernel_rfl) (d := (some 7)) (by kernel_rfl) (v := .int .u8 x7) (run_loadA (ty := 5) (x := (.tmp 6)) (a := ⟨b, off + 7, none⟩) (by kernel_rfl) (by kernel_rfl) Tryd.underlying5 rfl ((H0.at 0 rfl).cell HL7.out)) trivial ?_
  intro w3 hw3 _
  replace hw3 := hw3.symm
  subst hw3
  refine k_end ?_
  go_simp
  go_upto_region 1 with (fail)
  have J4 := Lib.hid (show Mm w [(b, put8 L off x 0)] w from H0)
  clear H0
  go_wp2_with fail
  go_loopw [4] (fun iv wr => ∃ t : Nat, t ≤ 8 ∧ iv = .int .i64 t ∧ Hid (Mm w [(b, put8 L off x t)] wr)) (fun i _ => 8 - (intOf i).toNat)
  case atStart => exact ⟨0, by decide, rfl, Lib.hid J4.out⟩
  case round =>
    clear J4
    obtain ⟨t, ht1, rfl, hJ⟩ := hrel
    by_cases ht : t < 8
    · have htI : (t : Int) < 8 := by omega
      have H90 := hJ.out
      clear hJ
      go_upto_region 4 with (fail)
      refine wp_seq_atS (opsAt Tryd.f22 4) ((true, 0) :: (true, 1) :: (true, 2) :: (true, 3) :: (true, 4) :: (true, 5) :: (true, 6) :: (true, 7) :: (true, 8) :: (false, 9) :: []) (fun _ => True) (by kernel_rfl) (by kernel_rfl) trivial ?_
      refine k_pure (by kernel_rfl) (d := (some 12)) (by kernel_rfl) (v := .slice (some ⟨b, off, none⟩) n c) (fun _ => by kernel_rfl) ?_
      refine k_pure (by kernel_rfl) (d := (some 13)) (by kernel_rfl) (v := .int .i64 ((t : Nat) : Int)) (fun _ => by kernel_rfl) ?_
      refine k_pure (by kernel_rfl) (d := (some 14)) (by kernel_rfl) (v := .int .u64 x) (fun _ => by kernel_rfl) ?_
      refine k_pure (by kernel_rfl) (d := (some 15)) (by kernel_rfl) (v := .int .i64 ((t : Nat) : Int)) (fun _ => by kernel_rfl) ?_
      refine k_pure (by kernel_rfl) (d := (some 16)) (by kernel_rfl) (v := .int .i64 ((8 * t : Nat) : Int)) (fun _ => run_binOpV (op := .mul) (x := .const (.int .i64 8)) (y := .tmp 15) (t := 3) (t' := 3) (u := .int .i64 8) (v := .int .i64 ((t : Nat) : Int)) (by kernel_rfl) (by kernel_rfl) (by kernel_rfl) rfl (mulI (by omega) (by omega))) ?_
      refine k_pure (by kernel_rfl) (d := (some 17)) (by kernel_rfl) (v := .int .i64 ((56 - 8 * t : Nat) : Int)) (fun _ => run_binOpV (op := .sub) (x := .const (.int .i64 56)) (y := .tmp 16) (t := 3) (t' := 3) (u := .int .i64 56) (v := .int .i64 ((8 * t : Nat) : Int)) (by kernel_rfl) (by kernel_rfl) (by kernel_rfl) rfl (subI (by omega) (by omega))) ?_
      refine k_pure (by kernel_rfl) (d := (some 18)) (by kernel_rfl) (v := .int .u64 (x / 2 ^ (56 - 8 * t))) (fun _ => run_binOpV (op := .shr) (x := .tmp 14) (y := .tmp 17) (t := 43) (t' := 3) (u := .int .u64 x) (v := .int .i64 ((56 - 8 * t : Nat) : Int)) (by kernel_rfl) (by kernel_rfl) (by kernel_rfl) rfl (shrU (n := 56 - 8 * t) rfl (show 56 - 8 * t ≤ 64 by omega))) ?_
      refine k_pure (by kernel_rfl) (d := (some 19)) (by kernel_rfl) (v := .int .u8 (b8 (x / 2 ^ (56 - 8 * t)))) (fun _ => run_convOpE (x := .tmp 18) (s := 43) (d := 5) (u := .int .u64 (x / 2 ^ (56 - 8 * t))) (v := .int .u8 (IntKind.u8.wrap (x / 2 ^ (56 - 8 * t)))) (by kernel_rfl) (by kernel_rfl) (by kernel_rfl) rfl) ?_
      refine k_pure (by kernel_rfl) (d := (some 20)) (by kernel_rfl) (v := .pointer (some ⟨b, off + t, none⟩)) (fun _ => run_indexSz (t := 24) (x := (.tmp 12)) (y := (.tmp 13)) (b := b) (off := off) (n := n) (c := c) (i := t) (z := ((t : Nat) : Int)) (by kernel_rfl) (by kernel_rfl) (by kernel_rfl) rfl Tryd.underlying24 (by kernel_rfl) (by omega)) ?_
      have H9 : Mm w [(b, put8 L off x (t + 1))] (wr.setCell ⟨b, off + t, none⟩ (.int .u8 (b8 (x / 2 ^ (56 - 8 * t))))) := (by have h := H90.put 0 rfl (off + t) (.int .u8 (b8 (x / 2 ^ (56 - 8 * t)))); rw [(show (put8 L off x t).set (off + t) (.int .u8 (b8 (x / 2 ^ (56 - 8 * t)))) = put8 L off x (t + 1) from rfl)] at h; exact h)
      refine k_skipOp (by kernel_rfl) (d := none) (by kernel_rfl) (run_storeA (ty := 5) (x := (.tmp 20)) (y := (.tmp 19)) (b := b) (off := off + t) (v := .int .u8 (b8 (x / 2 ^ (56 - 8 * t)))) (by kernel_rfl) (by kernel_rfl) (by kernel_rfl) rfl rfl (by kernel_rfl) ((H90.at 0 rfl).cell (List.getElem?_eq_getElem (by rw [put8_length]; omega))) (H90.at 0 rfl).free) trivial ?_
      intro w9 hw9 _
      rw [← hw9] at H9
      clear hw9 H90
      refine k_end ?_
      go_simp
      have HJ := Lib.hid (show Mm w [(b, put8 L off x (t + 1))] w9 from H9)
      clear H9
      go_wp2_with fail
      exact ⟨⟨t + 1, by omega, by go_num, Lib.hid HJ.out⟩, by simp [intOf]; omega⟩
    · have htI : ¬ (t : Int) < 8 := by omega
      obtain rfl : t = 8 := by omega
      have HF := Lib.hid hJ.out
      clear hJ
      go_wp2_with fail
      go_end0
      exact ⟨rfl, HF.out⟩

set_option maxRecDepth 100000 in
set_option maxHeartbeats 1000000 in
theorem write_c {w : World} {b nx : Nat} {sg : St} {s x p : List Int} {v : Value} (hD : Bl w b (dgL sg x nx s.length)) (hdg : Dg s sg x nx) (hp : Rd w .u8 v p) (hl : s.length + p.length ≤ 100000) (hpl : p.length ≤ 4200) (hv : v.ownBlock ≠ some b) (hK : Bl w 0 (wv kc)) :
    Calls Tryd.prog 8 #[.pointer (some ⟨b, 0, none⟩), v] w fun e w' => ∃ h' x' nx', e = .returned (.tuple #[.int .i64 ((p.length : Nat) : Int), .nilIface]) ∧ Dg (s ++ p) h' x' nx' ∧ Mm w [(b, dgL h' x' nx' (s.length + p.length))] w' := by
  have HX := Lib.hid hdg.2.1; have HR := Lib.hid (show nx < 64 by have := hdg.2.2.1; omega)
  have hbk : b ≠ 0 := hD.apart hK (by rw [dgL_length hdg.2.1]; show 75 ≠ 64; decide)
  obtain ⟨l0, hl0⟩ : ∃ l0, s.length = l0 := ⟨_, rfl⟩
  rw [hl0] at hD hl ⊢
  obtain ⟨ao, c, rfl, hc0, hno, hcell⟩ := id hp
  obtain ⟨n, hn⟩ : ∃ n, p.length = n := ⟨_, rfl⟩
  rw [hn] at hp hv hpl hl ⊢
  have HDB := Lib.hid hD; have HDG := Lib.hid hdg; have HP := Lib.hid hp; have HV := Lib.hid hv; have HK := Lib.hid hK; have HB := Lib.hid hbk; have HN := Lib.hid hn
  clear hD hdg hp hv hK hbk hn hc0 hno hcell hl0
  go_enter Tryd.func8, Tryd.ntmps8
  go_upto_region 1 with (fail)
  have H0 : Mm w [(b, dgL sg x nx l0)] w := (Mm.one HDB.out)
  refine wp_seq_atS (opsAt Tryd.f8 1) ((true, 0) :: (true, 1) :: (true, 2) :: []) (fun _ => True) (by kernel_rfl) (by kernel_rfl) trivial ?_
  refine k_pure (by kernel_rfl) (d := (some 8)) (by kernel_rfl) (v := .slice ao n c) (fun _ => by kernel_rfl) ?_
  refine k_pure (by kernel_rfl) (d := (some 9)) (by kernel_rfl) (v := .int .i64 ((n : Nat) : Int)) (fun _ => by kernel_rfl) ?_
  refine k_pure (by kernel_rfl) (d := (some 4)) (by kernel_rfl) (v := .int .i64 ((n : Nat) : Int)) (fun _ => by kernel_rfl) ?_
  refine k_end ?_
  go_simp
  go_upto_region 2 with (fail)
  refine wp_seq_atS (opsAt Tryd.f8 2) ((true, 0) :: (true, 1) :: (true, 2) :: (false, 3) :: (true, 4) :: (true, 5) :: (true, 6) :: (true, 7) :: (true, 8) :: (false, 9) :: []) (fun _ => True) (by kernel_rfl) (by kernel_rfl) trivial ?_
  refine k_pure (by kernel_rfl) (d := (some 10)) (by kernel_rfl) (v := .pointer (some ⟨b, 0, none⟩)) (fun _ => by kernel_rfl) ?_
  refine k_pure (by kernel_rfl) (d := (some 11)) (by kernel_rfl) (v := .pointer (some ⟨b, 0, none⟩)) (fun _ => by kernel_rfl) ?_
  refine k_pure (by kernel_rfl) (d := (some 12)) (by kernel_rfl) (v := .pointer (some ⟨b, 73, none⟩)) (fun _ => by kernel_rfl) ?_
  refine k_make (by kernel_rfl) (d := (some 13)) (by kernel_rfl) (v := .int .u64 ((l0 : Nat) : Int)) (run_loadA (ty := 43) (x := (.tmp 12)) (a := ⟨b, 73, none⟩) (by kernel_rfl) (by kernel_rfl) Tryd.underlying43 rfl ((H0.at 0 rfl).cell (dgL_len HX.out))) trivial ?_
  intro w6 hw6 _
  replace hw6 := hw6.symm
  subst hw6
  refine k_pure (by kernel_rfl) (d := (some 14)) (by kernel_rfl) (v := .int .i64 ((n : Nat) : Int)) (fun _ => by kernel_rfl) ?_
  refine k_pure (by kernel_rfl) (d := (some 15)) (by kernel_rfl) (v := .int .u64 ((n : Nat) : Int)) (fun _ => run_convOpE (x := .tmp 14) (s := 3) (d := 43) (u := .int .i64 ((n : Nat) : Int)) (v := .int .u64 (IntKind.u64.wrap ((n : Nat) : Int))) (by kernel_rfl) (by kernel_rfl) (by kernel_rfl) (by rw [wrapU64 (by omega)])) ?_
  refine k_pure (by kernel_rfl) (d := (some 16)) (by kernel_rfl) (v := .int .u64 ((l0 + n : Nat) : Int)) (fun _ => run_binOpV (op := .add) (x := .tmp 13) (y := .tmp 15) (t := 43) (t' := 43) (u := .int .u64 ((l0 : Nat) : Int)) (v := .int .u64 ((n : Nat) : Int)) (by kernel_rfl) (by kernel_rfl) (by kernel_rfl) rfl (addU64 (by omega) (by omega))) ?_
  refine k_pure (by kernel_rfl) (d := (some 17)) (by kernel_rfl) (v := .pointer (some ⟨b, 0, none⟩)) (fun _ => by kernel_rfl) ?_
  refine k_pure (by kernel_rfl) (d := (some 18)) (by kernel_rfl) (v := .pointer (some ⟨b, 73, none⟩)) (fun _ => by kernel_rfl) ?_
  have H10 : Mm w [(b, dgL sg x nx (l0 + n))] (w.setCell ⟨b, 73, none⟩ (.int .u64 ((l0 + n : Nat) : Int))) := (by have h := H0.put 0 rfl 73 (.int .u64 ((l0 + n : Nat) : Int)); rw [(show (dgL sg x nx l0).set 73 (.int .u64 ((l0 + n : Nat) : Int)) = dgL sg x nx (l0 + n) from dgL_slen HX.out)] at h; exact h)
  refine k_skipOp (by kernel_rfl) (d := none) (by kernel_rfl) (run_storeA (ty := 43) (x := (.tmp 18)) (y := (.tmp 16)) (b := b) (off := 73) (v := .int .u64 ((l0 + n : Nat) : Int)) (by kernel_rfl) (by kernel_rfl) (by kernel_rfl) rfl rfl (by kernel_rfl) ((H0.at 0 rfl).cell (dgL_len HX.out)) (H0.at 0 rfl).free) trivial ?_
  intro w10 hw10 _
  rw [← hw10] at H10
  clear hw10 H0
  refine k_end ?_
  go_simp
  go_upto_region 3 with (fail)
  by_cases hnx : 0 < nx
  · skip
    refine wp_seq_atS (opsAt Tryd.f8 3) ((true, 0) :: (true, 1) :: (true, 2) :: (false, 3) :: (true, 4) :: []) (fun _ => True) (by kernel_rfl) (by kernel_rfl) trivial ?_
    refine k_pure (by kernel_rfl) (d := (some 19)) (by kernel_rfl) (v := .pointer (some ⟨b, 0, none⟩)) (fun _ => by kernel_rfl) ?_
    refine k_pure (by kernel_rfl) (d := (some 20)) (by kernel_rfl) (v := .pointer (some ⟨b, 0, none⟩)) (fun _ => by kernel_rfl) ?_
    refine k_pure (by kernel_rfl) (d := (some 21)) (by kernel_rfl) (v := .pointer (some ⟨b, 72, none⟩)) (fun _ => by kernel_rfl) ?_
    refine k_make (by kernel_rfl) (d := (some 22)) (by kernel_rfl) (v := .int .i64 ((nx : Nat) : Int)) (run_loadA (ty := 3) (x := (.tmp 21)) (a := ⟨b, 72, none⟩) (by kernel_rfl) (by kernel_rfl) Tryd.underlying3 rfl ((H10.at 0 rfl).cell (dgL_nx HX.out))) trivial ?_
    intro w14 hw14 _
    replace hw14 := hw14.symm
    subst hw14
    refine k_pure (by kernel_rfl) (d := (some 23)) (by kernel_rfl) (v := .bool true) (fun _ => run_binOpV (op := .gtr) (x := .tmp 22) (y := .const (.int .i64 0)) (t := 3) (t' := 3) (u := .int .i64 ((nx : Nat) : Int)) (v := .int .i64 0) (by kernel_rfl) (by kernel_rfl) (by kernel_rfl) rfl (gtrT (by omega))) ?_
    refine k_end ?_
    go_simp
    go_upto_region 4 with (fail)
    obtain ⟨m, hm⟩ : ∃ m, min n (64 - nx) = m := ⟨_, rfl⟩
    have hnx64 := HR.out
    have hm1 : m ≤ n := by omega
    have hm2 : nx + m ≤ 64 := by omega
    have HM := Lib.hid hm
    clear hm
    have HT := Lib.hid (show (p.take m).length = m by rw [List.length_take, HN.out]; omega)
    refine wp_region_atS (opsAt Tryd.f8 4) ((true, 0) :: (true, 1) :: (true, 2) :: (true, 3) :: (true, 4) :: (true, 5) :: (true, 6) :: (true, 7) :: (true, 8) :: (false, 9) :: (true, 10) :: []) (fun W => Mm w [(b, dgL sg x nx (l0 + n))] W ∨ Mm w [(b, dgL sg (fill x (p.take m) nx) nx (l0 + n))] W) (by kernel_rfl) rfl (by kernel_rfl) (fun _ _ d _ _ h => by cases d <;> exact h) (by kernel_rfl) (by kernel_rfl) (Or.inl H10.drew) ?_
    have H15d := H10.drew
    clear H10
    refine k_pure (by kernel_rfl) (d := (some 24)) (by kernel_rfl) (v := .pointer (some ⟨b, 0, none⟩)) (fun _ => by kernel_rfl) ?_
    refine k_pure (by kernel_rfl) (d := (some 25)) (by kernel_rfl) (v := .pointer (some ⟨b, 0, none⟩)) (fun _ => by kernel_rfl) ?_
    refine k_pure (by kernel_rfl) (d := (some 26)) (by kernel_rfl) (v := .pointer (some ⟨b, 8, none⟩)) (fun _ => by kernel_rfl) ?_
    refine k_pure (by kernel_rfl) (d := (some 27)) (by kernel_rfl) (v := .pointer (some ⟨b, 0, none⟩)) (fun _ => by kernel_rfl) ?_
    refine k_pure (by kernel_rfl) (d := (some 28)) (by kernel_rfl) (v := .pointer (some ⟨b, 0, none⟩)) (fun _ => by kernel_rfl) ?_
    refine k_pure (by kernel_rfl) (d := (some 29)) (by kernel_rfl) (v := .pointer (some ⟨b, 72, none⟩)) (fun _ => by kernel_rfl) ?_
    refine k_ifR (by kernel_rfl) (d := (some 30)) (by kernel_rfl) (v := .int .i64 ((nx : Nat) : Int)) (fun _ hs => run_loadA (ty := 3) (x := (.tmp 29)) (a := ⟨b, 72, none⟩) (by kernel_rfl) (by kernel_rfl) Tryd.underlying3 rfl (hs.elim (fun h => (h.at 0 rfl).cell (dgL_nx HX.out)) (fun h => (h.at 0 rfl).cell (dgL_nx (fill_length HX.out (by rw [HT.out]; exact hm2)))))) ?_
    refine k_pure (by kernel_rfl) (d := (some 31)) (by kernel_rfl) (v := .slice (some ⟨b, 8 + nx, none⟩) (64 - nx) (64 - nx)) (fun _ => run_slOp (x := .tmp 26) (lo := (some (.tmp 30))) (hi := none) (mx := none) (v := .pointer (some ⟨b, 8, none⟩)) (a := (some (.int .i64 ((nx : Nat) : Int)))) (b := none) (c := none) (by kernel_rfl) (by kernel_rfl) (by kernel_rfl) (by kernel_rfl) (by kernel_rfl) (run_slArr (n := 64) (off := 8) (lo := nx) (hi := 64) (k := .i64) Tryd.underlying42 (by kernel_rfl) (by omega) (by omega) (by omega) (by omega) rfl rfl (.inl rfl) (.inr ⟨rfl, rfl⟩))) ?_
    refine k_pure (by kernel_rfl) (d := (some 32)) (by kernel_rfl) (v := .slice ao n c) (fun _ => by kernel_rfl) ?_
    obtain ⟨wz24, hr24, u24⟩ := run_copyB (P := Tryd.prog) (w := w10.drew) (dT := 24) (sT := 24) (ty := 3) (o := 8 + nx) (dn := 64 - nx) (dc := 64 - nx) (H15d.at 0 rfl) (HP.out.mm H15d (bsC HV.out bs0)) Tryd.underlying24 (by kernel_rfl) (m := m) (by rw [dgL_length HX.out]; omega) (by rw [HN.out]; exact HM.out)
    replace u24 : Mm w10.drew [(b, dgL sg (fill x (p.take m) nx) nx (l0 + n))] wz24 := (by have h := dgL_fill (h := sg) (nx := nx) (len := l0 + n) (p := p.take m) (r := nx) HX.out (by rw [HT.out]; exact hm2); rw [HT.out] at h; rw [← h]; exact u24)
    have H24 : Mm w [(b, dgL sg (fill x (p.take m) nx) nx (l0 + n))] wz24 := H15d.upd (i := 0) rfl u24
    refine k_make (by kernel_rfl) (d := (some 33)) (by kernel_rfl) (v := .int .i64 ((m : Nat) : Int)) (run_copyOp (x := .tmp 31) (y := .tmp 32) (by kernel_rfl) (by kernel_rfl) (by kernel_rfl) hr24) (Or.inr H24) ?_
    intro w24 hw24 _
    rw [← hw24] at H24
    clear hw24 hr24 u24 H15d
    refine k_pure (by kernel_rfl) (d := (some 6)) (by kernel_rfl) (v := .int .i64 ((m : Nat) : Int)) (fun _ => by kernel_rfl) ?_
    refine k_end ?_
    go_simp
    go_upto_region 5 with (fail)
    have HXF := Lib.hid (fill_length (p := p.take m) HX.out (by rw [HT.out]; exact hm2))
    refine wp_seq_atS (opsAt Tryd.f8 5) ((true, 0) :: (true, 1) :: (true, 2) :: (false, 3) :: (true, 4) :: (true, 5) :: (true, 6) :: (true, 7) :: (false, 8) :: []) (fun _ => True) (by kernel_rfl) (by kernel_rfl) trivial ?_
    refine k_pure (by kernel_rfl) (d := (some 34)) (by kernel_rfl) (v := .pointer (some ⟨b, 0, none⟩)) (fun _ => by kernel_rfl) ?_
    refine k_pure (by kernel_rfl) (d := (some 35)) (by kernel_rfl) (v := .pointer (some ⟨b, 0, none⟩)) (fun _ => by kernel_rfl) ?_
    refine k_pure (by kernel_rfl) (d := (some 36)) (by kernel_rfl) (v := .pointer (some ⟨b, 72, none⟩)) (fun _ => by kernel_rfl) ?_
    refine k_make (by kernel_rfl) (d := (some 37)) (by kernel_rfl) (v := .int .i64 ((nx : Nat) : Int)) (run_loadA (ty := 3) (x := (.tmp 36)) (a := ⟨b, 72, none⟩) (by kernel_rfl) (by kernel_rfl) Tryd.underlying3 rfl ((H24.at 0 rfl).cell (dgL_nx HXF.out))) trivial ?_
    intro w29 hw29 _
    replace hw29 := hw29.symm
    subst hw29
    refine k_pure (by kernel_rfl) (d := (some 38)) (by kernel_rfl) (v := .int .i64 ((m : Nat) : Int)) (fun _ => by kernel_rfl) ?_
    refine k_pure (by kernel_rfl) (d := (some 39)) (by kernel_rfl) (v := .int .i64 ((nx + m : Nat) : Int)) (fun _ => run_binOpV (op := .add) (x := .tmp 37) (y := .tmp 38) (t := 3) (t' := 3) (u := .int .i64 ((nx : Nat) : Int)) (v := .int .i64 ((m : Nat) : Int)) (by kernel_rfl) (by kernel_rfl) (by kernel_rfl) rfl (addI (by omega) (by omega))) ?_
    refine k_pure (by kernel_rfl) (d := (some 40)) (by kernel_rfl) (v := .pointer (some ⟨b, 0, none⟩)) (fun _ => by kernel_rfl) ?_
    refine k_pure (by kernel_rfl) (d := (some 41)) (by kernel_rfl) (v := .pointer (some ⟨b, 72, none⟩)) (fun _ => by kernel_rfl) ?_
    have H33 : Mm w [(b, dgL sg (fill x (p.take m) nx) (nx + m) (l0 + n))] (w24.setCell ⟨b, 72, none⟩ (.int .i64 ((nx + m : Nat) : Int))) := (by have h := H24.put 0 rfl 72 (.int .i64 ((nx + m : Nat) : Int)); rw [(show (dgL sg (fill x (p.take m) nx) nx (l0 + n)).set 72 (.int .i64 ((nx + m : Nat) : Int)) = dgL sg (fill x (p.take m) nx) (nx + m) (l0 + n) from dgL_snx HXF.out)] at h; exact h)
    refine k_skipOp (by kernel_rfl) (d := none) (by kernel_rfl) (run_storeA (ty := 3) (x := (.tmp 41)) (y := (.tmp 39)) (b := b) (off := 72) (v := .int .i64 ((nx + m : Nat) : Int)) (by kernel_rfl) (by kernel_rfl) (by kernel_rfl) rfl rfl (by kernel_rfl) ((H24.at 0 rfl).cell (dgL_nx HXF.out)) (H24.at 0 rfl).free) trivial ?_
    intro w33 hw33 _
    rw [← hw33] at H33
    clear hw33 H24
    refine k_end ?_
    go_simp
    go_upto_region 6 with (fail)
    by_cases hfull : nx + m = 64
    · have hfull1 : nx + m ≤ 64 := by omega
      have HFU := Lib.hid hfull
      clear hfull hfull1
      refine wp_seq_atS (opsAt Tryd.f8 6) ((true, 0) :: (true, 1) :: (true, 2) :: (false, 3) :: (true, 4) :: []) (fun _ => True) (by kernel_rfl) (by kernel_rfl) trivial ?_
      refine k_pure (by kernel_rfl) (d := (some 42)) (by kernel_rfl) (v := .pointer (some ⟨b, 0, none⟩)) (fun _ => by kernel_rfl) ?_
      refine k_pure (by kernel_rfl) (d := (some 43)) (by kernel_rfl) (v := .pointer (some ⟨b, 0, none⟩)) (fun _ => by kernel_rfl) ?_
      refine k_pure (by kernel_rfl) (d := (some 44)) (by kernel_rfl) (v := .pointer (some ⟨b, 72, none⟩)) (fun _ => by kernel_rfl) ?_
      refine k_make (by kernel_rfl) (d := (some 45)) (by kernel_rfl) (v := .int .i64 ((nx + m : Nat) : Int)) (run_loadA (ty := 3) (x := (.tmp 44)) (a := ⟨b, 72, none⟩) (by kernel_rfl) (by kernel_rfl) Tryd.underlying3 rfl ((H33.at 0 rfl).cell (dgL_nx HXF.out))) trivial ?_
      intro w37 hw37 _
      replace hw37 := hw37.symm
      subst hw37
      refine k_pure (by kernel_rfl) (d := (some 46)) (by kernel_rfl) (v := .bool true) (fun _ => run_binOpV (op := .eql) (x := .tmp 45) (y := .const (.int .i64 64)) (t := 3) (t' := 3) (u := .int .i64 ((nx + m : Nat) : Int)) (v := .int .i64 64) (by kernel_rfl) (by kernel_rfl) (by kernel_rfl) rfl (eqlT (by rw [HFU.out]; rfl))) ?_
      refine k_end ?_
      go_simp
      go_upto_region 7 with (fail)
      refine wp_seq_atS (opsAt Tryd.f8 7) ((true, 0) :: (true, 1) :: (true, 2) :: (true, 3) :: (true, 4) :: (false, 5) :: []) (fun _ => True) (by kernel_rfl) (by kernel_rfl) trivial ?_
      refine k_pure (by kernel_rfl) (d := (some 47)) (by kernel_rfl) (v := .pointer (some ⟨b, 0, none⟩)) (fun _ => by kernel_rfl) ?_
      refine k_pure (by kernel_rfl) (d := (some 48)) (by kernel_rfl) (v := .pointer (some ⟨b, 0, none⟩)) (fun _ => by kernel_rfl) ?_
      refine k_pure (by kernel_rfl) (d := (some 49)) (by kernel_rfl) (v := .pointer (some ⟨b, 0, none⟩)) (fun _ => by kernel_rfl) ?_
      refine k_pure (by kernel_rfl) (d := (some 50)) (by kernel_rfl) (v := .pointer (some ⟨b, 8, none⟩)) (fun _ => by kernel_rfl) ?_
      refine k_pure (by kernel_rfl) (d := (some 51)) (by kernel_rfl) (v := .slice (some ⟨b, 8, none⟩) 64 64) (fun _ => by kernel_rfl) ?_
      refine k_callR (by kernel_rfl) (d := (some 52)) (by kernel_rfl) (f := 17) (args := #[.pointer (some ⟨b, 0, none⟩), .slice (some ⟨b, 8, none⟩) 64 64]) (fun _ => by kernel_rfl) (block_c (H33.at 0 rfl) (dg_rd (H33.at 0 rfl) HXF.out) (k := 1) HXF.out (H33.far HK.out HB.out)) (fun _ w42 ⟨he42, u42⟩ => ⟨_, he42, trivial, ?_⟩)
      have H42 : Mm w [(b, dgL (cs sg (fill x (p.take m) nx) 1) (fill x (p.take m) nx) (nx + m) (l0 + n))] w42 := H33.upd (i := 0) rfl u42
      clear u42 he42 H33
      refine k_end ?_
      go_simp
      go_upto_region 8 with (fail)
      refine wp_seq_atS (opsAt Tryd.f8 8) ((true, 0) :: (true, 1) :: (true, 2) :: (false, 3) :: []) (fun _ => True) (by kernel_rfl) (by kernel_rfl) trivial ?_
      refine k_pure (by kernel_rfl) (d := (some 53)) (by kernel_rfl) (v := .pointer (some ⟨b, 0, none⟩)) (fun _ => by kernel_rfl) ?_
      refine k_pure (by kernel_rfl) (d := (some 54)) (by kernel_rfl) (v := .pointer (some ⟨b, 0, none⟩)) (fun _ => by kernel_rfl) ?_
      refine k_pure (by kernel_rfl) (d := (some 55)) (by kernel_rfl) (v := .pointer (some ⟨b, 72, none⟩)) (fun _ => by kernel_rfl) ?_
      have H46 : Mm w [(b, dgL (cs sg (fill x (p.take m) nx) 1) (fill x (p.take m) nx) 0 (l0 + n))] (w42.setCell ⟨b, 72, none⟩ (.int .i64 0)) := (by have h := H42.put 0 rfl 72 (.int .i64 0); rw [(show (dgL (cs sg (fill x (p.take m) nx) 1) (fill x (p.take m) nx) (nx + m) (l0 + n)).set 72 (.int .i64 0) = dgL (cs sg (fill x (p.take m) nx) 1) (fill x (p.take m) nx) 0 (l0 + n) from dgL_snx (m := 0) HXF.out)] at h; exact h)
      refine k_skipOp (by kernel_rfl) (d := none) (by kernel_rfl) (run_storeA (ty := 3) (x := (.tmp 55)) (y := (.const (.int .i64 0))) (b := b) (off := 72) (v := .int .i64 0) (by kernel_rfl) (by kernel_rfl) (by kernel_rfl) rfl rfl (by kernel_rfl) ((H42.at 0 rfl).cell (dgL_nx HXF.out)) (H42.at 0 rfl).free) trivial ?_
      intro w46 hw46 _
      rw [← hw46] at H46
      clear hw46 H42
      refine k_end ?_
      go_simp
      go_upto_region 9 with (fail)
      obtain ⟨n1, hn1⟩ : ∃ n1, n - m = n1 := ⟨_, rfl⟩
      obtain ⟨ao1, c1, hr1, hp1, hl1, hv1⟩ := HP.out.tail (P := Tryd.prog) (t := 24) HN.out Tryd.underlying24 (by kernel_rfl) (m := m) hm1 hn1
      have hn1l : n1 ≤ 4200 := by omega
      have HR1 := Lib.hid hr1; have HP1 := Lib.hid hp1; have HN1 := Lib.hid hl1; have HV1 := Lib.hid (own_ne HV.out hv1)
      clear hr1 hp1 hl1 hv1 hn1
      refine wp_seq_atS (opsAt Tryd.f8 9) ((true, 0) :: (true, 1) :: (true, 2) :: (true, 3) :: []) (fun _ => True) (by kernel_rfl) (by kernel_rfl) trivial ?_
      refine k_pure (by kernel_rfl) (d := (some 56)) (by kernel_rfl) (v := .slice ao n c) (fun _ => by kernel_rfl) ?_
      refine k_pure (by kernel_rfl) (d := (some 57)) (by kernel_rfl) (v := .int .i64 ((m : Nat) : Int)) (fun _ => by kernel_rfl) ?_
      refine k_pure (by kernel_rfl) (d := (some 58)) (by kernel_rfl) (v := .slice ao1 n1 c1) (fun _ => run_slOp (x := .tmp 56) (lo := (some (.tmp 57))) (hi := none) (mx := none) (v := .slice ao n c) (a := (some (.int .i64 ((m : Nat) : Int)))) (b := none) (c := none) (by kernel_rfl) (by kernel_rfl) (by kernel_rfl) (by kernel_rfl) (by kernel_rfl) (HR1.out _)) ?_
      refine k_pure (by kernel_rfl) (d := (some 1)) (by kernel_rfl) (v := .slice ao1 n1 c1) (fun _ => by kernel_rfl) ?_
      refine k_end ?_
      go_simp
      go_upto_region 10 with (fail)
      have HD1 := Lib.hid (show Dg (s ++ p.take m) (cs sg (fill x (p.take m) nx) 1) (fill x (p.take m) nx) 0 from by rw [cs_one HXF.out, fill_all HX.out (by rw [HT.out]; exact HFU.out)]; exact dg_fill HDG.out HR.out (by rw [HT.out]; have := HFU.out; omega) (by rw [← fill_all HX.out (by rw [HT.out]; exact HFU.out)]; exact HXF.out))
      obtain ⟨s1, hs1⟩ : ∃ s1, s ++ p.take m = s1 := ⟨_, rfl⟩
      obtain ⟨x1, hx1⟩ : ∃ x1, (fill x (p.take m) nx) = x1 := ⟨_, rfl⟩
      obtain ⟨h1, hh1⟩ : ∃ h1, cs sg (fill x (p.take m) nx) 1 = h1 := ⟨_, rfl⟩
      obtain ⟨p1, hp1⟩ : ∃ p1, p.drop m = p1 := ⟨_, rfl⟩
      rw [hs1, hh1, hx1] at HD1
      rw [hh1, hx1] at H46
      rw [hx1] at HXF
      rw [hp1] at HP1 HN1
      have HS1 := Lib.hid (show s1 ++ p1 = s ++ p from by rw [← hs1, ← hp1, List.append_assoc, List.take_append_drop])
      clear hs1 hx1 hh1 hp1
      by_cases h64 : 64 ≤ n1
      · skip
        refine wp_seq_atS (opsAt Tryd.f8 10) ((true, 0) :: (true, 1) :: (true, 2) :: []) (fun _ => True) (by kernel_rfl) (by kernel_rfl) trivial ?_
        refine k_pure (by kernel_rfl) (d := (some 59)) (by kernel_rfl) (v := .slice ao1 n1 c1) (fun _ => by kernel_rfl) ?_
        refine k_pure (by kernel_rfl) (d := (some 60)) (by kernel_rfl) (v := .int .i64 ((n1 : Nat) : Int)) (fun _ => by kernel_rfl) ?_
        refine k_pure (by kernel_rfl) (d := (some 61)) (by kernel_rfl) (v := .bool true) (fun _ => run_binOpV (op := .geq) (x := .tmp 60) (y := .const (.int .i64 64)) (t := 3) (t' := 3) (u := .int .i64 ((n1 : Nat) : Int)) (v := .int .i64 64) (by kernel_rfl) (by kernel_rfl) (by kernel_rfl) rfl (geqT (by omega))) ?_
        refine k_end ?_
        go_simp
        go_upto_region 11 with (fail)
        obtain ⟨j, hj⟩ : ∃ j, n1 / 64 = j := ⟨_, rfl⟩
        obtain ⟨q, hq⟩ : ∃ q, 64 * j = q := ⟨_, rfl⟩
        have hq1 : q ≤ n1 := by omega
        have hq2 : n1 < q + 64 := by omega
        have hqI : (q : Int) ≤ 65536 := by omega
        have HQ := Lib.hid hq; have HJ := Lib.hid hj
        clear hq hj
        refine wp_seq_atS (opsAt Tryd.f8 11) ((true, 0) :: (true, 1) :: (true, 2) :: (true, 3) :: []) (fun _ => True) (by kernel_rfl) (by kernel_rfl) trivial ?_
        refine k_pure (by kernel_rfl) (d := (some 62)) (by kernel_rfl) (v := .slice ao1 n1 c1) (fun _ => by kernel_rfl) ?_
        refine k_pure (by kernel_rfl) (d := (some 63)) (by kernel_rfl) (v := .int .i64 ((n1 : Nat) : Int)) (fun _ => by kernel_rfl) ?_
        refine k_pure (by kernel_rfl) (d := (some 64)) (by kernel_rfl) (v := .int .i64 ((q : Nat) : Int)) (fun _ => run_binOpV (op := .andNot) (x := .tmp 63) (y := .const (.int .i64 63)) (t := 3) (t' := 3) (u := .int .i64 ((n1 : Nat) : Int)) (v := .int .i64 63) (by kernel_rfl) (by kernel_rfl) (by kernel_rfl) rfl (by rw [binOp_andNot, intBits_andNot, and63 _ (by omega), HJ.out, HQ.out]; rfl)) ?_
        refine k_pure (by kernel_rfl) (d := (some 7)) (by kernel_rfl) (v := .int .i64 ((q : Nat) : Int)) (fun _ => by kernel_rfl) ?_
        refine k_end ?_
        go_simp
        go_wp2_with fail
        refine wp_loop_once ?_
        go_upto_region 16 with (fail)
        obtain ⟨ao2, c2, hr2, hp2, hn2, hv2⟩ := HP1.out.head (P := Tryd.prog) (t := 24) HN1.out Tryd.underlying24 (by kernel_rfl) (m := q) hq1
        have HR2 := Lib.hid hr2; have HP2 := Lib.hid hp2; have HN2 := Lib.hid hn2; have HV2 := Lib.hid (own_ne HV1.out hv2)
        clear hr2 hp2 hn2 hv2
        refine wp_seq_atS (opsAt Tryd.f8 16) ((true, 0) :: (true, 1) :: (true, 2) :: (true, 3) :: (false, 4) :: []) (fun _ => True) (by kernel_rfl) (by kernel_rfl) trivial ?_
        refine k_pure (by kernel_rfl) (d := (some 75)) (by kernel_rfl) (v := .pointer (some ⟨b, 0, none⟩)) (fun _ => by kernel_rfl) ?_
        refine k_pure (by kernel_rfl) (d := (some 76)) (by kernel_rfl) (v := .slice ao1 n1 c1) (fun _ => by kernel_rfl) ?_
        refine k_pure (by kernel_rfl) (d := (some 77)) (by kernel_rfl) (v := .int .i64 ((q : Nat) : Int)) (fun _ => by kernel_rfl) ?_
        refine k_pure (by kernel_rfl) (d := (some 78)) (by kernel_rfl) (v := .slice ao2 q c2) (fun _ => run_slOp (x := .tmp 76) (lo := none) (hi := (some (.tmp 77))) (mx := none) (v := .slice ao1 n1 c1) (a := none) (b := (some (.int .i64 ((q : Nat) : Int)))) (c := none) (by kernel_rfl) (by kernel_rfl) (by kernel_rfl) (by kernel_rfl) (by kernel_rfl) (HR2.out _)) ?_
        refine k_callR (by kernel_rfl) (d := (some 79)) (by kernel_rfl) (f := 17) (args := #[.pointer (some ⟨b, 0, none⟩), .slice ao2 q c2]) (fun _ => by kernel_rfl) (block_c (H46.at 0 rfl) (HP2.out.mm H46 (bsC HV2.out bs0)) (k := j) (by rw [HN2.out, HQ.out]) (H46.far HK.out HB.out)) (fun _ w56 ⟨he56, u56⟩ => ⟨_, he56, trivial, ?_⟩)
        have H56 : Mm w [(b, dgL (cs h1 (p1.take q) j) x1 0 (l0 + n))] w56 := H46.upd (i := 0) rfl u56
        clear u56 he56 H46
        refine k_end ?_
        go_simp
        go_upto_region 17 with (fail)
        obtain ⟨n3, hn3⟩ : ∃ n3, n1 - q = n3 := ⟨_, rfl⟩
        obtain ⟨ao3, c3, hr3, hp3, hm3, hv3⟩ := HP1.out.tail (P := Tryd.prog) (t := 24) HN1.out Tryd.underlying24 (by kernel_rfl) (m := q) hq1 hn3
        have hn3l : n3 < 64 := by omega
        have HR3 := Lib.hid hr3; have HP3 := Lib.hid hp3; have HN3 := Lib.hid hm3; have HV3 := Lib.hid (own_ne HV1.out hv3); have HM3 := Lib.hid hn3
        clear hr3 hp3 hm3 hv3 hn3
        refine wp_seq_atS (opsAt Tryd.f8 17) ((true, 0) :: (true, 1) :: (true, 2) :: (true, 3) :: []) (fun _ => True) (by kernel_rfl) (by kernel_rfl) trivial ?_
        refine k_pure (by kernel_rfl) (d := (some 80)) (by kernel_rfl) (v := .slice ao1 n1 c1) (fun _ => by kernel_rfl) ?_
        refine k_pure (by kernel_rfl) (d := (some 81)) (by kernel_rfl) (v := .int .i64 ((q : Nat) : Int)) (fun _ => by kernel_rfl) ?_
        refine k_pure (by kernel_rfl) (d := (some 82)) (by kernel_rfl) (v := .slice ao3 n3 c3) (fun _ => run_slOp (x := .tmp 80) (lo := (some (.tmp 81))) (hi := none) (mx := none) (v := .slice ao1 n1 c1) (a := (some (.int .i64 ((q : Nat) : Int)))) (b := none) (c := none) (by kernel_rfl) (by kernel_rfl) (by kernel_rfl) (by kernel_rfl) (by kernel_rfl) (HR3.out _)) ?_
        refine k_pure (by kernel_rfl) (d := (some 1)) (by kernel_rfl) (v := .slice ao3 n3 c3) (fun _ => by kernel_rfl) ?_
        refine k_end ?_
        go_simp
        have HD2 := Lib.hid (dg_blocks HD1.out (p := p1.take q) (j := j) (by rw [HN2.out, HQ.out]))
        go_upto_region 18 with (fail)
        by_cases h0 : 0 < n3
        · skip
          refine wp_seq_atS (opsAt Tryd.f8 18) ((true, 0) :: (true, 1) :: (true, 2) :: []) (fun _ => True) (by kernel_rfl) (by kernel_rfl) trivial ?_
          refine k_pure (by kernel_rfl) (d := (some 83)) (by kernel_rfl) (v := .slice ao3 n3 c3) (fun _ => by kernel_rfl) ?_
          refine k_pure (by kernel_rfl) (d := (some 84)) (by kernel_rfl) (v := .int .i64 ((n3 : Nat) : Int)) (fun _ => by kernel_rfl) ?_
          refine k_pure (by kernel_rfl) (d := (some 85)) (by kernel_rfl) (v := .bool true) (fun _ => run_binOpV (op := .gtr) (x := .tmp 84) (y := .const (.int .i64 0)) (t := 3) (t' := 3) (u := .int .i64 ((n3 : Nat) : Int)) (v := .int .i64 0) (by kernel_rfl) (by kernel_rfl) (by kernel_rfl) rfl (gtrT (by omega))) ?_
          refine k_end ?_
          go_simp
          go_upto_region 19 with (fail)
          refine wp_seq_atS (opsAt Tryd.f8 19) ((true, 0) :: (true, 1) :: (true, 2) :: (true, 3) :: (true, 4) :: (true, 5) :: (false, 6) :: (true, 7) :: (true, 8) :: (false, 9) :: []) (fun _ => True) (by kernel_rfl) (by kernel_rfl) trivial ?_
          refine k_pure (by kernel_rfl) (d := (some 86)) (by kernel_rfl) (v := .pointer (some ⟨b, 0, none⟩)) (fun _ => by kernel_rfl) ?_
          refine k_pure (by kernel_rfl) (d := (some 87)) (by kernel_rfl) (v := .pointer (some ⟨b, 0, none⟩)) (fun _ => by kernel_rfl) ?_
          refine k_pure (by kernel_rfl) (d := (some 88)) (by kernel_rfl) (v := .pointer (some ⟨b, 0, none⟩)) (fun _ => by kernel_rfl) ?_
          refine k_pure (by kernel_rfl) (d := (some 89)) (by kernel_rfl) (v := .pointer (some ⟨b, 8, none⟩)) (fun _ => by kernel_rfl) ?_
          refine k_pure (by kernel_rfl) (d := (some 90)) (by kernel_rfl) (v := .slice (some ⟨b, 8, none⟩) 64 64) (fun _ => by kernel_rfl) ?_
          refine k_pure (by kernel_rfl) (d := (some 91)) (by kernel_rfl) (v := .slice ao3 n3 c3) (fun _ => by kernel_rfl) ?_
          obtain ⟨wz66, hr66, u66⟩ := run_copyB (P := Tryd.prog) (w := w56) (dT := 24) (sT := 24) (ty := 3) (o := 8) (dn := 64) (dc := 64) (H56.at 0 rfl) (HP3.out.mm H56 (bsC HV3.out bs0)) Tryd.underlying24 (by kernel_rfl) (m := n3) (by rw [dgL_length HXF.out]; decide) (by rw [HN3.out]; omega)
          rw [List.take_of_length_le (show ((p1.drop q)).length ≤ n3 from by rw [HN3.out]; exact Nat.le_refl _)] at u66
          replace u66 : Mm w56 [(b, dgL (cs h1 (p1.take q) j) (fill x1 ((p1.drop q)) 0) 0 (l0 + n))] wz66 := (by have h := dgL_fill (h := (cs h1 (p1.take q) j)) (nx := 0) (len := l0 + n) (p := (p1.drop q)) (r := 0) HXF.out (by rw [HN3.out]; omega); rw [HN3.out] at h; rw [← h]; exact u66)
          have H66 : Mm w [(b, dgL (cs h1 (p1.take q) j) (fill x1 ((p1.drop q)) 0) 0 (l0 + n))] wz66 := H56.upd (i := 0) rfl u66
          refine k_make (by kernel_rfl) (d := (some 92)) (by kernel_rfl) (v := .int .i64 ((n3 : Nat) : Int)) (run_copyOp (x := .tmp 90) (y := .tmp 91) (by kernel_rfl) (by kernel_rfl) (by kernel_rfl) hr66) trivial ?_
          intro w66 hw66 _
          rw [← hw66] at H66
          clear hw66 hr66 u66 H56
          refine k_pure (by kernel_rfl) (d := (some 93)) (by kernel_rfl) (v := .pointer (some ⟨b, 0, none⟩)) (fun _ => by kernel_rfl) ?_
          refine k_pure (by kernel_rfl) (d := (some 94)) (by kernel_rfl) (v := .pointer (some ⟨b, 72, none⟩)) (fun _ => by kernel_rfl) ?_
          have H69 : Mm w [(b, dgL (cs h1 (p1.take q) j) (fill x1 ((p1.drop q)) 0) n3 (l0 + n))] (w66.setCell ⟨b, 72, none⟩ (.int .i64 ((n3 : Nat) : Int))) := (by have h := H66.put 0 rfl 72 (.int .i64 ((n3 : Nat) : Int)); rw [(show (dgL (cs h1 (p1.take q) j) (fill x1 ((p1.drop q)) 0) 0 (l0 + n)).set 72 (.int .i64 ((n3 : Nat) : Int)) = dgL (cs h1 (p1.take q) j) (fill x1 ((p1.drop q)) 0) n3 (l0 + n) from dgL_snx (fill_length HXF.out (by rw [HN3.out]; omega)))] at h; exact h)
          refine k_skipOp (by kernel_rfl) (d := none) (by kernel_rfl) (run_storeA (ty := 3) (x := (.tmp 94)) (y := (.tmp 92)) (b := b) (off := 72) (v := .int .i64 ((n3 : Nat) : Int)) (by kernel_rfl) (by kernel_rfl) (by kernel_rfl) rfl rfl (by kernel_rfl) ((H66.at 0 rfl).cell (dgL_nx (fill_length HXF.out (by rw [HN3.out]; omega)))) (H66.at 0 rfl).free) trivial ?_
          intro w69 hw69 _
          rw [← hw69] at H69
          clear hw69 H66
          refine k_end ?_
          go_simp
          have HD3 := Lib.hid (dg_part HD2.out (p := (p1.drop q)) (x' := (fill x1 ((p1.drop q)) 0)) (by rw [HN3.out]; omega) (fill_length HXF.out (by rw [HN3.out]; omega)) (fill_take HXF.out (by rw [HN3.out]; omega)))
          have HF := Lib.hid H69
          clear H69
          go_wp2_with fail
          exact bodyPost_ret_by (by kernel_rfl) (by kernel_rfl) ⟨_, _, _, rfl, (by have h : Dg (s ++ p) (cs h1 (p1.take q) j) (fill x1 ((p1.drop q)) 0) (0 + ((p1.drop q)).length) := (by have h := HD3.out; rw [List.append_assoc, List.take_append_drop, HS1.out] at h; exact h); rw [HN3.out, Nat.zero_add] at h; exact h), HF.out⟩
        · skip
          refine wp_seq_atS (opsAt Tryd.f8 18) ((true, 0) :: (true, 1) :: (true, 2) :: []) (fun _ => True) (by kernel_rfl) (by kernel_rfl) trivial ?_
          refine k_pure (by kernel_rfl) (d := (some 83)) (by kernel_rfl) (v := .slice ao3 n3 c3) (fun _ => by kernel_rfl) ?_
          refine k_pure (by kernel_rfl) (d := (some 84)) (by kernel_rfl) (v := .int .i64 ((n3 : Nat) : Int)) (fun _ => by kernel_rfl) ?_
          refine k_pure (by kernel_rfl) (d := (some 85)) (by kernel_rfl) (v := .bool false) (fun _ => run_binOpV (op := .gtr) (x := .tmp 84) (y := .const (.int .i64 0)) (t := 3) (t' := 3) (u := .int .i64 ((n3 : Nat) : Int)) (v := .int .i64 0) (by kernel_rfl) (by kernel_rfl) (by kernel_rfl) rfl (gtrF (by omega))) ?_
          refine k_end ?_
          go_simp
          have HD3 := Lib.hid (show Dg ((s1 ++ p1.take q) ++ (p1.drop q)) (cs h1 (p1.take q) j) x1 0 from by rw [List.eq_nil_of_length_eq_zero (show ((p1.drop q)).length = 0 by rw [HN3.out]; omega), List.append_nil]; exact HD2.out)
          have HF := Lib.hid H56
          clear H56
          go_wp2_with fail
          exact bodyPost_ret_by (by kernel_rfl) (by kernel_rfl) ⟨_, _, _, rfl, (by have h := HD3.out; rw [List.append_assoc, List.take_append_drop, HS1.out] at h; exact h), HF.out⟩
      · skip
        refine wp_seq_atS (opsAt Tryd.f8 10) ((true, 0) :: (true, 1) :: (true, 2) :: []) (fun _ => True) (by kernel_rfl) (by kernel_rfl) trivial ?_
        refine k_pure (by kernel_rfl) (d := (some 59)) (by kernel_rfl) (v := .slice ao1 n1 c1) (fun _ => by kernel_rfl) ?_
        refine k_pure (by kernel_rfl) (d := (some 60)) (by kernel_rfl) (v := .int .i64 ((n1 : Nat) : Int)) (fun _ => by kernel_rfl) ?_
        refine k_pure (by kernel_rfl) (d := (some 61)) (by kernel_rfl) (v := .bool false) (fun _ => run_binOpV (op := .geq) (x := .tmp 60) (y := .const (.int .i64 64)) (t := 3) (t' := 3) (u := .int .i64 ((n1 : Nat) : Int)) (v := .int .i64 64) (by kernel_rfl) (by kernel_rfl) (by kernel_rfl) rfl (geqF (by omega))) ?_
        refine k_end ?_
        go_simp
        have hn3l : n1 < 64 := by omega
        go_upto_region 18 with (fail)
        by_cases h0 : 0 < n1
        · skip
          refine wp_seq_atS (opsAt Tryd.f8 18) ((true, 0) :: (true, 1) :: (true, 2) :: []) (fun _ => True) (by kernel_rfl) (by kernel_rfl) trivial ?_
          refine k_pure (by kernel_rfl) (d := (some 83)) (by kernel_rfl) (v := .slice ao1 n1 c1) (fun _ => by kernel_rfl) ?_
          refine k_pure (by kernel_rfl) (d := (some 84)) (by kernel_rfl) (v := .int .i64 ((n1 : Nat) : Int)) (fun _ => by kernel_rfl) ?_
          refine k_pure (by kernel_rfl) (d := (some 85)) (by kernel_rfl) (v := .bool true) (fun _ => run_binOpV (op := .gtr) (x := .tmp 84) (y := .const (.int .i64 0)) (t := 3) (t' := 3) (u := .int .i64 ((n1 : Nat) : Int)) (v := .int .i64 0) (by kernel_rfl) (by kernel_rfl) (by kernel_rfl) rfl (gtrT (by omega))) ?_
          refine k_end ?_
          go_simp
          go_upto_region 19 with (fail)
          refine wp_seq_atS (opsAt Tryd.f8 19) ((true, 0) :: (true, 1) :: (true, 2) :: (true, 3) :: (true, 4) :: (true, 5) :: (false, 6) :: (true, 7) :: (true, 8) :: (false, 9) :: []) (fun _ => True) (by kernel_rfl) (by kernel_rfl) trivial ?_
          refine k_pure (by kernel_rfl) (d := (some 86)) (by kernel_rfl) (v := .pointer (some ⟨b, 0, none⟩)) (fun _ => by kernel_rfl) ?_
          refine k_pure (by kernel_rfl) (d := (some 87)) (by kernel_rfl) (v := .pointer (some ⟨b, 0, none⟩)) (fun _ => by kernel_rfl) ?_
          refine k_pure (by kernel_rfl) (d := (some 88)) (by kernel_rfl) (v := .pointer (some ⟨b, 0, none⟩)) (fun _ => by kernel_rfl) ?_
          refine k_pure (by kernel_rfl) (d := (some 89)) (by kernel_rfl) (v := .pointer (some ⟨b, 8, none⟩)) (fun _ => by kernel_rfl) ?_
          refine k_pure (by kernel_rfl) (d := (some 90)) (by kernel_rfl) (v := .slice (some ⟨b, 8, none⟩) 64 64) (fun _ => by kernel_rfl) ?_
          refine k_pure (by kernel_rfl) (d := (some 91)) (by kernel_rfl) (v := .slice ao1 n1 c1) (fun _ => by kernel_rfl) ?_
          obtain ⟨wz78, hr78, u78⟩ := run_copyB (P := Tryd.prog) (w := w46) (dT := 24) (sT := 24) (ty := 3) (o := 8) (dn := 64) (dc := 64) (H46.at 0 rfl) (HP1.out.mm H46 (bsC HV1.out bs0)) Tryd.underlying24 (by kernel_rfl) (m := n1) (by rw [dgL_length HXF.out]; decide) (by rw [HN1.out]; omega)
          rw [List.take_of_length_le (show p1.length ≤ n1 from by rw [HN1.out]; exact Nat.le_refl _)] at u78
          replace u78 : Mm w46 [(b, dgL h1 (fill x1 p1 0) 0 (l0 + n))] wz78 := (by have h := dgL_fill (h := h1) (nx := 0) (len := l0 + n) (p := p1) (r := 0) HXF.out (by rw [HN1.out]; omega); rw [HN1.out] at h; rw [← h]; exact u78)
          have H78 : Mm w [(b, dgL h1 (fill x1 p1 0) 0 (l0 + n))] wz78 := H46.upd (i := 0) rfl u78
          refine k_make (by kernel_rfl) (d := (some 92)) (by kernel_rfl) (v := .int .i64 ((n1 : Nat) : Int)) (run_copyOp (x := .tmp 90) (y := .tmp 91) (by kernel_rfl) (by kernel_rfl) (by kernel_rfl) hr78) trivial ?_
          intro w78 hw78 _
          rw [← hw78] at H78
          clear hw78 hr78 u78 H46
          refine k_pure (by kernel_rfl) (d := (some 93)) (by kernel_rfl) (v := .pointer (some ⟨b, 0, none⟩)) (fun _ => by kernel_rfl) ?_
          refine k_pure (by kernel_rfl) (d := (some 94)) (by kernel_rfl) (v := .pointer (some ⟨b, 72, none⟩)) (fun _ => by kernel_rfl) ?_
          have H81 : Mm w [(b, dgL h1 (fill x1 p1 0) n1 (l0 + n))] (w78.setCell ⟨b, 72, none⟩ (.int .i64 ((n1 : Nat) : Int))) := (by have h := H78.put 0 rfl 72 (.int .i64 ((n1 : Nat) : Int)); rw [(show (dgL h1 (fill x1 p1 0) 0 (l0 + n)).set 72 (.int .i64 ((n1 : Nat) : Int)) = dgL h1 (fill x1 p1 0) n1 (l0 + n) from dgL_snx (fill_length HXF.out (by rw [HN1.out]; omega)))] at h; exact h)
          refine k_skipOp (by kernel_rfl) (d := none) (by kernel_rfl) (run_storeA (ty := 3) (x := (.tmp 94)) (y := (.tmp 92)) (b := b) (off := 72) (v := .int .i64 ((n1 : Nat) : Int)) (by kernel_rfl) (by kernel_rfl) (by kernel_rfl) rfl rfl (by kernel_rfl) ((H78.at 0 rfl).cell (dgL_nx (fill_length HXF.out (by rw [HN1.out]; omega)))) (H78.at 0 rfl).free) trivial ?_
          intro w81 hw81 _
          rw [← hw81] at H81
          clear hw81 H78
          refine k_end ?_
          go_simp
          have HD3 := Lib.hid (dg_part HD1.out (p := p1) (x' := (fill x1 p1 0)) (by rw [HN1.out]; omega) (fill_length HXF.out (by rw [HN1.out]; omega)) (fill_take HXF.out (by rw [HN1.out]; omega)))
          have HF := Lib.hid H81
          clear H81
          go_wp2_with fail
          exact bodyPost_ret_by (by kernel_rfl) (by kernel_rfl) ⟨_, _, _, rfl, (by have h : Dg (s ++ p) h1 (fill x1 p1 0) (0 + p1.length) := (by have h := HD3.out; rw [HS1.out] at h; exact h); rw [HN1.out, Nat.zero_add] at h; exact h), HF.out⟩
        · skip
          refine wp_seq_atS (opsAt Tryd.f8 18) ((true, 0) :: (true, 1) :: (true, 2) :: []) (fun _ => True) (by kernel_rfl) (by kernel_rfl) trivial ?_
          refine k_pure (by kernel_rfl) (d := (some 83)) (by kernel_rfl) (v := .slice ao1 n1 c1) (fun _ => by kernel_rfl) ?_
          refine k_pure (by kernel_rfl) (d := (some 84)) (by kernel_rfl) (v := .int .i64 ((n1 : Nat) : Int)) (fun _ => by kernel_rfl) ?_
          refine k_pure (by kernel_rfl) (d := (some 85)) (by kernel_rfl) (v := .bool false) (fun _ => run_binOpV (op := .gtr) (x := .tmp 84) (y := .const (.int .i64 0)) (t := 3) (t' := 3) (u := .int .i64 ((n1 : Nat) : Int)) (v := .int .i64 0) (by kernel_rfl) (by kernel_rfl) (by kernel_rfl) rfl (gtrF (by omega))) ?_
          refine k_end ?_
          go_simp
          have HD3 := Lib.hid (show Dg (s1 ++ p1) h1 x1 0 from by rw [List.eq_nil_of_length_eq_zero (show p1.length = 0 by rw [HN1.out]; omega), List.append_nil]; exact HD1.out)
          have HF := Lib.hid H46
          clear H46
          go_wp2_with fail
          exact bodyPost_ret_by (by kernel_rfl) (by kernel_rfl) ⟨_, _, _, rfl, (by have h := HD3.out; rw [HS1.out] at h; exact h), HF.out⟩
    · have hfull1 : n < 64 - nx := by have := HM.out; omega
      have hmn : m = n := by have := HM.out; omega
      subst hmn
      have HFU := Lib.hid (show ¬ ((nx + m : Nat) : Int) = 64 by omega)
      clear hfull
      refine wp_seq_atS (opsAt Tryd.f8 6) ((true, 0) :: (true, 1) :: (true, 2) :: (false, 3) :: (true, 4) :: []) (fun _ => True) (by kernel_rfl) (by kernel_rfl) trivial ?_
      refine k_pure (by kernel_rfl) (d := (some 42)) (by kernel_rfl) (v := .pointer (some ⟨b, 0, none⟩)) (fun _ => by kernel_rfl) ?_
      refine k_pure (by kernel_rfl) (d := (some 43)) (by kernel_rfl) (v := .pointer (some ⟨b, 0, none⟩)) (fun _ => by kernel_rfl) ?_
      refine k_pure (by kernel_rfl) (d := (some 44)) (by kernel_rfl) (v := .pointer (some ⟨b, 72, none⟩)) (fun _ => by kernel_rfl) ?_
      refine k_make (by kernel_rfl) (d := (some 45)) (by kernel_rfl) (v := .int .i64 ((nx + m : Nat) : Int)) (run_loadA (ty := 3) (x := (.tmp 44)) (a := ⟨b, 72, none⟩) (by kernel_rfl) (by kernel_rfl) Tryd.underlying3 rfl ((H33.at 0 rfl).cell (dgL_nx HXF.out))) trivial ?_
      intro w86 hw86 _
      replace hw86 := hw86.symm
      subst hw86
      refine k_pure (by kernel_rfl) (d := (some 46)) (by kernel_rfl) (v := .bool false) (fun _ => run_binOpV (op := .eql) (x := .tmp 45) (y := .const (.int .i64 64)) (t := 3) (t' := 3) (u := .int .i64 ((nx + m : Nat) : Int)) (v := .int .i64 64) (by kernel_rfl) (by kernel_rfl) (by kernel_rfl) rfl (eqlF (HFU.out))) ?_
      refine k_end ?_
      go_simp
      go_upto_region 9 with (fail)
      obtain ⟨ao1, c1, hr1, hp1, hl1, hv1⟩ := HP.out.tail (P := Tryd.prog) (t := 24) HN.out Tryd.underlying24 (by kernel_rfl) (m := m) hm1 (n' := 0) (Nat.sub_self _)
      have HR1 := Lib.hid hr1
      clear hr1 hp1 hl1 hv1
      refine wp_seq_atS (opsAt Tryd.f8 9) ((true, 0) :: (true, 1) :: (true, 2) :: (true, 3) :: []) (fun _ => True) (by kernel_rfl) (by kernel_rfl) trivial ?_
      refine k_pure (by kernel_rfl) (d := (some 56)) (by kernel_rfl) (v := .slice ao m c) (fun _ => by kernel_rfl) ?_
      refine k_pure (by kernel_rfl) (d := (some 57)) (by kernel_rfl) (v := .int .i64 ((m : Nat) : Int)) (fun _ => by kernel_rfl) ?_
      refine k_pure (by kernel_rfl) (d := (some 58)) (by kernel_rfl) (v := .slice ao1 0 c1) (fun _ => run_slOp (x := .tmp 56) (lo := (some (.tmp 57))) (hi := none) (mx := none) (v := .slice ao m c) (a := (some (.int .i64 ((m : Nat) : Int)))) (b := none) (c := none) (by kernel_rfl) (by kernel_rfl) (by kernel_rfl) (by kernel_rfl) (by kernel_rfl) (HR1.out _)) ?_
      refine k_pure (by kernel_rfl) (d := (some 1)) (by kernel_rfl) (v := .slice ao1 0 c1) (fun _ => by kernel_rfl) ?_
      refine k_end ?_
      go_simp
      go_upto_region 10 with (fail)
      refine wp_seq_atS (opsAt Tryd.f8 10) ((true, 0) :: (true, 1) :: (true, 2) :: []) (fun _ => True) (by kernel_rfl) (by kernel_rfl) trivial ?_
      refine k_pure (by kernel_rfl) (d := (some 59)) (by kernel_rfl) (v := .slice ao1 0 c1) (fun _ => by kernel_rfl) ?_
      refine k_pure (by kernel_rfl) (d := (some 60)) (by kernel_rfl) (v := .int .i64 0) (fun _ => by kernel_rfl) ?_
      refine k_pure (by kernel_rfl) (d := (some 61)) (by kernel_rfl) (v := .bool false) (fun _ => run_binOpV (op := .geq) (x := .tmp 60) (y := .const (.int .i64 64)) (t := 3) (t' := 3) (u := .int .i64 0) (v := .int .i64 64) (by kernel_rfl) (by kernel_rfl) (by kernel_rfl) rfl (geqF (by decide))) ?_
      refine k_end ?_
      go_simp
      go_upto_region 18 with (fail)
      refine wp_seq_atS (opsAt Tryd.f8 18) ((true, 0) :: (true, 1) :: (true, 2) :: []) (fun _ => True) (by kernel_rfl) (by kernel_rfl) trivial ?_
      refine k_pure (by kernel_rfl) (d := (some 83)) (by kernel_rfl) (v := .slice ao1 0 c1) (fun _ => by kernel_rfl) ?_
      refine k_pure (by kernel_rfl) (d := (some 84)) (by kernel_rfl) (v := .int .i64 0) (fun _ => by kernel_rfl) ?_
      refine k_pure (by kernel_rfl) (d := (some 85)) (by kernel_rfl) (v := .bool false) (fun _ => run_binOpV (op := .gtr) (x := .tmp 84) (y := .const (.int .i64 0)) (t := 3) (t' := 3) (u := .int .i64 0) (v := .int .i64 0) (by kernel_rfl) (by kernel_rfl) (by kernel_rfl) rfl (gtrF (by decide))) ?_
      refine k_end ?_
      go_simp
      have HD3 := Lib.hid (show Dg (s ++ p) sg (fill x (p.take m) nx) (nx + m) from by have h := dg_part HDG.out (p := p.take m) (x' := (fill x (p.take m) nx)) (by rw [HT.out]; omega) HXF.out (fill_take HX.out (by rw [HT.out]; exact hm2)); rw [HT.out] at h; rw [List.take_of_length_le (show p.length ≤ m by rw [HN.out]; exact Nat.le_refl _)] at h ⊢; exact h)
      have HF := Lib.hid H33
      clear H33
      go_wp2_with fail
      exact bodyPost_ret_by (by kernel_rfl) (by kernel_rfl) ⟨_, _, _, rfl, HD3.out, HF.out⟩
  · have hnx0 : nx = 0 := by omega
    subst hnx0
    clear hnx
    refine wp_seq_atS (opsAt Tryd.f8 3) ((true, 0) :: (true, 1) :: (true, 2) :: (false, 3) :: (true, 4) :: []) (fun _ => True) (by kernel_rfl) (by kernel_rfl) trivial ?_
    refine k_pure (by kernel_rfl) (d := (some 19)) (by kernel_rfl) (v := .pointer (some ⟨b, 0, none⟩)) (fun _ => by kernel_rfl) ?_
    refine k_pure (by kernel_rfl) (d := (some 20)) (by kernel_rfl) (v := .pointer (some ⟨b, 0, none⟩)) (fun _ => by kernel_rfl) ?_
    refine k_pure (by kernel_rfl) (d := (some 21)) (by kernel_rfl) (v := .pointer (some ⟨b, 72, none⟩)) (fun _ => by kernel_rfl) ?_
    refine k_make (by kernel_rfl) (d := (some 22)) (by kernel_rfl) (v := .int .i64 0) (run_loadA (ty := 3) (x := (.tmp 21)) (a := ⟨b, 72, none⟩) (by kernel_rfl) (by kernel_rfl) Tryd.underlying3 rfl ((H10.at 0 rfl).cell (dgL_nx (nx := 0) HX.out))) trivial ?_
    intro w95 hw95 _
    replace hw95 := hw95.symm
    subst hw95
    refine k_pure (by kernel_rfl) (d := (some 23)) (by kernel_rfl) (v := .bool false) (fun _ => run_binOpV (op := .gtr) (x := .tmp 22) (y := .const (.int .i64 0)) (t := 3) (t' := 3) (u := .int .i64 0) (v := .int .i64 0) (by kernel_rfl) (by kernel_rfl) (by kernel_rfl) rfl (gtrF (by decide))) ?_
    refine k_end ?_
    go_simp
    have hn1l : n ≤ 4200 := by omega
    go_upto_region 10 with (fail)
    by_cases h64 : 64 ≤ n
    · skip
      refine wp_seq_atS (opsAt Tryd.f8 10) ((true, 0) :: (true, 1) :: (true, 2) :: []) (fun _ => True) (by kernel_rfl) (by kernel_rfl) trivial ?_
      refine k_pure (by kernel_rfl) (d := (some 59)) (by kernel_rfl) (v := .slice ao n c) (fun _ => by kernel_rfl) ?_
      refine k_pure (by kernel_rfl) (d := (some 60)) (by kernel_rfl) (v := .int .i64 ((n : Nat) : Int)) (fun _ => by kernel_rfl) ?_
      refine k_pure (by kernel_rfl) (d := (some 61)) (by kernel_rfl) (v := .bool true) (fun _ => run_binOpV (op := .geq) (x := .tmp 60) (y := .const (.int .i64 64)) (t := 3) (t' := 3) (u := .int .i64 ((n : Nat) : Int)) (v := .int .i64 64) (by kernel_rfl) (by kernel_rfl) (by kernel_rfl) rfl (geqT (by omega))) ?_
      refine k_end ?_
      go_simp
      go_upto_region 11 with (fail)
      obtain ⟨j, hj⟩ : ∃ j, n / 64 = j := ⟨_, rfl⟩
      obtain ⟨q, hq⟩ : ∃ q, 64 * j = q := ⟨_, rfl⟩
      have hq1 : q ≤ n := by omega
      have hq2 : n < q + 64 := by omega
      have hqI : (q : Int) ≤ 65536 := by omega
      have HQ := Lib.hid hq; have HJ := Lib.hid hj
      clear hq hj
      refine wp_seq_atS (opsAt Tryd.f8 11) ((true, 0) :: (true, 1) :: (true, 2) :: (true, 3) :: []) (fun _ => True) (by kernel_rfl) (by kernel_rfl) trivial ?_
      refine k_pure (by kernel_rfl) (d := (some 62)) (by kernel_rfl) (v := .slice ao n c) (fun _ => by kernel_rfl) ?_
      refine k_pure (by kernel_rfl) (d := (some 63)) (by kernel_rfl) (v := .int .i64 ((n : Nat) : Int)) (fun _ => by kernel_rfl) ?_
      refine k_pure (by kernel_rfl) (d := (some 64)) (by kernel_rfl) (v := .int .i64 ((q : Nat) : Int)) (fun _ => run_binOpV (op := .andNot) (x := .tmp 63) (y := .const (.int .i64 63)) (t := 3) (t' := 3) (u := .int .i64 ((n : Nat) : Int)) (v := .int .i64 63) (by kernel_rfl) (by kernel_rfl) (by kernel_rfl) rfl (by rw [binOp_andNot, intBits_andNot, and63 _ (by omega), HJ.out, HQ.out]; rfl)) ?_
      refine k_pure (by kernel_rfl) (d := (some 7)) (by kernel_rfl) (v := .int .i64 ((q : Nat) : Int)) (fun _ => by kernel_rfl) ?_
      refine k_end ?_
      go_simp
      go_wp2_with fail
      refine wp_loop_once ?_
      go_upto_region 16 with (fail)
      obtain ⟨ao2, c2, hr2, hp2, hn2, hv2⟩ := HP.out.head (P := Tryd.prog) (t := 24) HN.out Tryd.underlying24 (by kernel_rfl) (m := q) hq1
      have HR2 := Lib.hid hr2; have HP2 := Lib.hid hp2; have HN2 := Lib.hid hn2; have HV2 := Lib.hid (own_ne HV.out hv2)
      clear hr2 hp2 hn2 hv2
      refine wp_seq_atS (opsAt Tryd.f8 16) ((true, 0) :: (true, 1) :: (true, 2) :: (true, 3) :: (false, 4) :: []) (fun _ => True) (by kernel_rfl) (by kernel_rfl) trivial ?_
      refine k_pure (by kernel_rfl) (d := (some 75)) (by kernel_rfl) (v := .pointer (some ⟨b, 0, none⟩)) (fun _ => by kernel_rfl) ?_
      refine k_pure (by kernel_rfl) (d := (some 76)) (by kernel_rfl) (v := .slice ao n c) (fun _ => by kernel_rfl) ?_
      refine k_pure (by kernel_rfl) (d := (some 77)) (by kernel_rfl) (v := .int .i64 ((q : Nat) : Int)) (fun _ => by kernel_rfl) ?_
      refine k_pure (by kernel_rfl) (d := (some 78)) (by kernel_rfl) (v := .slice ao2 q c2) (fun _ => run_slOp (x := .tmp 76) (lo := none) (hi := (some (.tmp 77))) (mx := none) (v := .slice ao n c) (a := none) (b := (some (.int .i64 ((q : Nat) : Int)))) (c := none) (by kernel_rfl) (by kernel_rfl) (by kernel_rfl) (by kernel_rfl) (by kernel_rfl) (HR2.out _)) ?_
      refine k_callR (by kernel_rfl) (d := (some 79)) (by kernel_rfl) (f := 17) (args := #[.pointer (some ⟨b, 0, none⟩), .slice ao2 q c2]) (fun _ => by kernel_rfl) (block_c (H10.at 0 rfl) (HP2.out.mm H10 (bsC HV2.out bs0)) (k := j) (by rw [HN2.out, HQ.out]) (H10.far HK.out HB.out)) (fun _ w102 ⟨he102, u102⟩ => ⟨_, he102, trivial, ?_⟩)
      have H102 : Mm w [(b, dgL (cs sg (p.take q) j) x 0 (l0 + n))] w102 := H10.upd (i := 0) rfl u102
      clear u102 he102 H10
      refine k_end ?_
      go_simp
      go_upto_region 17 with (fail)
      obtain ⟨n3, hn3⟩ : ∃ n3, n - q = n3 := ⟨_, rfl⟩
      obtain ⟨ao3, c3, hr3, hp3, hm3, hv3⟩ := HP.out.tail (P := Tryd.prog) (t := 24) HN.out Tryd.underlying24 (by kernel_rfl) (m := q) hq1 hn3
      have hn3l : n3 < 64 := by omega
      have HR3 := Lib.hid hr3; have HP3 := Lib.hid hp3; have HN3 := Lib.hid hm3; have HV3 := Lib.hid (own_ne HV.out hv3); have HM3 := Lib.hid hn3
      clear hr3 hp3 hm3 hv3 hn3
      refine wp_seq_atS (opsAt Tryd.f8 17) ((true, 0) :: (true, 1) :: (true, 2) :: (true, 3) :: []) (fun _ => True) (by kernel_rfl) (by kernel_rfl) trivial ?_
      refine k_pure (by kernel_rfl) (d := (some 80)) (by kernel_rfl) (v := .slice ao n c) (fun _ => by kernel_rfl) ?_
      refine k_pure (by kernel_rfl) (d := (some 81)) (by kernel_rfl) (v := .int .i64 ((q : Nat) : Int)) (fun _ => by kernel_rfl) ?_
      refine k_pure (by kernel_rfl) (d := (some 82)) (by kernel_rfl) (v := .slice ao3 n3 c3) (fun _ => run_slOp (x := .tmp 80) (lo := (some (.tmp 81))) (hi := none) (mx := none) (v := .slice ao n c) (a := (some (.int .i64 ((q : Nat) : Int)))) (b := none) (c := none) (by kernel_rfl) (by kernel_rfl) (by kernel_rfl) (by kernel_rfl) (by kernel_rfl) (HR3.out _)) ?_
      refine k_pure (by kernel_rfl) (d := (some 1)) (by kernel_rfl) (v := .slice ao3 n3 c3) (fun _ => by kernel_rfl) ?_
      refine k_end ?_
      go_simp
      have HD2 := Lib.hid (dg_blocks HDG.out (p := p.take q) (j := j) (by rw [HN2.out, HQ.out]))
      go_upto_region 18 with (fail)
      by_cases h0 : 0 < n3
      · skip
        refine wp_seq_atS (opsAt Tryd.f8 18) ((true, 0) :: (true, 1) :: (true, 2) :: []) (fun _ => True) (by kernel_rfl) (by kernel_rfl) trivial ?_
        refine k_pure (by kernel_rfl) (d := (some 83)) (by kernel_rfl) (v := .slice ao3 n3 c3) (fun _ => by kernel_rfl) ?_
        refine k_pure (by kernel_rfl) (d := (some 84)) (by kernel_rfl) (v := .int .i64 ((n3 : Nat) : Int)) (fun _ => by kernel_rfl) ?_
        refine k_pure (by kernel_rfl) (d := (some 85)) (by kernel_rfl) (v := .bool true) (fun _ => run_binOpV (op := .gtr) (x := .tmp 84) (y := .const (.int .i64 0)) (t := 3) (t' := 3) (u := .int .i64 ((n3 : Nat) : Int)) (v := .int .i64 0) (by kernel_rfl) (by kernel_rfl) (by kernel_rfl) rfl (gtrT (by omega))) ?_
        refine k_end ?_
        go_simp
        go_upto_region 19 with (fail)
        refine wp_seq_atS (opsAt Tryd.f8 19) ((true, 0) :: (true, 1) :: (true, 2) :: (true, 3) :: (true, 4) :: (true, 5) :: (false, 6) :: (true, 7) :: (true, 8) :: (false, 9) :: []) (fun _ => True) (by kernel_rfl) (by kernel_rfl) trivial ?_
        refine k_pure (by kernel_rfl) (d := (some 86)) (by kernel_rfl) (v := .pointer (some ⟨b, 0, none⟩)) (fun _ => by kernel_rfl) ?_
        refine k_pure (by kernel_rfl) (d := (some 87)) (by kernel_rfl) (v := .pointer (some ⟨b, 0, none⟩)) (fun _ => by kernel_rfl) ?_
        refine k_pure (by kernel_rfl) (d := (some 88)) (by kernel_rfl) (v := .pointer (some ⟨b, 0, none⟩)) (fun _ => by kernel_rfl) ?_
        refine k_pure (by kernel_rfl) (d := (some 89)) (by kernel_rfl) (v := .pointer (some ⟨b, 8, none⟩)) (fun _ => by kernel_rfl) ?_
        refine k_pure (by kernel_rfl) (d := (some 90)) (by kernel_rfl) (v := .slice (some ⟨b, 8, none⟩) 64 64) (fun _ => by kernel_rfl) ?_
        refine k_pure (by kernel_rfl) (d := (some 91)) (by kernel_rfl) (v := .slice ao3 n3 c3) (fun _ => by kernel_rfl) ?_
        obtain ⟨wz112, hr112, u112⟩ := run_copyB (P := Tryd.prog) (w := w102) (dT := 24) (sT := 24) (ty := 3) (o := 8) (dn := 64) (dc := 64) (H102.at 0 rfl) (HP3.out.mm H102 (bsC HV3.out bs0)) Tryd.underlying24 (by kernel_rfl) (m := n3) (by rw [dgL_length HX.out]; decide) (by rw [HN3.out]; omega)
        rw [List.take_of_length_le (show ((p.drop q)).length ≤ n3 from by rw [HN3.out]; exact Nat.le_refl _)] at u112
        replace u112 : Mm w102 [(b, dgL (cs sg (p.take q) j) (fill x ((p.drop q)) 0) 0 (l0 + n))] wz112 := (by have h := dgL_fill (h := (cs sg (p.take q) j)) (nx := 0) (len := l0 + n) (p := (p.drop q)) (r := 0) HX.out (by rw [HN3.out]; omega); rw [HN3.out] at h; rw [← h]; exact u112)
        have H112 : Mm w [(b, dgL (cs sg (p.take q) j) (fill x ((p.drop q)) 0) 0 (l0 + n))] wz112 := H102.upd (i := 0) rfl u112
        refine k_make (by kernel_rfl) (d := (some 92)) (by kernel_rfl) (v := .int .i64 ((n3 : Nat) : Int)) (run_copyOp (x := .tmp 90) (y := .tmp 91) (by kernel_rfl) (by kernel_rfl) (by kernel_rfl) hr112) trivial ?_
        intro w112 hw112 _
        rw [← hw112] at H112
        clear hw112 hr112 u112 H102
        refine k_pure (by kernel_rfl) (d := (some 93)) (by kernel_rfl) (v := .pointer (some ⟨b, 0, none⟩)) (fun _ => by kernel_rfl) ?_
        refine k_pure (by kernel_rfl) (d := (some 94)) (by kernel_rfl) (v := .pointer (some ⟨b, 72, none⟩)) (fun _ => by kernel_rfl) ?_
        have H115 : Mm w [(b, dgL (cs sg (p.take q) j) (fill x ((p.drop q)) 0) n3 (l0 + n))] (w112.setCell ⟨b, 72, none⟩ (.int .i64 ((n3 : Nat) : Int))) := (by have h := H112.put 0 rfl 72 (.int .i64 ((n3 : Nat) : Int)); rw [(show (dgL (cs sg (p.take q) j) (fill x ((p.drop q)) 0) 0 (l0 + n)).set 72 (.int .i64 ((n3 : Nat) : Int)) = dgL (cs sg (p.take q) j) (fill x ((p.drop q)) 0) n3 (l0 + n) from dgL_snx (fill_length HX.out (by rw [HN3.out]; omega)))] at h; exact h)
        refine k_skipOp (by kernel_rfl) (d := none) (by kernel_rfl) (run_storeA (ty := 3) (x := (.tmp 94)) (y := (.tmp 92)) (b := b) (off := 72) (v := .int .i64 ((n3 : Nat) : Int)) (by kernel_rfl) (by kernel_rfl) (by kernel_rfl) rfl rfl (by kernel_rfl) ((H112.at 0 rfl).cell (dgL_nx (fill_length HX.out (by rw [HN3.out]; omega)))) (H112.at 0 rfl).free) trivial ?_
        intro w115 hw115 _
        rw [← hw115] at H115
        clear hw115 H112
        refine k_end ?_
        go_simp
        have HD3 := Lib.hid (dg_part HD2.out (p := (p.drop q)) (x' := (fill x ((p.drop q)) 0)) (by rw [HN3.out]; omega) (fill_length HX.out (by rw [HN3.out]; omega)) (fill_take HX.out (by rw [HN3.out]; omega)))
        have HF := Lib.hid H115
        clear H115
        go_wp2_with fail
        exact bodyPost_ret_by (by kernel_rfl) (by kernel_rfl) ⟨_, _, _, rfl, (by have h : Dg (s ++ p) (cs sg (p.take q) j) (fill x ((p.drop q)) 0) (0 + ((p.drop q)).length) := (by have h := HD3.out; rw [List.append_assoc, List.take_append_drop, (rfl : s ++ p = s ++ p)] at h; exact h); rw [HN3.out, Nat.zero_add] at h; exact h), HF.out⟩
      · skip
        refine wp_seq_atS (opsAt Tryd.f8 18) ((true, 0) :: (true, 1) :: (true, 2) :: []) (fun _ => True) (by kernel_rfl) (by kernel_rfl) trivial ?_
        refine k_pure (by kernel_rfl) (d := (some 83)) (by kernel_rfl) (v := .slice ao3 n3 c3) (fun _ => by kernel_rfl) ?_
        refine k_pure (by kernel_rfl) (d := (some 84)) (by kernel_rfl) (v := .int .i64 ((n3 : Nat) : Int)) (fun _ => by kernel_rfl) ?_
        refine k_pure (by kernel_rfl) (d := (some 85)) (by kernel_rfl) (v := .bool false) (fun _ => run_binOpV (op := .gtr) (x := .tmp 84) (y := .const (.int .i64 0)) (t := 3) (t' := 3) (u := .int .i64 ((n3 : Nat) : Int)) (v := .int .i64 0) (by kernel_rfl) (by kernel_rfl) (by kernel_rfl) rfl (gtrF (by omega))) ?_
        refine k_end ?_
        go_simp
        have HD3 := Lib.hid (show Dg ((s ++ p.take q) ++ (p.drop q)) (cs sg (p.take q) j) x 0 from by rw [List.eq_nil_of_length_eq_zero (show ((p.drop q)).length = 0 by rw [HN3.out]; omega), List.append_nil]; exact HD2.out)
        have HF := Lib.hid H102
        clear H102
        go_wp2_with fail
        exact bodyPost_ret_by (by kernel_rfl) (by kernel_rfl) ⟨_, _, _, rfl, (by have h := HD3.out; rw [List.append_assoc, List.take_append_drop, (rfl : s ++ p = s ++ p)] at h; exact h), HF.out⟩
    · skip
      refine wp_seq_atS (opsAt Tryd.f8 10) ((true, 0) :: (true, 1) :: (true, 2) :: []) (fun _ => True) (by kernel_rfl) (by kernel_rfl) trivial ?_
      refine k_pure (by kernel_rfl) (d := (some 59)) (by kernel_rfl) (v := .slice ao n c) (fun _ => by kernel_rfl) ?_
      refine k_pure (by kernel_rfl) (d := (some 60)) (by kernel_rfl) (v := .int .i64 ((n : Nat) : Int)) (fun _ => by kernel_rfl) ?_
      refine k_pure (by kernel_rfl) (d := (some 61)) (by kernel_rfl) (v := .bool false) (fun _ => run_binOpV (op := .geq) (x := .tmp 60) (y := .const (.int .i64 64)) (t := 3) (t' := 3) (u := .int .i64 ((n : Nat) : Int)) (v := .int .i64 64) (by kernel_rfl) (by kernel_rfl) (by kernel_rfl) rfl (geqF (by omega))) ?_
      refine k_end ?_
      go_simp
      have hn3l : n < 64 := by omega
      go_upto_region 18 with (fail)
      by_cases h0 : 0 < n
      · skip
        refine wp_seq_atS (opsAt Tryd.f8 18) ((true, 0) :: (true, 1) :: (true, 2) :: []) (fun _ => True) (by kernel_rfl) (by kernel_rfl) trivial ?_
        refine k_pure (by kernel_rfl) (d := (some 83)) (by kernel_rfl) (v := .slice ao n c) (fun _ => by kernel_rfl) ?_
        refine k_pure (by kernel_rfl) (d := (some 84)) (by kernel_rfl) (v := .int .i64 ((n : Nat) : Int)) (fun _ => by kernel_rfl) ?_
        refine k_pure (by kernel_rfl) (d := (some 85)) (by kernel_rfl) (v := .bool true) (fun _ => run_binOpV (op := .gtr) (x := .tmp 84) (y := .const (.int .i64 0)) (t := 3) (t' := 3) (u := .int .i64 ((n : Nat) : Int)) (v := .int .i64 0) (by kernel_rfl) (by kernel_rfl) (by kernel_rfl) rfl (gtrT (by omega))) ?_
        refine k_end ?_
        go_simp
        go_upto_region 19 with (fail)
        refine wp_seq_atS (opsAt Tryd.f8 19) ((true, 0) :: (true, 1) :: (true, 2) :: (true, 3) :: (true, 4) :: (true, 5) :: (false, 6) :: (true, 7) :: (true, 8) :: (false, 9) :: []) (fun _ => True) (by kernel_rfl) (by kernel_rfl) trivial ?_
        refine k_pure (by kernel_rfl) (d := (some 86)) (by kernel_rfl) (v := .pointer (some ⟨b, 0, none⟩)) (fun _ => by kernel_rfl) ?_
        refine k_pure (by kernel_rfl) (d := (some 87)) (by kernel_rfl) (v := .pointer (some ⟨b, 0, none⟩)) (fun _ => by kernel_rfl) ?_
        refine k_pure (by kernel_rfl) (d := (some 88)) (by kernel_rfl) (v := .pointer (some ⟨b, 0, none⟩)) (fun _ => by kernel_rfl) ?_
        refine k_pure (by kernel_rfl) (d := (some 89)) (by kernel_rfl) (v := .pointer (some ⟨b, 8, none⟩)) (fun _ => by kernel_rfl) ?_
        refine k_pure (by kernel_rfl) (d := (some 90)) (by kernel_rfl) (v := .slice (some ⟨b, 8, none⟩) 64 64) (fun _ => by kernel_rfl) ?_
        refine k_pure (by kernel_rfl) (d := (some 91)) (by kernel_rfl) (v := .slice ao n c) (fun _ => by kernel_rfl) ?_
        obtain ⟨wz124, hr124, u124⟩ := run_copyB (P := Tryd.prog) (w := w10) (dT := 24) (sT := 24) (ty := 3) (o := 8) (dn := 64) (dc := 64) (H10.at 0 rfl) (HP.out.mm H10 (bsC HV.out bs0)) Tryd.underlying24 (by kernel_rfl) (m := n) (by rw [dgL_length HX.out]; decide) (by rw [HN.out]; omega)
        rw [List.take_of_length_le (show p.length ≤ n from by rw [HN.out]; exact Nat.le_refl _)] at u124
        replace u124 : Mm w10 [(b, dgL sg (fill x p 0) 0 (l0 + n))] wz124 := (by have h := dgL_fill (h := sg) (nx := 0) (len := l0 + n) (p := p) (r := 0) HX.out (by rw [HN.out]; omega); rw [HN.out] at h; rw [← h]; exact u124)
        have H124 : Mm w [(b, dgL sg (fill x p 0) 0 (l0 + n))] wz124 := H10.upd (i := 0) rfl u124
        refine k_make (by kernel_rfl) (d := (some 92)) (by kernel_rfl) (v := .int .i64 ((n : Nat) : Int)) (run_copyOp (x := .tmp 90) (y := .tmp 91) (by kernel_rfl) (by kernel_rfl) (by kernel_rfl) hr124) trivial ?_
        intro w124 hw124 _
        rw [← hw124] at H124
        clear hw124 hr124 u124 H10
        refine k_pure (by kernel_rfl) (d := (some 93)) (by kernel_rfl) (v := .pointer (some ⟨b, 0, none⟩)) (fun _ => by kernel_rfl) ?_
        refine k_pure (by kernel_rfl) (d := (some 94)) (by kernel_rfl) (v := .pointer (some ⟨b, 72, none⟩)) (fun _ => by kernel_rfl) ?_
        have H127 : Mm w [(b, dgL sg (fill x p 0) n (l0 + n))] (w124.setCell ⟨b, 72, none⟩ (.int .i64 ((n : Nat) : Int))) := (by have h := H124.put 0 rfl 72 (.int .i64 ((n : Nat) : Int)); rw [(show (dgL sg (fill x p 0) 0 (l0 + n)).set 72 (.int .i64 ((n : Nat) : Int)) = dgL sg (fill x p 0) n (l0 + n) from dgL_snx (fill_length HX.out (by rw [HN.out]; omega)))] at h; exact h)
        refine k_skipOp (by kernel_rfl) (d := none) (by kernel_rfl) (run_storeA (ty := 3) (x := (.tmp 94)) (y := (.tmp 92)) (b := b) (off := 72) (v := .int .i64 ((n : Nat) : Int)) (by kernel_rfl) (by kernel_rfl) (by kernel_rfl) rfl rfl (by kernel_rfl) ((H124.at 0 rfl).cell (dgL_nx (fill_length HX.out (by rw [HN.out]; omega)))) (H124.at 0 rfl).free) trivial ?_
        intro w127 hw127 _
        rw [← hw127] at H127
        clear hw127 H124
        refine k_end ?_
        go_simp
        have HD3 := Lib.hid (dg_part HDG.out (p := p) (x' := (fill x p 0)) (by rw [HN.out]; omega) (fill_length HX.out (by rw [HN.out]; omega)) (fill_take HX.out (by rw [HN.out]; omega)))
        have HF := Lib.hid H127
        clear H127
        go_wp2_with fail
        exact bodyPost_ret_by (by kernel_rfl) (by kernel_rfl) ⟨_, _, _, rfl, (by have h : Dg (s ++ p) sg (fill x p 0) (0 + p.length) := (by have h := HD3.out; rw [(rfl : s ++ p = s ++ p)] at h; exact h); rw [HN.out, Nat.zero_add] at h; exact h), HF.out⟩
      · skip
        refine wp_seq_atS (opsAt Tryd.f8 18) ((true, 0) :: (true, 1) :: (true, 2) :: []) (fun _ => True) (by kernel_rfl) (by kernel_rfl) trivial ?_
        refine k_pure (by kernel_rfl) (d := (some 83)) (by kernel_rfl) (v := .slice ao n c) (fun _ => by kernel_rfl) ?_
        refine k_pure (by kernel_rfl) (d := (some 84)) (by kernel_rfl) (v := .int .i64 ((n : Nat) : Int)) (fun _ => by kernel_rfl) ?_
        refine k_pure (by kernel_rfl) (d := (some 85)) (by kernel_rfl) (v := .bool false) (fun _ => run_binOpV (op := .gtr) (x := .tmp 84) (y := .const (.int .i64 0)) (t := 3) (t' := 3) (u := .int .i64 ((n : Nat) : Int)) (v := .int .i64 0) (by kernel_rfl) (by kernel_rfl) (by kernel_rfl) rfl (gtrF (by omega))) ?_
        refine k_end ?_
        go_simp
        have HD3 := Lib.hid (show Dg (s ++ p) sg x 0 from by rw [List.eq_nil_of_length_eq_zero (show p.length = 0 by rw [HN.out]; omega), List.append_nil]; exact HDG.out)
        have HF := Lib.hid H10
        clear H10
        go_wp2_with fail
        exact bodyPost_ret_by (by kernel_rfl) (by kernel_rfl) ⟨_, _, _, rfl, (by have h := HD3.out; rw [(rfl : s ++ p = s ++ p)] at h; exact h), HF.out⟩
end Go.Proofs.YtkmofjefjbhbhaaDoor
