/- What the hashes are on which the first one stands: the law. -/
import Derived.Test.YtkmofjefjbhbhaaDoorRh
import Derived.Test.YtkmofjefjbhbhaaDoorIm
namespace Go.FourQ
open Go.RowKit
section
variable {P : Program} {ops : Array Oper} {Q : Exit → Act → World → Prop} {S : World → Prop} {a : Act} {w : World} {t m : PT} {i : Nat} {d : Option Tmp} {v : Value}
theorem t_skipF (hS : S w) (hw : wantN ops i a = some false) (hd : (opN ops i).dst = d)
    (h : TreeG P ops Q S t (a.put d undef) w) (hm : TreeG P ops Q S m a w) : TreeG P ops Q S (.fork i t m) a w := by
  subst hd
  refine ⟨?_, hm.out⟩
  have hw' := wantN_some hw
  unfold wpOp
  simp only [hw'.1, hw'.2, Bool.false_eq_true, if_false]
  exact ⟨hS, h.out⟩
end
end Go.FourQ
namespace Go.Sl
open Go.RowKit Go.FourQ Go.Sha
theorem eqlS {P : Program} {w : World} {t : TypeId} {a : ByteArray} : (binOp .eql t (.string a) (.string a)).run P w = .ok (.bool true) w := by rw [binOp_string_eql, beq_self_eq_true]; rfl
end Go.Sl
namespace Go.Proofs.YtkmofjefjbhbhaaDoor
open Go.RowKit Go.FourQ Go.Sha Go.Sl

set_option maxRecDepth 100000 in
set_option maxHeartbeats 1000000 in
theorem few_c {w : World} {g n c0 c : Nat} {ao : Option Addr} (hnb : n ≤ 2147483647) (hb : Bl w g [.slice ao n c]) :
    Calls Tryd.prog 4 #[.slice (some ⟨g, 0, none⟩) 1 c0] w fun e w' => e = .returned (.bool (decide (n ≤ 4096))) ∧ Below w.heap.size w w' := by
  have HB := Lib.hid hb; clear hb
  go_enter Tryd.func4, Tryd.ntmps4
  go_upto_region 2 with (fail)
  have H0 : Mm w [] w := (Mm.zero w)
  refine wp_seq_atS (opsAt Tryd.f4 2) ((true, 0) :: (true, 1) :: (true, 2) :: []) (fun _ => True) (by kernel_rfl) (by kernel_rfl) trivial ?_
  refine k_pure (by kernel_rfl) (d := (some 6)) (by kernel_rfl) (v := .slice (some ⟨g, 0, none⟩) 1 c0) (fun _ => by kernel_rfl) ?_
  refine k_pure (by kernel_rfl) (d := (some 7)) (by kernel_rfl) (v := .int .i64 1) (fun _ => by kernel_rfl) ?_
  refine k_pure (by kernel_rfl) (d := (some 8)) (by kernel_rfl) (v := .int .i64 0) (fun _ => by kernel_rfl) ?_
  refine k_end ?_
  go_simp
  have J8 := Lib.hid (show Mm w [] w from H0)
  clear H0
  go_wp2_with fail
  go_loopw [3, 8] (fun v3 v8 wr => ∃ t m : Nat, t ≤ 1 ∧ v3 = .int .i64 m ∧ v8 = .int .i64 t ∧ Hid (t = 0 → m = 0) ∧ Hid (t = 1 → n ≤ 4096) ∧ Hid (Mm w [] wr)) (fun _ v8 _ => 1 - (intOf v8).toNat)
  case atStart => exact ⟨0, 0, by decide, rfl, rfl, Lib.hid (fun _ => rfl), Lib.hid (fun h => by cases h), Lib.hid J8.out⟩
  case round =>
    clear J8
    obtain ⟨t, m, ht1, rfl, rfl, hm, hn1, hJ⟩ := hrel
    have HRR := hJ.out
    clear hJ
    by_cases ht : t < 1
    · have htI : (t : Int) < 1 := by omega
      have ht0 : t = 0 := by omega
      have HT0 := Lib.hid ht0; have HM0 := Lib.hid (hm.out ht0); clear ht0
      go_upto_region 4 with (fail)
      refine wp_seq_atS (opsAt Tryd.f4 4) ((true, 0) :: (false, 1) :: (true, 2) :: []) (fun _ => True) (by kernel_rfl) (by kernel_rfl) trivial ?_
      refine k_pure (by kernel_rfl) (d := (some 10)) (by kernel_rfl) (v := .pointer (some ⟨g, t, none⟩)) (fun _ => run_indexSe (t := 28) (x := (.tmp 6)) (y := (.tmp 8)) (b := g) (off := 0) (off' := t) (n := 1) (c := c0) (i := t) (z := ((t : Nat) : Int)) (by kernel_rfl) (by kernel_rfl) (by kernel_rfl) rfl Tryd.underlying28 (by kernel_rfl) (by omega) (Nat.zero_add _)) ?_
      refine k_make (by kernel_rfl) (d := (some 11)) (by kernel_rfl) (v := .slice ao n c) (run_loadA (ty := 24) (x := (.tmp 10)) (a := ⟨g, t, none⟩) (by kernel_rfl) (by kernel_rfl) Tryd.underlying24 rfl (HRR.old (HB.out.cell (by rw [HT0.out]; rfl)) bs0)) trivial ?_
      intro w4 hw4 _
      replace hw4 := hw4.symm
      subst hw4
      refine k_pure (by kernel_rfl) (d := (some 5)) (by kernel_rfl) (v := .slice ao n c) (fun _ => by kernel_rfl) ?_
      refine k_end ?_
      go_simp
      go_upto_region 5 with (fail)
      by_cases hn : n ≤ 4096
      · skip
        refine wp_seq_atS (opsAt Tryd.f4 5) ((true, 0) :: (true, 1) :: (true, 2) :: (true, 3) :: (true, 4) :: []) (fun _ => True) (by kernel_rfl) (by kernel_rfl) trivial ?_
        refine k_pure (by kernel_rfl) (d := (some 12)) (by kernel_rfl) (v := .slice ao n c) (fun _ => by kernel_rfl) ?_
        refine k_pure (by kernel_rfl) (d := (some 13)) (by kernel_rfl) (v := .int .i64 ((n : Nat) : Int)) (fun _ => by kernel_rfl) ?_
        refine k_pure (by kernel_rfl) (d := (some 14)) (by kernel_rfl) (v := .int .i64 ((m : Nat) : Int)) (fun _ => by kernel_rfl) ?_
        refine k_pure (by kernel_rfl) (d := (some 15)) (by kernel_rfl) (v := .int .i64 4096) (fun _ => run_binOpV (op := .sub) (x := .const (.int .i64 4096)) (y := .tmp 14) (t := 3) (t' := 3) (u := .int .i64 4096) (v := .int .i64 ((m : Nat) : Int)) (by kernel_rfl) (by kernel_rfl) (by kernel_rfl) rfl (subI (by rw [HM0.out]; rfl) (by decide))) ?_
        refine k_pure (by kernel_rfl) (d := (some 16)) (by kernel_rfl) (v := .bool false) (fun _ => run_binOpV (op := .gtr) (x := .tmp 13) (y := .tmp 15) (t := 3) (t' := 3) (u := .int .i64 ((n : Nat) : Int)) (v := .int .i64 4096) (by kernel_rfl) (by kernel_rfl) (by kernel_rfl) rfl (gtrF (by omega))) ?_
        refine k_end ?_
        go_simp
        go_upto_region 7 with (fail)
        refine wp_seq_atS (opsAt Tryd.f4 7) ((true, 0) :: (true, 1) :: (true, 2) :: (true, 3) :: (true, 4) :: []) (fun _ => True) (by kernel_rfl) (by kernel_rfl) trivial ?_
        refine k_pure (by kernel_rfl) (d := (some 17)) (by kernel_rfl) (v := .int .i64 ((m : Nat) : Int)) (fun _ => by kernel_rfl) ?_
        refine k_pure (by kernel_rfl) (d := (some 18)) (by kernel_rfl) (v := .slice ao n c) (fun _ => by kernel_rfl) ?_
        refine k_pure (by kernel_rfl) (d := (some 19)) (by kernel_rfl) (v := .int .i64 ((n : Nat) : Int)) (fun _ => by kernel_rfl) ?_
        refine k_pure (by kernel_rfl) (d := (some 20)) (by kernel_rfl) (v := .int .i64 ((m + n : Nat) : Int)) (fun _ => run_binOpV (op := .add) (x := .tmp 17) (y := .tmp 19) (t := 3) (t' := 3) (u := .int .i64 ((m : Nat) : Int)) (v := .int .i64 ((n : Nat) : Int)) (by kernel_rfl) (by kernel_rfl) (by kernel_rfl) rfl (addI (by omega) (by have := HM0.out; omega))) ?_
        refine k_pure (by kernel_rfl) (d := (some 3)) (by kernel_rfl) (v := .int .i64 ((m + n : Nat) : Int)) (fun _ => by kernel_rfl) ?_
        refine k_end ?_
        go_simp
        go_upto_region 8 with (fail)
        refine wp_seq_atS (opsAt Tryd.f4 8) ((true, 0) :: (true, 1) :: []) (fun _ => True) (by kernel_rfl) (by kernel_rfl) trivial ?_
        refine k_pure (by kernel_rfl) (d := (some 21)) (by kernel_rfl) (v := .int .i64 (((t + 1) : Nat) : Int)) (fun _ => run_binOpV (op := .add) (x := (.tmp 8)) (y := (.const (.int .i64 1))) (t := 3) (t' := 3) (u := .int .i64 ((t : Nat) : Int)) (v := .int .i64 1) (by kernel_rfl) (by kernel_rfl) (by kernel_rfl) rfl (addI (by omega) (by omega))) ?_
        refine k_pure (by kernel_rfl) (d := (some 8)) (by kernel_rfl) (v := .int .i64 (((t + 1) : Nat) : Int)) (fun _ => by kernel_rfl) ?_
        refine k_end ?_
        go_simp
        have HJ := Lib.hid HRR
        clear HRR
        have HN := Lib.hid hn; clear hn
        go_wp2_with fail
        exact ⟨⟨t + 1, m + n, by omega, by go_num, by go_num, Lib.hid (fun h => absurd h (Nat.succ_ne_zero _)), Lib.hid (fun _ => HN.out), Lib.hid HJ.out⟩, by simp [intOf]; omega⟩
      · skip
        refine wp_seq_atS (opsAt Tryd.f4 5) ((true, 0) :: (true, 1) :: (true, 2) :: (true, 3) :: (true, 4) :: []) (fun _ => True) (by kernel_rfl) (by kernel_rfl) trivial ?_
        refine k_pure (by kernel_rfl) (d := (some 12)) (by kernel_rfl) (v := .slice ao n c) (fun _ => by kernel_rfl) ?_
        refine k_pure (by kernel_rfl) (d := (some 13)) (by kernel_rfl) (v := .int .i64 ((n : Nat) : Int)) (fun _ => by kernel_rfl) ?_
        refine k_pure (by kernel_rfl) (d := (some 14)) (by kernel_rfl) (v := .int .i64 ((m : Nat) : Int)) (fun _ => by kernel_rfl) ?_
        refine k_pure (by kernel_rfl) (d := (some 15)) (by kernel_rfl) (v := .int .i64 4096) (fun _ => run_binOpV (op := .sub) (x := .const (.int .i64 4096)) (y := .tmp 14) (t := 3) (t' := 3) (u := .int .i64 4096) (v := .int .i64 ((m : Nat) : Int)) (by kernel_rfl) (by kernel_rfl) (by kernel_rfl) rfl (subI (by rw [HM0.out]; rfl) (by decide))) ?_
        refine k_pure (by kernel_rfl) (d := (some 16)) (by kernel_rfl) (v := .bool true) (fun _ => run_binOpV (op := .gtr) (x := .tmp 13) (y := .tmp 15) (t := 3) (t' := 3) (u := .int .i64 ((n : Nat) : Int)) (v := .int .i64 4096) (by kernel_rfl) (by kernel_rfl) (by kernel_rfl) rfl (gtrT (by omega))) ?_
        refine k_end ?_
        go_simp
        go_upto_region 6 with (fail)
        refine wp_seq_atS (opsAt Tryd.f4 6) ((true, 0) :: []) (fun _ => True) (by kernel_rfl) (by kernel_rfl) trivial ?_
        refine k_pure (by kernel_rfl) (d := (some 2)) (by kernel_rfl) (v := .bool false) (fun _ => by kernel_rfl) ?_
        refine k_end ?_
        go_simp
        have HF := Lib.hid (HRR.below bs0)
        clear HRR
        have HN := Lib.hid (decide_eq_false hn); clear hn
        go_wp2_with fail
        exact bodyPost_ret_by (by kernel_rfl) (by kernel_rfl) ⟨by rw [HN.out], HF.out⟩
    · have htI : ¬ (t : Int) < 1 := by omega
      have HN := Lib.hid (decide_eq_true (hn1.out (by omega)))
      have HF := Lib.hid (HRR.below bs0)
      clear HRR
      go_wp2_with fail
      exact bodyPost_ret_by (by kernel_rfl) (by kernel_rfl) ⟨by rw [HN.out], HF.out⟩

set_option maxRecDepth 100000 in
set_option maxHeartbeats 1000000 in
theorem fnSum_c {w : World} {kI sI bI : Int} {v : Value} {l : List Int} (hp : Rd w .u8 v l) (hK : Bl w 0 (wv kc)) :
    Calls Tryd.prog 3 #[.agg #[.int .i64 kI, .int .i64 sI, .int .i64 bI], v] w fun e w' => e = .returned (.bool true) ∧ Below w.heap.size w w' := by
  obtain ⟨ao, c, rfl, hc0, hno, hcell⟩ := id hp
  obtain ⟨n, hn⟩ : ∃ n, l.length = n := ⟨_, rfl⟩
  rw [hn] at hp ⊢
  obtain ⟨hh, hhh⟩ : ∃ hh, hashO kI sI bI l = hh := ⟨_, rfl⟩
  have HP := Lib.hid hp; have HL := Lib.hid hn; have HK := Lib.hid hK; have HH := Lib.hid hhh; have hkl := hK.lt
  clear hp hn hK hhh hc0 hno hcell
  go_enter Tryd.func3, Tryd.ntmps3
  go_upto_region 1 with (fail)
  refine wp_gen (fun WW => Mm w [(w.heap.size, hsL kI sI bI)] WW) ((Mm.zero w).new (L := hsL kI sI bI) rfl (by kernel_rfl)) ?_
  intro W0 H0
  have HRR := H0
  clear H0
  by_cases hbig : 2147483647 < n
  · skip
    refine wp_seq_atS (opsAt Tryd.f3 1) ((true, 0) :: (true, 1) :: (true, 2) :: []) (fun _ => True) (by kernel_rfl) (by kernel_rfl) trivial ?_
    refine k_pure (by kernel_rfl) (d := (some 5)) (by kernel_rfl) (v := .slice ao n c) (fun _ => by kernel_rfl) ?_
    refine k_pure (by kernel_rfl) (d := (some 6)) (by kernel_rfl) (v := .int .i64 ((n : Nat) : Int)) (fun _ => by kernel_rfl) ?_
    refine k_pure (by kernel_rfl) (d := (some 7)) (by kernel_rfl) (v := .bool true) (fun _ => run_binOpV (op := .gtr) (x := .tmp 6) (y := .const (.int .i64 2147483647)) (t := 3) (t' := 3) (u := .int .i64 ((n : Nat) : Int)) (v := .int .i64 2147483647) (by kernel_rfl) (by kernel_rfl) (by kernel_rfl) rfl (gtrT (by omega))) ?_
    refine k_end ?_
    go_simp
    go_upto_region 2 with (fail)
    refine wp_seq_atS (opsAt Tryd.f3 2) ((true, 0) :: []) (fun _ => True) (by kernel_rfl) (by kernel_rfl) trivial ?_
    refine k_pure (by kernel_rfl) (d := (some 4)) (by kernel_rfl) (v := .bool true) (fun _ => by kernel_rfl) ?_
    refine k_end ?_
    go_simp
    have HF := Lib.hid (HRR.below (bsC (Nat.le_refl _) bs0))
    clear HRR
    go_wp2_with fail
    exact bodyPost_ret_by (by kernel_rfl) (by kernel_rfl) ⟨rfl, HF.out⟩
  · have hb2 : n ≤ 2147483647 := by omega
    clear hbig
    refine wp_seq_atS (opsAt Tryd.f3 1) ((true, 0) :: (true, 1) :: (true, 2) :: []) (fun _ => True) (by kernel_rfl) (by kernel_rfl) trivial ?_
    refine k_pure (by kernel_rfl) (d := (some 5)) (by kernel_rfl) (v := .slice ao n c) (fun _ => by kernel_rfl) ?_
    refine k_pure (by kernel_rfl) (d := (some 6)) (by kernel_rfl) (v := .int .i64 ((n : Nat) : Int)) (fun _ => by kernel_rfl) ?_
    refine k_pure (by kernel_rfl) (d := (some 7)) (by kernel_rfl) (v := .bool false) (fun _ => run_binOpV (op := .gtr) (x := .tmp 6) (y := .const (.int .i64 2147483647)) (t := 3) (t' := 3) (u := .int .i64 ((n : Nat) : Int)) (v := .int .i64 2147483647) (by kernel_rfl) (by kernel_rfl) (by kernel_rfl) rfl (gtrF (by omega))) ?_
    refine k_end ?_
    go_simp
    go_upto_region 3 with (fail)
    by_cases hsm : n ≤ 4096
    · have HSM := Lib.hid (decide_eq_true hsm)
      refine wp_tree_at (opsAt Tryd.f3 3) (.take 0 (.fork 1 (.fork 2 (.take 3 (.take 4 (.take 5 (.take 6 (.take 9 (.take 10 (.fork 7 (.fork 8 (.fork 11 (.fork 12 (.take 13 (.take 14 (.take 15 .done))) .nil) .nil) (.fork 11 (.fork 8 (.fork 12 (.take 13 (.take 14 (.take 15 .done))) .nil) (.fork 12 (.fork 8 (.take 13 (.take 14 (.take 15 .done))) .nil) .nil)) .nil)) .nil))))))) .nil) .nil)) (fun W => Mm w [(w.heap.size, hsL kI sI bI)] W) (by kernel_rfl) rfl (by kernel_rfl) (fun _ _ d _ _ h => by cases d <;> exact h) (by kernel_rfl) (by kernel_rfl) HRR.drew ?_
      have H4d := HRR.drew
      clear HRR
      refine t_pure (by kernel_rfl) (d := (some 8)) (by kernel_rfl) (v := .slice ao n c) (fun _ => by kernel_rfl) ?_
      obtain ⟨nb, hnb⟩ : ∃ nb, W0.drew.heap.size = nb := ⟨_, rfl⟩
      have H6 : Mm w [(w.heap.size, hsL kI sI bI)] (W0.drew.alloc (.cells #[.slice ao n c] 24)) := H4d.allocM
      have HBB : Bl (W0.drew.alloc (.cells #[.slice ao n c] 24)) nb [.slice ao n c] := Bl.new hnb.symm rfl
      refine t_make (by kernel_rfl) (d := (some 9)) (by kernel_rfl) (v := .slice (some ⟨nb, 0, none⟩) 1 1) (w' := (W0.drew.alloc (.cells #[.slice ao n c] 24))) (by rw [← hnb]; kernel_rfl) H6 ?_ ?_
      · skip
        intro w6 hw6 _
        rw [← hw6] at H6 HBB
        clear hw6 hnb H4d
        refine t_callR (by kernel_rfl) (d := (some 10)) (by kernel_rfl) (f := 4) (args := #[.slice (some ⟨nb, 0, none⟩) 1 1]) (fun _ => by kernel_rfl) (few_c hb2 HBB) (fun _ w7 ⟨he7, hb7⟩ => ⟨.bool true, (by rw [he7, HSM.out]), H6.go hb7, ?_⟩) ?_
        · skip
          have H7 := H6.go hb7
          clear hb7 he7 H6
          refine t_pure (by kernel_rfl) (d := (some 11)) (by kernel_rfl) (v := .bool false) (fun _ => by kernel_rfl) ?_
          refine t_pure (by kernel_rfl) (d := (some 12)) (by kernel_rfl) (v := .bool false) (fun _ => by kernel_rfl) ?_
          refine t_ifR (by kernel_rfl) (d := (some 13)) (by kernel_rfl) (v := .agg (hsL kI sI bI).toArray) (fun _ hs => run_loadRowB (hs.at 0 rfl) (ty := 23) (x := (.tmp 2)) (by kernel_rfl) (by kernel_rfl) Tryd.underlying23 rfl (by kernel_rfl)) ?_
          refine t_pure (by kernel_rfl) (d := (some 14)) (by kernel_rfl) (v := .slice ao n c) (fun _ => by kernel_rfl) ?_
          refine t_ifR (by kernel_rfl) (d := (some 17)) (by kernel_rfl) (v := .agg (hsL kI sI bI).toArray) (fun _ hs => run_loadRowB (hs.at 0 rfl) (ty := 23) (x := (.tmp 2)) (by kernel_rfl) (by kernel_rfl) Tryd.underlying23 rfl (by kernel_rfl)) ?_
          refine t_pure (by kernel_rfl) (d := (some 18)) (by kernel_rfl) (v := .slice ao n c) (fun _ => by kernel_rfl) ?_
          refine t_callR (by kernel_rfl) (d := (some 15)) (by kernel_rfl) (f := 5) (args := #[.agg (hsL kI sI bI).toArray, .slice ao n c]) (fun _ => by kernel_rfl) (implSum_c (HP.out.fresh H7 (bsC (Nat.le_refl _) bs0)) (by rw [HL.out]; exact hsm) (HK.out.out H7 (bsC (by show w.heap.size ≠ 0; omega) bs0))) (fun _ w14 ⟨v14, he14, hr14, hb14⟩ => ⟨_, he14, H7.go hb14, ?_⟩) ?_
          · skip
            have H14 := H7.go hb14
            rw [HH.out] at hr14
            clear hb14 he14 H7
            refine t_make (by kernel_rfl) (d := (some 16)) (by kernel_rfl) (v := .string (strOfNums hh)) (run_cvOp (x := (.tmp 15)) (s := 24) (d := 9) (by kernel_rfl) (by kernel_rfl) (Rd.str hr14 Tryd.underlying24 Tryd.underlying5 Tryd.underlying9)) H14 ?_ ?_
            · skip
              intro w15 hw15 _
              replace hw15 := hw15.symm
              subst hw15
              refine t_callR (by kernel_rfl) (d := (some 19)) (by kernel_rfl) (f := 6) (args := #[.agg (hsL kI sI bI).toArray, .slice ao n c]) (fun _ => by kernel_rfl) (hash_c (HP.out.fresh H14 (bsC (Nat.le_refl _) bs0)) (by rw [HL.out]; exact hsm)) (fun _ w16 ⟨v16, he16, hr16, hb16⟩ => ⟨_, he16, H14.go hb16, ?_⟩) ?_
              · skip
                have H16 := H14.go hb16
                have hr14_16 := hr14.nb hb16
                rw [HH.out] at hr16
                clear hb16 he16 H14
                refine t_make (by kernel_rfl) (d := (some 20)) (by kernel_rfl) (v := .string (strOfNums hh)) (run_cvOp (x := (.tmp 19)) (s := 24) (d := 9) (by kernel_rfl) (by kernel_rfl) (Rd.str hr16 Tryd.underlying24 Tryd.underlying5 Tryd.underlying9)) H16 ?_ ?_
                · skip
                  intro w17 hw17 _
                  replace hw17 := hw17.symm
                  subst hw17
                  refine t_pure (by kernel_rfl) (d := (some 21)) (by kernel_rfl) (v := .bool true) (fun _ => run_binOpV (op := .eql) (x := .tmp 16) (y := .tmp 20) (t := 9) (t' := 9) (u := .string (strOfNums hh)) (v := .string (strOfNums hh)) (by kernel_rfl) (by kernel_rfl) (by kernel_rfl) rfl eqlS) ?_
                  refine t_pure (by kernel_rfl) (d := (some 22)) (by kernel_rfl) (v := .bool true) (fun _ => by kernel_rfl) ?_
                  refine t_pure (by kernel_rfl) (d := (some 4)) (by kernel_rfl) (v := .bool true) (fun _ => by kernel_rfl) ?_
                  refine t_done ?_
                  go_simp
                  have HF := Lib.hid (H16.below (bsC (Nat.le_refl _) bs0))
                  clear H16
                  go_wp2_with fail
                  exact bodyPost_ret_by (by kernel_rfl) (by kernel_rfl) ⟨rfl, HF.out⟩
                exact t_nil
              exact t_nil
            refine t_callR (by kernel_rfl) (d := (some 19)) (by kernel_rfl) (f := 6) (args := #[.agg (hsL kI sI bI).toArray, .slice ao n c]) (fun _ => by kernel_rfl) (hash_c (HP.out.fresh H14 (bsC (Nat.le_refl _) bs0)) (by rw [HL.out]; exact hsm)) (fun _ w21 ⟨v21, he21, hr21, hb21⟩ => ⟨_, he21, H14.go hb21, ?_⟩) ?_
            · skip
              have H21 := H14.go hb21
              have hr14_21 := hr14.nb hb21
              rw [HH.out] at hr21
              clear hb21 he21 H14
              refine t_make (by kernel_rfl) (d := (some 16)) (by kernel_rfl) (v := .string (strOfNums hh)) (run_cvOp (x := (.tmp 15)) (s := 24) (d := 9) (by kernel_rfl) (by kernel_rfl) (Rd.str hr14_21 Tryd.underlying24 Tryd.underlying5 Tryd.underlying9)) H21 ?_ ?_
              · skip
                intro w22 hw22 _
                replace hw22 := hw22.symm
                subst hw22
                refine t_make (by kernel_rfl) (d := (some 20)) (by kernel_rfl) (v := .string (strOfNums hh)) (run_cvOp (x := (.tmp 19)) (s := 24) (d := 9) (by kernel_rfl) (by kernel_rfl) (Rd.str hr21 Tryd.underlying24 Tryd.underlying5 Tryd.underlying9)) H21 ?_ ?_
                · skip
                  intro w23 hw23 _
                  replace hw23 := hw23.symm
                  subst hw23
                  refine t_pure (by kernel_rfl) (d := (some 21)) (by kernel_rfl) (v := .bool true) (fun _ => run_binOpV (op := .eql) (x := .tmp 16) (y := .tmp 20) (t := 9) (t' := 9) (u := .string (strOfNums hh)) (v := .string (strOfNums hh)) (by kernel_rfl) (by kernel_rfl) (by kernel_rfl) rfl eqlS) ?_
                  refine t_pure (by kernel_rfl) (d := (some 22)) (by kernel_rfl) (v := .bool true) (fun _ => by kernel_rfl) ?_
                  refine t_pure (by kernel_rfl) (d := (some 4)) (by kernel_rfl) (v := .bool true) (fun _ => by kernel_rfl) ?_
                  refine t_done ?_
                  go_simp
                  have HF := Lib.hid (H21.below (bsC (Nat.le_refl _) bs0))
                  clear H21
                  go_wp2_with fail
                  exact bodyPost_ret_by (by kernel_rfl) (by kernel_rfl) ⟨rfl, HF.out⟩
                exact t_nil
              refine t_make (by kernel_rfl) (d := (some 20)) (by kernel_rfl) (v := .string (strOfNums hh)) (run_cvOp (x := (.tmp 19)) (s := 24) (d := 9) (by kernel_rfl) (by kernel_rfl) (Rd.str hr21 Tryd.underlying24 Tryd.underlying5 Tryd.underlying9)) H21 ?_ ?_
              · skip
                intro w27 hw27 _
                replace hw27 := hw27.symm
                subst hw27
                refine t_make (by kernel_rfl) (d := (some 16)) (by kernel_rfl) (v := .string (strOfNums hh)) (run_cvOp (x := (.tmp 15)) (s := 24) (d := 9) (by kernel_rfl) (by kernel_rfl) (Rd.str hr14_21 Tryd.underlying24 Tryd.underlying5 Tryd.underlying9)) H21 ?_ ?_
                · skip
                  intro w28 hw28 _
                  replace hw28 := hw28.symm
                  subst hw28
                  refine t_pure (by kernel_rfl) (d := (some 21)) (by kernel_rfl) (v := .bool true) (fun _ => run_binOpV (op := .eql) (x := .tmp 16) (y := .tmp 20) (t := 9) (t' := 9) (u := .string (strOfNums hh)) (v := .string (strOfNums hh)) (by kernel_rfl) (by kernel_rfl) (by kernel_rfl) rfl eqlS) ?_
                  refine t_pure (by kernel_rfl) (d := (some 22)) (by kernel_rfl) (v := .bool true) (fun _ => by kernel_rfl) ?_
                  refine t_pure (by kernel_rfl) (d := (some 4)) (by kernel_rfl) (v := .bool true) (fun _ => by kernel_rfl) ?_
                  refine t_done ?_
                  go_simp
                  have HF := Lib.hid (H21.below (bsC (Nat.le_refl _) bs0))
                  clear H21
                  go_wp2_with fail
                  exact bodyPost_ret_by (by kernel_rfl) (by kernel_rfl) ⟨rfl, HF.out⟩
                exact t_nil
              exact t_nil
            exact t_nil
          exact t_nil
        exact t_nil
      exact t_nil
    · have HSM := Lib.hid (decide_eq_false hsm)
      clear hsm
      refine wp_tree_at (opsAt Tryd.f3 3) (.take 0 (.fork 1 (.fork 2 (.take 3 (.take 4 (.take 5 (.take 6 (.take 9 (.take 10 (.fork 7 (.fork 8 (.fork 11 (.fork 12 (.take 13 (.take 14 (.take 15 .done))) .nil) .nil) (.fork 11 (.fork 8 (.fork 12 (.take 13 (.take 14 (.take 15 .done))) .nil) (.fork 12 (.fork 8 (.take 13 (.take 14 (.take 15 .done))) .nil) .nil)) .nil)) .nil))))))) .nil) .nil)) (fun W => Mm w [(w.heap.size, hsL kI sI bI)] W) (by kernel_rfl) rfl (by kernel_rfl) (fun _ _ d _ _ h => by cases d <;> exact h) (by kernel_rfl) (by kernel_rfl) HRR.drew ?_
      have H32d := HRR.drew
      clear HRR
      refine t_pure (by kernel_rfl) (d := (some 8)) (by kernel_rfl) (v := .slice ao n c) (fun _ => by kernel_rfl) ?_
      obtain ⟨nb, hnb⟩ : ∃ nb, W0.drew.heap.size = nb := ⟨_, rfl⟩
      have H34 : Mm w [(w.heap.size, hsL kI sI bI)] (W0.drew.alloc (.cells #[.slice ao n c] 24)) := H32d.allocM
      have HBB : Bl (W0.drew.alloc (.cells #[.slice ao n c] 24)) nb [.slice ao n c] := Bl.new hnb.symm rfl
      refine t_make (by kernel_rfl) (d := (some 9)) (by kernel_rfl) (v := .slice (some ⟨nb, 0, none⟩) 1 1) (w' := (W0.drew.alloc (.cells #[.slice ao n c] 24))) (by rw [← hnb]; kernel_rfl) H34 ?_ ?_
      · skip
        intro w34 hw34 _
        rw [← hw34] at H34 HBB
        clear hw34 hnb H32d
        refine t_callR (by kernel_rfl) (d := (some 10)) (by kernel_rfl) (f := 4) (args := #[.slice (some ⟨nb, 0, none⟩) 1 1]) (fun _ => by kernel_rfl) (few_c hb2 HBB) (fun _ w35 ⟨he35, hb35⟩ => ⟨.bool false, (by rw [he35, HSM.out]), H34.go hb35, ?_⟩) ?_
        · skip
          have H35 := H34.go hb35
          clear hb35 he35 H34
          refine t_pure (by kernel_rfl) (d := (some 11)) (by kernel_rfl) (v := .bool true) (fun _ => by kernel_rfl) ?_
          refine t_pure (by kernel_rfl) (d := (some 12)) (by kernel_rfl) (v := .bool true) (fun _ => by kernel_rfl) ?_
          refine t_skip (by kernel_rfl) (d := (some 13)) (by kernel_rfl) ?_
          refine t_skip (by kernel_rfl) (d := (some 14)) (by kernel_rfl) ?_
          refine t_skip (by kernel_rfl) (d := (some 17)) (by kernel_rfl) ?_
          refine t_skip (by kernel_rfl) (d := (some 18)) (by kernel_rfl) ?_
          refine t_skipF H35 (by kernel_rfl) (d := (some 15)) (by kernel_rfl) ?_ ?_
          · skip
            refine t_skipF H35 (by kernel_rfl) (d := (some 16)) (by kernel_rfl) ?_ ?_
            · skip
              refine t_skipF H35 (by kernel_rfl) (d := (some 19)) (by kernel_rfl) ?_ ?_
              · skip
                refine t_skipF H35 (by kernel_rfl) (d := (some 20)) (by kernel_rfl) ?_ ?_
                · skip
                  refine t_skip (by kernel_rfl) (d := (some 21)) (by kernel_rfl) ?_
                  refine t_pure (by kernel_rfl) (d := (some 22)) (by kernel_rfl) (v := .bool true) (fun _ => by kernel_rfl) ?_
                  refine t_pure (by kernel_rfl) (d := (some 4)) (by kernel_rfl) (v := .bool true) (fun _ => by kernel_rfl) ?_
                  refine t_done ?_
                  go_simp
                  have HF := Lib.hid (H35.below (bsC (Nat.le_refl _) bs0))
                  clear H35
                  go_wp2_with fail
                  exact bodyPost_ret_by (by kernel_rfl) (by kernel_rfl) ⟨rfl, HF.out⟩
                exact t_nil
              exact t_nil
            refine t_skipF H35 (by kernel_rfl) (d := (some 19)) (by kernel_rfl) ?_ ?_
            · skip
              refine t_skipF H35 (by kernel_rfl) (d := (some 16)) (by kernel_rfl) ?_ ?_
              · skip
                refine t_skipF H35 (by kernel_rfl) (d := (some 20)) (by kernel_rfl) ?_ ?_
                · skip
                  refine t_skip (by kernel_rfl) (d := (some 21)) (by kernel_rfl) ?_
                  refine t_pure (by kernel_rfl) (d := (some 22)) (by kernel_rfl) (v := .bool true) (fun _ => by kernel_rfl) ?_
                  refine t_pure (by kernel_rfl) (d := (some 4)) (by kernel_rfl) (v := .bool true) (fun _ => by kernel_rfl) ?_
                  refine t_done ?_
                  go_simp
                  have HF := Lib.hid (H35.below (bsC (Nat.le_refl _) bs0))
                  clear H35
                  go_wp2_with fail
                  exact bodyPost_ret_by (by kernel_rfl) (by kernel_rfl) ⟨rfl, HF.out⟩
                exact t_nil
              refine t_skipF H35 (by kernel_rfl) (d := (some 20)) (by kernel_rfl) ?_ ?_
              · skip
                refine t_skipF H35 (by kernel_rfl) (d := (some 16)) (by kernel_rfl) ?_ ?_
                · skip
                  refine t_skip (by kernel_rfl) (d := (some 21)) (by kernel_rfl) ?_
                  refine t_pure (by kernel_rfl) (d := (some 22)) (by kernel_rfl) (v := .bool true) (fun _ => by kernel_rfl) ?_
                  refine t_pure (by kernel_rfl) (d := (some 4)) (by kernel_rfl) (v := .bool true) (fun _ => by kernel_rfl) ?_
                  refine t_done ?_
                  go_simp
                  have HF := Lib.hid (H35.below (bsC (Nat.le_refl _) bs0))
                  clear H35
                  go_wp2_with fail
                  exact bodyPost_ret_by (by kernel_rfl) (by kernel_rfl) ⟨rfl, HF.out⟩
                exact t_nil
              exact t_nil
            exact t_nil
          exact t_nil
        exact t_nil
      exact t_nil
end Go.Proofs.YtkmofjefjbhbhaaDoor
