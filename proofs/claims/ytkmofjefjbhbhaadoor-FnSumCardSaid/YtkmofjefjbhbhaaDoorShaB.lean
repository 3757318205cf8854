/- The reference takes a block in. No condition. -/
import Derived.Test.YtkmofjefjbhbhaaDoorTurn
namespace Go.Sl
open Go.RowKit Go.FourQ Go.Sha
theorem Mm.old {w wr : World} {s : List (Nat × List Value)} {a : Addr} {v : Value} (h : Mm w s wr) (hc : w.cell? a = some v) (hs : ∀ p ∈ s, w.heap.size ≤ p.1) : wr.cell? a = some v := by
  have hlt := World.block_lt_of_cell? w a hc
  rw [← hc]
  exact World.cell?_of_block (h.other _ hlt fun p hp e => by have := hs p hp; omega)
theorem wl_old {B : List Int} {t : Nat} (h : t < 64) : (wv (wl B t))[t]? = some (.int .u32 0) := by
  refine wv_get ?_
  unfold wl
  rw [List.getElem?_append_right (by rw [sched_length]; exact Nat.le_refl _), sched_length, Nat.sub_self, List.getElem?_replicate, if_pos (by omega)]
theorem wl_put_lo {B : List Int} {t : Nat} (h : t < 16) : (wv (wl B t)).set t (.int .u32 (word B t)) = wv (wl B (t + 1)) := by
  rw [wv_set, ← wd_lo B h, wl_set B (by omega)]
theorem wl_put_hi {B : List Int} {t : Nat} (h : 16 ≤ t) (h2 : t < 64) : (wv (wl B t)).set t (.int .u32 (wA (wA (wA (sg1 (wd B (t - 2))) (wd B (t - 7))) (sg0 (wd B (t - 15)))) (wd B (t - 16)))) = wv (wl B (t + 1)) := by
  rw [wv_set, ← wd_hi B h, wl_set B h2]
/-- The first i words are summed. -/
def mixL (s V : St) (i : Nat) : List Int := (sum8 s V).list.take i ++ s.list.drop i
theorem mix_get {s V : St} : ∀ {i : Nat}, i < 8 → (wv (mixL s V i))[i]? = some (.int .u32 (s.list.getD i 0))
  | 0, _ => rfl | 1, _ => rfl | 2, _ => rfl | 3, _ => rfl | 4, _ => rfl | 5, _ => rfl | 6, _ => rfl | 7, _ => rfl
  | i + 8, h => by omega
theorem mix_v {V : St} : ∀ {i : Nat}, i < 8 → (wv V.list)[i]? = some (.int .u32 (V.list.getD i 0))
  | 0, _ => rfl | 1, _ => rfl | 2, _ => rfl | 3, _ => rfl | 4, _ => rfl | 5, _ => rfl | 6, _ => rfl | 7, _ => rfl
  | i + 8, h => by omega
theorem mix_set {s V : St} : ∀ {i : Nat}, i < 8 → (wv (mixL s V i)).set i (.int .u32 (wA (s.list.getD i 0) (V.list.getD i 0))) = wv (mixL s V (i + 1))
  | 0, _ => rfl | 1, _ => rfl | 2, _ => rfl | 3, _ => rfl | 4, _ => rfl | 5, _ => rfl | 6, _ => rfl | 7, _ => rfl
  | i + 8, h => by omega
end Go.Sl
namespace Go.Proofs.YtkmofjefjbhbhaaDoor
open Go.RowKit Go.FourQ Go.Sha Go.Sl

set_option maxRecDepth 100000 in
set_option maxHeartbeats 1000000 in
theorem shaBlock_c {w : World} {s : St} {v : Value} {B : List Int} (hB : Rd w .u8 v B) (hl : B.length = 64) :
    Calls Tryd.prog 20 #[.agg (wv s.list).toArray, v] w fun e w' => e = .returned (.agg (wv (comp s B).list).toArray) ∧ Below w.heap.size w w' := by
  obtain ⟨ad, c, rfl, hc, hcell⟩ := hB.some' (by omega)
  clear hB
  have HC := Lib.hid hcell; have HL := Lib.hid hl
  rw [hl]
  clear hcell hl hc
  go_enter Tryd.func20, Tryd.ntmps20
  go_upto_region 1 with (fail)
  refine wp_gen (fun WW => Mm w [(w.heap.size, wv s.list), (w.heap.size + 1, wv (List.replicate 8 0))] WW) (((Mm.zero w).new (L := wv s.list) rfl (by kernel_rfl)).new (L := wv (List.replicate 8 0)) (by simp) (by kernel_rfl)) ?_
  intro W0 H0
  refine wp_seq_atS (opsAt Tryd.f20 1) ((true, 0) :: (false, 1) :: (false, 2) :: []) (fun _ => True) (by kernel_rfl) (by kernel_rfl) trivial ?_
  refine k_pure (by kernel_rfl) (d := (some 19)) (by kernel_rfl) (v := .agg (wv (List.replicate 64 0)).toArray) (fun _ => by kernel_rfl) ?_
  obtain ⟨n1, hn1⟩ : ∃ n, W0.heap.size = n := ⟨_, rfl⟩
  have H1 : Mm w [(w.heap.size, wv s.list), (w.heap.size + 1, wv (List.replicate 8 0)), (n1, wv (List.replicate 64 0))] (W0.alloc (.cells (wv (List.replicate 64 0)).toArray 56)) := H0.new hn1.symm rfl
  have hge1 : w.heap.size ≤ n1 := by rw [← hn1]; exact H0.size
  refine k_make (by kernel_rfl) (d := (some 5)) (by kernel_rfl) (v := .pointer (some ⟨n1, 0, none⟩)) (w' := W0.alloc (.cells (wv (List.replicate 64 0)).toArray 56)) (by rw [← hn1]; kernel_rfl) trivial ?_
  intro w1 hw1 _
  rw [← hw1] at H1
  clear hw1 hn1 H0
  obtain ⟨T2, hT2⟩ := H1.at 2 rfl
  have H2 : Mm w [(w.heap.size, wv s.list), (w.heap.size + 1, wv (List.replicate 8 0)), (n1, wv (wl B 0))] (w1.setRow n1 (wv (wl B 0)).toArray) := H1.row 2 rfl (wv (wl B 0))
  refine k_put (by kernel_rfl) (d := none) (by kernel_rfl) (ty := 56) (x := (.tmp 5)) (y := (.tmp 19)) (by kernel_rfl) (g := n1) (cells := (wv (wl B 0)).toArray) (by kernel_rfl) (by kernel_rfl) hT2 (by kernel_rfl) (by kernel_rfl) (wv_all _) trivial ?_
  intro w2 hw2 _
  rw [← hw2] at H2
  clear hw2 hT2 H1
  refine k_end ?_
  go_simp
  have J20 := Lib.hid H2
  clear H2
  go_wp2_with fail
  go_loopw [20] (fun iv wr => ∃ t : Nat, 0 ≤ t ∧ t ≤ 16 ∧ iv = .int .i64 t ∧ Hid (Mm w [(w.heap.size, wv s.list), (w.heap.size + 1, wv (List.replicate 8 0)), (n1, wv (wl B t))] wr)) (fun i _ => 16 - (intOf i).toNat)
  case atStart => exact ⟨0, by decide, by decide, rfl, Lib.hid J20.out⟩
  case round =>
    clear J20
    obtain ⟨t, ht0, ht1, rfl, hJ⟩ := hrel
    by_cases ht : t < 16
    · have htI : (t : Int) < 16 := by omega
      have H90 := hJ.out
      clear hJ
      go_upto_region 5 with (fail)
      refine wp_region_atS (opsAt Tryd.f20 5) ((true, 0) :: (true, 1) :: (true, 2) :: (true, 3) :: (true, 4) :: (true, 5) :: (true, 6) :: (true, 7) :: (true, 8) :: (true, 9) :: (true, 10) :: (true, 11) :: (true, 12) :: (true, 13) :: (true, 14) :: (true, 15) :: (true, 16) :: (true, 17) :: (true, 18) :: (true, 19) :: (true, 20) :: (true, 21) :: (true, 22) :: (true, 23) :: (true, 24) :: (true, 25) :: (true, 26) :: (true, 27) :: (true, 28) :: (true, 29) :: (true, 30) :: (true, 31) :: (true, 32) :: (true, 33) :: (true, 34) :: (false, 35) :: []) (fun W => Mm w [(w.heap.size, wv s.list), (w.heap.size + 1, wv (List.replicate 8 0)), (n1, wv (wl B t))] W ∨ Mm w [(w.heap.size, wv s.list), (w.heap.size + 1, wv (List.replicate 8 0)), (n1, wv (wl B (t + 1)))] W) (by kernel_rfl) rfl (by kernel_rfl) (fun _ _ d _ _ h => by cases d <;> exact h) (by kernel_rfl) (by kernel_rfl) (Or.inl H90.drew) ?_
      have H3d := H90.drew
      clear H90
      refine k_pure (by kernel_rfl) (d := (some 23)) (by kernel_rfl) (v := .int .i64 ((t : Nat) : Int)) (fun _ => by kernel_rfl) ?_
      refine k_pure (by kernel_rfl) (d := (some 24)) (by kernel_rfl) (v := .slice (some ad) 64 c) (fun _ => by kernel_rfl) ?_
      refine k_pure (by kernel_rfl) (d := (some 25)) (by kernel_rfl) (v := .int .i64 ((t : Nat) : Int)) (fun _ => by kernel_rfl) ?_
      refine k_pure (by kernel_rfl) (d := (some 26)) (by kernel_rfl) (v := .int .i64 ((4 * t : Nat) : Int)) (fun _ => run_binOpV (op := .mul) (x := (.const (.int .i64 4))) (y := (.tmp 25)) (t := 3) (t' := 3) (u := .int .i64 4) (v := .int .i64 ((t : Nat) : Int)) (by kernel_rfl) (by kernel_rfl) (by kernel_rfl) rfl (mulI (by omega) (by omega))) ?_
      refine k_pure (by kernel_rfl) (d := (some 27)) (by kernel_rfl) (v := .pointer (some (ad.add (4 * t)))) (fun _ => run_indexSl (t := 24) (x := (.tmp 24)) (y := (.tmp 26)) (a := ad) (n := 64) (c := c) (i := 4 * t) (z := ((4 * t : Nat) : Int)) (by kernel_rfl) (by kernel_rfl) (by kernel_rfl) rfl Tryd.underlying24 (by kernel_rfl) (by omega)) ?_
      refine k_ifR (by kernel_rfl) (d := (some 28)) (by kernel_rfl) (v := .int .u8 (B.getD (4 * t) 0)) (fun _ hs => run_loadA (ty := 5) (x := (.tmp 27)) (a := ad.add (4 * t)) (by kernel_rfl) (by kernel_rfl) Tryd.underlying5 rfl (hs.elim (fun h => h.old (HC.out _ _ (getD_of (by have := HL.out; omega))) (bsC (by omega) (bsC (by omega) (bsC (by omega) bs0)))) (fun h => h.old (HC.out _ _ (getD_of (by have := HL.out; omega))) (bsC (by omega) (bsC (by omega) (bsC (by omega) bs0)))))) ?_
      refine k_pure (by kernel_rfl) (d := (some 29)) (by kernel_rfl) (v := .int .u32 (w8 (B.getD (4 * t) 0))) (fun _ => run_convOpE (x := (.tmp 28)) (s := 5) (d := 40) (u := .int .u8 (B.getD (4 * t) 0)) (v := .int .u32 (IntKind.u32.wrap (B.getD (4 * t) 0))) (by kernel_rfl) (by kernel_rfl) (by kernel_rfl) rfl) ?_
      refine k_pure (by kernel_rfl) (d := (some 30)) (by kernel_rfl) (v := .int .u32 (wL (w8 (B.getD (4 * t) 0)) 24)) (fun _ => run_binOpV (op := .shl) (x := (.tmp 29)) (y := (.const (.int .u64 24))) (t := 40) (t' := 52) (u := .int .u32 (w8 (B.getD (4 * t) 0))) (v := .int .u64 24) (by kernel_rfl) (by kernel_rfl) (by kernel_rfl) rfl (shlU (n := 24) (by first | rfl | omega) (by first | decide | (show _ ≤ 32; omega)))) ?_
      refine k_pure (by kernel_rfl) (d := (some 31)) (by kernel_rfl) (v := .slice (some ad) 64 c) (fun _ => by kernel_rfl) ?_
      refine k_pure (by kernel_rfl) (d := (some 32)) (by kernel_rfl) (v := .int .i64 ((t : Nat) : Int)) (fun _ => by kernel_rfl) ?_
      refine k_pure (by kernel_rfl) (d := (some 33)) (by kernel_rfl) (v := .int .i64 ((4 * t : Nat) : Int)) (fun _ => run_binOpV (op := .mul) (x := (.const (.int .i64 4))) (y := (.tmp 32)) (t := 3) (t' := 3) (u := .int .i64 4) (v := .int .i64 ((t : Nat) : Int)) (by kernel_rfl) (by kernel_rfl) (by kernel_rfl) rfl (mulI (by omega) (by omega))) ?_
      refine k_pure (by kernel_rfl) (d := (some 34)) (by kernel_rfl) (v := .int .i64 (((4 * t + 1) : Nat) : Int)) (fun _ => run_binOpV (op := .add) (x := (.tmp 33)) (y := (.const (.int .i64 1))) (t := 3) (t' := 3) (u := .int .i64 ((4 * t : Nat) : Int)) (v := .int .i64 1) (by kernel_rfl) (by kernel_rfl) (by kernel_rfl) rfl (addI (by omega) (by omega))) ?_
      refine k_pure (by kernel_rfl) (d := (some 35)) (by kernel_rfl) (v := .pointer (some (ad.add ((4 * t + 1))))) (fun _ => run_indexSl (t := 24) (x := (.tmp 31)) (y := (.tmp 34)) (a := ad) (n := 64) (c := c) (i := (4 * t + 1)) (z := (((4 * t + 1) : Nat) : Int)) (by kernel_rfl) (by kernel_rfl) (by kernel_rfl) rfl Tryd.underlying24 (by kernel_rfl) (by omega)) ?_
      refine k_ifR (by kernel_rfl) (d := (some 36)) (by kernel_rfl) (v := .int .u8 (B.getD (4 * t + 1) 0)) (fun _ hs => run_loadA (ty := 5) (x := (.tmp 35)) (a := ad.add ((4 * t + 1))) (by kernel_rfl) (by kernel_rfl) Tryd.underlying5 rfl (hs.elim (fun h => h.old (HC.out _ _ (getD_of (by have := HL.out; omega))) (bsC (by omega) (bsC (by omega) (bsC (by omega) bs0)))) (fun h => h.old (HC.out _ _ (getD_of (by have := HL.out; omega))) (bsC (by omega) (bsC (by omega) (bsC (by omega) bs0)))))) ?_
      refine k_pure (by kernel_rfl) (d := (some 37)) (by kernel_rfl) (v := .int .u32 (w8 (B.getD (4 * t + 1) 0))) (fun _ => run_convOpE (x := (.tmp 36)) (s := 5) (d := 40) (u := .int .u8 (B.getD (4 * t + 1) 0)) (v := .int .u32 (IntKind.u32.wrap (B.getD (4 * t + 1) 0))) (by kernel_rfl) (by kernel_rfl) (by kernel_rfl) rfl) ?_
      refine k_pure (by kernel_rfl) (d := (some 38)) (by kernel_rfl) (v := .int .u32 (wL (w8 (B.getD (4 * t + 1) 0)) 16)) (fun _ => run_binOpV (op := .shl) (x := (.tmp 37)) (y := (.const (.int .u64 16))) (t := 40) (t' := 52) (u := .int .u32 (w8 (B.getD (4 * t + 1) 0))) (v := .int .u64 16) (by kernel_rfl) (by kernel_rfl) (by kernel_rfl) rfl (shlU (n := 16) (by first | rfl | omega) (by first | decide | (show _ ≤ 32; omega)))) ?_
      refine k_pure (by kernel_rfl) (d := (some 39)) (by kernel_rfl) (v := .int .u32 (wO (wL (w8 (B.getD (4 * t) 0)) 24) (wL (w8 (B.getD (4 * t + 1) 0)) 16))) (fun _ => by kernel_rfl) ?_
      refine k_pure (by kernel_rfl) (d := (some 40)) (by kernel_rfl) (v := .slice (some ad) 64 c) (fun _ => by kernel_rfl) ?_
      refine k_pure (by kernel_rfl) (d := (some 41)) (by kernel_rfl) (v := .int .i64 ((t : Nat) : Int)) (fun _ => by kernel_rfl) ?_
      refine k_pure (by kernel_rfl) (d := (some 42)) (by kernel_rfl) (v := .int .i64 ((4 * t : Nat) : Int)) (fun _ => run_binOpV (op := .mul) (x := (.const (.int .i64 4))) (y := (.tmp 41)) (t := 3) (t' := 3) (u := .int .i64 4) (v := .int .i64 ((t : Nat) : Int)) (by kernel_rfl) (by kernel_rfl) (by kernel_rfl) rfl (mulI (by omega) (by omega))) ?_
      refine k_pure (by kernel_rfl) (d := (some 43)) (by kernel_rfl) (v := .int .i64 (((4 * t + 2) : Nat) : Int)) (fun _ => run_binOpV (op := .add) (x := (.tmp 42)) (y := (.const (.int .i64 2))) (t := 3) (t' := 3) (u := .int .i64 ((4 * t : Nat) : Int)) (v := .int .i64 2) (by kernel_rfl) (by kernel_rfl) (by kernel_rfl) rfl (addI (by omega) (by omega))) ?_
      refine k_pure (by kernel_rfl) (d := (some 44)) (by kernel_rfl) (v := .pointer (some (ad.add ((4 * t + 2))))) (fun _ => run_indexSl (t := 24) (x := (.tmp 40)) (y := (.tmp 43)) (a := ad) (n := 64) (c := c) (i := (4 * t + 2)) (z := (((4 * t + 2) : Nat) : Int)) (by kernel_rfl) (by kernel_rfl) (by kernel_rfl) rfl Tryd.underlying24 (by kernel_rfl) (by omega)) ?_
      refine k_ifR (by kernel_rfl) (d := (some 45)) (by kernel_rfl) (v := .int .u8 (B.getD (4 * t + 2) 0)) (fun _ hs => run_loadA (ty := 5) (x := (.tmp 44)) (a := ad.add ((4 * t + 2))) (by kernel_rfl) (by kernel_rfl) Tryd.underlying5 rfl (hs.elim (fun h => h.old (HC.out _ _ (getD_of (by have := HL.out; omega))) (bsC (by omega) (bsC (by omega) (bsC (by omega) bs0)))) (fun h => h.old (HC.out _ _ (getD_of (by have := HL.out; omega))) (bsC (by omega) (bsC (by omega) (bsC (by omega) bs0)))))) ?_
      refine k_pure (by kernel_rfl) (d := (some 46)) (by kernel_rfl) (v := .int .u32 (w8 (B.getD (4 * t + 2) 0))) (fun _ => run_convOpE (x := (.tmp 45)) (s := 5) (d := 40) (u := .int .u8 (B.getD (4 * t + 2) 0)) (v := .int .u32 (IntKind.u32.wrap (B.getD (4 * t + 2) 0))) (by kernel_rfl) (by kernel_rfl) (by kernel_rfl) rfl) ?_
      refine k_pure (by kernel_rfl) (d := (some 47)) (by kernel_rfl) (v := .int .u32 (wL (w8 (B.getD (4 * t + 2) 0)) 8)) (fun _ => run_binOpV (op := .shl) (x := (.tmp 46)) (y := (.const (.int .u64 8))) (t := 40) (t' := 52) (u := .int .u32 (w8 (B.getD (4 * t + 2) 0))) (v := .int .u64 8) (by kernel_rfl) (by kernel_rfl) (by kernel_rfl) rfl (shlU (n := 8) (by first | rfl | omega) (by first | decide | (show _ ≤ 32; omega)))) ?_
      refine k_pure (by kernel_rfl) (d := (some 48)) (by kernel_rfl) (v := .int .u32 (wO (wO (wL (w8 (B.getD (4 * t) 0)) 24) (wL (w8 (B.getD (4 * t + 1) 0)) 16)) (wL (w8 (B.getD (4 * t + 2) 0)) 8))) (fun _ => by kernel_rfl) ?_
      refine k_pure (by kernel_rfl) (d := (some 49)) (by kernel_rfl) (v := .slice (some ad) 64 c) (fun _ => by kernel_rfl) ?_
      refine k_pure (by kernel_rfl) (d := (some 50)) (by kernel_rfl) (v := .int .i64 ((t : Nat) : Int)) (fun _ => by kernel_rfl) ?_
      refine k_pure (by kernel_rfl) (d := (some 51)) (by kernel_rfl) (v := .int .i64 ((4 * t : Nat) : Int)) (fun _ => run_binOpV (op := .mul) (x := (.const (.int .i64 4))) (y := (.tmp 50)) (t := 3) (t' := 3) (u := .int .i64 4) (v := .int .i64 ((t : Nat) : Int)) (by kernel_rfl) (by kernel_rfl) (by kernel_rfl) rfl (mulI (by omega) (by omega))) ?_
      refine k_pure (by kernel_rfl) (d := (some 52)) (by kernel_rfl) (v := .int .i64 (((4 * t + 3) : Nat) : Int)) (fun _ => run_binOpV (op := .add) (x := (.tmp 51)) (y := (.const (.int .i64 3))) (t := 3) (t' := 3) (u := .int .i64 ((4 * t : Nat) : Int)) (v := .int .i64 3) (by kernel_rfl) (by kernel_rfl) (by kernel_rfl) rfl (addI (by omega) (by omega))) ?_
      refine k_pure (by kernel_rfl) (d := (some 53)) (by kernel_rfl) (v := .pointer (some (ad.add ((4 * t + 3))))) (fun _ => run_indexSl (t := 24) (x := (.tmp 49)) (y := (.tmp 52)) (a := ad) (n := 64) (c := c) (i := (4 * t + 3)) (z := (((4 * t + 3) : Nat) : Int)) (by kernel_rfl) (by kernel_rfl) (by kernel_rfl) rfl Tryd.underlying24 (by kernel_rfl) (by omega)) ?_
      refine k_ifR (by kernel_rfl) (d := (some 54)) (by kernel_rfl) (v := .int .u8 (B.getD (4 * t + 3) 0)) (fun _ hs => run_loadA (ty := 5) (x := (.tmp 53)) (a := ad.add ((4 * t + 3))) (by kernel_rfl) (by kernel_rfl) Tryd.underlying5 rfl (hs.elim (fun h => h.old (HC.out _ _ (getD_of (by have := HL.out; omega))) (bsC (by omega) (bsC (by omega) (bsC (by omega) bs0)))) (fun h => h.old (HC.out _ _ (getD_of (by have := HL.out; omega))) (bsC (by omega) (bsC (by omega) (bsC (by omega) bs0)))))) ?_
      refine k_pure (by kernel_rfl) (d := (some 55)) (by kernel_rfl) (v := .int .u32 (w8 (B.getD (4 * t + 3) 0))) (fun _ => run_convOpE (x := (.tmp 54)) (s := 5) (d := 40) (u := .int .u8 (B.getD (4 * t + 3) 0)) (v := .int .u32 (IntKind.u32.wrap (B.getD (4 * t + 3) 0))) (by kernel_rfl) (by kernel_rfl) (by kernel_rfl) rfl) ?_
      refine k_pure (by kernel_rfl) (d := (some 56)) (by kernel_rfl) (v := .int .u32 (wO (wO (wO (wL (w8 (B.getD (4 * t) 0)) 24) (wL (w8 (B.getD (4 * t + 1) 0)) 16)) (wL (w8 (B.getD (4 * t + 2) 0)) 8)) (w8 (B.getD (4 * t + 3) 0)))) (fun _ => by kernel_rfl) ?_
      refine k_pure (by kernel_rfl) (d := (some 57)) (by kernel_rfl) (v := .pointer (some ⟨n1, t, none⟩)) (fun _ => run_indexZ (t := 56) (x := (.tmp 5)) (y := (.tmp 23)) (b := n1) (off := 0) (off' := t) (i := t) (z := ((t : Nat) : Int)) (by kernel_rfl) (by kernel_rfl) (by kernel_rfl) rfl Tryd.underlying56 (by kernel_rfl) (by omega) (by omega)) ?_
      have H39 : Mm w [(w.heap.size, wv s.list), (w.heap.size + 1, wv (List.replicate 8 0)), (n1, wv (wl B (t + 1)))] (wr.drew.setCell ⟨n1, t, none⟩ (.int .u32 (wO (wO (wO (wL (w8 (B.getD (4 * t) 0)) 24) (wL (w8 (B.getD (4 * t + 1) 0)) 16)) (wL (w8 (B.getD (4 * t + 2) 0)) 8)) (w8 (B.getD (4 * t + 3) 0))))) := (by have h := H3d.put 2 rfl t (.int .u32 (wO (wO (wO (wL (w8 (B.getD (4 * t) 0)) 24) (wL (w8 (B.getD (4 * t + 1) 0)) 16)) (wL (w8 (B.getD (4 * t + 2) 0)) 8)) (w8 (B.getD (4 * t + 3) 0)))); rw [(show (wv (wl B t)).set t (.int .u32 (wO (wO (wO (wL (w8 (B.getD (4 * t) 0)) 24) (wL (w8 (B.getD (4 * t + 1) 0)) 16)) (wL (w8 (B.getD (4 * t + 2) 0)) 8)) (w8 (B.getD (4 * t + 3) 0)))) = wv (wl B (t + 1)) from wl_put_lo ht)] at h; exact h)
      refine k_skipOp (by kernel_rfl) (d := none) (by kernel_rfl) (run_storeA (ty := 40) (x := (.tmp 57)) (y := (.tmp 56)) (b := n1) (off := t) (v := .int .u32 (wO (wO (wO (wL (w8 (B.getD (4 * t) 0)) 24) (wL (w8 (B.getD (4 * t + 1) 0)) 16)) (wL (w8 (B.getD (4 * t + 2) 0)) 8)) (w8 (B.getD (4 * t + 3) 0)))) (by kernel_rfl) (by kernel_rfl) (by kernel_rfl) rfl rfl (by kernel_rfl) ((H3d.at 2 rfl).cell (wl_old (by omega))) (H3d.at 2 rfl).free) (Or.inr H39) ?_
      intro w39 hw39 _
      rw [← hw39] at H39
      clear hw39 H3d
      refine k_end ?_
      go_simp
      have HJ := Lib.hid (show Mm w [(w.heap.size, wv s.list), (w.heap.size + 1, wv (List.replicate 8 0)), (n1, wv (wl B (t + 1)))] w39 from H39)
      clear H39
      go_wp2_with fail
      exact ⟨⟨t + 1, by omega, by omega, by go_num, Lib.hid HJ.out⟩, by simp [intOf]; omega⟩
    · have htI : ¬ (t : Int) < 16 := by omega
      obtain rfl : t = 16 := by omega
      have H90 := hJ.out
      clear hJ
      have J7 := Lib.hid H90
      clear H90
      go_wp2_with fail
      go_loopw [7] (fun iv wr => ∃ t : Nat, 16 ≤ t ∧ t ≤ 64 ∧ iv = .int .i64 t ∧ Hid (Mm w [(w.heap.size, wv s.list), (w.heap.size + 1, wv (List.replicate 8 0)), (n1, wv (wl B t))] wr)) (fun i _ => 64 - (intOf i).toNat)
      case atStart => exact ⟨16, by decide, by decide, rfl, Lib.hid J7.out⟩
      case round =>
        clear J7
        obtain ⟨t, ht0, ht1, rfl, hJ⟩ := hrel
        by_cases ht : t < 64
        · have htI : (t : Int) < 64 := by omega
          have H90 := hJ.out
          clear hJ
          go_upto_region 10 with (fail)
          refine wp_region_atS (opsAt Tryd.f20 10) ((true, 0) :: (true, 1) :: (true, 2) :: (true, 3) :: (true, 5) :: (true, 6) :: (true, 7) :: (true, 8) :: (true, 11) :: (true, 12) :: (true, 13) :: (true, 14) :: (true, 15) :: (false, 4) :: (false, 9) :: (true, 10) :: (true, 16) :: (true, 17) :: []) (fun W => Mm w [(w.heap.size, wv s.list), (w.heap.size + 1, wv (List.replicate 8 0)), (n1, wv (wl B t))] W) (by kernel_rfl) rfl (by kernel_rfl) (fun _ _ d _ _ h => by cases d <;> exact h) (by kernel_rfl) (by kernel_rfl) (H90.drew) ?_
          have H40d := H90.drew
          clear H90
          refine k_pure (by kernel_rfl) (d := (some 63)) (by kernel_rfl) (v := .int .i64 ((t : Nat) : Int)) (fun _ => by kernel_rfl) ?_
          refine k_pure (by kernel_rfl) (d := (some 64)) (by kernel_rfl) (v := .int .i64 (((t - 15) : Nat) : Int)) (fun _ => run_binOpV (op := .sub) (x := (.tmp 63)) (y := (.const (.int .i64 15))) (t := 3) (t' := 3) (u := .int .i64 ((t : Nat) : Int)) (v := .int .i64 15) (by kernel_rfl) (by kernel_rfl) (by kernel_rfl) rfl (subI (by omega) (by omega))) ?_
          refine k_pure (by kernel_rfl) (d := (some 65)) (by kernel_rfl) (v := .pointer (some ⟨n1, (t - 15), none⟩)) (fun _ => run_indexZ (t := 56) (x := (.tmp 5)) (y := (.tmp 64)) (b := n1) (off := 0) (off' := (t - 15)) (i := (t - 15)) (z := (((t - 15) : Nat) : Int)) (by kernel_rfl) (by kernel_rfl) (by kernel_rfl) rfl Tryd.underlying56 (by kernel_rfl) (by omega) (by omega)) ?_
          refine k_ifR (by kernel_rfl) (d := (some 66)) (by kernel_rfl) (v := .int .u32 (wd B (t - 15))) (fun _ hs => run_loadA (ty := 40) (x := (.tmp 65)) (a := ⟨n1, (t - 15), none⟩) (by kernel_rfl) (by kernel_rfl) Tryd.underlying40 rfl ((hs.at 2 rfl).cell (wv_get (wl_get B (by omega))))) ?_
          refine k_pure (by kernel_rfl) (d := (some 68)) (by kernel_rfl) (v := .int .i64 ((t : Nat) : Int)) (fun _ => by kernel_rfl) ?_
          refine k_pure (by kernel_rfl) (d := (some 69)) (by kernel_rfl) (v := .int .i64 (((t - 15) : Nat) : Int)) (fun _ => run_binOpV (op := .sub) (x := (.tmp 68)) (y := (.const (.int .i64 15))) (t := 3) (t' := 3) (u := .int .i64 ((t : Nat) : Int)) (v := .int .i64 15) (by kernel_rfl) (by kernel_rfl) (by kernel_rfl) rfl (subI (by omega) (by omega))) ?_
          refine k_pure (by kernel_rfl) (d := (some 70)) (by kernel_rfl) (v := .pointer (some ⟨n1, (t - 15), none⟩)) (fun _ => run_indexZ (t := 56) (x := (.tmp 5)) (y := (.tmp 69)) (b := n1) (off := 0) (off' := (t - 15)) (i := (t - 15)) (z := (((t - 15) : Nat) : Int)) (by kernel_rfl) (by kernel_rfl) (by kernel_rfl) rfl Tryd.underlying56 (by kernel_rfl) (by omega) (by omega)) ?_
          refine k_ifR (by kernel_rfl) (d := (some 71)) (by kernel_rfl) (v := .int .u32 (wd B (t - 15))) (fun _ hs => run_loadA (ty := 40) (x := (.tmp 70)) (a := ⟨n1, (t - 15), none⟩) (by kernel_rfl) (by kernel_rfl) Tryd.underlying40 rfl ((hs.at 2 rfl).cell (wv_get (wl_get B (by omega))))) ?_
          refine k_pure (by kernel_rfl) (d := (some 74)) (by kernel_rfl) (v := .int .i64 ((t : Nat) : Int)) (fun _ => by kernel_rfl) ?_
          refine k_pure (by kernel_rfl) (d := (some 75)) (by kernel_rfl) (v := .int .i64 (((t - 15) : Nat) : Int)) (fun _ => run_binOpV (op := .sub) (x := (.tmp 74)) (y := (.const (.int .i64 15))) (t := 3) (t' := 3) (u := .int .i64 ((t : Nat) : Int)) (v := .int .i64 15) (by kernel_rfl) (by kernel_rfl) (by kernel_rfl) rfl (subI (by omega) (by omega))) ?_
          refine k_pure (by kernel_rfl) (d := (some 76)) (by kernel_rfl) (v := .pointer (some ⟨n1, (t - 15), none⟩)) (fun _ => run_indexZ (t := 56) (x := (.tmp 5)) (y := (.tmp 75)) (b := n1) (off := 0) (off' := (t - 15)) (i := (t - 15)) (z := (((t - 15) : Nat) : Int)) (by kernel_rfl) (by kernel_rfl) (by kernel_rfl) rfl Tryd.underlying56 (by kernel_rfl) (by omega) (by omega)) ?_
          refine k_ifR (by kernel_rfl) (d := (some 77)) (by kernel_rfl) (v := .int .u32 (wd B (t - 15))) (fun _ hs => run_loadA (ty := 40) (x := (.tmp 76)) (a := ⟨n1, (t - 15), none⟩) (by kernel_rfl) (by kernel_rfl) Tryd.underlying40 rfl ((hs.at 2 rfl).cell (wv_get (wl_get B (by omega))))) ?_
          refine k_pure (by kernel_rfl) (d := (some 78)) (by kernel_rfl) (v := .int .u32 (wR (wd B (t - 15)) 3)) (fun _ => run_binOpV (op := .shr) (x := (.tmp 77)) (y := (.const (.int .u64 3))) (t := 40) (t' := 52) (u := .int .u32 (wd B (t - 15))) (v := .int .u64 3) (by kernel_rfl) (by kernel_rfl) (by kernel_rfl) rfl (shrU (n := 3) (by first | rfl | omega) (by first | decide | (show _ ≤ 32; omega)))) ?_
          refine k_callR (by kernel_rfl) (d := (some 67)) (by kernel_rfl) (f := 24) (args := #[.int .u32 (wd B (t - 15)), .int .i64 7]) (fun _ => by kernel_rfl) (turned_c (x := (wd B (t - 15))) (n := 7) (by decide)) (fun _ w54 ⟨he54, hb54⟩ => ⟨_, he54, H40d.go hb54, ?_⟩)
          have H54 := H40d.go hb54
          clear H40d hb54 he54
          refine k_callR (by kernel_rfl) (d := (some 72)) (by kernel_rfl) (f := 24) (args := #[.int .u32 (wd B (t - 15)), .int .i64 18]) (fun _ => by kernel_rfl) (turned_c (x := (wd B (t - 15))) (n := 18) (by decide)) (fun _ w55 ⟨he55, hb55⟩ => ⟨_, he55, H54.go hb55, ?_⟩)
          have H55 := H54.go hb55
          clear H54 hb55 he55
          refine k_pure (by kernel_rfl) (d := (some 73)) (by kernel_rfl) (v := .int .u32 (wX (ror (wd B (t - 15)) 7) (ror (wd B (t - 15)) 18))) (fun _ => by kernel_rfl) ?_
          refine k_pure (by kernel_rfl) (d := (some 79)) (by kernel_rfl) (v := .int .u32 (wX (wX (ror (wd B (t - 15)) 7) (ror (wd B (t - 15)) 18)) (wR (wd B (t - 15)) 3))) (fun _ => by kernel_rfl) ?_
          refine k_pure (by kernel_rfl) (d := (some 8)) (by kernel_rfl) (v := .int .u32 (sg0 (wd B (t - 15)))) (fun _ => by kernel_rfl) ?_
          refine k_end ?_
          go_simp
          go_upto_region 11 with (fail)
          refine wp_region_atS (opsAt Tryd.f20 11) ((true, 0) :: (true, 1) :: (true, 2) :: (true, 3) :: (true, 5) :: (true, 6) :: (true, 7) :: (true, 8) :: (true, 11) :: (true, 12) :: (true, 13) :: (true, 14) :: (true, 15) :: (false, 4) :: (false, 9) :: (true, 10) :: (true, 16) :: (true, 17) :: []) (fun W => Mm w [(w.heap.size, wv s.list), (w.heap.size + 1, wv (List.replicate 8 0)), (n1, wv (wl B t))] W) (by kernel_rfl) rfl (by kernel_rfl) (fun _ _ d _ _ h => by cases d <;> exact h) (by kernel_rfl) (by kernel_rfl) (H55.drew) ?_
          have H58d := H55.drew
          clear H55
          refine k_pure (by kernel_rfl) (d := (some 80)) (by kernel_rfl) (v := .int .i64 ((t : Nat) : Int)) (fun _ => by kernel_rfl) ?_
          refine k_pure (by kernel_rfl) (d := (some 81)) (by kernel_rfl) (v := .int .i64 (((t - 2) : Nat) : Int)) (fun _ => run_binOpV (op := .sub) (x := (.tmp 80)) (y := (.const (.int .i64 2))) (t := 3) (t' := 3) (u := .int .i64 ((t : Nat) : Int)) (v := .int .i64 2) (by kernel_rfl) (by kernel_rfl) (by kernel_rfl) rfl (subI (by omega) (by omega))) ?_
          refine k_pure (by kernel_rfl) (d := (some 82)) (by kernel_rfl) (v := .pointer (some ⟨n1, (t - 2), none⟩)) (fun _ => run_indexZ (t := 56) (x := (.tmp 5)) (y := (.tmp 81)) (b := n1) (off := 0) (off' := (t - 2)) (i := (t - 2)) (z := (((t - 2) : Nat) : Int)) (by kernel_rfl) (by kernel_rfl) (by kernel_rfl) rfl Tryd.underlying56 (by kernel_rfl) (by omega) (by omega)) ?_
          refine k_ifR (by kernel_rfl) (d := (some 83)) (by kernel_rfl) (v := .int .u32 (wd B (t - 2))) (fun _ hs => run_loadA (ty := 40) (x := (.tmp 82)) (a := ⟨n1, (t - 2), none⟩) (by kernel_rfl) (by kernel_rfl) Tryd.underlying40 rfl ((hs.at 2 rfl).cell (wv_get (wl_get B (by omega))))) ?_
          refine k_pure (by kernel_rfl) (d := (some 85)) (by kernel_rfl) (v := .int .i64 ((t : Nat) : Int)) (fun _ => by kernel_rfl) ?_
          refine k_pure (by kernel_rfl) (d := (some 86)) (by kernel_rfl) (v := .int .i64 (((t - 2) : Nat) : Int)) (fun _ => run_binOpV (op := .sub) (x := (.tmp 85)) (y := (.const (.int .i64 2))) (t := 3) (t' := 3) (u := .int .i64 ((t : Nat) : Int)) (v := .int .i64 2) (by kernel_rfl) (by kernel_rfl) (by kernel_rfl) rfl (subI (by omega) (by omega))) ?_
          refine k_pure (by kernel_rfl) (d := (some 87)) (by kernel_rfl) (v := .pointer (some ⟨n1, (t - 2), none⟩)) (fun _ => run_indexZ (t := 56) (x := (.tmp 5)) (y := (.tmp 86)) (b := n1) (off := 0) (off' := (t - 2)) (i := (t - 2)) (z := (((t - 2) : Nat) : Int)) (by kernel_rfl) (by kernel_rfl) (by kernel_rfl) rfl Tryd.underlying56 (by kernel_rfl) (by omega) (by omega)) ?_
          refine k_ifR (by kernel_rfl) (d := (some 88)) (by kernel_rfl) (v := .int .u32 (wd B (t - 2))) (fun _ hs => run_loadA (ty := 40) (x := (.tmp 87)) (a := ⟨n1, (t - 2), none⟩) (by kernel_rfl) (by kernel_rfl) Tryd.underlying40 rfl ((hs.at 2 rfl).cell (wv_get (wl_get B (by omega))))) ?_
          refine k_pure (by kernel_rfl) (d := (some 91)) (by kernel_rfl) (v := .int .i64 ((t : Nat) : Int)) (fun _ => by kernel_rfl) ?_
          refine k_pure (by kernel_rfl) (d := (some 92)) (by kernel_rfl) (v := .int .i64 (((t - 2) : Nat) : Int)) (fun _ => run_binOpV (op := .sub) (x := (.tmp 91)) (y := (.const (.int .i64 2))) (t := 3) (t' := 3) (u := .int .i64 ((t : Nat) : Int)) (v := .int .i64 2) (by kernel_rfl) (by kernel_rfl) (by kernel_rfl) rfl (subI (by omega) (by omega))) ?_
          refine k_pure (by kernel_rfl) (d := (some 93)) (by kernel_rfl) (v := .pointer (some ⟨n1, (t - 2), none⟩)) (fun _ => run_indexZ (t := 56) (x := (.tmp 5)) (y := (.tmp 92)) (b := n1) (off := 0) (off' := (t - 2)) (i := (t - 2)) (z := (((t - 2) : Nat) : Int)) (by kernel_rfl) (by kernel_rfl) (by kernel_rfl) rfl Tryd.underlying56 (by kernel_rfl) (by omega) (by omega)) ?_
          refine k_ifR (by kernel_rfl) (d := (some 94)) (by kernel_rfl) (v := .int .u32 (wd B (t - 2))) (fun _ hs => run_loadA (ty := 40) (x := (.tmp 93)) (a := ⟨n1, (t - 2), none⟩) (by kernel_rfl) (by kernel_rfl) Tryd.underlying40 rfl ((hs.at 2 rfl).cell (wv_get (wl_get B (by omega))))) ?_
          refine k_pure (by kernel_rfl) (d := (some 95)) (by kernel_rfl) (v := .int .u32 (wR (wd B (t - 2)) 10)) (fun _ => run_binOpV (op := .shr) (x := (.tmp 94)) (y := (.const (.int .u64 10))) (t := 40) (t' := 52) (u := .int .u32 (wd B (t - 2))) (v := .int .u64 10) (by kernel_rfl) (by kernel_rfl) (by kernel_rfl) rfl (shrU (n := 10) (by first | rfl | omega) (by first | decide | (show _ ≤ 32; omega)))) ?_
          refine k_callR (by kernel_rfl) (d := (some 84)) (by kernel_rfl) (f := 24) (args := #[.int .u32 (wd B (t - 2)), .int .i64 17]) (fun _ => by kernel_rfl) (turned_c (x := (wd B (t - 2))) (n := 17) (by decide)) (fun _ w72 ⟨he72, hb72⟩ => ⟨_, he72, H58d.go hb72, ?_⟩)
          have H72 := H58d.go hb72
          clear H58d hb72 he72
          refine k_callR (by kernel_rfl) (d := (some 89)) (by kernel_rfl) (f := 24) (args := #[.int .u32 (wd B (t - 2)), .int .i64 19]) (fun _ => by kernel_rfl) (turned_c (x := (wd B (t - 2))) (n := 19) (by decide)) (fun _ w73 ⟨he73, hb73⟩ => ⟨_, he73, H72.go hb73, ?_⟩)
          have H73 := H72.go hb73
          clear H72 hb73 he73
          refine k_pure (by kernel_rfl) (d := (some 90)) (by kernel_rfl) (v := .int .u32 (wX (ror (wd B (t - 2)) 17) (ror (wd B (t - 2)) 19))) (fun _ => by kernel_rfl) ?_
          refine k_pure (by kernel_rfl) (d := (some 96)) (by kernel_rfl) (v := .int .u32 (wX (wX (ror (wd B (t - 2)) 17) (ror (wd B (t - 2)) 19)) (wR (wd B (t - 2)) 10))) (fun _ => by kernel_rfl) ?_
          refine k_pure (by kernel_rfl) (d := (some 9)) (by kernel_rfl) (v := .int .u32 (sg1 (wd B (t - 2)))) (fun _ => by kernel_rfl) ?_
          refine k_end ?_
          go_simp
          go_upto_region 12 with (fail)
          refine wp_region_atS (opsAt Tryd.f20 12) ((true, 0) :: (true, 1) :: (true, 2) :: (true, 3) :: (true, 4) :: (true, 5) :: (true, 6) :: (true, 7) :: (true, 8) :: (true, 9) :: (true, 10) :: (true, 11) :: (true, 12) :: (true, 13) :: (true, 14) :: (false, 15) :: []) (fun W => Mm w [(w.heap.size, wv s.list), (w.heap.size + 1, wv (List.replicate 8 0)), (n1, wv (wl B t))] W ∨ Mm w [(w.heap.size, wv s.list), (w.heap.size + 1, wv (List.replicate 8 0)), (n1, wv (wl B (t + 1)))] W) (by kernel_rfl) rfl (by kernel_rfl) (fun _ _ d _ _ h => by cases d <;> exact h) (by kernel_rfl) (by kernel_rfl) (Or.inl H73.drew) ?_
          have H76d := H73.drew
          clear H73
          refine k_pure (by kernel_rfl) (d := (some 97)) (by kernel_rfl) (v := .int .i64 ((t : Nat) : Int)) (fun _ => by kernel_rfl) ?_
          refine k_pure (by kernel_rfl) (d := (some 98)) (by kernel_rfl) (v := .int .u32 (sg1 (wd B (t - 2)))) (fun _ => by kernel_rfl) ?_
          refine k_pure (by kernel_rfl) (d := (some 99)) (by kernel_rfl) (v := .int .i64 ((t : Nat) : Int)) (fun _ => by kernel_rfl) ?_
          refine k_pure (by kernel_rfl) (d := (some 100)) (by kernel_rfl) (v := .int .i64 (((t - 7) : Nat) : Int)) (fun _ => run_binOpV (op := .sub) (x := (.tmp 99)) (y := (.const (.int .i64 7))) (t := 3) (t' := 3) (u := .int .i64 ((t : Nat) : Int)) (v := .int .i64 7) (by kernel_rfl) (by kernel_rfl) (by kernel_rfl) rfl (subI (by omega) (by omega))) ?_
          refine k_pure (by kernel_rfl) (d := (some 101)) (by kernel_rfl) (v := .pointer (some ⟨n1, (t - 7), none⟩)) (fun _ => run_indexZ (t := 56) (x := (.tmp 5)) (y := (.tmp 100)) (b := n1) (off := 0) (off' := (t - 7)) (i := (t - 7)) (z := (((t - 7) : Nat) : Int)) (by kernel_rfl) (by kernel_rfl) (by kernel_rfl) rfl Tryd.underlying56 (by kernel_rfl) (by omega) (by omega)) ?_
          refine k_ifR (by kernel_rfl) (d := (some 102)) (by kernel_rfl) (v := .int .u32 (wd B (t - 7))) (fun _ hs => run_loadA (ty := 40) (x := (.tmp 101)) (a := ⟨n1, (t - 7), none⟩) (by kernel_rfl) (by kernel_rfl) Tryd.underlying40 rfl (hs.elim (fun h => (h.at 2 rfl).cell (wv_get (wl_get B (by omega)))) (fun h => (h.at 2 rfl).cell (wv_get (wl_get B (by omega)))))) ?_
          refine k_pure (by kernel_rfl) (d := (some 103)) (by kernel_rfl) (v := .int .u32 (wA (sg1 (wd B (t - 2))) (wd B (t - 7)))) (fun _ => by kernel_rfl) ?_
          refine k_pure (by kernel_rfl) (d := (some 104)) (by kernel_rfl) (v := .int .u32 (sg0 (wd B (t - 15)))) (fun _ => by kernel_rfl) ?_
          refine k_pure (by kernel_rfl) (d := (some 105)) (by kernel_rfl) (v := .int .u32 (wA (wA (sg1 (wd B (t - 2))) (wd B (t - 7))) (sg0 (wd B (t - 15))))) (fun _ => by kernel_rfl) ?_
          refine k_pure (by kernel_rfl) (d := (some 106)) (by kernel_rfl) (v := .int .i64 ((t : Nat) : Int)) (fun _ => by kernel_rfl) ?_
          refine k_pure (by kernel_rfl) (d := (some 107)) (by kernel_rfl) (v := .int .i64 (((t - 16) : Nat) : Int)) (fun _ => run_binOpV (op := .sub) (x := (.tmp 106)) (y := (.const (.int .i64 16))) (t := 3) (t' := 3) (u := .int .i64 ((t : Nat) : Int)) (v := .int .i64 16) (by kernel_rfl) (by kernel_rfl) (by kernel_rfl) rfl (subI (by omega) (by omega))) ?_
          refine k_pure (by kernel_rfl) (d := (some 108)) (by kernel_rfl) (v := .pointer (some ⟨n1, (t - 16), none⟩)) (fun _ => run_indexZ (t := 56) (x := (.tmp 5)) (y := (.tmp 107)) (b := n1) (off := 0) (off' := (t - 16)) (i := (t - 16)) (z := (((t - 16) : Nat) : Int)) (by kernel_rfl) (by kernel_rfl) (by kernel_rfl) rfl Tryd.underlying56 (by kernel_rfl) (by omega) (by omega)) ?_
          refine k_ifR (by kernel_rfl) (d := (some 109)) (by kernel_rfl) (v := .int .u32 (wd B (t - 16))) (fun _ hs => run_loadA (ty := 40) (x := (.tmp 108)) (a := ⟨n1, (t - 16), none⟩) (by kernel_rfl) (by kernel_rfl) Tryd.underlying40 rfl (hs.elim (fun h => (h.at 2 rfl).cell (wv_get (wl_get B (by omega)))) (fun h => (h.at 2 rfl).cell (wv_get (wl_get B (by omega)))))) ?_
          refine k_pure (by kernel_rfl) (d := (some 110)) (by kernel_rfl) (v := .int .u32 (wA (wA (wA (sg1 (wd B (t - 2))) (wd B (t - 7))) (sg0 (wd B (t - 15)))) (wd B (t - 16)))) (fun _ => by kernel_rfl) ?_
          refine k_pure (by kernel_rfl) (d := (some 111)) (by kernel_rfl) (v := .pointer (some ⟨n1, t, none⟩)) (fun _ => run_indexZ (t := 56) (x := (.tmp 5)) (y := (.tmp 97)) (b := n1) (off := 0) (off' := t) (i := t) (z := ((t : Nat) : Int)) (by kernel_rfl) (by kernel_rfl) (by kernel_rfl) rfl Tryd.underlying56 (by kernel_rfl) (by omega) (by omega)) ?_
          have H92 : Mm w [(w.heap.size, wv s.list), (w.heap.size + 1, wv (List.replicate 8 0)), (n1, wv (wl B (t + 1)))] (w73.drew.setCell ⟨n1, t, none⟩ (.int .u32 (wA (wA (wA (sg1 (wd B (t - 2))) (wd B (t - 7))) (sg0 (wd B (t - 15)))) (wd B (t - 16))))) := (by have h := H76d.put 2 rfl t (.int .u32 (wA (wA (wA (sg1 (wd B (t - 2))) (wd B (t - 7))) (sg0 (wd B (t - 15)))) (wd B (t - 16)))); rw [(show (wv (wl B t)).set t (.int .u32 (wA (wA (wA (sg1 (wd B (t - 2))) (wd B (t - 7))) (sg0 (wd B (t - 15)))) (wd B (t - 16)))) = wv (wl B (t + 1)) from wl_put_hi ht0 ht)] at h; exact h)
          refine k_skipOp (by kernel_rfl) (d := none) (by kernel_rfl) (run_storeA (ty := 40) (x := (.tmp 111)) (y := (.tmp 110)) (b := n1) (off := t) (v := .int .u32 (wA (wA (wA (sg1 (wd B (t - 2))) (wd B (t - 7))) (sg0 (wd B (t - 15)))) (wd B (t - 16)))) (by kernel_rfl) (by kernel_rfl) (by kernel_rfl) rfl rfl (by kernel_rfl) ((H76d.at 2 rfl).cell (wl_old (by omega))) (H76d.at 2 rfl).free) (Or.inr H92) ?_
          intro w92 hw92 _
          rw [← hw92] at H92
          clear hw92 H76d
          refine k_end ?_
          go_simp
          have HJ := Lib.hid (show Mm w [(w.heap.size, wv s.list), (w.heap.size + 1, wv (List.replicate 8 0)), (n1, wv (wl B (t + 1)))] w92 from H92)
          clear H92
          go_wp2_with fail
          exact ⟨⟨t + 1, by omega, by omega, by go_num, Lib.hid HJ.out⟩, by simp [intOf]; omega⟩
        · have htI : ¬ (t : Int) < 64 := by omega
          obtain rfl : t = 64 := by omega
          have H90 := hJ.out
          clear hJ
          go_upto_region 13 with (fail)
          refine wp_seq_atS (opsAt Tryd.f20 13) ((false, 0) :: (false, 1) :: (false, 2) :: []) (fun _ => True) (by kernel_rfl) (by kernel_rfl) trivial ?_
          refine k_callR (by kernel_rfl) (d := (some 112)) (by kernel_rfl) (f := 25) (args := #[]) (fun _ => by kernel_rfl) (constants_c) (fun _ w93 ⟨he93, hb93⟩ => ⟨_, he93, trivial, ?_⟩)
          have H93 := H90.go hb93
          clear H90 hb93 he93
          obtain ⟨n94, hn94⟩ : ∃ n, w93.heap.size = n := ⟨_, rfl⟩
          have H94 : Mm w [(w.heap.size, wv s.list), (w.heap.size + 1, wv (List.replicate 8 0)), (n1, wv (wl B 64)), (n94, wv (List.replicate 64 0))] (w93.alloc (.cells (wv (List.replicate 64 0)).toArray 56)) := H93.new hn94.symm rfl
          have hge94 : w.heap.size ≤ n94 := by rw [← hn94]; exact H93.size
          refine k_make (by kernel_rfl) (d := (some 10)) (by kernel_rfl) (v := .pointer (some ⟨n94, 0, none⟩)) (w' := w93.alloc (.cells (wv (List.replicate 64 0)).toArray 56)) (by rw [← hn94]; kernel_rfl) trivial ?_
          intro w94 hw94 _
          rw [← hw94] at H94
          clear hw94 hn94 H93
          obtain ⟨T95, hT95⟩ := H94.at 3 rfl
          have H95 : Mm w [(w.heap.size, wv s.list), (w.heap.size + 1, wv (List.replicate 8 0)), (n1, wv (wl B 64)), (n94, wv kc)] (w94.setRow n94 (wv kc).toArray) := H94.row 3 rfl (wv kc)
          refine k_put (by kernel_rfl) (d := none) (by kernel_rfl) (ty := 56) (x := (.tmp 10)) (y := (.tmp 112)) (by kernel_rfl) (g := n94) (cells := (wv kc).toArray) (by kernel_rfl) (by kernel_rfl) hT95 (by kernel_rfl) (by kernel_rfl) (wv_all _) trivial ?_
          intro w95 hw95 _
          rw [← hw95] at H95
          clear hw95 hT95 H94
          refine k_end ?_
          go_simp
          go_upto_region 14 with (fail)
          refine wp_seq_atS (opsAt Tryd.f20 14) ((false, 0) :: (false, 1) :: (false, 2) :: []) (fun _ => True) (by kernel_rfl) (by kernel_rfl) trivial ?_
          obtain ⟨T96, hT96⟩ := H95.at 0 rfl
          refine k_make (by kernel_rfl) (d := (some 113)) (by kernel_rfl) (v := .agg (wv s.list).toArray) (run_loadRow (ty := 41) (x := (.tmp 2)) (b := w.heap.size) (by kernel_rfl) (by kernel_rfl) hT96 Tryd.underlying41 rfl (by kernel_rfl)) trivial ?_
          intro w96 hw96 _
          replace hw96 := hw96.symm
          subst hw96
          clear hT96
          obtain ⟨n97, hn97⟩ : ∃ n, w95.heap.size = n := ⟨_, rfl⟩
          have H97 : Mm w [(w.heap.size, wv s.list), (w.heap.size + 1, wv (List.replicate 8 0)), (n1, wv (wl B 64)), (n94, wv kc), (n97, wv (List.replicate 8 0))] (w95.alloc (.cells (wv (List.replicate 8 0)).toArray 41)) := H95.new hn97.symm rfl
          have hge97 : w.heap.size ≤ n97 := by rw [← hn97]; exact H95.size
          refine k_make (by kernel_rfl) (d := (some 11)) (by kernel_rfl) (v := .pointer (some ⟨n97, 0, none⟩)) (w' := w95.alloc (.cells (wv (List.replicate 8 0)).toArray 41)) (by rw [← hn97]; kernel_rfl) trivial ?_
          intro w97 hw97 _
          rw [← hw97] at H97
          clear hw97 hn97 H95
          obtain ⟨T98, hT98⟩ := H97.at 4 rfl
          have H98 : Mm w [(w.heap.size, wv s.list), (w.heap.size + 1, wv (List.replicate 8 0)), (n1, wv (wl B 64)), (n94, wv kc), (n97, wv (rs B s 0).list)] (w97.setRow n97 (wv (rs B s 0).list).toArray) := H97.row 4 rfl (wv (rs B s 0).list)
          refine k_put (by kernel_rfl) (d := none) (by kernel_rfl) (ty := 41) (x := (.tmp 11)) (y := (.tmp 113)) (by kernel_rfl) (g := n97) (cells := (wv (rs B s 0).list).toArray) (by kernel_rfl) (by kernel_rfl) hT98 (by kernel_rfl) (by kernel_rfl) (wv_all _) trivial ?_
          intro w98 hw98 _
          rw [← hw98] at H98
          clear hw98 hT98 H97
          refine k_end ?_
          go_simp
          have J114 := Lib.hid H98
          clear H98
          go_wp2_with fail
          go_loopw [114] (fun iv wr => ∃ t : Nat, 0 ≤ t ∧ t ≤ 64 ∧ iv = .int .i64 t ∧ Hid (Mm w [(w.heap.size, wv s.list), (w.heap.size + 1, wv (List.replicate 8 0)), (n1, wv (wl B 64)), (n94, wv kc), (n97, wv (rs B s t).list)] wr)) (fun i _ => 64 - (intOf i).toNat)
          case atStart => exact ⟨0, by decide, by decide, rfl, Lib.hid J114.out⟩
          case round =>
            clear J114
            obtain ⟨t, ht0, ht1, rfl, hJ⟩ := hrel
            by_cases ht : t < 64
            · have htI : (t : Int) < 64 := by omega
              have H90 := hJ.out
              clear hJ
              obtain ⟨V, hV⟩ : ∃ V, rs B s t = V := ⟨_, rfl⟩
              rw [hV] at H90
              have HV := Lib.hid hV
              clear hV
              go_upto_region 18 with (fail)
              refine wp_region_atS (opsAt Tryd.f20 18) ((true, 0) :: (true, 1) :: (true, 3) :: (true, 4) :: (true, 7) :: (true, 8) :: (false, 2) :: (false, 5) :: (true, 6) :: (false, 9) :: (true, 10) :: (true, 11) :: []) (fun W => Mm w [(w.heap.size, wv s.list), (w.heap.size + 1, wv (List.replicate 8 0)), (n1, wv (wl B 64)), (n94, wv kc), (n97, wv V.list)] W) (by kernel_rfl) rfl (by kernel_rfl) (fun _ _ d _ _ h => by cases d <;> exact h) (by kernel_rfl) (by kernel_rfl) (H90.drew) ?_
              have H99d := H90.drew
              clear H90
              refine k_pure (by kernel_rfl) (d := (some 117)) (by kernel_rfl) (v := .pointer (some ⟨n97, 4, none⟩)) (fun _ => by kernel_rfl) ?_
              refine k_ifR (by kernel_rfl) (d := (some 118)) (by kernel_rfl) (v := .int .u32 V.e) (fun _ hs => run_loadA (ty := 40) (x := (.tmp 117)) (a := ⟨n97, 4, none⟩) (by kernel_rfl) (by kernel_rfl) Tryd.underlying40 rfl ((hs.at 4 rfl).cell (v := .int .u32 V.e) rfl)) ?_
              refine k_pure (by kernel_rfl) (d := (some 120)) (by kernel_rfl) (v := .pointer (some ⟨n97, 4, none⟩)) (fun _ => by kernel_rfl) ?_
              refine k_ifR (by kernel_rfl) (d := (some 121)) (by kernel_rfl) (v := .int .u32 V.e) (fun _ hs => run_loadA (ty := 40) (x := (.tmp 120)) (a := ⟨n97, 4, none⟩) (by kernel_rfl) (by kernel_rfl) Tryd.underlying40 rfl ((hs.at 4 rfl).cell (v := .int .u32 V.e) rfl)) ?_
              refine k_pure (by kernel_rfl) (d := (some 124)) (by kernel_rfl) (v := .pointer (some ⟨n97, 4, none⟩)) (fun _ => by kernel_rfl) ?_
              refine k_ifR (by kernel_rfl) (d := (some 125)) (by kernel_rfl) (v := .int .u32 V.e) (fun _ hs => run_loadA (ty := 40) (x := (.tmp 124)) (a := ⟨n97, 4, none⟩) (by kernel_rfl) (by kernel_rfl) Tryd.underlying40 rfl ((hs.at 4 rfl).cell (v := .int .u32 V.e) rfl)) ?_
              refine k_callR (by kernel_rfl) (d := (some 119)) (by kernel_rfl) (f := 24) (args := #[.int .u32 V.e, .int .i64 6]) (fun _ => by kernel_rfl) (turned_c (x := V.e) (n := 6) (by decide)) (fun _ w106 ⟨he106, hb106⟩ => ⟨_, he106, H99d.go hb106, ?_⟩)
              have H106 := H99d.go hb106
              clear H99d hb106 he106
              refine k_callR (by kernel_rfl) (d := (some 122)) (by kernel_rfl) (f := 24) (args := #[.int .u32 V.e, .int .i64 11]) (fun _ => by kernel_rfl) (turned_c (x := V.e) (n := 11) (by decide)) (fun _ w107 ⟨he107, hb107⟩ => ⟨_, he107, H106.go hb107, ?_⟩)
              have H107 := H106.go hb107
              clear H106 hb107 he107
              refine k_pure (by kernel_rfl) (d := (some 123)) (by kernel_rfl) (v := .int .u32 (wX (ror V.e 6) (ror V.e 11))) (fun _ => by kernel_rfl) ?_
              refine k_callR (by kernel_rfl) (d := (some 126)) (by kernel_rfl) (f := 24) (args := #[.int .u32 V.e, .int .i64 25]) (fun _ => by kernel_rfl) (turned_c (x := V.e) (n := 25) (by decide)) (fun _ w109 ⟨he109, hb109⟩ => ⟨_, he109, H107.go hb109, ?_⟩)
              have H109 := H107.go hb109
              clear H107 hb109 he109
              refine k_pure (by kernel_rfl) (d := (some 127)) (by kernel_rfl) (v := .int .u32 (wX (wX (ror V.e 6) (ror V.e 11)) (ror V.e 25))) (fun _ => by kernel_rfl) ?_
              refine k_pure (by kernel_rfl) (d := (some 13)) (by kernel_rfl) (v := .int .u32 (S1 V.e)) (fun _ => by kernel_rfl) ?_
              refine k_end ?_
              go_simp
              go_upto_region 19 with (fail)
              refine wp_seq_atS (opsAt Tryd.f20 19) ((true, 0) :: (false, 1) :: (true, 2) :: (false, 3) :: (true, 4) :: (true, 5) :: (false, 6) :: (true, 7) :: (true, 8) :: (false, 9) :: (true, 10) :: (true, 11) :: (true, 12) :: []) (fun _ => True) (by kernel_rfl) (by kernel_rfl) trivial ?_
              refine k_pure (by kernel_rfl) (d := (some 128)) (by kernel_rfl) (v := .pointer (some ⟨n97, 4, none⟩)) (fun _ => by kernel_rfl) ?_
              refine k_make (by kernel_rfl) (d := (some 129)) (by kernel_rfl) (v := .int .u32 V.e) (run_loadA (ty := 40) (x := (.tmp 128)) (a := ⟨n97, 4, none⟩) (by kernel_rfl) (by kernel_rfl) Tryd.underlying40 rfl ((H109.at 4 rfl).cell (v := .int .u32 V.e) rfl)) trivial ?_
              intro w112 hw112 _
              replace hw112 := hw112.symm
              subst hw112
              refine k_pure (by kernel_rfl) (d := (some 130)) (by kernel_rfl) (v := .pointer (some ⟨n97, 5, none⟩)) (fun _ => by kernel_rfl) ?_
              refine k_make (by kernel_rfl) (d := (some 131)) (by kernel_rfl) (v := .int .u32 V.f) (run_loadA (ty := 40) (x := (.tmp 130)) (a := ⟨n97, 5, none⟩) (by kernel_rfl) (by kernel_rfl) Tryd.underlying40 rfl ((H109.at 4 rfl).cell (v := .int .u32 V.f) rfl)) trivial ?_
              intro w114 hw114 _
              replace hw114 := hw114.symm
              subst hw114
              refine k_pure (by kernel_rfl) (d := (some 132)) (by kernel_rfl) (v := .int .u32 (wN V.e V.f)) (fun _ => by kernel_rfl) ?_
              refine k_pure (by kernel_rfl) (d := (some 133)) (by kernel_rfl) (v := .pointer (some ⟨n97, 4, none⟩)) (fun _ => by kernel_rfl) ?_
              refine k_make (by kernel_rfl) (d := (some 134)) (by kernel_rfl) (v := .int .u32 V.e) (run_loadA (ty := 40) (x := (.tmp 133)) (a := ⟨n97, 4, none⟩) (by kernel_rfl) (by kernel_rfl) Tryd.underlying40 rfl ((H109.at 4 rfl).cell (v := .int .u32 V.e) rfl)) trivial ?_
              intro w117 hw117 _
              replace hw117 := hw117.symm
              subst hw117
              refine k_pure (by kernel_rfl) (d := (some 135)) (by kernel_rfl) (v := .int .u32 (wC V.e)) (fun _ => by kernel_rfl) ?_
              refine k_pure (by kernel_rfl) (d := (some 136)) (by kernel_rfl) (v := .pointer (some ⟨n97, 6, none⟩)) (fun _ => by kernel_rfl) ?_
              refine k_make (by kernel_rfl) (d := (some 137)) (by kernel_rfl) (v := .int .u32 V.g) (run_loadA (ty := 40) (x := (.tmp 136)) (a := ⟨n97, 6, none⟩) (by kernel_rfl) (by kernel_rfl) Tryd.underlying40 rfl ((H109.at 4 rfl).cell (v := .int .u32 V.g) rfl)) trivial ?_
              intro w120 hw120 _
              replace hw120 := hw120.symm
              subst hw120
              refine k_pure (by kernel_rfl) (d := (some 138)) (by kernel_rfl) (v := .int .u32 (wN (wC V.e) V.g)) (fun _ => by kernel_rfl) ?_
              refine k_pure (by kernel_rfl) (d := (some 139)) (by kernel_rfl) (v := .int .u32 (wX (wN V.e V.f) (wN (wC V.e) V.g))) (fun _ => by kernel_rfl) ?_
              refine k_pure (by kernel_rfl) (d := (some 14)) (by kernel_rfl) (v := .int .u32 (ch V.e V.f V.g)) (fun _ => by kernel_rfl) ?_
              refine k_end ?_
              go_simp
              go_upto_region 20 with (fail)
              refine wp_region_atS (opsAt Tryd.f20 20) ((true, 0) :: (true, 1) :: (true, 2) :: (true, 3) :: (true, 4) :: (true, 5) :: (true, 6) :: (true, 7) :: (true, 8) :: (true, 9) :: (true, 10) :: (true, 11) :: (true, 12) :: (true, 13) :: (true, 14) :: []) (fun W => Mm w [(w.heap.size, wv s.list), (w.heap.size + 1, wv (List.replicate 8 0)), (n1, wv (wl B 64)), (n94, wv kc), (n97, wv V.list)] W) (by kernel_rfl) rfl (by kernel_rfl) (fun _ _ d _ _ h => by cases d <;> exact h) (by kernel_rfl) (by kernel_rfl) (H109.drew) ?_
              have H123d := H109.drew
              clear H109
              refine k_pure (by kernel_rfl) (d := (some 140)) (by kernel_rfl) (v := .pointer (some ⟨n97, 7, none⟩)) (fun _ => by kernel_rfl) ?_
              refine k_ifR (by kernel_rfl) (d := (some 141)) (by kernel_rfl) (v := .int .u32 V.h) (fun _ hs => run_loadA (ty := 40) (x := (.tmp 140)) (a := ⟨n97, 7, none⟩) (by kernel_rfl) (by kernel_rfl) Tryd.underlying40 rfl ((hs.at 4 rfl).cell (v := .int .u32 V.h) rfl)) ?_
              refine k_pure (by kernel_rfl) (d := (some 142)) (by kernel_rfl) (v := .int .u32 (S1 V.e)) (fun _ => by kernel_rfl) ?_
              refine k_pure (by kernel_rfl) (d := (some 143)) (by kernel_rfl) (v := .int .u32 (wA V.h (S1 V.e))) (fun _ => by kernel_rfl) ?_
              refine k_pure (by kernel_rfl) (d := (some 144)) (by kernel_rfl) (v := .int .u32 (ch V.e V.f V.g)) (fun _ => by kernel_rfl) ?_
              refine k_pure (by kernel_rfl) (d := (some 145)) (by kernel_rfl) (v := .int .u32 (wA (wA V.h (S1 V.e)) (ch V.e V.f V.g))) (fun _ => by kernel_rfl) ?_
              refine k_pure (by kernel_rfl) (d := (some 146)) (by kernel_rfl) (v := .int .i64 ((t : Nat) : Int)) (fun _ => by kernel_rfl) ?_
              refine k_pure (by kernel_rfl) (d := (some 147)) (by kernel_rfl) (v := .pointer (some ⟨n94, t, none⟩)) (fun _ => run_indexZ (t := 56) (x := (.tmp 10)) (y := (.tmp 146)) (b := n94) (off := 0) (off' := t) (i := t) (z := ((t : Nat) : Int)) (by kernel_rfl) (by kernel_rfl) (by kernel_rfl) rfl Tryd.underlying56 (by kernel_rfl) (by omega) (by omega)) ?_
              refine k_ifR (by kernel_rfl) (d := (some 148)) (by kernel_rfl) (v := .int .u32 (kk t)) (fun _ hs => run_loadA (ty := 40) (x := (.tmp 147)) (a := ⟨n94, t, none⟩) (by kernel_rfl) (by kernel_rfl) Tryd.underlying40 rfl ((hs.at 3 rfl).cell (wv_get (kc_get (by omega))))) ?_
              refine k_pure (by kernel_rfl) (d := (some 149)) (by kernel_rfl) (v := .int .u32 (wA (wA (wA V.h (S1 V.e)) (ch V.e V.f V.g)) (kk t))) (fun _ => by kernel_rfl) ?_
              refine k_pure (by kernel_rfl) (d := (some 150)) (by kernel_rfl) (v := .int .i64 ((t : Nat) : Int)) (fun _ => by kernel_rfl) ?_
              refine k_pure (by kernel_rfl) (d := (some 151)) (by kernel_rfl) (v := .pointer (some ⟨n1, t, none⟩)) (fun _ => run_indexZ (t := 56) (x := (.tmp 5)) (y := (.tmp 150)) (b := n1) (off := 0) (off' := t) (i := t) (z := ((t : Nat) : Int)) (by kernel_rfl) (by kernel_rfl) (by kernel_rfl) rfl Tryd.underlying56 (by kernel_rfl) (by omega) (by omega)) ?_
              refine k_ifR (by kernel_rfl) (d := (some 152)) (by kernel_rfl) (v := .int .u32 (wd B t)) (fun _ hs => run_loadA (ty := 40) (x := (.tmp 151)) (a := ⟨n1, t, none⟩) (by kernel_rfl) (by kernel_rfl) Tryd.underlying40 rfl ((hs.at 2 rfl).cell (wv_get (wl_get B (by omega))))) ?_
              refine k_pure (by kernel_rfl) (d := (some 153)) (by kernel_rfl) (v := .int .u32 (wA (wA (wA (wA V.h (S1 V.e)) (ch V.e V.f V.g)) (kk t)) (wd B t))) (fun _ => by kernel_rfl) ?_
              refine k_pure (by kernel_rfl) (d := (some 15)) (by kernel_rfl) (v := .int .u32 (t1 V (kk t) (wd B t))) (fun _ => by kernel_rfl) ?_
              refine k_end ?_
              go_simp
              go_upto_region 21 with (fail)
              refine wp_region_atS (opsAt Tryd.f20 21) ((true, 0) :: (true, 1) :: (true, 3) :: (true, 4) :: (true, 7) :: (true, 8) :: (false, 2) :: (false, 5) :: (true, 6) :: (false, 9) :: (true, 10) :: (true, 11) :: []) (fun W => Mm w [(w.heap.size, wv s.list), (w.heap.size + 1, wv (List.replicate 8 0)), (n1, wv (wl B 64)), (n94, wv kc), (n97, wv V.list)] W) (by kernel_rfl) rfl (by kernel_rfl) (fun _ _ d _ _ h => by cases d <;> exact h) (by kernel_rfl) (by kernel_rfl) (H123d.drew) ?_
              have H138d := H123d.drew
              clear H123d
              refine k_pure (by kernel_rfl) (d := (some 154)) (by kernel_rfl) (v := .pointer (some ⟨n97, 0, none⟩)) (fun _ => by kernel_rfl) ?_
              refine k_ifR (by kernel_rfl) (d := (some 155)) (by kernel_rfl) (v := .int .u32 V.a) (fun _ hs => run_loadA (ty := 40) (x := (.tmp 154)) (a := ⟨n97, 0, none⟩) (by kernel_rfl) (by kernel_rfl) Tryd.underlying40 rfl ((hs.at 4 rfl).cell (v := .int .u32 V.a) rfl)) ?_
              refine k_pure (by kernel_rfl) (d := (some 157)) (by kernel_rfl) (v := .pointer (some ⟨n97, 0, none⟩)) (fun _ => by kernel_rfl) ?_
              refine k_ifR (by kernel_rfl) (d := (some 158)) (by kernel_rfl) (v := .int .u32 V.a) (fun _ hs => run_loadA (ty := 40) (x := (.tmp 157)) (a := ⟨n97, 0, none⟩) (by kernel_rfl) (by kernel_rfl) Tryd.underlying40 rfl ((hs.at 4 rfl).cell (v := .int .u32 V.a) rfl)) ?_
              refine k_pure (by kernel_rfl) (d := (some 161)) (by kernel_rfl) (v := .pointer (some ⟨n97, 0, none⟩)) (fun _ => by kernel_rfl) ?_
              refine k_ifR (by kernel_rfl) (d := (some 162)) (by kernel_rfl) (v := .int .u32 V.a) (fun _ hs => run_loadA (ty := 40) (x := (.tmp 161)) (a := ⟨n97, 0, none⟩) (by kernel_rfl) (by kernel_rfl) Tryd.underlying40 rfl ((hs.at 4 rfl).cell (v := .int .u32 V.a) rfl)) ?_
              refine k_callR (by kernel_rfl) (d := (some 156)) (by kernel_rfl) (f := 24) (args := #[.int .u32 V.a, .int .i64 2]) (fun _ => by kernel_rfl) (turned_c (x := V.a) (n := 2) (by decide)) (fun _ w145 ⟨he145, hb145⟩ => ⟨_, he145, H138d.go hb145, ?_⟩)
              have H145 := H138d.go hb145
              clear H138d hb145 he145
              refine k_callR (by kernel_rfl) (d := (some 159)) (by kernel_rfl) (f := 24) (args := #[.int .u32 V.a, .int .i64 13]) (fun _ => by kernel_rfl) (turned_c (x := V.a) (n := 13) (by decide)) (fun _ w146 ⟨he146, hb146⟩ => ⟨_, he146, H145.go hb146, ?_⟩)
              have H146 := H145.go hb146
              clear H145 hb146 he146
              refine k_pure (by kernel_rfl) (d := (some 160)) (by kernel_rfl) (v := .int .u32 (wX (ror V.a 2) (ror V.a 13))) (fun _ => by kernel_rfl) ?_
              refine k_callR (by kernel_rfl) (d := (some 163)) (by kernel_rfl) (f := 24) (args := #[.int .u32 V.a, .int .i64 22]) (fun _ => by kernel_rfl) (turned_c (x := V.a) (n := 22) (by decide)) (fun _ w148 ⟨he148, hb148⟩ => ⟨_, he148, H146.go hb148, ?_⟩)
              have H148 := H146.go hb148
              clear H146 hb148 he148
              refine k_pure (by kernel_rfl) (d := (some 164)) (by kernel_rfl) (v := .int .u32 (wX (wX (ror V.a 2) (ror V.a 13)) (ror V.a 22))) (fun _ => by kernel_rfl) ?_
              refine k_pure (by kernel_rfl) (d := (some 16)) (by kernel_rfl) (v := .int .u32 (S0 V.a)) (fun _ => by kernel_rfl) ?_
              refine k_end ?_
              go_simp
              go_upto_region 22 with (fail)
              refine wp_seq_atS (opsAt Tryd.f20 22) ((true, 0) :: (false, 1) :: (true, 2) :: (false, 3) :: (true, 4) :: (true, 5) :: (false, 6) :: (true, 7) :: (false, 8) :: (true, 9) :: (true, 10) :: (true, 11) :: (false, 12) :: (true, 13) :: (false, 14) :: (true, 15) :: (true, 16) :: (true, 17) :: []) (fun _ => True) (by kernel_rfl) (by kernel_rfl) trivial ?_
              refine k_pure (by kernel_rfl) (d := (some 165)) (by kernel_rfl) (v := .pointer (some ⟨n97, 0, none⟩)) (fun _ => by kernel_rfl) ?_
              refine k_make (by kernel_rfl) (d := (some 166)) (by kernel_rfl) (v := .int .u32 V.a) (run_loadA (ty := 40) (x := (.tmp 165)) (a := ⟨n97, 0, none⟩) (by kernel_rfl) (by kernel_rfl) Tryd.underlying40 rfl ((H148.at 4 rfl).cell (v := .int .u32 V.a) rfl)) trivial ?_
              intro w151 hw151 _
              replace hw151 := hw151.symm
              subst hw151
              refine k_pure (by kernel_rfl) (d := (some 167)) (by kernel_rfl) (v := .pointer (some ⟨n97, 1, none⟩)) (fun _ => by kernel_rfl) ?_
              refine k_make (by kernel_rfl) (d := (some 168)) (by kernel_rfl) (v := .int .u32 V.b) (run_loadA (ty := 40) (x := (.tmp 167)) (a := ⟨n97, 1, none⟩) (by kernel_rfl) (by kernel_rfl) Tryd.underlying40 rfl ((H148.at 4 rfl).cell (v := .int .u32 V.b) rfl)) trivial ?_
              intro w153 hw153 _
              replace hw153 := hw153.symm
              subst hw153
              refine k_pure (by kernel_rfl) (d := (some 169)) (by kernel_rfl) (v := .int .u32 (wN V.a V.b)) (fun _ => by kernel_rfl) ?_
              refine k_pure (by kernel_rfl) (d := (some 170)) (by kernel_rfl) (v := .pointer (some ⟨n97, 0, none⟩)) (fun _ => by kernel_rfl) ?_
              refine k_make (by kernel_rfl) (d := (some 171)) (by kernel_rfl) (v := .int .u32 V.a) (run_loadA (ty := 40) (x := (.tmp 170)) (a := ⟨n97, 0, none⟩) (by kernel_rfl) (by kernel_rfl) Tryd.underlying40 rfl ((H148.at 4 rfl).cell (v := .int .u32 V.a) rfl)) trivial ?_
              intro w156 hw156 _
              replace hw156 := hw156.symm
              subst hw156
              refine k_pure (by kernel_rfl) (d := (some 172)) (by kernel_rfl) (v := .pointer (some ⟨n97, 2, none⟩)) (fun _ => by kernel_rfl) ?_
              refine k_make (by kernel_rfl) (d := (some 173)) (by kernel_rfl) (v := .int .u32 V.c) (run_loadA (ty := 40) (x := (.tmp 172)) (a := ⟨n97, 2, none⟩) (by kernel_rfl) (by kernel_rfl) Tryd.underlying40 rfl ((H148.at 4 rfl).cell (v := .int .u32 V.c) rfl)) trivial ?_
              intro w158 hw158 _
              replace hw158 := hw158.symm
              subst hw158
              refine k_pure (by kernel_rfl) (d := (some 174)) (by kernel_rfl) (v := .int .u32 (wN V.a V.c)) (fun _ => by kernel_rfl) ?_
              refine k_pure (by kernel_rfl) (d := (some 175)) (by kernel_rfl) (v := .int .u32 (wX (wN V.a V.b) (wN V.a V.c))) (fun _ => by kernel_rfl) ?_
              refine k_pure (by kernel_rfl) (d := (some 176)) (by kernel_rfl) (v := .pointer (some ⟨n97, 1, none⟩)) (fun _ => by kernel_rfl) ?_
              refine k_make (by kernel_rfl) (d := (some 177)) (by kernel_rfl) (v := .int .u32 V.b) (run_loadA (ty := 40) (x := (.tmp 176)) (a := ⟨n97, 1, none⟩) (by kernel_rfl) (by kernel_rfl) Tryd.underlying40 rfl ((H148.at 4 rfl).cell (v := .int .u32 V.b) rfl)) trivial ?_
              intro w162 hw162 _
              replace hw162 := hw162.symm
              subst hw162
              refine k_pure (by kernel_rfl) (d := (some 178)) (by kernel_rfl) (v := .pointer (some ⟨n97, 2, none⟩)) (fun _ => by kernel_rfl) ?_
              refine k_make (by kernel_rfl) (d := (some 179)) (by kernel_rfl) (v := .int .u32 V.c) (run_loadA (ty := 40) (x := (.tmp 178)) (a := ⟨n97, 2, none⟩) (by kernel_rfl) (by kernel_rfl) Tryd.underlying40 rfl ((H148.at 4 rfl).cell (v := .int .u32 V.c) rfl)) trivial ?_
              intro w164 hw164 _
              replace hw164 := hw164.symm
              subst hw164
              refine k_pure (by kernel_rfl) (d := (some 180)) (by kernel_rfl) (v := .int .u32 (wN V.b V.c)) (fun _ => by kernel_rfl) ?_
              refine k_pure (by kernel_rfl) (d := (some 181)) (by kernel_rfl) (v := .int .u32 (wX (wX (wN V.a V.b) (wN V.a V.c)) (wN V.b V.c))) (fun _ => by kernel_rfl) ?_
              refine k_pure (by kernel_rfl) (d := (some 17)) (by kernel_rfl) (v := .int .u32 (maj V.a V.b V.c)) (fun _ => by kernel_rfl) ?_
              refine k_end ?_
              go_simp
              go_upto_region 23 with (fail)
              refine wp_seq_atS (opsAt Tryd.f20 23) ((true, 0) :: (true, 1) :: (true, 2) :: (true, 3) :: (true, 4) :: (true, 5) :: (false, 6) :: (true, 7) :: (false, 8) :: (true, 9) :: (false, 10) :: (true, 11) :: (false, 12) :: (true, 13) :: (true, 14) :: (true, 15) :: (false, 16) :: (true, 17) :: (false, 18) :: (true, 19) :: (false, 20) :: (true, 21) :: (false, 22) :: []) (fun _ => True) (by kernel_rfl) (by kernel_rfl) trivial ?_
              refine k_pure (by kernel_rfl) (d := (some 182)) (by kernel_rfl) (v := .int .u32 (t1 V (kk t) (wd B t))) (fun _ => by kernel_rfl) ?_
              refine k_pure (by kernel_rfl) (d := (some 183)) (by kernel_rfl) (v := .int .u32 (S0 V.a)) (fun _ => by kernel_rfl) ?_
              refine k_pure (by kernel_rfl) (d := (some 184)) (by kernel_rfl) (v := .int .u32 (wA (t1 V (kk t) (wd B t)) (S0 V.a))) (fun _ => by kernel_rfl) ?_
              refine k_pure (by kernel_rfl) (d := (some 185)) (by kernel_rfl) (v := .int .u32 (maj V.a V.b V.c)) (fun _ => by kernel_rfl) ?_
              refine k_pure (by kernel_rfl) (d := (some 186)) (by kernel_rfl) (v := .int .u32 (wA (t1 V (kk t) (wd B t)) (t2 V))) (fun _ => run_binOpV (op := .add) (x := .tmp 184) (y := .tmp 185) (t := 40) (t' := 40) (u := .int .u32 (wA (t1 V (kk t) (wd B t)) (S0 V.a))) (v := .int .u32 (maj V.a V.b V.c)) (by kernel_rfl) (by kernel_rfl) (by kernel_rfl) rfl (by rw [← rnd_a]; kernel_rfl)) ?_
              refine k_pure (by kernel_rfl) (d := (some 187)) (by kernel_rfl) (v := .pointer (some ⟨n97, 0, none⟩)) (fun _ => by kernel_rfl) ?_
              refine k_make (by kernel_rfl) (d := (some 188)) (by kernel_rfl) (v := .int .u32 V.a) (run_loadA (ty := 40) (x := (.tmp 187)) (a := ⟨n97, 0, none⟩) (by kernel_rfl) (by kernel_rfl) Tryd.underlying40 rfl ((H148.at 4 rfl).cell (v := .int .u32 V.a) rfl)) trivial ?_
              intro w172 hw172 _
              replace hw172 := hw172.symm
              subst hw172
              refine k_pure (by kernel_rfl) (d := (some 189)) (by kernel_rfl) (v := .pointer (some ⟨n97, 1, none⟩)) (fun _ => by kernel_rfl) ?_
              refine k_make (by kernel_rfl) (d := (some 190)) (by kernel_rfl) (v := .int .u32 V.b) (run_loadA (ty := 40) (x := (.tmp 189)) (a := ⟨n97, 1, none⟩) (by kernel_rfl) (by kernel_rfl) Tryd.underlying40 rfl ((H148.at 4 rfl).cell (v := .int .u32 V.b) rfl)) trivial ?_
              intro w174 hw174 _
              replace hw174 := hw174.symm
              subst hw174
              refine k_pure (by kernel_rfl) (d := (some 191)) (by kernel_rfl) (v := .pointer (some ⟨n97, 2, none⟩)) (fun _ => by kernel_rfl) ?_
              refine k_make (by kernel_rfl) (d := (some 192)) (by kernel_rfl) (v := .int .u32 V.c) (run_loadA (ty := 40) (x := (.tmp 191)) (a := ⟨n97, 2, none⟩) (by kernel_rfl) (by kernel_rfl) Tryd.underlying40 rfl ((H148.at 4 rfl).cell (v := .int .u32 V.c) rfl)) trivial ?_
              intro w176 hw176 _
              replace hw176 := hw176.symm
              subst hw176
              refine k_pure (by kernel_rfl) (d := (some 193)) (by kernel_rfl) (v := .pointer (some ⟨n97, 3, none⟩)) (fun _ => by kernel_rfl) ?_
              refine k_make (by kernel_rfl) (d := (some 194)) (by kernel_rfl) (v := .int .u32 V.d) (run_loadA (ty := 40) (x := (.tmp 193)) (a := ⟨n97, 3, none⟩) (by kernel_rfl) (by kernel_rfl) Tryd.underlying40 rfl ((H148.at 4 rfl).cell (v := .int .u32 V.d) rfl)) trivial ?_
              intro w178 hw178 _
              replace hw178 := hw178.symm
              subst hw178
              refine k_pure (by kernel_rfl) (d := (some 195)) (by kernel_rfl) (v := .int .u32 (t1 V (kk t) (wd B t))) (fun _ => by kernel_rfl) ?_
              refine k_pure (by kernel_rfl) (d := (some 196)) (by kernel_rfl) (v := .int .u32 (wA V.d (t1 V (kk t) (wd B t)))) (fun _ => by kernel_rfl) ?_
              refine k_pure (by kernel_rfl) (d := (some 197)) (by kernel_rfl) (v := .pointer (some ⟨n97, 4, none⟩)) (fun _ => by kernel_rfl) ?_
              refine k_make (by kernel_rfl) (d := (some 198)) (by kernel_rfl) (v := .int .u32 V.e) (run_loadA (ty := 40) (x := (.tmp 197)) (a := ⟨n97, 4, none⟩) (by kernel_rfl) (by kernel_rfl) Tryd.underlying40 rfl ((H148.at 4 rfl).cell (v := .int .u32 V.e) rfl)) trivial ?_
              intro w182 hw182 _
              replace hw182 := hw182.symm
              subst hw182
              refine k_pure (by kernel_rfl) (d := (some 199)) (by kernel_rfl) (v := .pointer (some ⟨n97, 5, none⟩)) (fun _ => by kernel_rfl) ?_
              refine k_make (by kernel_rfl) (d := (some 200)) (by kernel_rfl) (v := .int .u32 V.f) (run_loadA (ty := 40) (x := (.tmp 199)) (a := ⟨n97, 5, none⟩) (by kernel_rfl) (by kernel_rfl) Tryd.underlying40 rfl ((H148.at 4 rfl).cell (v := .int .u32 V.f) rfl)) trivial ?_
              intro w184 hw184 _
              replace hw184 := hw184.symm
              subst hw184
              refine k_pure (by kernel_rfl) (d := (some 201)) (by kernel_rfl) (v := .pointer (some ⟨n97, 6, none⟩)) (fun _ => by kernel_rfl) ?_
              refine k_make (by kernel_rfl) (d := (some 202)) (by kernel_rfl) (v := .int .u32 V.g) (run_loadA (ty := 40) (x := (.tmp 201)) (a := ⟨n97, 6, none⟩) (by kernel_rfl) (by kernel_rfl) Tryd.underlying40 rfl ((H148.at 4 rfl).cell (v := .int .u32 V.g) rfl)) trivial ?_
              intro w186 hw186 _
              replace hw186 := hw186.symm
              subst hw186
              refine k_pure (by kernel_rfl) (d := (some 203)) (by kernel_rfl) (v := .agg (wv (rnd V (kk t) (wd B t)).list).toArray) (fun _ => by kernel_rfl) ?_
              obtain ⟨T187, hT187⟩ := H148.at 4 rfl
              have H187 : Mm w [(w.heap.size, wv s.list), (w.heap.size + 1, wv (List.replicate 8 0)), (n1, wv (wl B 64)), (n94, wv kc), (n97, wv (rnd V (kk t) (wd B t)).list)] (w148.setRow n97 (wv (rnd V (kk t) (wd B t)).list).toArray) := H148.row 4 rfl (wv (rnd V (kk t) (wd B t)).list)
              refine k_put (by kernel_rfl) (d := none) (by kernel_rfl) (ty := 41) (x := (.tmp 11)) (y := (.tmp 203)) (by kernel_rfl) (g := n97) (cells := (wv (rnd V (kk t) (wd B t)).list).toArray) (by kernel_rfl) (by kernel_rfl) hT187 (by kernel_rfl) (by kernel_rfl) (wv_all _) trivial ?_
              intro w187 hw187 _
              rw [← hw187] at H187
              clear hw187 hT187 H148
              refine k_end ?_
              go_simp
              have HJ := Lib.hid (show Mm w [(w.heap.size, wv s.list), (w.heap.size + 1, wv (List.replicate 8 0)), (n1, wv (wl B 64)), (n94, wv kc), (n97, wv (rs B s (t + 1)).list)] w187 from (by have h := H187; rw [← HV.out] at h; exact h))
              clear H187
              go_wp2_with fail
              exact ⟨⟨t + 1, by omega, by omega, by go_num, Lib.hid HJ.out⟩, by simp [intOf]; omega⟩
            · have htI : ¬ (t : Int) < 64 := by omega
              obtain rfl : t = 64 := by omega
              have H90 := hJ.out
              clear hJ
              obtain ⟨V, hV⟩ : ∃ V, rs B s 64 = V := ⟨_, rfl⟩
              rw [hV] at H90
              have HV := Lib.hid hV
              clear hV
              have J205 := Lib.hid H90
              clear H90
              go_wp2_with fail
              go_loopw [205] (fun iv wr => ∃ i : Nat, 0 ≤ i ∧ i ≤ 8 ∧ iv = .int .i64 i ∧ Hid (Mm w [(w.heap.size, wv (mixL s V i)), (w.heap.size + 1, wv (List.replicate 8 0)), (n1, wv (wl B 64)), (n94, wv kc), (n97, wv V.list)] wr)) (fun i _ => 8 - (intOf i).toNat)
              case atStart => exact ⟨0, by decide, by decide, rfl, Lib.hid J205.out⟩
              case round =>
                clear J205
                obtain ⟨i, hi0, hi1, rfl, hJ⟩ := hrel
                by_cases hi : i < 8
                · have hiI : (i : Int) < 8 := by omega
                  have H90 := hJ.out
                  clear hJ
                  go_upto_region 28 with (fail)
                  refine wp_region_atS (opsAt Tryd.f20 28) ((true, 0) :: (true, 1) :: (true, 3) :: (true, 4) :: (true, 5) :: (false, 2) :: (true, 6) :: (true, 7) :: (false, 8) :: []) (fun W => Mm w [(w.heap.size, wv (mixL s V i)), (w.heap.size + 1, wv (List.replicate 8 0)), (n1, wv (wl B 64)), (n94, wv kc), (n97, wv V.list)] W ∨ Mm w [(w.heap.size, wv (mixL s V (i + 1))), (w.heap.size + 1, wv (List.replicate 8 0)), (n1, wv (wl B 64)), (n94, wv kc), (n97, wv V.list)] W) (by kernel_rfl) rfl (by kernel_rfl) (fun _ _ d _ _ h => by cases d <;> exact h) (by kernel_rfl) (by kernel_rfl) (Or.inl H90.drew) ?_
                  have H188d := H90.drew
                  clear H90
                  refine k_pure (by kernel_rfl) (d := (some 208)) (by kernel_rfl) (v := .int .i64 ((i : Nat) : Int)) (fun _ => by kernel_rfl) ?_
                  refine k_pure (by kernel_rfl) (d := (some 209)) (by kernel_rfl) (v := .pointer (some ⟨w.heap.size, i, none⟩)) (fun _ => run_indexZ (t := 41) (x := (.tmp 2)) (y := (.tmp 208)) (b := w.heap.size) (off := 0) (off' := i) (i := i) (z := ((i : Nat) : Int)) (by kernel_rfl) (by kernel_rfl) (by kernel_rfl) rfl Tryd.underlying41 (by kernel_rfl) (by omega) (by omega)) ?_
                  refine k_pure (by kernel_rfl) (d := (some 211)) (by kernel_rfl) (v := .int .i64 ((i : Nat) : Int)) (fun _ => by kernel_rfl) ?_
                  refine k_pure (by kernel_rfl) (d := (some 212)) (by kernel_rfl) (v := .pointer (some ⟨n97, i, none⟩)) (fun _ => run_indexZ (t := 41) (x := (.tmp 11)) (y := (.tmp 211)) (b := n97) (off := 0) (off' := i) (i := i) (z := ((i : Nat) : Int)) (by kernel_rfl) (by kernel_rfl) (by kernel_rfl) rfl Tryd.underlying41 (by kernel_rfl) (by omega) (by omega)) ?_
                  refine k_ifR (by kernel_rfl) (d := (some 213)) (by kernel_rfl) (v := .int .u32 (V.list.getD i 0)) (fun _ hs => run_loadA (ty := 40) (x := (.tmp 212)) (a := ⟨n97, i, none⟩) (by kernel_rfl) (by kernel_rfl) Tryd.underlying40 rfl (hs.elim (fun h => (h.at 4 rfl).cell (mix_v hi)) (fun h => (h.at 4 rfl).cell (mix_v hi)))) ?_
                  refine k_make (by kernel_rfl) (d := (some 210)) (by kernel_rfl) (v := .int .u32 (s.list.getD i 0)) (run_loadA (ty := 40) (x := (.tmp 209)) (a := ⟨w.heap.size, i, none⟩) (by kernel_rfl) (by kernel_rfl) Tryd.underlying40 rfl ((H188d.at 0 rfl).cell (mix_get hi))) (Or.inl H188d) ?_
                  intro w194 hw194 _
                  replace hw194 := hw194.symm
                  subst hw194
                  refine k_pure (by kernel_rfl) (d := (some 214)) (by kernel_rfl) (v := .int .u32 (wA (s.list.getD i 0) (V.list.getD i 0))) (fun _ => by kernel_rfl) ?_
                  refine k_pure (by kernel_rfl) (d := (some 215)) (by kernel_rfl) (v := .pointer (some ⟨w.heap.size, i, none⟩)) (fun _ => run_indexZ (t := 41) (x := (.tmp 2)) (y := (.tmp 208)) (b := w.heap.size) (off := 0) (off' := i) (i := i) (z := ((i : Nat) : Int)) (by kernel_rfl) (by kernel_rfl) (by kernel_rfl) rfl Tryd.underlying41 (by kernel_rfl) (by omega) (by omega)) ?_
                  have H197 : Mm w [(w.heap.size, wv (mixL s V (i + 1))), (w.heap.size + 1, wv (List.replicate 8 0)), (n1, wv (wl B 64)), (n94, wv kc), (n97, wv V.list)] (wr.drew.setCell ⟨w.heap.size, i, none⟩ (.int .u32 (wA (s.list.getD i 0) (V.list.getD i 0)))) := (by have h := H188d.put 0 rfl i (.int .u32 (wA (s.list.getD i 0) (V.list.getD i 0))); rw [(show (wv (mixL s V i)).set i (.int .u32 (wA (s.list.getD i 0) (V.list.getD i 0))) = wv (mixL s V (i + 1)) from mix_set hi)] at h; exact h)
                  refine k_skipOp (by kernel_rfl) (d := none) (by kernel_rfl) (run_storeA (ty := 40) (x := (.tmp 215)) (y := (.tmp 214)) (b := w.heap.size) (off := i) (v := .int .u32 (wA (s.list.getD i 0) (V.list.getD i 0))) (by kernel_rfl) (by kernel_rfl) (by kernel_rfl) rfl rfl (by kernel_rfl) ((H188d.at 0 rfl).cell (mix_get hi)) (H188d.at 0 rfl).free) (Or.inr H197) ?_
                  intro w197 hw197 _
                  rw [← hw197] at H197
                  clear hw197 H188d
                  refine k_end ?_
                  go_simp
                  have HJ := Lib.hid (show Mm w [(w.heap.size, wv (mixL s V (i + 1))), (w.heap.size + 1, wv (List.replicate 8 0)), (n1, wv (wl B 64)), (n94, wv kc), (n97, wv V.list)] w197 from H197)
                  clear H197
                  go_wp2_with fail
                  exact ⟨⟨i + 1, by omega, by omega, by go_num, Lib.hid HJ.out⟩, by simp [intOf]; omega⟩
                · have hiI : ¬ (i : Int) < 8 := by omega
                  obtain rfl : i = 8 := by omega
                  have H90 := hJ.out
                  clear hJ
                  go_upto_region 30 with (fail)
                  refine wp_seq_atS (opsAt Tryd.f20 30) ((false, 0) :: (false, 1) :: []) (fun _ => True) (by kernel_rfl) (by kernel_rfl) trivial ?_
                  obtain ⟨T198, hT198⟩ := H90.at 0 rfl
                  refine k_make (by kernel_rfl) (d := (some 217)) (by kernel_rfl) (v := .agg (wv (mixL s V 8)).toArray) (run_loadRow (ty := 41) (x := (.tmp 2)) (b := w.heap.size) (by kernel_rfl) (by kernel_rfl) hT198 Tryd.underlying41 rfl (by kernel_rfl)) trivial ?_
                  intro w198 hw198 _
                  replace hw198 := hw198.symm
                  subst hw198
                  clear hT198
                  obtain ⟨T199, hT199⟩ := H90.at 1 rfl
                  have H199 : Mm w [(w.heap.size, wv (mixL s V 8)), (w.heap.size + 1, wv (mixL s V 8)), (n1, wv (wl B 64)), (n94, wv kc), (n97, wv V.list)] (wr.setRow (w.heap.size + 1) (wv (mixL s V 8)).toArray) := H90.row 1 rfl (wv (mixL s V 8))
                  refine k_put (by kernel_rfl) (d := none) (by kernel_rfl) (ty := 41) (x := (.tmp 4)) (y := (.tmp 217)) (by kernel_rfl) (g := w.heap.size + 1) (cells := (wv (mixL s V 8)).toArray) (by kernel_rfl) (by kernel_rfl) hT199 (by kernel_rfl) (by kernel_rfl) (wv_all _) trivial ?_
                  intro w199 hw199 _
                  rw [← hw199] at H199
                  clear hw199 hT199 H90
                  refine k_end ?_
                  go_simp
                  obtain ⟨T, hT⟩ := H199.at 1 rfl
                  have HF := Lib.hid (H199.below (bsC (by omega) (bsC (by omega) (bsC (by omega) (bsC (by omega) (bsC (by omega) bs0))))))
                  clear H199
                  go_wp2_with fail
                  exact bodyPost_ret_by (results_cell_row rfl _ _ (w.heap.size + 1) _ ((wv (mixL s V 8)).toArray) _ _ rfl hT Tryd.underlying41 rfl (by kernel_rfl)) rfl ⟨by rw [show comp s B = sum8 s V by rw [← HV.out]; rfl]; rfl, HF.out⟩
end Go.Proofs.YtkmofjefjbhbhaaDoor
