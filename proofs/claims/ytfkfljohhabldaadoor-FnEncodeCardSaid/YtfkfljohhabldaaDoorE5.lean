/- Part 5 of what the laws lean on: arithmetic, walks through the functions, the curve. -/
import Derived.Test.YtfkfljohhabldaaDoorE4
import Derived.LaidMore
import Derived.Lay
import Derived.Lib.LaidTab
import Derived.OpenShut
import Derived.OpenVars
import Derived.ProofKit
import Derived.SevenTiedAt
import Derived.Stop.Joined
import Derived.Test.YtfkfljohhabldaaDoorRows
namespace Go.FourQ
open Go.RowKit
theorem run_binOpV {P : Program} {ρ : Operand → Value} {o : Oper} {w : World} {op : BinOp} {x y : Operand} {t t' : TypeId} {u v r : Value} (ho : o.op = .binOp op t x y t') (hx : ρ x = u) (hy : ρ y = v) (hq : (eqGuard op t x y u v).run P w = .ok () w) (h : (binOp op t u v).run P w = .ok r w) : (execOp ρ o).run P w = .ok (.value r) w := by
  unfold execOp
  simp [ho, hx, hy, hq, h, Result.andThen]
theorem shr7 {P : Program} {w : World} {t : TypeId} {n e : Nat} (hn : n < 128) : (binOp .shr t (.int .u8 ((n + 128 * e : Nat) : Int)) (.int .u64 7)).run P w = .ok (.int .u8 (e : Int)) w := by
  rw [binOp_shr, shift_shr .u8 .u64 _ 7 (by decide) (by decide), show ((n + 128 * e : Nat) : Int) / 2 ^ (7 : Int).toNat = (e : Int) from by
    show ((n + 128 * e : Nat) : Int) / 128 = (e : Int)
    omega]; rfl
theorem and7 {P : Program} {w : World} {t : TypeId} {n e : Nat} (hn : n < 128) (he : e = 0 ∨ e = 1) : (binOp .and t (.int .u8 ((n + 128 * e : Nat) : Int)) (.int .u8 127)).run P w = .ok (.int .u8 ((n + 128 * 0 : Nat) : Int)) w := by
  rw [binOp_and, intBits_and, and127 _ (by omega), show (n + 128 * e) % 128 = n + 128 * 0 by omega]; rfl
theorem or7 {P : Program} {w : World} {t : TypeId} {n : Nat} (hn : n < 128) : (binOp .or t (.int .u8 ((n + 128 * 0 : Nat) : Int)) (.int .u8 128)).run P w = .ok (.int .u8 ((n + 128 * 1 : Nat) : Int)) w := by
  rw [binOp_or, intBits_or, show n + 128 * 0 = n from rfl, or128 n hn]; rfl
theorem or7z {P : Program} {w : World} {t : TypeId} {n : Nat} (hn : n < 128) : (binOp .or t (.int .u8 ((n + 128 * 0 : Nat) : Int)) (.int .u8 0)).run P w = .ok (.int .u8 ((n + 128 * 0 : Nat) : Int)) w := by
  rw [binOp_or, intBits_or, show n + 128 * 0 = n from rfl, or0 n hn]; rfl
theorem At.upd2 {w w' : World} {b o b1 b2 : Nat} {x : Zp} {L : List Zp} {l : List Nat} (h : At w b o x) (u : Upd2 w w' b1 L b2 l) (h1 : b ≠ b1) (h2 : b ≠ b2) : At w' b o x := by
  obtain ⟨M, k, f, e, g⟩ := h
  exact ⟨M, k, f.of_heap (u.other _ f.lt h1 h2), e, g⟩
theorem AtZ.upd2 {w w' : World} {b o b1 b2 : Nat} {x : Zq} {L : List Zp} {l : List Nat} (h : AtZ w b o x) (u : Upd2 w w' b1 L b2 l) (h1 : b ≠ b1) (h2 : b ≠ b2) : AtZ w' b o x := ⟨⟨h.q.fst.upd2 u h1 h2, h.q.snd.upd2 u h1 h2⟩, h.al⟩
theorem goE {P : Program} {f : FuncId} {args : Array Value} {v : Value} {w wr : World} {s : List (Nat × List Zp)} (h : Sto w s wr) (C : Calls P f args wr fun e w' => e = .returned v ∧ Below wr.heap.size wr w') : Calls P f args wr fun e w' => e = .returned v ∧ Sto w s w' := C.mono fun _ _ q => ⟨q.1, h.go q.2⟩
theorem run_loadRow {P : Program} {ρ : Operand → Value} {o : Oper} {w : World} {ty : TypeId} {x : Operand} {b : Nat} {cs : Array Value} {T : TypeId} {d : TypeDesc} (ho : o.op = .load ty x) (hx : ρ x = .pointer (some ⟨b, 0, none⟩)) (hg : w.heap[b]? = some (.cells cs T (0, 0)))
    (hu : P.underlying ty = some d) (hd : (match d with | .struct _ | .array _ _ => true | _ => false) = true) (hi : (P.info? ty).map (·.size) = some cs.size) : (execOp ρ o).run P w = .ok (.value (.agg cs)) w := by
  unfold execOp
  simp only [ho, hx, Instr.loadAt, Instr.sureAddr, Sem.run_bind, Sem.run_pure, Result.andThen_ok, run_loadVar_row w b T ty cs (0, 0) d hg hu hd hi]
/-- Behind the writing of a new block and of one of before: the new one is forgotten. -/
theorem Upd2.last {w wm w' : World} {n b1 b2 : Nat} {L M : List Zp} {l m : List Nat} (u : Upd2 w wm n L b2 l) (v : Upd wm w' b1 m) (hn : w.heap.size ≤ n) (hM : m.map zp = M) (hl : ∀ v ∈ m, LowB v) (hne : b2 ≠ b1) : Upd2 w w' b1 M b2 l :=
  ⟨v.os.trans u.os, v.tape.trans u.tape, v.output.trans u.output, Nat.le_trans u.size v.size, ⟨m, v.blk, hM, hl⟩, u.blk2.of_heap (v.other _ u.blk2.lt hne), fun k hk h1 h2 => (v.other k (Nat.lt_of_lt_of_le hk u.size) h1).trans (u.other k hk (by omega) h2)⟩
end Go.FourQ
namespace Go.Proofs.YtfkfljohhabldaaDoor
open Go.RowKit Go.FourQ
section
variable {w wr : World} {s : List (Nat × List Zp)} {b1 b2 b3 o1 o2 o3 k1 i : Nat} {L1 : List Zq} {u v f : Zq}
theorem sqSqrt {sg : Int} (hf : SqV u v sg f) (hm : ModW wr) (hg : 4 < b1) (h : Sto w s wr) (hi : s[i]? = some (b1, flat L1)) (e1 : o1 = 32 * k1) (i1 : k1 < L1.length) (h2 : AtZ wr b2 o2 u) (h3 : AtZ wr b3 o3 v) (d2 : b2 ≠ b1) (d3 : b3 ≠ b1) :
    Calls Tryd.prog 83 #[.pointer (some ⟨b1, o1, none⟩), .pointer (some ⟨b2, o2, none⟩), .pointer (some ⟨b3, o3, none⟩), .int .i64 sg] wr fun e w' => e = .returned (.tuple #[]) ∧ Sto w (s.set i (b1, flat (L1.set k1 f))) w' := by
  have := fqSqrt hf hm hg (h.blk i b1 _ hi) h2.q h3.q (k2 e1) (flat_lt i1) d2 d3
  rw [flat_set] at this
  exact up1 h hi this
end
set_option maxRecDepth 100000 in
set_option maxHeartbeats 1000000 in
theorem unm00 {wa : World} {b1 b2 : Nat} {v0 v1 f : Zq} {p : Pt} (hf : SqV (p.y * p.y - 1) (p.y * p.y * dd + 1) 1 f) (hc : OnC f p.y) (hm : ModW wa) (hg : 5 ≤ b1 ∧ 5 ≤ b2 ∧ 5 ≤ wa.heap.size) (hd : AtZ wa 0 0 dd) (h1 : FpsZ wa b1 (flat [v0, v1])) (h2 : Fps wa b2 [p.y.re.val, top 0 p.y.im.val]) (hne : b1 ≠ b2) :
    Calls Tryd.prog 72 #[.pointer (some ⟨b1, 0, none⟩), .pointer (some ⟨b2, 0, none⟩)] wa fun e w' => e = .returned (.bool true) ∧ Upd2 wa w' b1 (flat [f, p.y]) b2 [p.y.re.val, top 0 p.y.im.val] := by
  have HM := Lib.hid hm
  have HD := Lib.hid hd
  have H1 := Lib.hid h1
  have H2 := Lib.hid h2
  have HNE := Lib.hid hne
  have HG := Lib.hid hg
  have HF := Lib.hid hf
  have HC := Lib.hid hc
  have HB2 := h2.lt; have HB1 := h1.lt; have HGM := hm.lt; have HG0 := hd.q.fst.lt
  clear hm hd h1 h2 hne hg hf hc
  go_enter Tryd.func72, Tryd.ntmps72
  go_upto_region 2 with (fail)
  refine wp_gen (fun WW => Upd2 wa WW wa.heap.size (flat [0, 0]) b2 [p.y.re.val, top 0 p.y.im.val]) ⟨rfl, rfl, rfl, by simp, ⟨[0, 0, 0, 0], Fps.new _ _ _ _ _ rfl (by kernel_rfl), rfl, zero4⟩, H2.out.alloc _, fun k hk _ _ => Below.heap_alloc _ _ _ hk⟩ ?_
  intro W0 x0
  obtain ⟨nq, hnq⟩ : ∃ nq, wa.heap.size = nq := ⟨_, rfl⟩
  rw [hnq] at x0 ⊢
  have HNQ : Hid (wa.heap.size = nq) := Lib.hid hnq
  have HQ2 : nq ≠ b2 := by omega
  have HQ1 : nq ≠ b1 := by omega
  have HQ5 : 5 ≤ nq := by have := HG.out; omega
  clear hnq
  obtain ⟨n, hn, hb⟩ := top_15 (low_valZ p.y.im)
  have hc := x0.blk2.cell (k := 1) rfl (o := 16) rfl 15 (by decide)
  rw [hb 0 (.inl rfl)] at hc
  refine wp_seq_atS (opsAt Tryd.f72 2) ((true, 0) :: (true, 1) :: (true, 2) :: (false, 3) :: (true, 4) :: (true, 5) :: []) (fun _ => True) (by kernel_rfl) (by kernel_rfl) trivial ?_
  refine k_pure (by kernel_rfl) (d := (some 12)) (by kernel_rfl) (v := .pointer (some ⟨b2, 0, none⟩)) (fun _ => by kernel_rfl) ?_
  refine k_pure (by kernel_rfl) (d := (some 13)) (by kernel_rfl) (v := .pointer (some ⟨b2, 0, none⟩)) (fun _ => by kernel_rfl) ?_
  refine k_pure (by kernel_rfl) (d := (some 14)) (by kernel_rfl) (v := .pointer (some ⟨b2, 31, none⟩)) (fun _ => by kernel_rfl) ?_
  refine k_make (by kernel_rfl) (d := (some 15)) (by kernel_rfl) (v := .int .u8 ((n + 128 * 0 : Nat) : Int)) (run_loadB (ty := 5) (x := (.tmp 14)) (b := b2) (off := 31) (by kernel_rfl) (by kernel_rfl) Tryd.underlying5 (hc)) trivial ?_
  intro w1 hw1 _
  subst hw1
  refine k_pure (by kernel_rfl) (d := (some 16)) (by kernel_rfl) (v := .int .u8 0) (fun _ => run_binOpV (op := .shr) (x := .tmp 15) (y := .const (.int .u64 7)) (t := 5) (t' := 117) (by kernel_rfl) (by kernel_rfl) (by kernel_rfl) rfl (shr7 hn)) ?_
  refine k_pure (by kernel_rfl) (d := (some 6)) (by kernel_rfl) (v := .int .u8 0) (fun _ => by kernel_rfl) ?_
  refine k_end ?_
  go_simp
  go_upto_region 3 with (fail)
  refine wp_region_atS (opsAt Tryd.f72 3) ((true, 0) :: (true, 1) :: (true, 2) :: (true, 5) :: (false, 3) :: (true, 4) :: (true, 6) :: (false, 7) :: []) (fun _ => True) (by kernel_rfl) rfl (by kernel_rfl) (fun _ _ d _ _ h => by cases d <;> exact h) (by kernel_rfl) (by kernel_rfl) trivial ?_
  refine k_pure (by kernel_rfl) (d := (some 17)) (by kernel_rfl) (v := .pointer (some ⟨b2, 0, none⟩)) (fun _ => by kernel_rfl) ?_
  refine k_pure (by kernel_rfl) (d := (some 18)) (by kernel_rfl) (v := .pointer (some ⟨b2, 0, none⟩)) (fun _ => by kernel_rfl) ?_
  refine k_pure (by kernel_rfl) (d := (some 19)) (by kernel_rfl) (v := .pointer (some ⟨b2, 31, none⟩)) (fun _ => by kernel_rfl) ?_
  refine k_pure (by kernel_rfl) (d := (some 22)) (by kernel_rfl) (v := .pointer (some ⟨b2, 0, none⟩)) (fun _ => by kernel_rfl) ?_
  refine k_make (by kernel_rfl) (d := (some 20)) (by kernel_rfl) (v := .int .u8 ((n + 128 * 0 : Nat) : Int)) (run_loadB (ty := 5) (x := (.tmp 19)) (b := b2) (off := 31) (by kernel_rfl) (by kernel_rfl) Tryd.underlying5 (hc)) trivial ?_
  intro w2 hw2 _
  subst hw2
  refine k_pure (by kernel_rfl) (d := (some 21)) (by kernel_rfl) (v := .int .u8 ((n + 128 * 0 : Nat) : Int)) (fun _ => run_binOpV (op := .and) (x := .tmp 20) (y := .const (.int .u8 127)) (t := 5) (t' := 5) (by kernel_rfl) (by kernel_rfl) (by kernel_rfl) rfl (and7 hn (.inl rfl))) ?_
  refine k_pure (by kernel_rfl) (d := (some 23)) (by kernel_rfl) (v := .pointer (some ⟨b2, 31, none⟩)) (fun _ => by kernel_rfl) ?_
  refine k_skipOp (by kernel_rfl) (d := none) (by kernel_rfl) (run_storeB (ty := 5) (k := .u8) (n := ((n + 128 * 0 : Nat) : Int)) (x := (.tmp 23)) (y := (.tmp 21)) (b := b2) (off := 31) (by kernel_rfl) (by kernel_rfl) (by kernel_rfl) (by kernel_rfl) (hc) (x0.blk2.free _)) trivial ?_
  intro w3 hw3 _
  have hu := upd_byte x0.blk2.drew (k := 1) rfl (i := 15) (o := 31) (by decide) rfl (x' := top 0 p.y.im.val) (top_bytes (s := 0)) (v := .int .u8 ((n + 128 * 0 : Nat) : Int)) (hb 0 (.inl rfl)).symm
  rw [← hw3] at hu
  have x1 := x0.thenB (m := [p.y.re.val, top 0 p.y.im.val]) hu.ofDrew HQ2
  clear hu hw3 x0 hc
  refine k_end ?_
  go_simp
  go_upto_region 4 with (fail)
  refine wp_seq_atS (opsAt Tryd.f72 4) ((true, 0) :: (true, 1) :: (true, 2) :: (true, 3) :: (false, 4) :: (true, 5) :: []) (fun _ => True) (by kernel_rfl) (by kernel_rfl) trivial ?_
  refine k_pure (by kernel_rfl) (d := (some 24)) (by kernel_rfl) (v := .pointer (some ⟨nq, 32, none⟩)) (fun _ => by kernel_rfl) ?_
  refine k_pure (by kernel_rfl) (d := (some 25)) (by kernel_rfl) (v := .pointer (some ⟨b2, 0, none⟩)) (fun _ => by kernel_rfl) ?_
  refine k_pure (by kernel_rfl) (d := (some 26)) (by kernel_rfl) (v := .pointer (some ⟨b2, 0, none⟩)) (fun _ => by kernel_rfl) ?_
  refine k_pure (by kernel_rfl) (d := (some 27)) (by kernel_rfl) (v := .slice (some ⟨b2, 0, none⟩) 32 32) (fun _ => by kernel_rfl) ?_
  refine k_callR (by kernel_rfl) (d := (some 28)) (by kernel_rfl) (f := 87) (args := #[.pointer (some ⟨nq, 32, none⟩), .slice (some ⟨b2, 0, none⟩) 32 32]) (fun _ => by kernel_rfl) (fqFromBytes (HM.out.upd2 x1 (by omega) (by have := HG.out; omega)) (by omega) x1.blk1 (o1 := 32) (k1 := 2) rfl (by show 2 + 1 < 4; decide) x1.blk2 HQ2 (low_valZ p.y.re) (low_valZ p.y.im)) (fun _ w4 ⟨he4, u4⟩ => ⟨_, he4, trivial, ?_⟩)
  rw [zp_val, top0, zp_val] at u4
  have x2 := x1.thenZ (M := flat [0, p.y]) u4 HQ2
  clear u4 he4 x1
  have hc := x2.blk2.cell (k := 1) rfl (o := 16) rfl 15 (by decide)
  rw [hb 0 (.inl rfl)] at hc
  refine k_pure (by kernel_rfl) (d := (some 7)) (by kernel_rfl) (v := .bool true) (fun _ => by kernel_rfl) ?_
  refine k_end ?_
  go_simp
  go_upto_region 5 with (fail)
  refine wp_region_atS (opsAt Tryd.f72 5) ((true, 0) :: (true, 1) :: (true, 2) :: (true, 4) :: (true, 5) :: (true, 7) :: (false, 3) :: (true, 6) :: (true, 8) :: (false, 9) :: []) (fun _ => True) (by kernel_rfl) rfl (by kernel_rfl) (fun _ _ d _ _ h => by cases d <;> exact h) (by kernel_rfl) (by kernel_rfl) trivial ?_
  refine k_pure (by kernel_rfl) (d := (some 29)) (by kernel_rfl) (v := .pointer (some ⟨b2, 0, none⟩)) (fun _ => by kernel_rfl) ?_
  refine k_pure (by kernel_rfl) (d := (some 30)) (by kernel_rfl) (v := .pointer (some ⟨b2, 0, none⟩)) (fun _ => by kernel_rfl) ?_
  refine k_pure (by kernel_rfl) (d := (some 31)) (by kernel_rfl) (v := .pointer (some ⟨b2, 31, none⟩)) (fun _ => by kernel_rfl) ?_
  refine k_pure (by kernel_rfl) (d := (some 33)) (by kernel_rfl) (v := .int .u8 0) (fun _ => by kernel_rfl) ?_
  refine k_pure (by kernel_rfl) (d := (some 34)) (by kernel_rfl) (v := .int .u8 0) (fun _ => by kernel_rfl) ?_
  refine k_pure (by kernel_rfl) (d := (some 36)) (by kernel_rfl) (v := .pointer (some ⟨b2, 0, none⟩)) (fun _ => by kernel_rfl) ?_
  refine k_make (by kernel_rfl) (d := (some 32)) (by kernel_rfl) (v := .int .u8 ((n + 128 * 0 : Nat) : Int)) (run_loadB (ty := 5) (x := (.tmp 31)) (b := b2) (off := 31) (by kernel_rfl) (by kernel_rfl) Tryd.underlying5 (hc)) trivial ?_
  intro w5 hw5 _
  subst hw5
  refine k_pure (by kernel_rfl) (d := (some 35)) (by kernel_rfl) (v := .int .u8 ((n + 128 * 0 : Nat) : Int)) (fun _ => run_binOpV (op := .or) (x := .tmp 32) (y := .tmp 34) (t := 5) (t' := 5) (by kernel_rfl) (by kernel_rfl) (by kernel_rfl) rfl (or7z hn)) ?_
  refine k_pure (by kernel_rfl) (d := (some 37)) (by kernel_rfl) (v := .pointer (some ⟨b2, 31, none⟩)) (fun _ => by kernel_rfl) ?_
  refine k_skipOp (by kernel_rfl) (d := none) (by kernel_rfl) (run_storeB (ty := 5) (k := .u8) (n := ((n + 128 * 0 : Nat) : Int)) (x := (.tmp 37)) (y := (.tmp 35)) (b := b2) (off := 31) (by kernel_rfl) (by kernel_rfl) (by kernel_rfl) (by kernel_rfl) (hc) (x2.blk2.free _)) trivial ?_
  intro w6 hw6 _
  have hu := upd_byte x2.blk2.drew (k := 1) rfl (i := 15) (o := 31) (by decide) rfl (x' := top 0 p.y.im.val) (top_bytes (s := 0)) (v := .int .u8 ((n + 128 * 0 : Nat) : Int)) (hb 0 (.inl rfl)).symm
  rw [← hw6] at hu
  have x3 := x2.thenB (m := [p.y.re.val, top 0 p.y.im.val]) hu.ofDrew HQ2
  clear hu hw6 x2 hc hb hn
  have wk := w6; clear wk
  generalize w6 = w at x3 ⊢
  refine k_end ?_
  go_simp
  have hm := HM.out.upd2 x3 (by omega) (by have := HG.out; omega)
  have hd := HD.out.upd2 x3 (by have := HG.out; omega) (by have := HG.out; omega)
  have h1 : FpsZ w b1 (flat [v0, v1]) := H1.out.of_heap (x3.other _ H1.out.lt (Ne.symm HQ1) HNE.out)
  have HW := x3.size; have HNW := x3.blk1.lt; have HG6 : 5 ≤ w.heap.size := by omega
  have HGM1 := hm.lt; have HG01 := hd.q.fst.lt; have HB1W := h1.lt; have hg := HG6
  have H0 : Sto w [(nq, flat [0, p.y])] w := Sto.one x3.blk1
  have HX3 := Lib.hid x3; have HH1 := Lib.hid h1
  clear x3 h1
  go_upto_region 8 with (fail)
  refine wp_seq_atS (opsAt Tryd.f72 8) ((true, 0) :: (false, 1) :: (true, 2) :: (false, 3) :: (true, 4) :: (false, 5) :: (true, 6) :: (true, 7) :: (true, 8) :: []) (fun _ => True) (by kernel_rfl) (by kernel_rfl) trivial ?_
  refine k_pure (by kernel_rfl) (d := (some 40)) (by kernel_rfl) (v := .agg #[.int .u8 0, .int .u8 0, .int .u8 0, .int .u8 0, .int .u8 0, .int .u8 0, .int .u8 0, .int .u8 0, .int .u8 0, .int .u8 0, .int .u8 0, .int .u8 0, .int .u8 0, .int .u8 0, .int .u8 0, .int .u8 0, .int .u8 0, .int .u8 0, .int .u8 0, .int .u8 0, .int .u8 0, .int .u8 0, .int .u8 0, .int .u8 0, .int .u8 0, .int .u8 0, .int .u8 0, .int .u8 0, .int .u8 0, .int .u8 0, .int .u8 0, .int .u8 0]) (fun _ => by kernel_rfl) ?_
  refine k_make (by kernel_rfl) (d := (some 41)) (by kernel_rfl) (v := .pointer (some ⟨w.heap.size, 0, none⟩)) (w' := w.alloc (.cells (fps (List.replicate 2 0)) 83)) (by kernel_rfl) trivial ?_
  intro w7 hw7 _
  have hge7 : w.heap.size ≤ w.heap.size := H0.size
  have u7 : Sto w [(nq, flat [0, p.y]), (w.heap.size, flat [0])] w7 := by rw [hw7]; exact H0.new (l := List.replicate 2 0) rfl rfl zeroL rfl
  clear hw7
  have H1 : Sto w [(nq, flat [0, p.y]), (w.heap.size, flat [0])] w7 := u7
  clear u7 H0
  refine k_pure (by kernel_rfl) (d := (some 42)) (by kernel_rfl) (v := .agg #[.int .u8 0, .int .u8 0, .int .u8 0, .int .u8 0, .int .u8 0, .int .u8 0, .int .u8 0, .int .u8 0, .int .u8 0, .int .u8 0, .int .u8 0, .int .u8 0, .int .u8 0, .int .u8 0, .int .u8 0, .int .u8 0, .int .u8 0, .int .u8 0, .int .u8 0, .int .u8 0, .int .u8 0, .int .u8 0, .int .u8 0, .int .u8 0, .int .u8 0, .int .u8 0, .int .u8 0, .int .u8 0, .int .u8 0, .int .u8 0, .int .u8 0, .int .u8 0]) (fun _ => by kernel_rfl) ?_
  refine k_make (by kernel_rfl) (d := (some 43)) (by kernel_rfl) (v := .pointer (some ⟨w7.heap.size, 0, none⟩)) (w' := w7.alloc (.cells (fps (List.replicate 2 0)) 83)) (by kernel_rfl) trivial ?_
  intro w8 hw8 _
  have hge8 : w.heap.size ≤ w7.heap.size := H1.size
  have u8 : Sto w [(nq, flat [0, p.y]), (w.heap.size, flat [0]), (w7.heap.size, flat [0])] w8 := by rw [hw8]; exact H1.new (l := List.replicate 2 0) rfl rfl zeroL rfl
  clear hw8
  have H2 : Sto w [(nq, flat [0, p.y]), (w.heap.size, flat [0]), (w7.heap.size, flat [0])] w8 := u8
  clear u8 H1
  refine k_pure (by kernel_rfl) (d := (some 44)) (by kernel_rfl) (v := .agg #[.int .u8 0, .int .u8 0, .int .u8 0, .int .u8 0, .int .u8 0, .int .u8 0, .int .u8 0, .int .u8 0, .int .u8 0, .int .u8 0, .int .u8 0, .int .u8 0, .int .u8 0, .int .u8 0, .int .u8 0, .int .u8 0, .int .u8 0, .int .u8 0, .int .u8 0, .int .u8 0, .int .u8 0, .int .u8 0, .int .u8 0, .int .u8 0, .int .u8 0, .int .u8 0, .int .u8 0, .int .u8 0, .int .u8 0, .int .u8 0, .int .u8 0, .int .u8 0]) (fun _ => by kernel_rfl) ?_
  refine k_make (by kernel_rfl) (d := (some 45)) (by kernel_rfl) (v := .pointer (some ⟨w8.heap.size, 0, none⟩)) (w' := w8.alloc (.cells (fps (List.replicate 2 0)) 83)) (by kernel_rfl) trivial ?_
  intro w9 hw9 _
  have hge9 : w.heap.size ≤ w8.heap.size := H2.size
  have u9 : Sto w [(nq, flat [0, p.y]), (w.heap.size, flat [0]), (w7.heap.size, flat [0]), (w8.heap.size, flat [0])] w9 := by rw [hw9]; exact H2.new (l := List.replicate 2 0) rfl rfl zeroL rfl
  clear hw9
  have H3 : Sto w [(nq, flat [0, p.y]), (w.heap.size, flat [0]), (w7.heap.size, flat [0]), (w8.heap.size, flat [0])] w9 := u9
  clear u9 H2
  refine k_pure (by kernel_rfl) (d := (some 8)) (by kernel_rfl) (v := .pointer (some ⟨w.heap.size, 0, none⟩)) (fun _ => by kernel_rfl) ?_
  refine k_pure (by kernel_rfl) (d := (some 9)) (by kernel_rfl) (v := .pointer (some ⟨w7.heap.size, 0, none⟩)) (fun _ => by kernel_rfl) ?_
  refine k_pure (by kernel_rfl) (d := (some 10)) (by kernel_rfl) (v := .pointer (some ⟨w8.heap.size, 0, none⟩)) (fun _ => by kernel_rfl) ?_
  refine k_end ?_
  go_simp
  go_upto_region 9 with (fail)
  refine wp_seq_atS (opsAt Tryd.f72 9) ((true, 0) :: (false, 1) :: []) (fun _ => True) (by kernel_rfl) (by kernel_rfl) trivial ?_
  refine k_pure (by kernel_rfl) (d := (some 46)) (by kernel_rfl) (v := .pointer (some ⟨w8.heap.size, 0, none⟩)) (fun _ => by kernel_rfl) ?_
  refine k_callR (by kernel_rfl) (d := (some 47)) (by kernel_rfl) (f := 88) (args := #[.pointer (some ⟨w8.heap.size, 0, none⟩)]) (fun _ => by kernel_rfl) (sqSet1 H3 (i := 3) rfl (k1 := 0) rfl (Nat.lt_of_lt_of_eq (by decide : 0 < 1) rfl)) (fun _ w10 q10 => ⟨.tuple #[], q10.1, trivial, ?_⟩)
  have u10 := q10.2
  clear q10
  have H4 : Sto w [(nq, flat [0, p.y]), (w.heap.size, flat [0]), (w7.heap.size, flat [0]), (w8.heap.size, flat [1])] w10 := u10
  clear u10 H3
  refine k_end ?_
  go_simp
  go_upto_region 10 with (fail)
  refine wp_seq_atS (opsAt Tryd.f72 10) ((true, 0) :: (true, 1) :: (false, 2) :: []) (fun _ => True) (by kernel_rfl) (by kernel_rfl) trivial ?_
  refine k_pure (by kernel_rfl) (d := (some 48)) (by kernel_rfl) (v := .pointer (some ⟨w.heap.size, 0, none⟩)) (fun _ => by kernel_rfl) ?_
  refine k_pure (by kernel_rfl) (d := (some 49)) (by kernel_rfl) (v := .pointer (some ⟨nq, 32, none⟩)) (fun _ => by kernel_rfl) ?_
  refine k_callR (by kernel_rfl) (d := (some 50)) (by kernel_rfl) (f := 89) (args := #[.pointer (some ⟨w.heap.size, 0, none⟩), .pointer (some ⟨nq, 32, none⟩)]) (fun _ => by kernel_rfl) (sqSqr H4 (i := 1) rfl (k1 := 0) rfl (Nat.lt_of_lt_of_eq (by decide : 0 < 1) rfl) (H4.atz 0 1 rfl rfl rfl) (z := (p.y) * (p.y)) rfl) (fun _ w11 q11 => ⟨.tuple #[], q11.1, trivial, ?_⟩)
  have u11 := q11.2
  clear q11
  have H5 : Sto w [(nq, flat [0, p.y]), (w.heap.size, flat [(p.y) * (p.y)]), (w7.heap.size, flat [0]), (w8.heap.size, flat [1])] w11 := u11
  clear u11 H4
  refine k_end ?_
  go_simp
  go_upto_region 11 with (fail)
  refine wp_seq_atS (opsAt Tryd.f72 11) ((false, 0) :: (false, 1) :: (false, 2) :: []) (fun _ => True) (by kernel_rfl) (by kernel_rfl) trivial ?_
  refine k_loadZ (by kernel_rfl) (d := (some 51)) (by kernel_rfl) (ty := 83) (x := (.global 0)) (by kernel_rfl) (b := 0) (o := 0) (z := dd) (by kernel_rfl) ((hd).sto H5 (ksC (by omega) (ksC (by omega) (ksC (by omega) (ksC (by omega) ks0))))) Tryd.underlying83 rfl (by kernel_rfl) trivial (fun x12 y12 lx12 ly12 zx12 zy12 => ?_)
  refine k_make (by kernel_rfl) (d := (some 11)) (by kernel_rfl) (v := .pointer (some ⟨w11.heap.size, 0, none⟩)) (w' := w11.alloc (.cells (fps (List.replicate 2 0)) 83)) (by kernel_rfl) trivial ?_
  intro w13 hw13 _
  have hge13 : w.heap.size ≤ w11.heap.size := H5.size
  have u13 : Sto w [(nq, flat [0, p.y]), (w.heap.size, flat [(p.y) * (p.y)]), (w7.heap.size, flat [0]), (w8.heap.size, flat [1]), (w11.heap.size, flat [0])] w13 := by rw [hw13]; exact H5.new (l := List.replicate 2 0) rfl rfl zeroL rfl
  clear hw13
  have H6 : Sto w [(nq, flat [0, p.y]), (w.heap.size, flat [(p.y) * (p.y)]), (w7.heap.size, flat [0]), (w8.heap.size, flat [1]), (w11.heap.size, flat [0])] w13 := u13
  clear u13 H5
  refine k_storeZ (by kernel_rfl) (d := none) (by kernel_rfl) (ty := 83) (x := (.tmp 11)) (y := (.tmp 51)) (by kernel_rfl) (b := w11.heap.size) (o := 0) (k := 2 * 0) (u := x12) (v := y12) (by kernel_rfl) (by kernel_rfl) (H6.blk 4 _ _ rfl) (k2 rfl) (flat_lt (Nat.lt_of_lt_of_eq (by decide : 0 < 1) rfl)) lx12 ly12 zx12 zy12 (by kernel_rfl) (fun w14 u14 => ⟨trivial, ?_⟩)
  have u14 := H6.upd (i := 4) rfl u14
  rw [flat_set] at u14
  have H7 : Sto w [(nq, flat [0, p.y]), (w.heap.size, flat [(p.y) * (p.y)]), (w7.heap.size, flat [0]), (w8.heap.size, flat [1]), (w11.heap.size, flat [dd])] w14 := u14
  clear u14 H6
  clear zx12 zy12
  refine k_end ?_
  go_simp
  go_upto_region 12 with (fail)
  refine wp_seq_atS (opsAt Tryd.f72 12) ((true, 0) :: (true, 1) :: (false, 2) :: []) (fun _ => True) (by kernel_rfl) (by kernel_rfl) trivial ?_
  refine k_pure (by kernel_rfl) (d := (some 52)) (by kernel_rfl) (v := .pointer (some ⟨w7.heap.size, 0, none⟩)) (fun _ => by kernel_rfl) ?_
  refine k_pure (by kernel_rfl) (d := (some 53)) (by kernel_rfl) (v := .pointer (some ⟨w.heap.size, 0, none⟩)) (fun _ => by kernel_rfl) ?_
  refine k_callR (by kernel_rfl) (d := (some 54)) (by kernel_rfl) (f := 90) (args := #[.pointer (some ⟨w7.heap.size, 0, none⟩), .pointer (some ⟨w.heap.size, 0, none⟩), .pointer (some ⟨w11.heap.size, 0, none⟩)]) (fun _ => by kernel_rfl) (sqMul H7 (i := 2) rfl (k1 := 0) rfl (Nat.lt_of_lt_of_eq (by decide : 0 < 1) rfl) (H7.atz 1 0 rfl rfl rfl) (H7.atz 4 0 rfl rfl rfl) (z := ((p.y) * (p.y)) * dd) rfl) (fun _ w15 q15 => ⟨.tuple #[], q15.1, trivial, ?_⟩)
  have u15 := q15.2
  clear q15
  have H8 : Sto w [(nq, flat [0, p.y]), (w.heap.size, flat [(p.y) * (p.y)]), (w7.heap.size, flat [((p.y) * (p.y)) * dd]), (w8.heap.size, flat [1]), (w11.heap.size, flat [dd])] w15 := u15
  clear u15 H7
  refine k_end ?_
  go_simp
  go_upto_region 13 with (fail)
  refine wp_seq_atS (opsAt Tryd.f72 13) ((true, 0) :: (true, 1) :: (true, 2) :: (false, 3) :: []) (fun _ => True) (by kernel_rfl) (by kernel_rfl) trivial ?_
  refine k_pure (by kernel_rfl) (d := (some 55)) (by kernel_rfl) (v := .pointer (some ⟨w.heap.size, 0, none⟩)) (fun _ => by kernel_rfl) ?_
  refine k_pure (by kernel_rfl) (d := (some 56)) (by kernel_rfl) (v := .pointer (some ⟨w.heap.size, 0, none⟩)) (fun _ => by kernel_rfl) ?_
  refine k_pure (by kernel_rfl) (d := (some 57)) (by kernel_rfl) (v := .pointer (some ⟨w8.heap.size, 0, none⟩)) (fun _ => by kernel_rfl) ?_
  refine k_callR (by kernel_rfl) (d := (some 58)) (by kernel_rfl) (f := 91) (args := #[.pointer (some ⟨w.heap.size, 0, none⟩), .pointer (some ⟨w.heap.size, 0, none⟩), .pointer (some ⟨w8.heap.size, 0, none⟩)]) (fun _ => by kernel_rfl) (sqSub H8 (i := 1) rfl (k1 := 0) rfl (Nat.lt_of_lt_of_eq (by decide : 0 < 1) rfl) (H8.atz 1 0 rfl rfl rfl) (H8.atz 3 0 rfl rfl rfl) (z := ((p.y) * (p.y)) - 1) rfl) (fun _ w16 q16 => ⟨.tuple #[], q16.1, trivial, ?_⟩)
  have u16 := q16.2
  clear q16
  have H9 : Sto w [(nq, flat [0, p.y]), (w.heap.size, flat [((p.y) * (p.y)) - 1]), (w7.heap.size, flat [((p.y) * (p.y)) * dd]), (w8.heap.size, flat [1]), (w11.heap.size, flat [dd])] w16 := u16
  clear u16 H8
  refine k_end ?_
  go_simp
  go_upto_region 14 with (fail)
  refine wp_seq_atS (opsAt Tryd.f72 14) ((true, 0) :: (true, 1) :: (true, 2) :: (false, 3) :: []) (fun _ => True) (by kernel_rfl) (by kernel_rfl) trivial ?_
  refine k_pure (by kernel_rfl) (d := (some 59)) (by kernel_rfl) (v := .pointer (some ⟨w7.heap.size, 0, none⟩)) (fun _ => by kernel_rfl) ?_
  refine k_pure (by kernel_rfl) (d := (some 60)) (by kernel_rfl) (v := .pointer (some ⟨w7.heap.size, 0, none⟩)) (fun _ => by kernel_rfl) ?_
  refine k_pure (by kernel_rfl) (d := (some 61)) (by kernel_rfl) (v := .pointer (some ⟨w8.heap.size, 0, none⟩)) (fun _ => by kernel_rfl) ?_
  refine k_callR (by kernel_rfl) (d := (some 62)) (by kernel_rfl) (f := 92) (args := #[.pointer (some ⟨w7.heap.size, 0, none⟩), .pointer (some ⟨w7.heap.size, 0, none⟩), .pointer (some ⟨w8.heap.size, 0, none⟩)]) (fun _ => by kernel_rfl) (sqAdd H9 (i := 2) rfl (k1 := 0) rfl (Nat.lt_of_lt_of_eq (by decide : 0 < 1) rfl) (H9.atz 2 0 rfl rfl rfl) (H9.atz 3 0 rfl rfl rfl) (z := (((p.y) * (p.y)) * dd) + 1) rfl) (fun _ w17 q17 => ⟨.tuple #[], q17.1, trivial, ?_⟩)
  have u17 := q17.2
  clear q17
  have H10 : Sto w [(nq, flat [0, p.y]), (w.heap.size, flat [((p.y) * (p.y)) - 1]), (w7.heap.size, flat [(((p.y) * (p.y)) * dd) + 1]), (w8.heap.size, flat [1]), (w11.heap.size, flat [dd])] w17 := u17
  clear u17 H9
  refine k_end ?_
  go_simp
  go_upto_region 15 with (fail)
  refine wp_seq_atS (opsAt Tryd.f72 15) ((true, 0) :: (true, 1) :: (true, 2) :: (true, 3) :: (true, 4) :: (true, 5) :: (true, 6) :: (false, 7) :: []) (fun _ => True) (by kernel_rfl) (by kernel_rfl) trivial ?_
  refine k_pure (by kernel_rfl) (d := (some 63)) (by kernel_rfl) (v := .pointer (some ⟨nq, 0, none⟩)) (fun _ => by kernel_rfl) ?_
  refine k_pure (by kernel_rfl) (d := (some 64)) (by kernel_rfl) (v := .pointer (some ⟨w.heap.size, 0, none⟩)) (fun _ => by kernel_rfl) ?_
  refine k_pure (by kernel_rfl) (d := (some 65)) (by kernel_rfl) (v := .pointer (some ⟨w7.heap.size, 0, none⟩)) (fun _ => by kernel_rfl) ?_
  refine k_pure (by kernel_rfl) (d := (some 66)) (by kernel_rfl) (v := .int .u8 0) (fun _ => by kernel_rfl) ?_
  refine k_pure (by kernel_rfl) (d := (some 67)) (by kernel_rfl) (v := .int .i64 0) (fun _ => by kernel_rfl) ?_
  refine k_pure (by kernel_rfl) (d := (some 68)) (by kernel_rfl) (v := .int .i64 0) (fun _ => by kernel_rfl) ?_
  refine k_pure (by kernel_rfl) (d := (some 69)) (by kernel_rfl) (v := .int .i64 1) (fun _ => by kernel_rfl) ?_
  refine k_callR (by kernel_rfl) (d := (some 70)) (by kernel_rfl) (f := 83) (args := #[.pointer (some ⟨nq, 0, none⟩), .pointer (some ⟨w.heap.size, 0, none⟩), .pointer (some ⟨w7.heap.size, 0, none⟩), .int .i64 1]) (fun _ => by kernel_rfl) (sqSqrt HF.out (hm.sto H10 (ksC (Nat.ne_of_gt (by omega)) (ksC (Nat.ne_of_gt (by omega)) (ksC (Nat.ne_of_gt (by omega)) (ksC (Nat.ne_of_gt (by omega)) (ksC (Nat.ne_of_gt (by omega)) ks0)))))) (by omega) H10 (i := 0) rfl (k1 := 0) rfl (Nat.lt_of_lt_of_eq (by decide : 0 < 2) rfl) (H10.atz 1 0 rfl rfl rfl) (H10.atz 2 0 rfl rfl rfl) (H10.ne 1 0 _ _ _ _ rfl rfl (by decide)) (H10.ne 2 0 _ _ _ _ rfl rfl (by decide))) (fun _ w18 q18 => ⟨.tuple #[], q18.1, trivial, ?_⟩)
  have u18 := q18.2
  clear q18
  have H11 : Sto w [(nq, flat [f, p.y]), (w.heap.size, flat [((p.y) * (p.y)) - 1]), (w7.heap.size, flat [(((p.y) * (p.y)) * dd) + 1]), (w8.heap.size, flat [1]), (w11.heap.size, flat [dd])] w18 := u18
  clear u18 H10
  refine k_end ?_
  go_simp
  go_upto_region 16 with (fail)
  refine wp_seq_atS (opsAt Tryd.f72 16) ((false, 0) :: (true, 1) :: []) (fun _ => True) (by kernel_rfl) (by kernel_rfl) trivial ?_
  refine k_callR (by kernel_rfl) (d := (some 71)) (by kernel_rfl) (f := 70) (args := #[.pointer (some ⟨nq, 0, none⟩)]) (fun _ => by kernel_rfl) (goE H11 (onCP1 (hm.sto H11 (ksC (Nat.ne_of_gt (by omega)) (ksC (Nat.ne_of_gt (by omega)) (ksC (Nat.ne_of_gt (by omega)) (ksC (Nat.ne_of_gt (by omega)) (ksC (Nat.ne_of_gt (by omega)) ks0)))))) (Nat.le_trans HG6 H11.size) (hd.sto H11 (ksC (by omega) (ksC (by omega) (ksC (by omega) (ksC (by omega) (ksC (by omega) ks0)))))) (H11.blk 0 _ _ rfl).atL HC.out)) (fun _ w19 q19 => ⟨.bool true, q19.1, trivial, ?_⟩)
  have u19 := q19.2
  clear q19
  have H12 : Sto w [(nq, flat [f, p.y]), (w.heap.size, flat [((p.y) * (p.y)) - 1]), (w7.heap.size, flat [(((p.y) * (p.y)) * dd) + 1]), (w8.heap.size, flat [1]), (w11.heap.size, flat [dd])] w19 := u19
  clear u19 H11
  refine k_pure (by kernel_rfl) (d := (some 72)) (by kernel_rfl) (v := .bool false) (fun _ => by kernel_rfl) ?_
  refine k_end ?_
  go_simp
  go_upto_region 18 with (fail)
  refine wp_seq_atS (opsAt Tryd.f72 18) ((false, 0) :: (true, 1) :: []) (fun _ => True) (by kernel_rfl) (by kernel_rfl) trivial ?_
  refine k_callR (by kernel_rfl) (d := (some 78)) (by kernel_rfl) (f := 70) (args := #[.pointer (some ⟨nq, 0, none⟩)]) (fun _ => by kernel_rfl) (goE H12 (onCP1 (hm.sto H12 (ksC (Nat.ne_of_gt (by omega)) (ksC (Nat.ne_of_gt (by omega)) (ksC (Nat.ne_of_gt (by omega)) (ksC (Nat.ne_of_gt (by omega)) (ksC (Nat.ne_of_gt (by omega)) ks0)))))) (Nat.le_trans HG6 H12.size) (hd.sto H12 (ksC (by omega) (ksC (by omega) (ksC (by omega) (ksC (by omega) (ksC (by omega) ks0)))))) (H12.blk 0 _ _ rfl).atL HC.out)) (fun _ w20 q20 => ⟨.bool true, q20.1, trivial, ?_⟩)
  have u20 := q20.2
  clear q20
  have H13 : Sto w [(nq, flat [f, p.y]), (w.heap.size, flat [((p.y) * (p.y)) - 1]), (w7.heap.size, flat [(((p.y) * (p.y)) * dd) + 1]), (w8.heap.size, flat [1]), (w11.heap.size, flat [dd])] w20 := u20
  clear u20 H12
  refine k_pure (by kernel_rfl) (d := (some 79)) (by kernel_rfl) (v := .bool false) (fun _ => by kernel_rfl) ?_
  refine k_end ?_
  go_simp
  go_upto_region 20 with (fail)
  obtain ⟨l, ⟨TL, hTL⟩, hml, hll⟩ := H13.blk 0 _ _ rfl
  obtain ⟨a, b, c, d, rfl, -, -, -, -⟩ := four_list hml
  obtain ⟨l1, ⟨TB, hTB⟩, hm1, -⟩ := HH1.out.of_heap (H13.other _ HH1.out.lt (ksC (by omega) (ksC (by omega) (ksC (by omega) (ksC (by omega) (ksC (by omega) ks0))))))
  obtain ⟨a1, c1, d1, e1, rfl, -, -, -, -⟩ := four_list hm1
  have HS := Lib.hid H13; clear H13
  refine wp_seq_atS (opsAt Tryd.f72 20) ((true, 0) :: (false, 1) :: (true, 2) :: (false, 3) :: []) (fun _ => True) (by kernel_rfl) (by kernel_rfl) trivial ?_
  refine k_pure (by kernel_rfl) (d := (some 80)) (by kernel_rfl) (v := .pointer (some ⟨b1, 0, none⟩)) (fun _ => by kernel_rfl) ?_
  refine k_make (by kernel_rfl) (d := (some 81)) (by kernel_rfl) (v := .agg (fps [a, b, c, d])) (run_loadRow (ty := 85) (x := .tmp 5) (b := nq) (by kernel_rfl) (by kernel_rfl) hTL Tryd.underlying85 rfl (by kernel_rfl)) trivial ?_
  intro wz hwz _
  subst hwz
  refine k_pure (by kernel_rfl) (d := (some 82)) (by kernel_rfl) (v := .pointer (some ⟨b1, 0, none⟩)) (fun _ => by kernel_rfl) ?_
  refine k_put (by kernel_rfl) (d := none) (by kernel_rfl) (ty := 85) (x := .tmp 82) (y := .tmp 81) (by kernel_rfl) (g := b1) (cells := fps [a, b, c, d]) (by kernel_rfl) (by kernel_rfl) hTB (by kernel_rfl) (by kernel_rfl) (all_fps _) trivial ?_
  intro wy hwy _
  have hu := upd_setRow (m := [a, b, c, d]) hTB
  rw [← hwy] at hu
  clear hwy
  have HY := Lib.hid ((HX3.out.thenZ (HS.out.end1 (tsC (by omega) (tsC (by omega) (tsC (by omega) (tsC (by omega) ts0))))) HQ2).last hu (Nat.le_of_eq HNQ.out) hml hll (Ne.symm HNE.out))
  clear hTL hml hll hTB hm1 hu HS
  refine k_end ?_
  go_simp
  go_wp2_with fail
  exact bodyPost_ret_by (by kernel_rfl) (by kernel_rfl) ⟨rfl, HY.out⟩
set_option maxRecDepth 100000 in
set_option maxHeartbeats 1000000 in
theorem unm01 {wa : World} {b1 b2 : Nat} {v0 v1 f : Zq} {p : Pt} (hf : SqV (p.y * p.y - 1) (p.y * p.y * dd + 1) 1 f) (hc : ¬ OnC f p.y ∧ OnC (conj f) p.y) (hm : ModW wa) (hg : 5 ≤ b1 ∧ 5 ≤ b2 ∧ 5 ≤ wa.heap.size) (hd : AtZ wa 0 0 dd) (h1 : FpsZ wa b1 (flat [v0, v1])) (h2 : Fps wa b2 [p.y.re.val, top 0 p.y.im.val]) (hne : b1 ≠ b2) :
    Calls Tryd.prog 72 #[.pointer (some ⟨b1, 0, none⟩), .pointer (some ⟨b2, 0, none⟩)] wa fun e w' => e = .returned (.bool true) ∧ Upd2 wa w' b1 (flat [conj f, p.y]) b2 [p.y.re.val, top 0 p.y.im.val] := by
  have HM := Lib.hid hm
  have HD := Lib.hid hd
  have H1 := Lib.hid h1
  have H2 := Lib.hid h2
  have HNE := Lib.hid hne
  have HG := Lib.hid hg
  have HF := Lib.hid hf
  have HC := Lib.hid hc
  have HB2 := h2.lt; have HB1 := h1.lt; have HGM := hm.lt; have HG0 := hd.q.fst.lt
  clear hm hd h1 h2 hne hg hf hc
  go_enter Tryd.func72, Tryd.ntmps72
  go_upto_region 2 with (fail)
  refine wp_gen (fun WW => Upd2 wa WW wa.heap.size (flat [0, 0]) b2 [p.y.re.val, top 0 p.y.im.val]) ⟨rfl, rfl, rfl, by simp, ⟨[0, 0, 0, 0], Fps.new _ _ _ _ _ rfl (by kernel_rfl), rfl, zero4⟩, H2.out.alloc _, fun k hk _ _ => Below.heap_alloc _ _ _ hk⟩ ?_
  intro W0 x0
  obtain ⟨nq, hnq⟩ : ∃ nq, wa.heap.size = nq := ⟨_, rfl⟩
  rw [hnq] at x0 ⊢
  have HNQ : Hid (wa.heap.size = nq) := Lib.hid hnq
  have HQ2 : nq ≠ b2 := by omega
  have HQ1 : nq ≠ b1 := by omega
  have HQ5 : 5 ≤ nq := by have := HG.out; omega
  clear hnq
  obtain ⟨n, hn, hb⟩ := top_15 (low_valZ p.y.im)
  have hc := x0.blk2.cell (k := 1) rfl (o := 16) rfl 15 (by decide)
  rw [hb 0 (.inl rfl)] at hc
  refine wp_seq_atS (opsAt Tryd.f72 2) ((true, 0) :: (true, 1) :: (true, 2) :: (false, 3) :: (true, 4) :: (true, 5) :: []) (fun _ => True) (by kernel_rfl) (by kernel_rfl) trivial ?_
  refine k_pure (by kernel_rfl) (d := (some 12)) (by kernel_rfl) (v := .pointer (some ⟨b2, 0, none⟩)) (fun _ => by kernel_rfl) ?_
  refine k_pure (by kernel_rfl) (d := (some 13)) (by kernel_rfl) (v := .pointer (some ⟨b2, 0, none⟩)) (fun _ => by kernel_rfl) ?_
  refine k_pure (by kernel_rfl) (d := (some 14)) (by kernel_rfl) (v := .pointer (some ⟨b2, 31, none⟩)) (fun _ => by kernel_rfl) ?_
  refine k_make (by kernel_rfl) (d := (some 15)) (by kernel_rfl) (v := .int .u8 ((n + 128 * 0 : Nat) : Int)) (run_loadB (ty := 5) (x := (.tmp 14)) (b := b2) (off := 31) (by kernel_rfl) (by kernel_rfl) Tryd.underlying5 (hc)) trivial ?_
  intro w1 hw1 _
  subst hw1
  refine k_pure (by kernel_rfl) (d := (some 16)) (by kernel_rfl) (v := .int .u8 0) (fun _ => run_binOpV (op := .shr) (x := .tmp 15) (y := .const (.int .u64 7)) (t := 5) (t' := 117) (by kernel_rfl) (by kernel_rfl) (by kernel_rfl) rfl (shr7 hn)) ?_
  refine k_pure (by kernel_rfl) (d := (some 6)) (by kernel_rfl) (v := .int .u8 0) (fun _ => by kernel_rfl) ?_
  refine k_end ?_
  go_simp
  go_upto_region 3 with (fail)
  refine wp_region_atS (opsAt Tryd.f72 3) ((true, 0) :: (true, 1) :: (true, 2) :: (true, 5) :: (false, 3) :: (true, 4) :: (true, 6) :: (false, 7) :: []) (fun _ => True) (by kernel_rfl) rfl (by kernel_rfl) (fun _ _ d _ _ h => by cases d <;> exact h) (by kernel_rfl) (by kernel_rfl) trivial ?_
  refine k_pure (by kernel_rfl) (d := (some 17)) (by kernel_rfl) (v := .pointer (some ⟨b2, 0, none⟩)) (fun _ => by kernel_rfl) ?_
  refine k_pure (by kernel_rfl) (d := (some 18)) (by kernel_rfl) (v := .pointer (some ⟨b2, 0, none⟩)) (fun _ => by kernel_rfl) ?_
  refine k_pure (by kernel_rfl) (d := (some 19)) (by kernel_rfl) (v := .pointer (some ⟨b2, 31, none⟩)) (fun _ => by kernel_rfl) ?_
  refine k_pure (by kernel_rfl) (d := (some 22)) (by kernel_rfl) (v := .pointer (some ⟨b2, 0, none⟩)) (fun _ => by kernel_rfl) ?_
  refine k_make (by kernel_rfl) (d := (some 20)) (by kernel_rfl) (v := .int .u8 ((n + 128 * 0 : Nat) : Int)) (run_loadB (ty := 5) (x := (.tmp 19)) (b := b2) (off := 31) (by kernel_rfl) (by kernel_rfl) Tryd.underlying5 (hc)) trivial ?_
  intro w2 hw2 _
  subst hw2
  refine k_pure (by kernel_rfl) (d := (some 21)) (by kernel_rfl) (v := .int .u8 ((n + 128 * 0 : Nat) : Int)) (fun _ => run_binOpV (op := .and) (x := .tmp 20) (y := .const (.int .u8 127)) (t := 5) (t' := 5) (by kernel_rfl) (by kernel_rfl) (by kernel_rfl) rfl (and7 hn (.inl rfl))) ?_
  refine k_pure (by kernel_rfl) (d := (some 23)) (by kernel_rfl) (v := .pointer (some ⟨b2, 31, none⟩)) (fun _ => by kernel_rfl) ?_
  refine k_skipOp (by kernel_rfl) (d := none) (by kernel_rfl) (run_storeB (ty := 5) (k := .u8) (n := ((n + 128 * 0 : Nat) : Int)) (x := (.tmp 23)) (y := (.tmp 21)) (b := b2) (off := 31) (by kernel_rfl) (by kernel_rfl) (by kernel_rfl) (by kernel_rfl) (hc) (x0.blk2.free _)) trivial ?_
  intro w3 hw3 _
  have hu := upd_byte x0.blk2.drew (k := 1) rfl (i := 15) (o := 31) (by decide) rfl (x' := top 0 p.y.im.val) (top_bytes (s := 0)) (v := .int .u8 ((n + 128 * 0 : Nat) : Int)) (hb 0 (.inl rfl)).symm
  rw [← hw3] at hu
  have x1 := x0.thenB (m := [p.y.re.val, top 0 p.y.im.val]) hu.ofDrew HQ2
  clear hu hw3 x0 hc
  refine k_end ?_
  go_simp
  go_upto_region 4 with (fail)
  refine wp_seq_atS (opsAt Tryd.f72 4) ((true, 0) :: (true, 1) :: (true, 2) :: (true, 3) :: (false, 4) :: (true, 5) :: []) (fun _ => True) (by kernel_rfl) (by kernel_rfl) trivial ?_
  refine k_pure (by kernel_rfl) (d := (some 24)) (by kernel_rfl) (v := .pointer (some ⟨nq, 32, none⟩)) (fun _ => by kernel_rfl) ?_
  refine k_pure (by kernel_rfl) (d := (some 25)) (by kernel_rfl) (v := .pointer (some ⟨b2, 0, none⟩)) (fun _ => by kernel_rfl) ?_
  refine k_pure (by kernel_rfl) (d := (some 26)) (by kernel_rfl) (v := .pointer (some ⟨b2, 0, none⟩)) (fun _ => by kernel_rfl) ?_
  refine k_pure (by kernel_rfl) (d := (some 27)) (by kernel_rfl) (v := .slice (some ⟨b2, 0, none⟩) 32 32) (fun _ => by kernel_rfl) ?_
  refine k_callR (by kernel_rfl) (d := (some 28)) (by kernel_rfl) (f := 87) (args := #[.pointer (some ⟨nq, 32, none⟩), .slice (some ⟨b2, 0, none⟩) 32 32]) (fun _ => by kernel_rfl) (fqFromBytes (HM.out.upd2 x1 (by omega) (by have := HG.out; omega)) (by omega) x1.blk1 (o1 := 32) (k1 := 2) rfl (by show 2 + 1 < 4; decide) x1.blk2 HQ2 (low_valZ p.y.re) (low_valZ p.y.im)) (fun _ w4 ⟨he4, u4⟩ => ⟨_, he4, trivial, ?_⟩)
  rw [zp_val, top0, zp_val] at u4
  have x2 := x1.thenZ (M := flat [0, p.y]) u4 HQ2
  clear u4 he4 x1
  have hc := x2.blk2.cell (k := 1) rfl (o := 16) rfl 15 (by decide)
  rw [hb 0 (.inl rfl)] at hc
  refine k_pure (by kernel_rfl) (d := (some 7)) (by kernel_rfl) (v := .bool true) (fun _ => by kernel_rfl) ?_
  refine k_end ?_
  go_simp
  go_upto_region 5 with (fail)
  refine wp_region_atS (opsAt Tryd.f72 5) ((true, 0) :: (true, 1) :: (true, 2) :: (true, 4) :: (true, 5) :: (true, 7) :: (false, 3) :: (true, 6) :: (true, 8) :: (false, 9) :: []) (fun _ => True) (by kernel_rfl) rfl (by kernel_rfl) (fun _ _ d _ _ h => by cases d <;> exact h) (by kernel_rfl) (by kernel_rfl) trivial ?_
  refine k_pure (by kernel_rfl) (d := (some 29)) (by kernel_rfl) (v := .pointer (some ⟨b2, 0, none⟩)) (fun _ => by kernel_rfl) ?_
  refine k_pure (by kernel_rfl) (d := (some 30)) (by kernel_rfl) (v := .pointer (some ⟨b2, 0, none⟩)) (fun _ => by kernel_rfl) ?_
  refine k_pure (by kernel_rfl) (d := (some 31)) (by kernel_rfl) (v := .pointer (some ⟨b2, 31, none⟩)) (fun _ => by kernel_rfl) ?_
  refine k_pure (by kernel_rfl) (d := (some 33)) (by kernel_rfl) (v := .int .u8 0) (fun _ => by kernel_rfl) ?_
  refine k_pure (by kernel_rfl) (d := (some 34)) (by kernel_rfl) (v := .int .u8 0) (fun _ => by kernel_rfl) ?_
  refine k_pure (by kernel_rfl) (d := (some 36)) (by kernel_rfl) (v := .pointer (some ⟨b2, 0, none⟩)) (fun _ => by kernel_rfl) ?_
  refine k_make (by kernel_rfl) (d := (some 32)) (by kernel_rfl) (v := .int .u8 ((n + 128 * 0 : Nat) : Int)) (run_loadB (ty := 5) (x := (.tmp 31)) (b := b2) (off := 31) (by kernel_rfl) (by kernel_rfl) Tryd.underlying5 (hc)) trivial ?_
  intro w5 hw5 _
  subst hw5
  refine k_pure (by kernel_rfl) (d := (some 35)) (by kernel_rfl) (v := .int .u8 ((n + 128 * 0 : Nat) : Int)) (fun _ => run_binOpV (op := .or) (x := .tmp 32) (y := .tmp 34) (t := 5) (t' := 5) (by kernel_rfl) (by kernel_rfl) (by kernel_rfl) rfl (or7z hn)) ?_
  refine k_pure (by kernel_rfl) (d := (some 37)) (by kernel_rfl) (v := .pointer (some ⟨b2, 31, none⟩)) (fun _ => by kernel_rfl) ?_
  refine k_skipOp (by kernel_rfl) (d := none) (by kernel_rfl) (run_storeB (ty := 5) (k := .u8) (n := ((n + 128 * 0 : Nat) : Int)) (x := (.tmp 37)) (y := (.tmp 35)) (b := b2) (off := 31) (by kernel_rfl) (by kernel_rfl) (by kernel_rfl) (by kernel_rfl) (hc) (x2.blk2.free _)) trivial ?_
  intro w6 hw6 _
  have hu := upd_byte x2.blk2.drew (k := 1) rfl (i := 15) (o := 31) (by decide) rfl (x' := top 0 p.y.im.val) (top_bytes (s := 0)) (v := .int .u8 ((n + 128 * 0 : Nat) : Int)) (hb 0 (.inl rfl)).symm
  rw [← hw6] at hu
  have x3 := x2.thenB (m := [p.y.re.val, top 0 p.y.im.val]) hu.ofDrew HQ2
  clear hu hw6 x2 hc hb hn
  have wk := w6; clear wk
  generalize w6 = w at x3 ⊢
  refine k_end ?_
  go_simp
  have hm := HM.out.upd2 x3 (by omega) (by have := HG.out; omega)
  have hd := HD.out.upd2 x3 (by have := HG.out; omega) (by have := HG.out; omega)
  have h1 : FpsZ w b1 (flat [v0, v1]) := H1.out.of_heap (x3.other _ H1.out.lt (Ne.symm HQ1) HNE.out)
  have HW := x3.size; have HNW := x3.blk1.lt; have HG6 : 5 ≤ w.heap.size := by omega
  have HGM1 := hm.lt; have HG01 := hd.q.fst.lt; have HB1W := h1.lt; have hg := HG6
  have H0 : Sto w [(nq, flat [0, p.y])] w := Sto.one x3.blk1
  have HX3 := Lib.hid x3; have HH1 := Lib.hid h1
  clear x3 h1
  go_upto_region 8 with (fail)
  refine wp_seq_atS (opsAt Tryd.f72 8) ((true, 0) :: (false, 1) :: (true, 2) :: (false, 3) :: (true, 4) :: (false, 5) :: (true, 6) :: (true, 7) :: (true, 8) :: []) (fun _ => True) (by kernel_rfl) (by kernel_rfl) trivial ?_
  refine k_pure (by kernel_rfl) (d := (some 40)) (by kernel_rfl) (v := .agg #[.int .u8 0, .int .u8 0, .int .u8 0, .int .u8 0, .int .u8 0, .int .u8 0, .int .u8 0, .int .u8 0, .int .u8 0, .int .u8 0, .int .u8 0, .int .u8 0, .int .u8 0, .int .u8 0, .int .u8 0, .int .u8 0, .int .u8 0, .int .u8 0, .int .u8 0, .int .u8 0, .int .u8 0, .int .u8 0, .int .u8 0, .int .u8 0, .int .u8 0, .int .u8 0, .int .u8 0, .int .u8 0, .int .u8 0, .int .u8 0, .int .u8 0, .int .u8 0]) (fun _ => by kernel_rfl) ?_
  refine k_make (by kernel_rfl) (d := (some 41)) (by kernel_rfl) (v := .pointer (some ⟨w.heap.size, 0, none⟩)) (w' := w.alloc (.cells (fps (List.replicate 2 0)) 83)) (by kernel_rfl) trivial ?_
  intro w7 hw7 _
  have hge7 : w.heap.size ≤ w.heap.size := H0.size
  have u7 : Sto w [(nq, flat [0, p.y]), (w.heap.size, flat [0])] w7 := by rw [hw7]; exact H0.new (l := List.replicate 2 0) rfl rfl zeroL rfl
  clear hw7
  have H1 : Sto w [(nq, flat [0, p.y]), (w.heap.size, flat [0])] w7 := u7
  clear u7 H0
  refine k_pure (by kernel_rfl) (d := (some 42)) (by kernel_rfl) (v := .agg #[.int .u8 0, .int .u8 0, .int .u8 0, .int .u8 0, .int .u8 0, .int .u8 0, .int .u8 0, .int .u8 0, .int .u8 0, .int .u8 0, .int .u8 0, .int .u8 0, .int .u8 0, .int .u8 0, .int .u8 0, .int .u8 0, .int .u8 0, .int .u8 0, .int .u8 0, .int .u8 0, .int .u8 0, .int .u8 0, .int .u8 0, .int .u8 0, .int .u8 0, .int .u8 0, .int .u8 0, .int .u8 0, .int .u8 0, .int .u8 0, .int .u8 0, .int .u8 0]) (fun _ => by kernel_rfl) ?_
  refine k_make (by kernel_rfl) (d := (some 43)) (by kernel_rfl) (v := .pointer (some ⟨w7.heap.size, 0, none⟩)) (w' := w7.alloc (.cells (fps (List.replicate 2 0)) 83)) (by kernel_rfl) trivial ?_
  intro w8 hw8 _
  have hge8 : w.heap.size ≤ w7.heap.size := H1.size
  have u8 : Sto w [(nq, flat [0, p.y]), (w.heap.size, flat [0]), (w7.heap.size, flat [0])] w8 := by rw [hw8]; exact H1.new (l := List.replicate 2 0) rfl rfl zeroL rfl
  clear hw8
  have H2 : Sto w [(nq, flat [0, p.y]), (w.heap.size, flat [0]), (w7.heap.size, flat [0])] w8 := u8
  clear u8 H1
  refine k_pure (by kernel_rfl) (d := (some 44)) (by kernel_rfl) (v := .agg #[.int .u8 0, .int .u8 0, .int .u8 0, .int .u8 0, .int .u8 0, .int .u8 0, .int .u8 0, .int .u8 0, .int .u8 0, .int .u8 0, .int .u8 0, .int .u8 0, .int .u8 0, .int .u8 0, .int .u8 0, .int .u8 0, .int .u8 0, .int .u8 0, .int .u8 0, .int .u8 0, .int .u8 0, .int .u8 0, .int .u8 0, .int .u8 0, .int .u8 0, .int .u8 0, .int .u8 0, .int .u8 0, .int .u8 0, .int .u8 0, .int .u8 0, .int .u8 0]) (fun _ => by kernel_rfl) ?_
  refine k_make (by kernel_rfl) (d := (some 45)) (by kernel_rfl) (v := .pointer (some ⟨w8.heap.size, 0, none⟩)) (w' := w8.alloc (.cells (fps (List.replicate 2 0)) 83)) (by kernel_rfl) trivial ?_
  intro w9 hw9 _
  have hge9 : w.heap.size ≤ w8.heap.size := H2.size
  have u9 : Sto w [(nq, flat [0, p.y]), (w.heap.size, flat [0]), (w7.heap.size, flat [0]), (w8.heap.size, flat [0])] w9 := by rw [hw9]; exact H2.new (l := List.replicate 2 0) rfl rfl zeroL rfl
  clear hw9
  have H3 : Sto w [(nq, flat [0, p.y]), (w.heap.size, flat [0]), (w7.heap.size, flat [0]), (w8.heap.size, flat [0])] w9 := u9
  clear u9 H2
  refine k_pure (by kernel_rfl) (d := (some 8)) (by kernel_rfl) (v := .pointer (some ⟨w.heap.size, 0, none⟩)) (fun _ => by kernel_rfl) ?_
  refine k_pure (by kernel_rfl) (d := (some 9)) (by kernel_rfl) (v := .pointer (some ⟨w7.heap.size, 0, none⟩)) (fun _ => by kernel_rfl) ?_
  refine k_pure (by kernel_rfl) (d := (some 10)) (by kernel_rfl) (v := .pointer (some ⟨w8.heap.size, 0, none⟩)) (fun _ => by kernel_rfl) ?_
  refine k_end ?_
  go_simp
  go_upto_region 9 with (fail)
  refine wp_seq_atS (opsAt Tryd.f72 9) ((true, 0) :: (false, 1) :: []) (fun _ => True) (by kernel_rfl) (by kernel_rfl) trivial ?_
  refine k_pure (by kernel_rfl) (d := (some 46)) (by kernel_rfl) (v := .pointer (some ⟨w8.heap.size, 0, none⟩)) (fun _ => by kernel_rfl) ?_
  refine k_callR (by kernel_rfl) (d := (some 47)) (by kernel_rfl) (f := 88) (args := #[.pointer (some ⟨w8.heap.size, 0, none⟩)]) (fun _ => by kernel_rfl) (sqSet1 H3 (i := 3) rfl (k1 := 0) rfl (Nat.lt_of_lt_of_eq (by decide : 0 < 1) rfl)) (fun _ w10 q10 => ⟨.tuple #[], q10.1, trivial, ?_⟩)
  have u10 := q10.2
  clear q10
  have H4 : Sto w [(nq, flat [0, p.y]), (w.heap.size, flat [0]), (w7.heap.size, flat [0]), (w8.heap.size, flat [1])] w10 := u10
  clear u10 H3
  refine k_end ?_
  go_simp
  go_upto_region 10 with (fail)
  refine wp_seq_atS (opsAt Tryd.f72 10) ((true, 0) :: (true, 1) :: (false, 2) :: []) (fun _ => True) (by kernel_rfl) (by kernel_rfl) trivial ?_
  refine k_pure (by kernel_rfl) (d := (some 48)) (by kernel_rfl) (v := .pointer (some ⟨w.heap.size, 0, none⟩)) (fun _ => by kernel_rfl) ?_
  refine k_pure (by kernel_rfl) (d := (some 49)) (by kernel_rfl) (v := .pointer (some ⟨nq, 32, none⟩)) (fun _ => by kernel_rfl) ?_
  refine k_callR (by kernel_rfl) (d := (some 50)) (by kernel_rfl) (f := 89) (args := #[.pointer (some ⟨w.heap.size, 0, none⟩), .pointer (some ⟨nq, 32, none⟩)]) (fun _ => by kernel_rfl) (sqSqr H4 (i := 1) rfl (k1 := 0) rfl (Nat.lt_of_lt_of_eq (by decide : 0 < 1) rfl) (H4.atz 0 1 rfl rfl rfl) (z := (p.y) * (p.y)) rfl) (fun _ w11 q11 => ⟨.tuple #[], q11.1, trivial, ?_⟩)
  have u11 := q11.2
  clear q11
  have H5 : Sto w [(nq, flat [0, p.y]), (w.heap.size, flat [(p.y) * (p.y)]), (w7.heap.size, flat [0]), (w8.heap.size, flat [1])] w11 := u11
  clear u11 H4
  refine k_end ?_
  go_simp
  go_upto_region 11 with (fail)
  refine wp_seq_atS (opsAt Tryd.f72 11) ((false, 0) :: (false, 1) :: (false, 2) :: []) (fun _ => True) (by kernel_rfl) (by kernel_rfl) trivial ?_
  refine k_loadZ (by kernel_rfl) (d := (some 51)) (by kernel_rfl) (ty := 83) (x := (.global 0)) (by kernel_rfl) (b := 0) (o := 0) (z := dd) (by kernel_rfl) ((hd).sto H5 (ksC (by omega) (ksC (by omega) (ksC (by omega) (ksC (by omega) ks0))))) Tryd.underlying83 rfl (by kernel_rfl) trivial (fun x12 y12 lx12 ly12 zx12 zy12 => ?_)
  refine k_make (by kernel_rfl) (d := (some 11)) (by kernel_rfl) (v := .pointer (some ⟨w11.heap.size, 0, none⟩)) (w' := w11.alloc (.cells (fps (List.replicate 2 0)) 83)) (by kernel_rfl) trivial ?_
  intro w13 hw13 _
  have hge13 : w.heap.size ≤ w11.heap.size := H5.size
  have u13 : Sto w [(nq, flat [0, p.y]), (w.heap.size, flat [(p.y) * (p.y)]), (w7.heap.size, flat [0]), (w8.heap.size, flat [1]), (w11.heap.size, flat [0])] w13 := by rw [hw13]; exact H5.new (l := List.replicate 2 0) rfl rfl zeroL rfl
  clear hw13
  have H6 : Sto w [(nq, flat [0, p.y]), (w.heap.size, flat [(p.y) * (p.y)]), (w7.heap.size, flat [0]), (w8.heap.size, flat [1]), (w11.heap.size, flat [0])] w13 := u13
  clear u13 H5
  refine k_storeZ (by kernel_rfl) (d := none) (by kernel_rfl) (ty := 83) (x := (.tmp 11)) (y := (.tmp 51)) (by kernel_rfl) (b := w11.heap.size) (o := 0) (k := 2 * 0) (u := x12) (v := y12) (by kernel_rfl) (by kernel_rfl) (H6.blk 4 _ _ rfl) (k2 rfl) (flat_lt (Nat.lt_of_lt_of_eq (by decide : 0 < 1) rfl)) lx12 ly12 zx12 zy12 (by kernel_rfl) (fun w14 u14 => ⟨trivial, ?_⟩)
  have u14 := H6.upd (i := 4) rfl u14
  rw [flat_set] at u14
  have H7 : Sto w [(nq, flat [0, p.y]), (w.heap.size, flat [(p.y) * (p.y)]), (w7.heap.size, flat [0]), (w8.heap.size, flat [1]), (w11.heap.size, flat [dd])] w14 := u14
  clear u14 H6
  clear zx12 zy12
  refine k_end ?_
  go_simp
  go_upto_region 12 with (fail)
  refine wp_seq_atS (opsAt Tryd.f72 12) ((true, 0) :: (true, 1) :: (false, 2) :: []) (fun _ => True) (by kernel_rfl) (by kernel_rfl) trivial ?_
  refine k_pure (by kernel_rfl) (d := (some 52)) (by kernel_rfl) (v := .pointer (some ⟨w7.heap.size, 0, none⟩)) (fun _ => by kernel_rfl) ?_
  refine k_pure (by kernel_rfl) (d := (some 53)) (by kernel_rfl) (v := .pointer (some ⟨w.heap.size, 0, none⟩)) (fun _ => by kernel_rfl) ?_
  refine k_callR (by kernel_rfl) (d := (some 54)) (by kernel_rfl) (f := 90) (args := #[.pointer (some ⟨w7.heap.size, 0, none⟩), .pointer (some ⟨w.heap.size, 0, none⟩), .pointer (some ⟨w11.heap.size, 0, none⟩)]) (fun _ => by kernel_rfl) (sqMul H7 (i := 2) rfl (k1 := 0) rfl (Nat.lt_of_lt_of_eq (by decide : 0 < 1) rfl) (H7.atz 1 0 rfl rfl rfl) (H7.atz 4 0 rfl rfl rfl) (z := ((p.y) * (p.y)) * dd) rfl) (fun _ w15 q15 => ⟨.tuple #[], q15.1, trivial, ?_⟩)
  have u15 := q15.2
  clear q15
  have H8 : Sto w [(nq, flat [0, p.y]), (w.heap.size, flat [(p.y) * (p.y)]), (w7.heap.size, flat [((p.y) * (p.y)) * dd]), (w8.heap.size, flat [1]), (w11.heap.size, flat [dd])] w15 := u15
  clear u15 H7
  refine k_end ?_
  go_simp
  go_upto_region 13 with (fail)
  refine wp_seq_atS (opsAt Tryd.f72 13) ((true, 0) :: (true, 1) :: (true, 2) :: (false, 3) :: []) (fun _ => True) (by kernel_rfl) (by kernel_rfl) trivial ?_
  refine k_pure (by kernel_rfl) (d := (some 55)) (by kernel_rfl) (v := .pointer (some ⟨w.heap.size, 0, none⟩)) (fun _ => by kernel_rfl) ?_
  refine k_pure (by kernel_rfl) (d := (some 56)) (by kernel_rfl) (v := .pointer (some ⟨w.heap.size, 0, none⟩)) (fun _ => by kernel_rfl) ?_
  refine k_pure (by kernel_rfl) (d := (some 57)) (by kernel_rfl) (v := .pointer (some ⟨w8.heap.size, 0, none⟩)) (fun _ => by kernel_rfl) ?_
  refine k_callR (by kernel_rfl) (d := (some 58)) (by kernel_rfl) (f := 91) (args := #[.pointer (some ⟨w.heap.size, 0, none⟩), .pointer (some ⟨w.heap.size, 0, none⟩), .pointer (some ⟨w8.heap.size, 0, none⟩)]) (fun _ => by kernel_rfl) (sqSub H8 (i := 1) rfl (k1 := 0) rfl (Nat.lt_of_lt_of_eq (by decide : 0 < 1) rfl) (H8.atz 1 0 rfl rfl rfl) (H8.atz 3 0 rfl rfl rfl) (z := ((p.y) * (p.y)) - 1) rfl) (fun _ w16 q16 => ⟨.tuple #[], q16.1, trivial, ?_⟩)
  have u16 := q16.2
  clear q16
  have H9 : Sto w [(nq, flat [0, p.y]), (w.heap.size, flat [((p.y) * (p.y)) - 1]), (w7.heap.size, flat [((p.y) * (p.y)) * dd]), (w8.heap.size, flat [1]), (w11.heap.size, flat [dd])] w16 := u16
  clear u16 H8
  refine k_end ?_
  go_simp
  go_upto_region 14 with (fail)
  refine wp_seq_atS (opsAt Tryd.f72 14) ((true, 0) :: (true, 1) :: (true, 2) :: (false, 3) :: []) (fun _ => True) (by kernel_rfl) (by kernel_rfl) trivial ?_
  refine k_pure (by kernel_rfl) (d := (some 59)) (by kernel_rfl) (v := .pointer (some ⟨w7.heap.size, 0, none⟩)) (fun _ => by kernel_rfl) ?_
  refine k_pure (by kernel_rfl) (d := (some 60)) (by kernel_rfl) (v := .pointer (some ⟨w7.heap.size, 0, none⟩)) (fun _ => by kernel_rfl) ?_
  refine k_pure (by kernel_rfl) (d := (some 61)) (by kernel_rfl) (v := .pointer (some ⟨w8.heap.size, 0, none⟩)) (fun _ => by kernel_rfl) ?_
  refine k_callR (by kernel_rfl) (d := (some 62)) (by kernel_rfl) (f := 92) (args := #[.pointer (some ⟨w7.heap.size, 0, none⟩), .pointer (some ⟨w7.heap.size, 0, none⟩), .pointer (some ⟨w8.heap.size, 0, none⟩)]) (fun _ => by kernel_rfl) (sqAdd H9 (i := 2) rfl (k1 := 0) rfl (Nat.lt_of_lt_of_eq (by decide : 0 < 1) rfl) (H9.atz 2 0 rfl rfl rfl) (H9.atz 3 0 rfl rfl rfl) (z := (((p.y) * (p.y)) * dd) + 1) rfl) (fun _ w17 q17 => ⟨.tuple #[], q17.1, trivial, ?_⟩)
  have u17 := q17.2
  clear q17
  have H10 : Sto w [(nq, flat [0, p.y]), (w.heap.size, flat [((p.y) * (p.y)) - 1]), (w7.heap.size, flat [(((p.y) * (p.y)) * dd) + 1]), (w8.heap.size, flat [1]), (w11.heap.size, flat [dd])] w17 := u17
  clear u17 H9
  refine k_end ?_
  go_simp
  go_upto_region 15 with (fail)
  refine wp_seq_atS (opsAt Tryd.f72 15) ((true, 0) :: (true, 1) :: (true, 2) :: (true, 3) :: (true, 4) :: (true, 5) :: (true, 6) :: (false, 7) :: []) (fun _ => True) (by kernel_rfl) (by kernel_rfl) trivial ?_
  refine k_pure (by kernel_rfl) (d := (some 63)) (by kernel_rfl) (v := .pointer (some ⟨nq, 0, none⟩)) (fun _ => by kernel_rfl) ?_
  refine k_pure (by kernel_rfl) (d := (some 64)) (by kernel_rfl) (v := .pointer (some ⟨w.heap.size, 0, none⟩)) (fun _ => by kernel_rfl) ?_
  refine k_pure (by kernel_rfl) (d := (some 65)) (by kernel_rfl) (v := .pointer (some ⟨w7.heap.size, 0, none⟩)) (fun _ => by kernel_rfl) ?_
  refine k_pure (by kernel_rfl) (d := (some 66)) (by kernel_rfl) (v := .int .u8 0) (fun _ => by kernel_rfl) ?_
  refine k_pure (by kernel_rfl) (d := (some 67)) (by kernel_rfl) (v := .int .i64 0) (fun _ => by kernel_rfl) ?_
  refine k_pure (by kernel_rfl) (d := (some 68)) (by kernel_rfl) (v := .int .i64 0) (fun _ => by kernel_rfl) ?_
  refine k_pure (by kernel_rfl) (d := (some 69)) (by kernel_rfl) (v := .int .i64 1) (fun _ => by kernel_rfl) ?_
  refine k_callR (by kernel_rfl) (d := (some 70)) (by kernel_rfl) (f := 83) (args := #[.pointer (some ⟨nq, 0, none⟩), .pointer (some ⟨w.heap.size, 0, none⟩), .pointer (some ⟨w7.heap.size, 0, none⟩), .int .i64 1]) (fun _ => by kernel_rfl) (sqSqrt HF.out (hm.sto H10 (ksC (Nat.ne_of_gt (by omega)) (ksC (Nat.ne_of_gt (by omega)) (ksC (Nat.ne_of_gt (by omega)) (ksC (Nat.ne_of_gt (by omega)) (ksC (Nat.ne_of_gt (by omega)) ks0)))))) (by omega) H10 (i := 0) rfl (k1 := 0) rfl (Nat.lt_of_lt_of_eq (by decide : 0 < 2) rfl) (H10.atz 1 0 rfl rfl rfl) (H10.atz 2 0 rfl rfl rfl) (H10.ne 1 0 _ _ _ _ rfl rfl (by decide)) (H10.ne 2 0 _ _ _ _ rfl rfl (by decide))) (fun _ w18 q18 => ⟨.tuple #[], q18.1, trivial, ?_⟩)
  have u18 := q18.2
  clear q18
  have H11 : Sto w [(nq, flat [f, p.y]), (w.heap.size, flat [((p.y) * (p.y)) - 1]), (w7.heap.size, flat [(((p.y) * (p.y)) * dd) + 1]), (w8.heap.size, flat [1]), (w11.heap.size, flat [dd])] w18 := u18
  clear u18 H10
  refine k_end ?_
  go_simp
  go_upto_region 16 with (fail)
  refine wp_seq_atS (opsAt Tryd.f72 16) ((false, 0) :: (true, 1) :: []) (fun _ => True) (by kernel_rfl) (by kernel_rfl) trivial ?_
  refine k_callR (by kernel_rfl) (d := (some 71)) (by kernel_rfl) (f := 70) (args := #[.pointer (some ⟨nq, 0, none⟩)]) (fun _ => by kernel_rfl) (goE H11 (onCP0 (hm.sto H11 (ksC (Nat.ne_of_gt (by omega)) (ksC (Nat.ne_of_gt (by omega)) (ksC (Nat.ne_of_gt (by omega)) (ksC (Nat.ne_of_gt (by omega)) (ksC (Nat.ne_of_gt (by omega)) ks0)))))) (Nat.le_trans HG6 H11.size) (hd.sto H11 (ksC (by omega) (ksC (by omega) (ksC (by omega) (ksC (by omega) (ksC (by omega) ks0)))))) (H11.blk 0 _ _ rfl).atL HC.out.1)) (fun _ w19 q19 => ⟨.bool false, q19.1, trivial, ?_⟩)
  have u19 := q19.2
  clear q19
  have H12 : Sto w [(nq, flat [f, p.y]), (w.heap.size, flat [((p.y) * (p.y)) - 1]), (w7.heap.size, flat [(((p.y) * (p.y)) * dd) + 1]), (w8.heap.size, flat [1]), (w11.heap.size, flat [dd])] w19 := u19
  clear u19 H11
  refine k_pure (by kernel_rfl) (d := (some 72)) (by kernel_rfl) (v := .bool true) (fun _ => by kernel_rfl) ?_
  refine k_end ?_
  go_simp
  go_upto_region 17 with (fail)
  refine wp_seq_atS (opsAt Tryd.f72 17) ((true, 0) :: (true, 1) :: (true, 2) :: (true, 3) :: (false, 4) :: []) (fun _ => True) (by kernel_rfl) (by kernel_rfl) trivial ?_
  refine k_pure (by kernel_rfl) (d := (some 73)) (by kernel_rfl) (v := .pointer (some ⟨nq, 0, none⟩)) (fun _ => by kernel_rfl) ?_
  refine k_pure (by kernel_rfl) (d := (some 74)) (by kernel_rfl) (v := .pointer (some ⟨nq, 16, none⟩)) (fun _ => by kernel_rfl) ?_
  refine k_pure (by kernel_rfl) (d := (some 75)) (by kernel_rfl) (v := .pointer (some ⟨nq, 0, none⟩)) (fun _ => by kernel_rfl) ?_
  refine k_pure (by kernel_rfl) (d := (some 76)) (by kernel_rfl) (v := .pointer (some ⟨nq, 16, none⟩)) (fun _ => by kernel_rfl) ?_
  refine k_callR (by kernel_rfl) (d := (some 77)) (by kernel_rfl) (f := 93) (args := #[.pointer (some ⟨nq, 16, none⟩), .pointer (some ⟨nq, 16, none⟩)]) (fun _ => by kernel_rfl) (up1 H12 (i := 0) rfl (atNeg (hm.sto H12 (ksC (Nat.ne_of_gt (by omega)) (ksC (Nat.ne_of_gt (by omega)) (ksC (Nat.ne_of_gt (by omega)) (ksC (Nat.ne_of_gt (by omega)) (ksC (Nat.ne_of_gt (by omega)) ks0)))))) (H12.blk 0 _ _ rfl) ((H12.blk 0 _ _ rfl).atK (k := 1) rfl rfl) (k1 := 1) rfl (by show 1 < 4; decide) rfl)) (fun _ w20 q20 => ⟨.tuple #[], q20.1, trivial, ?_⟩)
  have u20 := q20.2
  clear q20
  have H13 : Sto w [(nq, flat [conj f, p.y]), (w.heap.size, flat [((p.y) * (p.y)) - 1]), (w7.heap.size, flat [(((p.y) * (p.y)) * dd) + 1]), (w8.heap.size, flat [1]), (w11.heap.size, flat [dd])] w20 := u20
  clear u20 H12
  refine k_end ?_
  go_simp
  go_upto_region 18 with (fail)
  refine wp_seq_atS (opsAt Tryd.f72 18) ((false, 0) :: (true, 1) :: []) (fun _ => True) (by kernel_rfl) (by kernel_rfl) trivial ?_
  refine k_callR (by kernel_rfl) (d := (some 78)) (by kernel_rfl) (f := 70) (args := #[.pointer (some ⟨nq, 0, none⟩)]) (fun _ => by kernel_rfl) (goE H13 (onCP1 (hm.sto H13 (ksC (Nat.ne_of_gt (by omega)) (ksC (Nat.ne_of_gt (by omega)) (ksC (Nat.ne_of_gt (by omega)) (ksC (Nat.ne_of_gt (by omega)) (ksC (Nat.ne_of_gt (by omega)) ks0)))))) (Nat.le_trans HG6 H13.size) (hd.sto H13 (ksC (by omega) (ksC (by omega) (ksC (by omega) (ksC (by omega) (ksC (by omega) ks0)))))) (H13.blk 0 _ _ rfl).atL HC.out.2)) (fun _ w21 q21 => ⟨.bool true, q21.1, trivial, ?_⟩)
  have u21 := q21.2
  clear q21
  have H14 : Sto w [(nq, flat [conj f, p.y]), (w.heap.size, flat [((p.y) * (p.y)) - 1]), (w7.heap.size, flat [(((p.y) * (p.y)) * dd) + 1]), (w8.heap.size, flat [1]), (w11.heap.size, flat [dd])] w21 := u21
  clear u21 H13
  refine k_pure (by kernel_rfl) (d := (some 79)) (by kernel_rfl) (v := .bool false) (fun _ => by kernel_rfl) ?_
  refine k_end ?_
  go_simp
  go_upto_region 20 with (fail)
  obtain ⟨l, ⟨TL, hTL⟩, hml, hll⟩ := H14.blk 0 _ _ rfl
  obtain ⟨a, b, c, d, rfl, -, -, -, -⟩ := four_list hml
  obtain ⟨l1, ⟨TB, hTB⟩, hm1, -⟩ := HH1.out.of_heap (H14.other _ HH1.out.lt (ksC (by omega) (ksC (by omega) (ksC (by omega) (ksC (by omega) (ksC (by omega) ks0))))))
  obtain ⟨a1, c1, d1, e1, rfl, -, -, -, -⟩ := four_list hm1
  have HS := Lib.hid H14; clear H14
  refine wp_seq_atS (opsAt Tryd.f72 20) ((true, 0) :: (false, 1) :: (true, 2) :: (false, 3) :: []) (fun _ => True) (by kernel_rfl) (by kernel_rfl) trivial ?_
  refine k_pure (by kernel_rfl) (d := (some 80)) (by kernel_rfl) (v := .pointer (some ⟨b1, 0, none⟩)) (fun _ => by kernel_rfl) ?_
  refine k_make (by kernel_rfl) (d := (some 81)) (by kernel_rfl) (v := .agg (fps [a, b, c, d])) (run_loadRow (ty := 85) (x := .tmp 5) (b := nq) (by kernel_rfl) (by kernel_rfl) hTL Tryd.underlying85 rfl (by kernel_rfl)) trivial ?_
  intro wz hwz _
  subst hwz
  refine k_pure (by kernel_rfl) (d := (some 82)) (by kernel_rfl) (v := .pointer (some ⟨b1, 0, none⟩)) (fun _ => by kernel_rfl) ?_
  refine k_put (by kernel_rfl) (d := none) (by kernel_rfl) (ty := 85) (x := .tmp 82) (y := .tmp 81) (by kernel_rfl) (g := b1) (cells := fps [a, b, c, d]) (by kernel_rfl) (by kernel_rfl) hTB (by kernel_rfl) (by kernel_rfl) (all_fps _) trivial ?_
  intro wy hwy _
  have hu := upd_setRow (m := [a, b, c, d]) hTB
  rw [← hwy] at hu
  clear hwy
  have HY := Lib.hid ((HX3.out.thenZ (HS.out.end1 (tsC (by omega) (tsC (by omega) (tsC (by omega) (tsC (by omega) ts0))))) HQ2).last hu (Nat.le_of_eq HNQ.out) hml hll (Ne.symm HNE.out))
  clear hTL hml hll hTB hm1 hu HS
  refine k_end ?_
  go_simp
  go_wp2_with fail
  exact bodyPost_ret_by (by kernel_rfl) (by kernel_rfl) ⟨rfl, HY.out⟩
set_option maxRecDepth 100000 in
set_option maxHeartbeats 1000000 in
theorem unm10 {wa : World} {b1 b2 : Nat} {v0 v1 f : Zq} {p : Pt} (hf : SqV (p.y * p.y - 1) (p.y * p.y * dd + 1) (-1) f) (hc : OnC f p.y) (hm : ModW wa) (hg : 5 ≤ b1 ∧ 5 ≤ b2 ∧ 5 ≤ wa.heap.size) (hd : AtZ wa 0 0 dd) (h1 : FpsZ wa b1 (flat [v0, v1])) (h2 : Fps wa b2 [p.y.re.val, top 1 p.y.im.val]) (hne : b1 ≠ b2) :
    Calls Tryd.prog 72 #[.pointer (some ⟨b1, 0, none⟩), .pointer (some ⟨b2, 0, none⟩)] wa fun e w' => e = .returned (.bool true) ∧ Upd2 wa w' b1 (flat [f, p.y]) b2 [p.y.re.val, top 1 p.y.im.val] := by
  have HM := Lib.hid hm
  have HD := Lib.hid hd
  have H1 := Lib.hid h1
  have H2 := Lib.hid h2
  have HNE := Lib.hid hne
  have HG := Lib.hid hg
  have HF := Lib.hid hf
  have HC := Lib.hid hc
  have HB2 := h2.lt; have HB1 := h1.lt; have HGM := hm.lt; have HG0 := hd.q.fst.lt
  clear hm hd h1 h2 hne hg hf hc
  go_enter Tryd.func72, Tryd.ntmps72
  go_upto_region 2 with (fail)
  refine wp_gen (fun WW => Upd2 wa WW wa.heap.size (flat [0, 0]) b2 [p.y.re.val, top 1 p.y.im.val]) ⟨rfl, rfl, rfl, by simp, ⟨[0, 0, 0, 0], Fps.new _ _ _ _ _ rfl (by kernel_rfl), rfl, zero4⟩, H2.out.alloc _, fun k hk _ _ => Below.heap_alloc _ _ _ hk⟩ ?_
  intro W0 x0
  obtain ⟨nq, hnq⟩ : ∃ nq, wa.heap.size = nq := ⟨_, rfl⟩
  rw [hnq] at x0 ⊢
  have HNQ : Hid (wa.heap.size = nq) := Lib.hid hnq
  have HQ2 : nq ≠ b2 := by omega
  have HQ1 : nq ≠ b1 := by omega
  have HQ5 : 5 ≤ nq := by have := HG.out; omega
  clear hnq
  obtain ⟨n, hn, hb⟩ := top_15 (low_valZ p.y.im)
  have hc := x0.blk2.cell (k := 1) rfl (o := 16) rfl 15 (by decide)
  rw [hb 1 (.inr rfl)] at hc
  refine wp_seq_atS (opsAt Tryd.f72 2) ((true, 0) :: (true, 1) :: (true, 2) :: (false, 3) :: (true, 4) :: (true, 5) :: []) (fun _ => True) (by kernel_rfl) (by kernel_rfl) trivial ?_
  refine k_pure (by kernel_rfl) (d := (some 12)) (by kernel_rfl) (v := .pointer (some ⟨b2, 0, none⟩)) (fun _ => by kernel_rfl) ?_
  refine k_pure (by kernel_rfl) (d := (some 13)) (by kernel_rfl) (v := .pointer (some ⟨b2, 0, none⟩)) (fun _ => by kernel_rfl) ?_
  refine k_pure (by kernel_rfl) (d := (some 14)) (by kernel_rfl) (v := .pointer (some ⟨b2, 31, none⟩)) (fun _ => by kernel_rfl) ?_
  refine k_make (by kernel_rfl) (d := (some 15)) (by kernel_rfl) (v := .int .u8 ((n + 128 * 1 : Nat) : Int)) (run_loadB (ty := 5) (x := (.tmp 14)) (b := b2) (off := 31) (by kernel_rfl) (by kernel_rfl) Tryd.underlying5 (hc)) trivial ?_
  intro w1 hw1 _
  subst hw1
  refine k_pure (by kernel_rfl) (d := (some 16)) (by kernel_rfl) (v := .int .u8 1) (fun _ => run_binOpV (op := .shr) (x := .tmp 15) (y := .const (.int .u64 7)) (t := 5) (t' := 117) (by kernel_rfl) (by kernel_rfl) (by kernel_rfl) rfl (shr7 hn)) ?_
  refine k_pure (by kernel_rfl) (d := (some 6)) (by kernel_rfl) (v := .int .u8 1) (fun _ => by kernel_rfl) ?_
  refine k_end ?_
  go_simp
  go_upto_region 3 with (fail)
  refine wp_region_atS (opsAt Tryd.f72 3) ((true, 0) :: (true, 1) :: (true, 2) :: (true, 5) :: (false, 3) :: (true, 4) :: (true, 6) :: (false, 7) :: []) (fun _ => True) (by kernel_rfl) rfl (by kernel_rfl) (fun _ _ d _ _ h => by cases d <;> exact h) (by kernel_rfl) (by kernel_rfl) trivial ?_
  refine k_pure (by kernel_rfl) (d := (some 17)) (by kernel_rfl) (v := .pointer (some ⟨b2, 0, none⟩)) (fun _ => by kernel_rfl) ?_
  refine k_pure (by kernel_rfl) (d := (some 18)) (by kernel_rfl) (v := .pointer (some ⟨b2, 0, none⟩)) (fun _ => by kernel_rfl) ?_
  refine k_pure (by kernel_rfl) (d := (some 19)) (by kernel_rfl) (v := .pointer (some ⟨b2, 31, none⟩)) (fun _ => by kernel_rfl) ?_
  refine k_pure (by kernel_rfl) (d := (some 22)) (by kernel_rfl) (v := .pointer (some ⟨b2, 0, none⟩)) (fun _ => by kernel_rfl) ?_
  refine k_make (by kernel_rfl) (d := (some 20)) (by kernel_rfl) (v := .int .u8 ((n + 128 * 1 : Nat) : Int)) (run_loadB (ty := 5) (x := (.tmp 19)) (b := b2) (off := 31) (by kernel_rfl) (by kernel_rfl) Tryd.underlying5 (hc)) trivial ?_
  intro w2 hw2 _
  subst hw2
  refine k_pure (by kernel_rfl) (d := (some 21)) (by kernel_rfl) (v := .int .u8 ((n + 128 * 0 : Nat) : Int)) (fun _ => run_binOpV (op := .and) (x := .tmp 20) (y := .const (.int .u8 127)) (t := 5) (t' := 5) (by kernel_rfl) (by kernel_rfl) (by kernel_rfl) rfl (and7 hn (.inr rfl))) ?_
  refine k_pure (by kernel_rfl) (d := (some 23)) (by kernel_rfl) (v := .pointer (some ⟨b2, 31, none⟩)) (fun _ => by kernel_rfl) ?_
  refine k_skipOp (by kernel_rfl) (d := none) (by kernel_rfl) (run_storeB (ty := 5) (k := .u8) (n := ((n + 128 * 0 : Nat) : Int)) (x := (.tmp 23)) (y := (.tmp 21)) (b := b2) (off := 31) (by kernel_rfl) (by kernel_rfl) (by kernel_rfl) (by kernel_rfl) (hc) (x0.blk2.free _)) trivial ?_
  intro w3 hw3 _
  have hu := upd_byte x0.blk2.drew (k := 1) rfl (i := 15) (o := 31) (by decide) rfl (x' := top 0 p.y.im.val) (top_bytes (s := 1)) (v := .int .u8 ((n + 128 * 0 : Nat) : Int)) (hb 0 (.inl rfl)).symm
  rw [← hw3] at hu
  have x1 := x0.thenB (m := [p.y.re.val, top 0 p.y.im.val]) hu.ofDrew HQ2
  clear hu hw3 x0 hc
  refine k_end ?_
  go_simp
  go_upto_region 4 with (fail)
  refine wp_seq_atS (opsAt Tryd.f72 4) ((true, 0) :: (true, 1) :: (true, 2) :: (true, 3) :: (false, 4) :: (true, 5) :: []) (fun _ => True) (by kernel_rfl) (by kernel_rfl) trivial ?_
  refine k_pure (by kernel_rfl) (d := (some 24)) (by kernel_rfl) (v := .pointer (some ⟨nq, 32, none⟩)) (fun _ => by kernel_rfl) ?_
  refine k_pure (by kernel_rfl) (d := (some 25)) (by kernel_rfl) (v := .pointer (some ⟨b2, 0, none⟩)) (fun _ => by kernel_rfl) ?_
  refine k_pure (by kernel_rfl) (d := (some 26)) (by kernel_rfl) (v := .pointer (some ⟨b2, 0, none⟩)) (fun _ => by kernel_rfl) ?_
  refine k_pure (by kernel_rfl) (d := (some 27)) (by kernel_rfl) (v := .slice (some ⟨b2, 0, none⟩) 32 32) (fun _ => by kernel_rfl) ?_
  refine k_callR (by kernel_rfl) (d := (some 28)) (by kernel_rfl) (f := 87) (args := #[.pointer (some ⟨nq, 32, none⟩), .slice (some ⟨b2, 0, none⟩) 32 32]) (fun _ => by kernel_rfl) (fqFromBytes (HM.out.upd2 x1 (by omega) (by have := HG.out; omega)) (by omega) x1.blk1 (o1 := 32) (k1 := 2) rfl (by show 2 + 1 < 4; decide) x1.blk2 HQ2 (low_valZ p.y.re) (low_valZ p.y.im)) (fun _ w4 ⟨he4, u4⟩ => ⟨_, he4, trivial, ?_⟩)
  rw [zp_val, top0, zp_val] at u4
  have x2 := x1.thenZ (M := flat [0, p.y]) u4 HQ2
  clear u4 he4 x1
  have hc := x2.blk2.cell (k := 1) rfl (o := 16) rfl 15 (by decide)
  rw [hb 0 (.inl rfl)] at hc
  refine k_pure (by kernel_rfl) (d := (some 7)) (by kernel_rfl) (v := .bool true) (fun _ => by kernel_rfl) ?_
  refine k_end ?_
  go_simp
  go_upto_region 5 with (fail)
  refine wp_region_atS (opsAt Tryd.f72 5) ((true, 0) :: (true, 1) :: (true, 2) :: (true, 4) :: (true, 5) :: (true, 7) :: (false, 3) :: (true, 6) :: (true, 8) :: (false, 9) :: []) (fun _ => True) (by kernel_rfl) rfl (by kernel_rfl) (fun _ _ d _ _ h => by cases d <;> exact h) (by kernel_rfl) (by kernel_rfl) trivial ?_
  refine k_pure (by kernel_rfl) (d := (some 29)) (by kernel_rfl) (v := .pointer (some ⟨b2, 0, none⟩)) (fun _ => by kernel_rfl) ?_
  refine k_pure (by kernel_rfl) (d := (some 30)) (by kernel_rfl) (v := .pointer (some ⟨b2, 0, none⟩)) (fun _ => by kernel_rfl) ?_
  refine k_pure (by kernel_rfl) (d := (some 31)) (by kernel_rfl) (v := .pointer (some ⟨b2, 31, none⟩)) (fun _ => by kernel_rfl) ?_
  refine k_pure (by kernel_rfl) (d := (some 33)) (by kernel_rfl) (v := .int .u8 1) (fun _ => by kernel_rfl) ?_
  refine k_pure (by kernel_rfl) (d := (some 34)) (by kernel_rfl) (v := .int .u8 128) (fun _ => by kernel_rfl) ?_
  refine k_pure (by kernel_rfl) (d := (some 36)) (by kernel_rfl) (v := .pointer (some ⟨b2, 0, none⟩)) (fun _ => by kernel_rfl) ?_
  refine k_make (by kernel_rfl) (d := (some 32)) (by kernel_rfl) (v := .int .u8 ((n + 128 * 0 : Nat) : Int)) (run_loadB (ty := 5) (x := (.tmp 31)) (b := b2) (off := 31) (by kernel_rfl) (by kernel_rfl) Tryd.underlying5 (hc)) trivial ?_
  intro w5 hw5 _
  subst hw5
  refine k_pure (by kernel_rfl) (d := (some 35)) (by kernel_rfl) (v := .int .u8 ((n + 128 * 1 : Nat) : Int)) (fun _ => run_binOpV (op := .or) (x := .tmp 32) (y := .tmp 34) (t := 5) (t' := 5) (by kernel_rfl) (by kernel_rfl) (by kernel_rfl) rfl (or7 hn)) ?_
  refine k_pure (by kernel_rfl) (d := (some 37)) (by kernel_rfl) (v := .pointer (some ⟨b2, 31, none⟩)) (fun _ => by kernel_rfl) ?_
  refine k_skipOp (by kernel_rfl) (d := none) (by kernel_rfl) (run_storeB (ty := 5) (k := .u8) (n := ((n + 128 * 1 : Nat) : Int)) (x := (.tmp 37)) (y := (.tmp 35)) (b := b2) (off := 31) (by kernel_rfl) (by kernel_rfl) (by kernel_rfl) (by kernel_rfl) (hc) (x2.blk2.free _)) trivial ?_
  intro w6 hw6 _
  have hu := upd_byte x2.blk2.drew (k := 1) rfl (i := 15) (o := 31) (by decide) rfl (x' := top 1 p.y.im.val) (top_bytes (s := 0)) (v := .int .u8 ((n + 128 * 1 : Nat) : Int)) (hb 1 (.inr rfl)).symm
  rw [← hw6] at hu
  have x3 := x2.thenB (m := [p.y.re.val, top 1 p.y.im.val]) hu.ofDrew HQ2
  clear hu hw6 x2 hc hb hn
  have wk := w6; clear wk
  generalize w6 = w at x3 ⊢
  refine k_end ?_
  go_simp
  have hm := HM.out.upd2 x3 (by omega) (by have := HG.out; omega)
  have hd := HD.out.upd2 x3 (by have := HG.out; omega) (by have := HG.out; omega)
  have h1 : FpsZ w b1 (flat [v0, v1]) := H1.out.of_heap (x3.other _ H1.out.lt (Ne.symm HQ1) HNE.out)
  have HW := x3.size; have HNW := x3.blk1.lt; have HG6 : 5 ≤ w.heap.size := by omega
  have HGM1 := hm.lt; have HG01 := hd.q.fst.lt; have HB1W := h1.lt; have hg := HG6
  have H0 : Sto w [(nq, flat [0, p.y])] w := Sto.one x3.blk1
  have HX3 := Lib.hid x3; have HH1 := Lib.hid h1
  clear x3 h1
  go_upto_region 8 with (fail)
  refine wp_seq_atS (opsAt Tryd.f72 8) ((true, 0) :: (false, 1) :: (true, 2) :: (false, 3) :: (true, 4) :: (false, 5) :: (true, 6) :: (true, 7) :: (true, 8) :: []) (fun _ => True) (by kernel_rfl) (by kernel_rfl) trivial ?_
  refine k_pure (by kernel_rfl) (d := (some 40)) (by kernel_rfl) (v := .agg #[.int .u8 0, .int .u8 0, .int .u8 0, .int .u8 0, .int .u8 0, .int .u8 0, .int .u8 0, .int .u8 0, .int .u8 0, .int .u8 0, .int .u8 0, .int .u8 0, .int .u8 0, .int .u8 0, .int .u8 0, .int .u8 0, .int .u8 0, .int .u8 0, .int .u8 0, .int .u8 0, .int .u8 0, .int .u8 0, .int .u8 0, .int .u8 0, .int .u8 0, .int .u8 0, .int .u8 0, .int .u8 0, .int .u8 0, .int .u8 0, .int .u8 0, .int .u8 0]) (fun _ => by kernel_rfl) ?_
  refine k_make (by kernel_rfl) (d := (some 41)) (by kernel_rfl) (v := .pointer (some ⟨w.heap.size, 0, none⟩)) (w' := w.alloc (.cells (fps (List.replicate 2 0)) 83)) (by kernel_rfl) trivial ?_
  intro w7 hw7 _
  have hge7 : w.heap.size ≤ w.heap.size := H0.size
  have u7 : Sto w [(nq, flat [0, p.y]), (w.heap.size, flat [0])] w7 := by rw [hw7]; exact H0.new (l := List.replicate 2 0) rfl rfl zeroL rfl
  clear hw7
  have H1 : Sto w [(nq, flat [0, p.y]), (w.heap.size, flat [0])] w7 := u7
  clear u7 H0
  refine k_pure (by kernel_rfl) (d := (some 42)) (by kernel_rfl) (v := .agg #[.int .u8 0, .int .u8 0, .int .u8 0, .int .u8 0, .int .u8 0, .int .u8 0, .int .u8 0, .int .u8 0, .int .u8 0, .int .u8 0, .int .u8 0, .int .u8 0, .int .u8 0, .int .u8 0, .int .u8 0, .int .u8 0, .int .u8 0, .int .u8 0, .int .u8 0, .int .u8 0, .int .u8 0, .int .u8 0, .int .u8 0, .int .u8 0, .int .u8 0, .int .u8 0, .int .u8 0, .int .u8 0, .int .u8 0, .int .u8 0, .int .u8 0, .int .u8 0]) (fun _ => by kernel_rfl) ?_
  refine k_make (by kernel_rfl) (d := (some 43)) (by kernel_rfl) (v := .pointer (some ⟨w7.heap.size, 0, none⟩)) (w' := w7.alloc (.cells (fps (List.replicate 2 0)) 83)) (by kernel_rfl) trivial ?_
  intro w8 hw8 _
  have hge8 : w.heap.size ≤ w7.heap.size := H1.size
  have u8 : Sto w [(nq, flat [0, p.y]), (w.heap.size, flat [0]), (w7.heap.size, flat [0])] w8 := by rw [hw8]; exact H1.new (l := List.replicate 2 0) rfl rfl zeroL rfl
  clear hw8
  have H2 : Sto w [(nq, flat [0, p.y]), (w.heap.size, flat [0]), (w7.heap.size, flat [0])] w8 := u8
  clear u8 H1
  refine k_pure (by kernel_rfl) (d := (some 44)) (by kernel_rfl) (v := .agg #[.int .u8 0, .int .u8 0, .int .u8 0, .int .u8 0, .int .u8 0, .int .u8 0, .int .u8 0, .int .u8 0, .int .u8 0, .int .u8 0, .int .u8 0, .int .u8 0, .int .u8 0, .int .u8 0, .int .u8 0, .int .u8 0, .int .u8 0, .int .u8 0, .int .u8 0, .int .u8 0, .int .u8 0, .int .u8 0, .int .u8 0, .int .u8 0, .int .u8 0, .int .u8 0, .int .u8 0, .int .u8 0, .int .u8 0, .int .u8 0, .int .u8 0, .int .u8 0]) (fun _ => by kernel_rfl) ?_
  refine k_make (by kernel_rfl) (d := (some 45)) (by kernel_rfl) (v := .pointer (some ⟨w8.heap.size, 0, none⟩)) (w' := w8.alloc (.cells (fps (List.replicate 2 0)) 83)) (by kernel_rfl) trivial ?_
  intro w9 hw9 _
  have hge9 : w.heap.size ≤ w8.heap.size := H2.size
  have u9 : Sto w [(nq, flat [0, p.y]), (w.heap.size, flat [0]), (w7.heap.size, flat [0]), (w8.heap.size, flat [0])] w9 := by rw [hw9]; exact H2.new (l := List.replicate 2 0) rfl rfl zeroL rfl
  clear hw9
  have H3 : Sto w [(nq, flat [0, p.y]), (w.heap.size, flat [0]), (w7.heap.size, flat [0]), (w8.heap.size, flat [0])] w9 := u9
  clear u9 H2
  refine k_pure (by kernel_rfl) (d := (some 8)) (by kernel_rfl) (v := .pointer (some ⟨w.heap.size, 0, none⟩)) (fun _ => by kernel_rfl) ?_
  refine k_pure (by kernel_rfl) (d := (some 9)) (by kernel_rfl) (v := .pointer (some ⟨w7.heap.size, 0, none⟩)) (fun _ => by kernel_rfl) ?_
  refine k_pure (by kernel_rfl) (d := (some 10)) (by kernel_rfl) (v := .pointer (some ⟨w8.heap.size, 0, none⟩)) (fun _ => by kernel_rfl) ?_
  refine k_end ?_
  go_simp
  go_upto_region 9 with (fail)
  refine wp_seq_atS (opsAt Tryd.f72 9) ((true, 0) :: (false, 1) :: []) (fun _ => True) (by kernel_rfl) (by kernel_rfl) trivial ?_
  refine k_pure (by kernel_rfl) (d := (some 46)) (by kernel_rfl) (v := .pointer (some ⟨w8.heap.size, 0, none⟩)) (fun _ => by kernel_rfl) ?_
  refine k_callR (by kernel_rfl) (d := (some 47)) (by kernel_rfl) (f := 88) (args := #[.pointer (some ⟨w8.heap.size, 0, none⟩)]) (fun _ => by kernel_rfl) (sqSet1 H3 (i := 3) rfl (k1 := 0) rfl (Nat.lt_of_lt_of_eq (by decide : 0 < 1) rfl)) (fun _ w10 q10 => ⟨.tuple #[], q10.1, trivial, ?_⟩)
  have u10 := q10.2
  clear q10
  have H4 : Sto w [(nq, flat [0, p.y]), (w.heap.size, flat [0]), (w7.heap.size, flat [0]), (w8.heap.size, flat [1])] w10 := u10
  clear u10 H3
  refine k_end ?_
  go_simp
  go_upto_region 10 with (fail)
  refine wp_seq_atS (opsAt Tryd.f72 10) ((true, 0) :: (true, 1) :: (false, 2) :: []) (fun _ => True) (by kernel_rfl) (by kernel_rfl) trivial ?_
  refine k_pure (by kernel_rfl) (d := (some 48)) (by kernel_rfl) (v := .pointer (some ⟨w.heap.size, 0, none⟩)) (fun _ => by kernel_rfl) ?_
  refine k_pure (by kernel_rfl) (d := (some 49)) (by kernel_rfl) (v := .pointer (some ⟨nq, 32, none⟩)) (fun _ => by kernel_rfl) ?_
  refine k_callR (by kernel_rfl) (d := (some 50)) (by kernel_rfl) (f := 89) (args := #[.pointer (some ⟨w.heap.size, 0, none⟩), .pointer (some ⟨nq, 32, none⟩)]) (fun _ => by kernel_rfl) (sqSqr H4 (i := 1) rfl (k1 := 0) rfl (Nat.lt_of_lt_of_eq (by decide : 0 < 1) rfl) (H4.atz 0 1 rfl rfl rfl) (z := (p.y) * (p.y)) rfl) (fun _ w11 q11 => ⟨.tuple #[], q11.1, trivial, ?_⟩)
  have u11 := q11.2
  clear q11
  have H5 : Sto w [(nq, flat [0, p.y]), (w.heap.size, flat [(p.y) * (p.y)]), (w7.heap.size, flat [0]), (w8.heap.size, flat [1])] w11 := u11
  clear u11 H4
  refine k_end ?_
  go_simp
  go_upto_region 11 with (fail)
  refine wp_seq_atS (opsAt Tryd.f72 11) ((false, 0) :: (false, 1) :: (false, 2) :: []) (fun _ => True) (by kernel_rfl) (by kernel_rfl) trivial ?_
  refine k_loadZ (by kernel_rfl) (d := (some 51)) (by kernel_rfl) (ty := 83) (x := (.global 0)) (by kernel_rfl) (b := 0) (o := 0) (z := dd) (by kernel_rfl) ((hd).sto H5 (ksC (by omega) (ksC (by omega) (ksC (by omega) (ksC (by omega) ks0))))) Tryd.underlying83 rfl (by kernel_rfl) trivial (fun x12 y12 lx12 ly12 zx12 zy12 => ?_)
  refine k_make (by kernel_rfl) (d := (some 11)) (by kernel_rfl) (v := .pointer (some ⟨w11.heap.size, 0, none⟩)) (w' := w11.alloc (.cells (fps (List.replicate 2 0)) 83)) (by kernel_rfl) trivial ?_
  intro w13 hw13 _
  have hge13 : w.heap.size ≤ w11.heap.size := H5.size
  have u13 : Sto w [(nq, flat [0, p.y]), (w.heap.size, flat [(p.y) * (p.y)]), (w7.heap.size, flat [0]), (w8.heap.size, flat [1]), (w11.heap.size, flat [0])] w13 := by rw [hw13]; exact H5.new (l := List.replicate 2 0) rfl rfl zeroL rfl
  clear hw13
  have H6 : Sto w [(nq, flat [0, p.y]), (w.heap.size, flat [(p.y) * (p.y)]), (w7.heap.size, flat [0]), (w8.heap.size, flat [1]), (w11.heap.size, flat [0])] w13 := u13
  clear u13 H5
  refine k_storeZ (by kernel_rfl) (d := none) (by kernel_rfl) (ty := 83) (x := (.tmp 11)) (y := (.tmp 51)) (by kernel_rfl) (b := w11.heap.size) (o := 0) (k := 2 * 0) (u := x12) (v := y12) (by kernel_rfl) (by kernel_rfl) (H6.blk 4 _ _ rfl) (k2 rfl) (flat_lt (Nat.lt_of_lt_of_eq (by decide : 0 < 1) rfl)) lx12 ly12 zx12 zy12 (by kernel_rfl) (fun w14 u14 => ⟨trivial, ?_⟩)
  have u14 := H6.upd (i := 4) rfl u14
  rw [flat_set] at u14
  have H7 : Sto w [(nq, flat [0, p.y]), (w.heap.size, flat [(p.y) * (p.y)]), (w7.heap.size, flat [0]), (w8.heap.size, flat [1]), (w11.heap.size, flat [dd])] w14 := u14
  clear u14 H6
  clear zx12 zy12
  refine k_end ?_
  go_simp
  go_upto_region 12 with (fail)
  refine wp_seq_atS (opsAt Tryd.f72 12) ((true, 0) :: (true, 1) :: (false, 2) :: []) (fun _ => True) (by kernel_rfl) (by kernel_rfl) trivial ?_
  refine k_pure (by kernel_rfl) (d := (some 52)) (by kernel_rfl) (v := .pointer (some ⟨w7.heap.size, 0, none⟩)) (fun _ => by kernel_rfl) ?_
  refine k_pure (by kernel_rfl) (d := (some 53)) (by kernel_rfl) (v := .pointer (some ⟨w.heap.size, 0, none⟩)) (fun _ => by kernel_rfl) ?_
  refine k_callR (by kernel_rfl) (d := (some 54)) (by kernel_rfl) (f := 90) (args := #[.pointer (some ⟨w7.heap.size, 0, none⟩), .pointer (some ⟨w.heap.size, 0, none⟩), .pointer (some ⟨w11.heap.size, 0, none⟩)]) (fun _ => by kernel_rfl) (sqMul H7 (i := 2) rfl (k1 := 0) rfl (Nat.lt_of_lt_of_eq (by decide : 0 < 1) rfl) (H7.atz 1 0 rfl rfl rfl) (H7.atz 4 0 rfl rfl rfl) (z := ((p.y) * (p.y)) * dd) rfl) (fun _ w15 q15 => ⟨.tuple #[], q15.1, trivial, ?_⟩)
  have u15 := q15.2
  clear q15
  have H8 : Sto w [(nq, flat [0, p.y]), (w.heap.size, flat [(p.y) * (p.y)]), (w7.heap.size, flat [((p.y) * (p.y)) * dd]), (w8.heap.size, flat [1]), (w11.heap.size, flat [dd])] w15 := u15
  clear u15 H7
  refine k_end ?_
  go_simp
  go_upto_region 13 with (fail)
  refine wp_seq_atS (opsAt Tryd.f72 13) ((true, 0) :: (true, 1) :: (true, 2) :: (false, 3) :: []) (fun _ => True) (by kernel_rfl) (by kernel_rfl) trivial ?_
  refine k_pure (by kernel_rfl) (d := (some 55)) (by kernel_rfl) (v := .pointer (some ⟨w.heap.size, 0, none⟩)) (fun _ => by kernel_rfl) ?_
  refine k_pure (by kernel_rfl) (d := (some 56)) (by kernel_rfl) (v := .pointer (some ⟨w.heap.size, 0, none⟩)) (fun _ => by kernel_rfl) ?_
  refine k_pure (by kernel_rfl) (d := (some 57)) (by kernel_rfl) (v := .pointer (some ⟨w8.heap.size, 0, none⟩)) (fun _ => by kernel_rfl) ?_
  refine k_callR (by kernel_rfl) (d := (some 58)) (by kernel_rfl) (f := 91) (args := #[.pointer (some ⟨w.heap.size, 0, none⟩), .pointer (some ⟨w.heap.size, 0, none⟩), .pointer (some ⟨w8.heap.size, 0, none⟩)]) (fun _ => by kernel_rfl) (sqSub H8 (i := 1) rfl (k1 := 0) rfl (Nat.lt_of_lt_of_eq (by decide : 0 < 1) rfl) (H8.atz 1 0 rfl rfl rfl) (H8.atz 3 0 rfl rfl rfl) (z := ((p.y) * (p.y)) - 1) rfl) (fun _ w16 q16 => ⟨.tuple #[], q16.1, trivial, ?_⟩)
  have u16 := q16.2
  clear q16
  have H9 : Sto w [(nq, flat [0, p.y]), (w.heap.size, flat [((p.y) * (p.y)) - 1]), (w7.heap.size, flat [((p.y) * (p.y)) * dd]), (w8.heap.size, flat [1]), (w11.heap.size, flat [dd])] w16 := u16
  clear u16 H8
  refine k_end ?_
  go_simp
  go_upto_region 14 with (fail)
  refine wp_seq_atS (opsAt Tryd.f72 14) ((true, 0) :: (true, 1) :: (true, 2) :: (false, 3) :: []) (fun _ => True) (by kernel_rfl) (by kernel_rfl) trivial ?_
  refine k_pure (by kernel_rfl) (d := (some 59)) (by kernel_rfl) (v := .pointer (some ⟨w7.heap.size, 0, none⟩)) (fun _ => by kernel_rfl) ?_
  refine k_pure (by kernel_rfl) (d := (some 60)) (by kernel_rfl) (v := .pointer (some ⟨w7.heap.size, 0, none⟩)) (fun _ => by kernel_rfl) ?_
  refine k_pure (by kernel_rfl) (d := (some 61)) (by kernel_rfl) (v := .pointer (some ⟨w8.heap.size, 0, none⟩)) (fun _ => by kernel_rfl) ?_
  refine k_callR (by kernel_rfl) (d := (some 62)) (by kernel_rfl) (f := 92) (args := #[.pointer (some ⟨w7.heap.size, 0, none⟩), .pointer (some ⟨w7.heap.size, 0, none⟩), .pointer (some ⟨w8.heap.size, 0, none⟩)]) (fun _ => by kernel_rfl) (sqAdd H9 (i := 2) rfl (k1 := 0) rfl (Nat.lt_of_lt_of_eq (by decide : 0 < 1) rfl) (H9.atz 2 0 rfl rfl rfl) (H9.atz 3 0 rfl rfl rfl) (z := (((p.y) * (p.y)) * dd) + 1) rfl) (fun _ w17 q17 => ⟨.tuple #[], q17.1, trivial, ?_⟩)
  have u17 := q17.2
  clear q17
  have H10 : Sto w [(nq, flat [0, p.y]), (w.heap.size, flat [((p.y) * (p.y)) - 1]), (w7.heap.size, flat [(((p.y) * (p.y)) * dd) + 1]), (w8.heap.size, flat [1]), (w11.heap.size, flat [dd])] w17 := u17
  clear u17 H9
  refine k_end ?_
  go_simp
  go_upto_region 15 with (fail)
  refine wp_seq_atS (opsAt Tryd.f72 15) ((true, 0) :: (true, 1) :: (true, 2) :: (true, 3) :: (true, 4) :: (true, 5) :: (true, 6) :: (false, 7) :: []) (fun _ => True) (by kernel_rfl) (by kernel_rfl) trivial ?_
  refine k_pure (by kernel_rfl) (d := (some 63)) (by kernel_rfl) (v := .pointer (some ⟨nq, 0, none⟩)) (fun _ => by kernel_rfl) ?_
  refine k_pure (by kernel_rfl) (d := (some 64)) (by kernel_rfl) (v := .pointer (some ⟨w.heap.size, 0, none⟩)) (fun _ => by kernel_rfl) ?_
  refine k_pure (by kernel_rfl) (d := (some 65)) (by kernel_rfl) (v := .pointer (some ⟨w7.heap.size, 0, none⟩)) (fun _ => by kernel_rfl) ?_
  refine k_pure (by kernel_rfl) (d := (some 66)) (by kernel_rfl) (v := .int .u8 1) (fun _ => by kernel_rfl) ?_
  refine k_pure (by kernel_rfl) (d := (some 67)) (by kernel_rfl) (v := .int .i64 1) (fun _ => by kernel_rfl) ?_
  refine k_pure (by kernel_rfl) (d := (some 68)) (by kernel_rfl) (v := .int .i64 2) (fun _ => by kernel_rfl) ?_
  refine k_pure (by kernel_rfl) (d := (some 69)) (by kernel_rfl) (v := .int .i64 (-1)) (fun _ => by kernel_rfl) ?_
  refine k_callR (by kernel_rfl) (d := (some 70)) (by kernel_rfl) (f := 83) (args := #[.pointer (some ⟨nq, 0, none⟩), .pointer (some ⟨w.heap.size, 0, none⟩), .pointer (some ⟨w7.heap.size, 0, none⟩), .int .i64 (-1)]) (fun _ => by kernel_rfl) (sqSqrt HF.out (hm.sto H10 (ksC (Nat.ne_of_gt (by omega)) (ksC (Nat.ne_of_gt (by omega)) (ksC (Nat.ne_of_gt (by omega)) (ksC (Nat.ne_of_gt (by omega)) (ksC (Nat.ne_of_gt (by omega)) ks0)))))) (by omega) H10 (i := 0) rfl (k1 := 0) rfl (Nat.lt_of_lt_of_eq (by decide : 0 < 2) rfl) (H10.atz 1 0 rfl rfl rfl) (H10.atz 2 0 rfl rfl rfl) (H10.ne 1 0 _ _ _ _ rfl rfl (by decide)) (H10.ne 2 0 _ _ _ _ rfl rfl (by decide))) (fun _ w18 q18 => ⟨.tuple #[], q18.1, trivial, ?_⟩)
  have u18 := q18.2
  clear q18
  have H11 : Sto w [(nq, flat [f, p.y]), (w.heap.size, flat [((p.y) * (p.y)) - 1]), (w7.heap.size, flat [(((p.y) * (p.y)) * dd) + 1]), (w8.heap.size, flat [1]), (w11.heap.size, flat [dd])] w18 := u18
  clear u18 H10
  refine k_end ?_
  go_simp
  go_upto_region 16 with (fail)
  refine wp_seq_atS (opsAt Tryd.f72 16) ((false, 0) :: (true, 1) :: []) (fun _ => True) (by kernel_rfl) (by kernel_rfl) trivial ?_
  refine k_callR (by kernel_rfl) (d := (some 71)) (by kernel_rfl) (f := 70) (args := #[.pointer (some ⟨nq, 0, none⟩)]) (fun _ => by kernel_rfl) (goE H11 (onCP1 (hm.sto H11 (ksC (Nat.ne_of_gt (by omega)) (ksC (Nat.ne_of_gt (by omega)) (ksC (Nat.ne_of_gt (by omega)) (ksC (Nat.ne_of_gt (by omega)) (ksC (Nat.ne_of_gt (by omega)) ks0)))))) (Nat.le_trans HG6 H11.size) (hd.sto H11 (ksC (by omega) (ksC (by omega) (ksC (by omega) (ksC (by omega) (ksC (by omega) ks0)))))) (H11.blk 0 _ _ rfl).atL HC.out)) (fun _ w19 q19 => ⟨.bool true, q19.1, trivial, ?_⟩)
  have u19 := q19.2
  clear q19
  have H12 : Sto w [(nq, flat [f, p.y]), (w.heap.size, flat [((p.y) * (p.y)) - 1]), (w7.heap.size, flat [(((p.y) * (p.y)) * dd) + 1]), (w8.heap.size, flat [1]), (w11.heap.size, flat [dd])] w19 := u19
  clear u19 H11
  refine k_pure (by kernel_rfl) (d := (some 72)) (by kernel_rfl) (v := .bool false) (fun _ => by kernel_rfl) ?_
  refine k_end ?_
  go_simp
  go_upto_region 18 with (fail)
  refine wp_seq_atS (opsAt Tryd.f72 18) ((false, 0) :: (true, 1) :: []) (fun _ => True) (by kernel_rfl) (by kernel_rfl) trivial ?_
  refine k_callR (by kernel_rfl) (d := (some 78)) (by kernel_rfl) (f := 70) (args := #[.pointer (some ⟨nq, 0, none⟩)]) (fun _ => by kernel_rfl) (goE H12 (onCP1 (hm.sto H12 (ksC (Nat.ne_of_gt (by omega)) (ksC (Nat.ne_of_gt (by omega)) (ksC (Nat.ne_of_gt (by omega)) (ksC (Nat.ne_of_gt (by omega)) (ksC (Nat.ne_of_gt (by omega)) ks0)))))) (Nat.le_trans HG6 H12.size) (hd.sto H12 (ksC (by omega) (ksC (by omega) (ksC (by omega) (ksC (by omega) (ksC (by omega) ks0)))))) (H12.blk 0 _ _ rfl).atL HC.out)) (fun _ w20 q20 => ⟨.bool true, q20.1, trivial, ?_⟩)
  have u20 := q20.2
  clear q20
  have H13 : Sto w [(nq, flat [f, p.y]), (w.heap.size, flat [((p.y) * (p.y)) - 1]), (w7.heap.size, flat [(((p.y) * (p.y)) * dd) + 1]), (w8.heap.size, flat [1]), (w11.heap.size, flat [dd])] w20 := u20
  clear u20 H12
  refine k_pure (by kernel_rfl) (d := (some 79)) (by kernel_rfl) (v := .bool false) (fun _ => by kernel_rfl) ?_
  refine k_end ?_
  go_simp
  go_upto_region 20 with (fail)
  obtain ⟨l, ⟨TL, hTL⟩, hml, hll⟩ := H13.blk 0 _ _ rfl
  obtain ⟨a, b, c, d, rfl, -, -, -, -⟩ := four_list hml
  obtain ⟨l1, ⟨TB, hTB⟩, hm1, -⟩ := HH1.out.of_heap (H13.other _ HH1.out.lt (ksC (by omega) (ksC (by omega) (ksC (by omega) (ksC (by omega) (ksC (by omega) ks0))))))
  obtain ⟨a1, c1, d1, e1, rfl, -, -, -, -⟩ := four_list hm1
  have HS := Lib.hid H13; clear H13
  refine wp_seq_atS (opsAt Tryd.f72 20) ((true, 0) :: (false, 1) :: (true, 2) :: (false, 3) :: []) (fun _ => True) (by kernel_rfl) (by kernel_rfl) trivial ?_
  refine k_pure (by kernel_rfl) (d := (some 80)) (by kernel_rfl) (v := .pointer (some ⟨b1, 0, none⟩)) (fun _ => by kernel_rfl) ?_
  refine k_make (by kernel_rfl) (d := (some 81)) (by kernel_rfl) (v := .agg (fps [a, b, c, d])) (run_loadRow (ty := 85) (x := .tmp 5) (b := nq) (by kernel_rfl) (by kernel_rfl) hTL Tryd.underlying85 rfl (by kernel_rfl)) trivial ?_
  intro wz hwz _
  subst hwz
  refine k_pure (by kernel_rfl) (d := (some 82)) (by kernel_rfl) (v := .pointer (some ⟨b1, 0, none⟩)) (fun _ => by kernel_rfl) ?_
  refine k_put (by kernel_rfl) (d := none) (by kernel_rfl) (ty := 85) (x := .tmp 82) (y := .tmp 81) (by kernel_rfl) (g := b1) (cells := fps [a, b, c, d]) (by kernel_rfl) (by kernel_rfl) hTB (by kernel_rfl) (by kernel_rfl) (all_fps _) trivial ?_
  intro wy hwy _
  have hu := upd_setRow (m := [a, b, c, d]) hTB
  rw [← hwy] at hu
  clear hwy
  have HY := Lib.hid ((HX3.out.thenZ (HS.out.end1 (tsC (by omega) (tsC (by omega) (tsC (by omega) (tsC (by omega) ts0))))) HQ2).last hu (Nat.le_of_eq HNQ.out) hml hll (Ne.symm HNE.out))
  clear hTL hml hll hTB hm1 hu HS
  refine k_end ?_
  go_simp
  go_wp2_with fail
  exact bodyPost_ret_by (by kernel_rfl) (by kernel_rfl) ⟨rfl, HY.out⟩
set_option maxRecDepth 100000 in
set_option maxHeartbeats 1000000 in
theorem unm11 {wa : World} {b1 b2 : Nat} {v0 v1 f : Zq} {p : Pt} (hf : SqV (p.y * p.y - 1) (p.y * p.y * dd + 1) (-1) f) (hc : ¬ OnC f p.y ∧ OnC (conj f) p.y) (hm : ModW wa) (hg : 5 ≤ b1 ∧ 5 ≤ b2 ∧ 5 ≤ wa.heap.size) (hd : AtZ wa 0 0 dd) (h1 : FpsZ wa b1 (flat [v0, v1])) (h2 : Fps wa b2 [p.y.re.val, top 1 p.y.im.val]) (hne : b1 ≠ b2) :
    Calls Tryd.prog 72 #[.pointer (some ⟨b1, 0, none⟩), .pointer (some ⟨b2, 0, none⟩)] wa fun e w' => e = .returned (.bool true) ∧ Upd2 wa w' b1 (flat [conj f, p.y]) b2 [p.y.re.val, top 1 p.y.im.val] := by
  have HM := Lib.hid hm
  have HD := Lib.hid hd
  have H1 := Lib.hid h1
  have H2 := Lib.hid h2
  have HNE := Lib.hid hne
  have HG := Lib.hid hg
  have HF := Lib.hid hf
  have HC := Lib.hid hc
  have HB2 := h2.lt; have HB1 := h1.lt; have HGM := hm.lt; have HG0 := hd.q.fst.lt
  clear hm hd h1 h2 hne hg hf hc
  go_enter Tryd.func72, Tryd.ntmps72
  go_upto_region 2 with (fail)
  refine wp_gen (fun WW => Upd2 wa WW wa.heap.size (flat [0, 0]) b2 [p.y.re.val, top 1 p.y.im.val]) ⟨rfl, rfl, rfl, by simp, ⟨[0, 0, 0, 0], Fps.new _ _ _ _ _ rfl (by kernel_rfl), rfl, zero4⟩, H2.out.alloc _, fun k hk _ _ => Below.heap_alloc _ _ _ hk⟩ ?_
  intro W0 x0
  obtain ⟨nq, hnq⟩ : ∃ nq, wa.heap.size = nq := ⟨_, rfl⟩
  rw [hnq] at x0 ⊢
  have HNQ : Hid (wa.heap.size = nq) := Lib.hid hnq
  have HQ2 : nq ≠ b2 := by omega
  have HQ1 : nq ≠ b1 := by omega
  have HQ5 : 5 ≤ nq := by have := HG.out; omega
  clear hnq
  obtain ⟨n, hn, hb⟩ := top_15 (low_valZ p.y.im)
  have hc := x0.blk2.cell (k := 1) rfl (o := 16) rfl 15 (by decide)
  rw [hb 1 (.inr rfl)] at hc
  refine wp_seq_atS (opsAt Tryd.f72 2) ((true, 0) :: (true, 1) :: (true, 2) :: (false, 3) :: (true, 4) :: (true, 5) :: []) (fun _ => True) (by kernel_rfl) (by kernel_rfl) trivial ?_
  refine k_pure (by kernel_rfl) (d := (some 12)) (by kernel_rfl) (v := .pointer (some ⟨b2, 0, none⟩)) (fun _ => by kernel_rfl) ?_
  refine k_pure (by kernel_rfl) (d := (some 13)) (by kernel_rfl) (v := .pointer (some ⟨b2, 0, none⟩)) (fun _ => by kernel_rfl) ?_
  refine k_pure (by kernel_rfl) (d := (some 14)) (by kernel_rfl) (v := .pointer (some ⟨b2, 31, none⟩)) (fun _ => by kernel_rfl) ?_
  refine k_make (by kernel_rfl) (d := (some 15)) (by kernel_rfl) (v := .int .u8 ((n + 128 * 1 : Nat) : Int)) (run_loadB (ty := 5) (x := (.tmp 14)) (b := b2) (off := 31) (by kernel_rfl) (by kernel_rfl) Tryd.underlying5 (hc)) trivial ?_
  intro w1 hw1 _
  subst hw1
  refine k_pure (by kernel_rfl) (d := (some 16)) (by kernel_rfl) (v := .int .u8 1) (fun _ => run_binOpV (op := .shr) (x := .tmp 15) (y := .const (.int .u64 7)) (t := 5) (t' := 117) (by kernel_rfl) (by kernel_rfl) (by kernel_rfl) rfl (shr7 hn)) ?_
  refine k_pure (by kernel_rfl) (d := (some 6)) (by kernel_rfl) (v := .int .u8 1) (fun _ => by kernel_rfl) ?_
  refine k_end ?_
  go_simp
  go_upto_region 3 with (fail)
  refine wp_region_atS (opsAt Tryd.f72 3) ((true, 0) :: (true, 1) :: (true, 2) :: (true, 5) :: (false, 3) :: (true, 4) :: (true, 6) :: (false, 7) :: []) (fun _ => True) (by kernel_rfl) rfl (by kernel_rfl) (fun _ _ d _ _ h => by cases d <;> exact h) (by kernel_rfl) (by kernel_rfl) trivial ?_
  refine k_pure (by kernel_rfl) (d := (some 17)) (by kernel_rfl) (v := .pointer (some ⟨b2, 0, none⟩)) (fun _ => by kernel_rfl) ?_
  refine k_pure (by kernel_rfl) (d := (some 18)) (by kernel_rfl) (v := .pointer (some ⟨b2, 0, none⟩)) (fun _ => by kernel_rfl) ?_
  refine k_pure (by kernel_rfl) (d := (some 19)) (by kernel_rfl) (v := .pointer (some ⟨b2, 31, none⟩)) (fun _ => by kernel_rfl) ?_
  refine k_pure (by kernel_rfl) (d := (some 22)) (by kernel_rfl) (v := .pointer (some ⟨b2, 0, none⟩)) (fun _ => by kernel_rfl) ?_
  refine k_make (by kernel_rfl) (d := (some 20)) (by kernel_rfl) (v := .int .u8 ((n + 128 * 1 : Nat) : Int)) (run_loadB (ty := 5) (x := (.tmp 19)) (b := b2) (off := 31) (by kernel_rfl) (by kernel_rfl) Tryd.underlying5 (hc)) trivial ?_
  intro w2 hw2 _
  subst hw2
  refine k_pure (by kernel_rfl) (d := (some 21)) (by kernel_rfl) (v := .int .u8 ((n + 128 * 0 : Nat) : Int)) (fun _ => run_binOpV (op := .and) (x := .tmp 20) (y := .const (.int .u8 127)) (t := 5) (t' := 5) (by kernel_rfl) (by kernel_rfl) (by kernel_rfl) rfl (and7 hn (.inr rfl))) ?_
  refine k_pure (by kernel_rfl) (d := (some 23)) (by kernel_rfl) (v := .pointer (some ⟨b2, 31, none⟩)) (fun _ => by kernel_rfl) ?_
  refine k_skipOp (by kernel_rfl) (d := none) (by kernel_rfl) (run_storeB (ty := 5) (k := .u8) (n := ((n + 128 * 0 : Nat) : Int)) (x := (.tmp 23)) (y := (.tmp 21)) (b := b2) (off := 31) (by kernel_rfl) (by kernel_rfl) (by kernel_rfl) (by kernel_rfl) (hc) (x0.blk2.free _)) trivial ?_
  intro w3 hw3 _
  have hu := upd_byte x0.blk2.drew (k := 1) rfl (i := 15) (o := 31) (by decide) rfl (x' := top 0 p.y.im.val) (top_bytes (s := 1)) (v := .int .u8 ((n + 128 * 0 : Nat) : Int)) (hb 0 (.inl rfl)).symm
  rw [← hw3] at hu
  have x1 := x0.thenB (m := [p.y.re.val, top 0 p.y.im.val]) hu.ofDrew HQ2
  clear hu hw3 x0 hc
  refine k_end ?_
  go_simp
  go_upto_region 4 with (fail)
  refine wp_seq_atS (opsAt Tryd.f72 4) ((true, 0) :: (true, 1) :: (true, 2) :: (true, 3) :: (false, 4) :: (true, 5) :: []) (fun _ => True) (by kernel_rfl) (by kernel_rfl) trivial ?_
  refine k_pure (by kernel_rfl) (d := (some 24)) (by kernel_rfl) (v := .pointer (some ⟨nq, 32, none⟩)) (fun _ => by kernel_rfl) ?_
  refine k_pure (by kernel_rfl) (d := (some 25)) (by kernel_rfl) (v := .pointer (some ⟨b2, 0, none⟩)) (fun _ => by kernel_rfl) ?_
  refine k_pure (by kernel_rfl) (d := (some 26)) (by kernel_rfl) (v := .pointer (some ⟨b2, 0, none⟩)) (fun _ => by kernel_rfl) ?_
  refine k_pure (by kernel_rfl) (d := (some 27)) (by kernel_rfl) (v := .slice (some ⟨b2, 0, none⟩) 32 32) (fun _ => by kernel_rfl) ?_
  refine k_callR (by kernel_rfl) (d := (some 28)) (by kernel_rfl) (f := 87) (args := #[.pointer (some ⟨nq, 32, none⟩), .slice (some ⟨b2, 0, none⟩) 32 32]) (fun _ => by kernel_rfl) (fqFromBytes (HM.out.upd2 x1 (by omega) (by have := HG.out; omega)) (by omega) x1.blk1 (o1 := 32) (k1 := 2) rfl (by show 2 + 1 < 4; decide) x1.blk2 HQ2 (low_valZ p.y.re) (low_valZ p.y.im)) (fun _ w4 ⟨he4, u4⟩ => ⟨_, he4, trivial, ?_⟩)
  rw [zp_val, top0, zp_val] at u4
  have x2 := x1.thenZ (M := flat [0, p.y]) u4 HQ2
  clear u4 he4 x1
  have hc := x2.blk2.cell (k := 1) rfl (o := 16) rfl 15 (by decide)
  rw [hb 0 (.inl rfl)] at hc
  refine k_pure (by kernel_rfl) (d := (some 7)) (by kernel_rfl) (v := .bool true) (fun _ => by kernel_rfl) ?_
  refine k_end ?_
  go_simp
  go_upto_region 5 with (fail)
  refine wp_region_atS (opsAt Tryd.f72 5) ((true, 0) :: (true, 1) :: (true, 2) :: (true, 4) :: (true, 5) :: (true, 7) :: (false, 3) :: (true, 6) :: (true, 8) :: (false, 9) :: []) (fun _ => True) (by kernel_rfl) rfl (by kernel_rfl) (fun _ _ d _ _ h => by cases d <;> exact h) (by kernel_rfl) (by kernel_rfl) trivial ?_
  refine k_pure (by kernel_rfl) (d := (some 29)) (by kernel_rfl) (v := .pointer (some ⟨b2, 0, none⟩)) (fun _ => by kernel_rfl) ?_
  refine k_pure (by kernel_rfl) (d := (some 30)) (by kernel_rfl) (v := .pointer (some ⟨b2, 0, none⟩)) (fun _ => by kernel_rfl) ?_
  refine k_pure (by kernel_rfl) (d := (some 31)) (by kernel_rfl) (v := .pointer (some ⟨b2, 31, none⟩)) (fun _ => by kernel_rfl) ?_
  refine k_pure (by kernel_rfl) (d := (some 33)) (by kernel_rfl) (v := .int .u8 1) (fun _ => by kernel_rfl) ?_
  refine k_pure (by kernel_rfl) (d := (some 34)) (by kernel_rfl) (v := .int .u8 128) (fun _ => by kernel_rfl) ?_
  refine k_pure (by kernel_rfl) (d := (some 36)) (by kernel_rfl) (v := .pointer (some ⟨b2, 0, none⟩)) (fun _ => by kernel_rfl) ?_
  refine k_make (by kernel_rfl) (d := (some 32)) (by kernel_rfl) (v := .int .u8 ((n + 128 * 0 : Nat) : Int)) (run_loadB (ty := 5) (x := (.tmp 31)) (b := b2) (off := 31) (by kernel_rfl) (by kernel_rfl) Tryd.underlying5 (hc)) trivial ?_
  intro w5 hw5 _
  subst hw5
  refine k_pure (by kernel_rfl) (d := (some 35)) (by kernel_rfl) (v := .int .u8 ((n + 128 * 1 : Nat) : Int)) (fun _ => run_binOpV (op := .or) (x := .tmp 32) (y := .tmp 34) (t := 5) (t' := 5) (by kernel_rfl) (by kernel_rfl) (by kernel_rfl) rfl (or7 hn)) ?_
  refine k_pure (by kernel_rfl) (d := (some 37)) (by kernel_rfl) (v := .pointer (some ⟨b2, 31, none⟩)) (fun _ => by kernel_rfl) ?_
  refine k_skipOp (by kernel_rfl) (d := none) (by kernel_rfl) (run_storeB (ty := 5) (k := .u8) (n := ((n + 128 * 1 : Nat) : Int)) (x := (.tmp 37)) (y := (.tmp 35)) (b := b2) (off := 31) (by kernel_rfl) (by kernel_rfl) (by kernel_rfl) (by kernel_rfl) (hc) (x2.blk2.free _)) trivial ?_
  intro w6 hw6 _
  have hu := upd_byte x2.blk2.drew (k := 1) rfl (i := 15) (o := 31) (by decide) rfl (x' := top 1 p.y.im.val) (top_bytes (s := 0)) (v := .int .u8 ((n + 128 * 1 : Nat) : Int)) (hb 1 (.inr rfl)).symm
  rw [← hw6] at hu
  have x3 := x2.thenB (m := [p.y.re.val, top 1 p.y.im.val]) hu.ofDrew HQ2
  clear hu hw6 x2 hc hb hn
  have wk := w6; clear wk
  generalize w6 = w at x3 ⊢
  refine k_end ?_
  go_simp
  have hm := HM.out.upd2 x3 (by omega) (by have := HG.out; omega)
  have hd := HD.out.upd2 x3 (by have := HG.out; omega) (by have := HG.out; omega)
  have h1 : FpsZ w b1 (flat [v0, v1]) := H1.out.of_heap (x3.other _ H1.out.lt (Ne.symm HQ1) HNE.out)
  have HW := x3.size; have HNW := x3.blk1.lt; have HG6 : 5 ≤ w.heap.size := by omega
  have HGM1 := hm.lt; have HG01 := hd.q.fst.lt; have HB1W := h1.lt; have hg := HG6
  have H0 : Sto w [(nq, flat [0, p.y])] w := Sto.one x3.blk1
  have HX3 := Lib.hid x3; have HH1 := Lib.hid h1
  clear x3 h1
  go_upto_region 8 with (fail)
  refine wp_seq_atS (opsAt Tryd.f72 8) ((true, 0) :: (false, 1) :: (true, 2) :: (false, 3) :: (true, 4) :: (false, 5) :: (true, 6) :: (true, 7) :: (true, 8) :: []) (fun _ => True) (by kernel_rfl) (by kernel_rfl) trivial ?_
  refine k_pure (by kernel_rfl) (d := (some 40)) (by kernel_rfl) (v := .agg #[.int .u8 0, .int .u8 0, .int .u8 0, .int .u8 0, .int .u8 0, .int .u8 0, .int .u8 0, .int .u8 0, .int .u8 0, .int .u8 0, .int .u8 0, .int .u8 0, .int .u8 0, .int .u8 0, .int .u8 0, .int .u8 0, .int .u8 0, .int .u8 0, .int .u8 0, .int .u8 0, .int .u8 0, .int .u8 0, .int .u8 0, .int .u8 0, .int .u8 0, .int .u8 0, .int .u8 0, .int .u8 0, .int .u8 0, .int .u8 0, .int .u8 0, .int .u8 0]) (fun _ => by kernel_rfl) ?_
  refine k_make (by kernel_rfl) (d := (some 41)) (by kernel_rfl) (v := .pointer (some ⟨w.heap.size, 0, none⟩)) (w' := w.alloc (.cells (fps (List.replicate 2 0)) 83)) (by kernel_rfl) trivial ?_
  intro w7 hw7 _
  have hge7 : w.heap.size ≤ w.heap.size := H0.size
  have u7 : Sto w [(nq, flat [0, p.y]), (w.heap.size, flat [0])] w7 := by rw [hw7]; exact H0.new (l := List.replicate 2 0) rfl rfl zeroL rfl
  clear hw7
  have H1 : Sto w [(nq, flat [0, p.y]), (w.heap.size, flat [0])] w7 := u7
  clear u7 H0
  refine k_pure (by kernel_rfl) (d := (some 42)) (by kernel_rfl) (v := .agg #[.int .u8 0, .int .u8 0, .int .u8 0, .int .u8 0, .int .u8 0, .int .u8 0, .int .u8 0, .int .u8 0, .int .u8 0, .int .u8 0, .int .u8 0, .int .u8 0, .int .u8 0, .int .u8 0, .int .u8 0, .int .u8 0, .int .u8 0, .int .u8 0, .int .u8 0, .int .u8 0, .int .u8 0, .int .u8 0, .int .u8 0, .int .u8 0, .int .u8 0, .int .u8 0, .int .u8 0, .int .u8 0, .int .u8 0, .int .u8 0, .int .u8 0, .int .u8 0]) (fun _ => by kernel_rfl) ?_
  refine k_make (by kernel_rfl) (d := (some 43)) (by kernel_rfl) (v := .pointer (some ⟨w7.heap.size, 0, none⟩)) (w' := w7.alloc (.cells (fps (List.replicate 2 0)) 83)) (by kernel_rfl) trivial ?_
  intro w8 hw8 _
  have hge8 : w.heap.size ≤ w7.heap.size := H1.size
  have u8 : Sto w [(nq, flat [0, p.y]), (w.heap.size, flat [0]), (w7.heap.size, flat [0])] w8 := by rw [hw8]; exact H1.new (l := List.replicate 2 0) rfl rfl zeroL rfl
  clear hw8
  have H2 : Sto w [(nq, flat [0, p.y]), (w.heap.size, flat [0]), (w7.heap.size, flat [0])] w8 := u8
  clear u8 H1
  refine k_pure (by kernel_rfl) (d := (some 44)) (by kernel_rfl) (v := .agg #[.int .u8 0, .int .u8 0, .int .u8 0, .int .u8 0, .int .u8 0, .int .u8 0, .int .u8 0, .int .u8 0, .int .u8 0, .int .u8 0, .int .u8 0, .int .u8 0, .int .u8 0, .int .u8 0, .int .u8 0, .int .u8 0, .int .u8 0, .int .u8 0, .int .u8 0, .int .u8 0, .int .u8 0, .int .u8 0, .int .u8 0, .int .u8 0, .int .u8 0, .int .u8 0, .int .u8 0, .int .u8 0, .int .u8 0, .int .u8 0, .int .u8 0, .int .u8 0]) (fun _ => by kernel_rfl) ?_
  refine k_make (by kernel_rfl) (d := (some 45)) (by kernel_rfl) (v := .pointer (some ⟨w8.heap.size, 0, none⟩)) (w' := w8.alloc (.cells (fps (List.replicate 2 0)) 83)) (by kernel_rfl) trivial ?_
  intro w9 hw9 _
  have hge9 : w.heap.size ≤ w8.heap.size := H2.size
  have u9 : Sto w [(nq, flat [0, p.y]), (w.heap.size, flat [0]), (w7.heap.size, flat [0]), (w8.heap.size, flat [0])] w9 := by rw [hw9]; exact H2.new (l := List.replicate 2 0) rfl rfl zeroL rfl
  clear hw9
  have H3 : Sto w [(nq, flat [0, p.y]), (w.heap.size, flat [0]), (w7.heap.size, flat [0]), (w8.heap.size, flat [0])] w9 := u9
  clear u9 H2
  refine k_pure (by kernel_rfl) (d := (some 8)) (by kernel_rfl) (v := .pointer (some ⟨w.heap.size, 0, none⟩)) (fun _ => by kernel_rfl) ?_
  refine k_pure (by kernel_rfl) (d := (some 9)) (by kernel_rfl) (v := .pointer (some ⟨w7.heap.size, 0, none⟩)) (fun _ => by kernel_rfl) ?_
  refine k_pure (by kernel_rfl) (d := (some 10)) (by kernel_rfl) (v := .pointer (some ⟨w8.heap.size, 0, none⟩)) (fun _ => by kernel_rfl) ?_
  refine k_end ?_
  go_simp
  go_upto_region 9 with (fail)
  refine wp_seq_atS (opsAt Tryd.f72 9) ((true, 0) :: (false, 1) :: []) (fun _ => True) (by kernel_rfl) (by kernel_rfl) trivial ?_
  refine k_pure (by kernel_rfl) (d := (some 46)) (by kernel_rfl) (v := .pointer (some ⟨w8.heap.size, 0, none⟩)) (fun _ => by kernel_rfl) ?_
  refine k_callR (by kernel_rfl) (d := (some 47)) (by kernel_rfl) (f := 88) (args := #[.pointer (some ⟨w8.heap.size, 0, none⟩)]) (fun _ => by kernel_rfl) (sqSet1 H3 (i := 3) rfl (k1 := 0) rfl (Nat.lt_of_lt_of_eq (by decide : 0 < 1) rfl)) (fun _ w10 q10 => ⟨.tuple #[], q10.1, trivial, ?_⟩)
  have u10 := q10.2
  clear q10
  have H4 : Sto w [(nq, flat [0, p.y]), (w.heap.size, flat [0]), (w7.heap.size, flat [0]), (w8.heap.size, flat [1])] w10 := u10
  clear u10 H3
  refine k_end ?_
  go_simp
  go_upto_region 10 with (fail)
  refine wp_seq_atS (opsAt Tryd.f72 10) ((true, 0) :: (true, 1) :: (false, 2) :: []) (fun _ => True) (by kernel_rfl) (by kernel_rfl) trivial ?_
  refine k_pure (by kernel_rfl) (d := (some 48)) (by kernel_rfl) (v := .pointer (some ⟨w.heap.size, 0, none⟩)) (fun _ => by kernel_rfl) ?_
  refine k_pure (by kernel_rfl) (d := (some 49)) (by kernel_rfl) (v := .pointer (some ⟨nq, 32, none⟩)) (fun _ => by kernel_rfl) ?_
  refine k_callR (by kernel_rfl) (d := (some 50)) (by kernel_rfl) (f := 89) (args := #[.pointer (some ⟨w.heap.size, 0, none⟩), .pointer (some ⟨nq, 32, none⟩)]) (fun _ => by kernel_rfl) (sqSqr H4 (i := 1) rfl (k1 := 0) rfl (Nat.lt_of_lt_of_eq (by decide : 0 < 1) rfl) (H4.atz 0 1 rfl rfl rfl) (z := (p.y) * (p.y)) rfl) (fun _ w11 q11 => ⟨.tuple #[], q11.1, trivial, ?_⟩)
  have u11 := q11.2
  clear q11
  have H5 : Sto w [(nq, flat [0, p.y]), (w.heap.size, flat [(p.y) * (p.y)]), (w7.heap.size, flat [0]), (w8.heap.size, flat [1])] w11 := u11
  clear u11 H4
  refine k_end ?_
  go_simp
  go_upto_region 11 with (fail)
  refine wp_seq_atS (opsAt Tryd.f72 11) ((false, 0) :: (false, 1) :: (false, 2) :: []) (fun _ => True) (by kernel_rfl) (by kernel_rfl) trivial ?_
  refine k_loadZ (by kernel_rfl) (d := (some 51)) (by kernel_rfl) (ty := 83) (x := (.global 0)) (by kernel_rfl) (b := 0) (o := 0) (z := dd) (by kernel_rfl) ((hd).sto H5 (ksC (by omega) (ksC (by omega) (ksC (by omega) (ksC (by omega) ks0))))) Tryd.underlying83 rfl (by kernel_rfl) trivial (fun x12 y12 lx12 ly12 zx12 zy12 => ?_)
  refine k_make (by kernel_rfl) (d := (some 11)) (by kernel_rfl) (v := .pointer (some ⟨w11.heap.size, 0, none⟩)) (w' := w11.alloc (.cells (fps (List.replicate 2 0)) 83)) (by kernel_rfl) trivial ?_
  intro w13 hw13 _
  have hge13 : w.heap.size ≤ w11.heap.size := H5.size
  have u13 : Sto w [(nq, flat [0, p.y]), (w.heap.size, flat [(p.y) * (p.y)]), (w7.heap.size, flat [0]), (w8.heap.size, flat [1]), (w11.heap.size, flat [0])] w13 := by rw [hw13]; exact H5.new (l := List.replicate 2 0) rfl rfl zeroL rfl
  clear hw13
  have H6 : Sto w [(nq, flat [0, p.y]), (w.heap.size, flat [(p.y) * (p.y)]), (w7.heap.size, flat [0]), (w8.heap.size, flat [1]), (w11.heap.size, flat [0])] w13 := u13
  clear u13 H5
  refine k_storeZ (by kernel_rfl) (d := none) (by kernel_rfl) (ty := 83) (x := (.tmp 11)) (y := (.tmp 51)) (by kernel_rfl) (b := w11.heap.size) (o := 0) (k := 2 * 0) (u := x12) (v := y12) (by kernel_rfl) (by kernel_rfl) (H6.blk 4 _ _ rfl) (k2 rfl) (flat_lt (Nat.lt_of_lt_of_eq (by decide : 0 < 1) rfl)) lx12 ly12 zx12 zy12 (by kernel_rfl) (fun w14 u14 => ⟨trivial, ?_⟩)
  have u14 := H6.upd (i := 4) rfl u14
  rw [flat_set] at u14
  have H7 : Sto w [(nq, flat [0, p.y]), (w.heap.size, flat [(p.y) * (p.y)]), (w7.heap.size, flat [0]), (w8.heap.size, flat [1]), (w11.heap.size, flat [dd])] w14 := u14
  clear u14 H6
  clear zx12 zy12
  refine k_end ?_
  go_simp
  go_upto_region 12 with (fail)
  refine wp_seq_atS (opsAt Tryd.f72 12) ((true, 0) :: (true, 1) :: (false, 2) :: []) (fun _ => True) (by kernel_rfl) (by kernel_rfl) trivial ?_
  refine k_pure (by kernel_rfl) (d := (some 52)) (by kernel_rfl) (v := .pointer (some ⟨w7.heap.size, 0, none⟩)) (fun _ => by kernel_rfl) ?_
  refine k_pure (by kernel_rfl) (d := (some 53)) (by kernel_rfl) (v := .pointer (some ⟨w.heap.size, 0, none⟩)) (fun _ => by kernel_rfl) ?_
  refine k_callR (by kernel_rfl) (d := (some 54)) (by kernel_rfl) (f := 90) (args := #[.pointer (some ⟨w7.heap.size, 0, none⟩), .pointer (some ⟨w.heap.size, 0, none⟩), .pointer (some ⟨w11.heap.size, 0, none⟩)]) (fun _ => by kernel_rfl) (sqMul H7 (i := 2) rfl (k1 := 0) rfl (Nat.lt_of_lt_of_eq (by decide : 0 < 1) rfl) (H7.atz 1 0 rfl rfl rfl) (H7.atz 4 0 rfl rfl rfl) (z := ((p.y) * (p.y)) * dd) rfl) (fun _ w15 q15 => ⟨.tuple #[], q15.1, trivial, ?_⟩)
  have u15 := q15.2
  clear q15
  have H8 : Sto w [(nq, flat [0, p.y]), (w.heap.size, flat [(p.y) * (p.y)]), (w7.heap.size, flat [((p.y) * (p.y)) * dd]), (w8.heap.size, flat [1]), (w11.heap.size, flat [dd])] w15 := u15
  clear u15 H7
  refine k_end ?_
  go_simp
  go_upto_region 13 with (fail)
  refine wp_seq_atS (opsAt Tryd.f72 13) ((true, 0) :: (true, 1) :: (true, 2) :: (false, 3) :: []) (fun _ => True) (by kernel_rfl) (by kernel_rfl) trivial ?_
  refine k_pure (by kernel_rfl) (d := (some 55)) (by kernel_rfl) (v := .pointer (some ⟨w.heap.size, 0, none⟩)) (fun _ => by kernel_rfl) ?_
  refine k_pure (by kernel_rfl) (d := (some 56)) (by kernel_rfl) (v := .pointer (some ⟨w.heap.size, 0, none⟩)) (fun _ => by kernel_rfl) ?_
  refine k_pure (by kernel_rfl) (d := (some 57)) (by kernel_rfl) (v := .pointer (some ⟨w8.heap.size, 0, none⟩)) (fun _ => by kernel_rfl) ?_
  refine k_callR (by kernel_rfl) (d := (some 58)) (by kernel_rfl) (f := 91) (args := #[.pointer (some ⟨w.heap.size, 0, none⟩), .pointer (some ⟨w.heap.size, 0, none⟩), .pointer (some ⟨w8.heap.size, 0, none⟩)]) (fun _ => by kernel_rfl) (sqSub H8 (i := 1) rfl (k1 := 0) rfl (Nat.lt_of_lt_of_eq (by decide : 0 < 1) rfl) (H8.atz 1 0 rfl rfl rfl) (H8.atz 3 0 rfl rfl rfl) (z := ((p.y) * (p.y)) - 1) rfl) (fun _ w16 q16 => ⟨.tuple #[], q16.1, trivial, ?_⟩)
  have u16 := q16.2
  clear q16
  have H9 : Sto w [(nq, flat [0, p.y]), (w.heap.size, flat [((p.y) * (p.y)) - 1]), (w7.heap.size, flat [((p.y) * (p.y)) * dd]), (w8.heap.size, flat [1]), (w11.heap.size, flat [dd])] w16 := u16
  clear u16 H8
  refine k_end ?_
  go_simp
  go_upto_region 14 with (fail)
  refine wp_seq_atS (opsAt Tryd.f72 14) ((true, 0) :: (true, 1) :: (true, 2) :: (false, 3) :: []) (fun _ => True) (by kernel_rfl) (by kernel_rfl) trivial ?_
  refine k_pure (by kernel_rfl) (d := (some 59)) (by kernel_rfl) (v := .pointer (some ⟨w7.heap.size, 0, none⟩)) (fun _ => by kernel_rfl) ?_
  refine k_pure (by kernel_rfl) (d := (some 60)) (by kernel_rfl) (v := .pointer (some ⟨w7.heap.size, 0, none⟩)) (fun _ => by kernel_rfl) ?_
  refine k_pure (by kernel_rfl) (d := (some 61)) (by kernel_rfl) (v := .pointer (some ⟨w8.heap.size, 0, none⟩)) (fun _ => by kernel_rfl) ?_
  refine k_callR (by kernel_rfl) (d := (some 62)) (by kernel_rfl) (f := 92) (args := #[.pointer (some ⟨w7.heap.size, 0, none⟩), .pointer (some ⟨w7.heap.size, 0, none⟩), .pointer (some ⟨w8.heap.size, 0, none⟩)]) (fun _ => by kernel_rfl) (sqAdd H9 (i := 2) rfl (k1 := 0) rfl (Nat.lt_of_lt_of_eq (by decide : 0 < 1) rfl) (H9.atz 2 0 rfl rfl rfl) (H9.atz 3 0 rfl rfl rfl) (z := (((p.y) * (p.y)) * dd) + 1) rfl) (fun _ w17 q17 => ⟨.tuple #[], q17.1, trivial, ?_⟩)
  have u17 := q17.2
  clear q17
  have H10 : Sto w [(nq, flat [0, p.y]), (w.heap.size, flat [((p.y) * (p.y)) - 1]), (w7.heap.size, flat [(((p.y) * (p.y)) * dd) + 1]), (w8.heap.size, flat [1]), (w11.heap.size, flat [dd])] w17 := u17
  clear u17 H9
  refine k_end ?_
  go_simp
  go_upto_region 15 with (fail)
  refine wp_seq_atS (opsAt Tryd.f72 15) ((true, 0) :: (true, 1) :: (true, 2) :: (true, 3) :: (true, 4) :: (true, 5) :: (true, 6) :: (false, 7) :: []) (fun _ => True) (by kernel_rfl) (by kernel_rfl) trivial ?_
  refine k_pure (by kernel_rfl) (d := (some 63)) (by kernel_rfl) (v := .pointer (some ⟨nq, 0, none⟩)) (fun _ => by kernel_rfl) ?_
  refine k_pure (by kernel_rfl) (d := (some 64)) (by kernel_rfl) (v := .pointer (some ⟨w.heap.size, 0, none⟩)) (fun _ => by kernel_rfl) ?_
  refine k_pure (by kernel_rfl) (d := (some 65)) (by kernel_rfl) (v := .pointer (some ⟨w7.heap.size, 0, none⟩)) (fun _ => by kernel_rfl) ?_
  refine k_pure (by kernel_rfl) (d := (some 66)) (by kernel_rfl) (v := .int .u8 1) (fun _ => by kernel_rfl) ?_
  refine k_pure (by kernel_rfl) (d := (some 67)) (by kernel_rfl) (v := .int .i64 1) (fun _ => by kernel_rfl) ?_
  refine k_pure (by kernel_rfl) (d := (some 68)) (by kernel_rfl) (v := .int .i64 2) (fun _ => by kernel_rfl) ?_
  refine k_pure (by kernel_rfl) (d := (some 69)) (by kernel_rfl) (v := .int .i64 (-1)) (fun _ => by kernel_rfl) ?_
  refine k_callR (by kernel_rfl) (d := (some 70)) (by kernel_rfl) (f := 83) (args := #[.pointer (some ⟨nq, 0, none⟩), .pointer (some ⟨w.heap.size, 0, none⟩), .pointer (some ⟨w7.heap.size, 0, none⟩), .int .i64 (-1)]) (fun _ => by kernel_rfl) (sqSqrt HF.out (hm.sto H10 (ksC (Nat.ne_of_gt (by omega)) (ksC (Nat.ne_of_gt (by omega)) (ksC (Nat.ne_of_gt (by omega)) (ksC (Nat.ne_of_gt (by omega)) (ksC (Nat.ne_of_gt (by omega)) ks0)))))) (by omega) H10 (i := 0) rfl (k1 := 0) rfl (Nat.lt_of_lt_of_eq (by decide : 0 < 2) rfl) (H10.atz 1 0 rfl rfl rfl) (H10.atz 2 0 rfl rfl rfl) (H10.ne 1 0 _ _ _ _ rfl rfl (by decide)) (H10.ne 2 0 _ _ _ _ rfl rfl (by decide))) (fun _ w18 q18 => ⟨.tuple #[], q18.1, trivial, ?_⟩)
  have u18 := q18.2
  clear q18
  have H11 : Sto w [(nq, flat [f, p.y]), (w.heap.size, flat [((p.y) * (p.y)) - 1]), (w7.heap.size, flat [(((p.y) * (p.y)) * dd) + 1]), (w8.heap.size, flat [1]), (w11.heap.size, flat [dd])] w18 := u18
  clear u18 H10
  refine k_end ?_
  go_simp
  go_upto_region 16 with (fail)
  refine wp_seq_atS (opsAt Tryd.f72 16) ((false, 0) :: (true, 1) :: []) (fun _ => True) (by kernel_rfl) (by kernel_rfl) trivial ?_
  refine k_callR (by kernel_rfl) (d := (some 71)) (by kernel_rfl) (f := 70) (args := #[.pointer (some ⟨nq, 0, none⟩)]) (fun _ => by kernel_rfl) (goE H11 (onCP0 (hm.sto H11 (ksC (Nat.ne_of_gt (by omega)) (ksC (Nat.ne_of_gt (by omega)) (ksC (Nat.ne_of_gt (by omega)) (ksC (Nat.ne_of_gt (by omega)) (ksC (Nat.ne_of_gt (by omega)) ks0)))))) (Nat.le_trans HG6 H11.size) (hd.sto H11 (ksC (by omega) (ksC (by omega) (ksC (by omega) (ksC (by omega) (ksC (by omega) ks0)))))) (H11.blk 0 _ _ rfl).atL HC.out.1)) (fun _ w19 q19 => ⟨.bool false, q19.1, trivial, ?_⟩)
  have u19 := q19.2
  clear q19
  have H12 : Sto w [(nq, flat [f, p.y]), (w.heap.size, flat [((p.y) * (p.y)) - 1]), (w7.heap.size, flat [(((p.y) * (p.y)) * dd) + 1]), (w8.heap.size, flat [1]), (w11.heap.size, flat [dd])] w19 := u19
  clear u19 H11
  refine k_pure (by kernel_rfl) (d := (some 72)) (by kernel_rfl) (v := .bool true) (fun _ => by kernel_rfl) ?_
  refine k_end ?_
  go_simp
  go_upto_region 17 with (fail)
  refine wp_seq_atS (opsAt Tryd.f72 17) ((true, 0) :: (true, 1) :: (true, 2) :: (true, 3) :: (false, 4) :: []) (fun _ => True) (by kernel_rfl) (by kernel_rfl) trivial ?_
  refine k_pure (by kernel_rfl) (d := (some 73)) (by kernel_rfl) (v := .pointer (some ⟨nq, 0, none⟩)) (fun _ => by kernel_rfl) ?_
  refine k_pure (by kernel_rfl) (d := (some 74)) (by kernel_rfl) (v := .pointer (some ⟨nq, 16, none⟩)) (fun _ => by kernel_rfl) ?_
  refine k_pure (by kernel_rfl) (d := (some 75)) (by kernel_rfl) (v := .pointer (some ⟨nq, 0, none⟩)) (fun _ => by kernel_rfl) ?_
  refine k_pure (by kernel_rfl) (d := (some 76)) (by kernel_rfl) (v := .pointer (some ⟨nq, 16, none⟩)) (fun _ => by kernel_rfl) ?_
  refine k_callR (by kernel_rfl) (d := (some 77)) (by kernel_rfl) (f := 93) (args := #[.pointer (some ⟨nq, 16, none⟩), .pointer (some ⟨nq, 16, none⟩)]) (fun _ => by kernel_rfl) (up1 H12 (i := 0) rfl (atNeg (hm.sto H12 (ksC (Nat.ne_of_gt (by omega)) (ksC (Nat.ne_of_gt (by omega)) (ksC (Nat.ne_of_gt (by omega)) (ksC (Nat.ne_of_gt (by omega)) (ksC (Nat.ne_of_gt (by omega)) ks0)))))) (H12.blk 0 _ _ rfl) ((H12.blk 0 _ _ rfl).atK (k := 1) rfl rfl) (k1 := 1) rfl (by show 1 < 4; decide) rfl)) (fun _ w20 q20 => ⟨.tuple #[], q20.1, trivial, ?_⟩)
  have u20 := q20.2
  clear q20
  have H13 : Sto w [(nq, flat [conj f, p.y]), (w.heap.size, flat [((p.y) * (p.y)) - 1]), (w7.heap.size, flat [(((p.y) * (p.y)) * dd) + 1]), (w8.heap.size, flat [1]), (w11.heap.size, flat [dd])] w20 := u20
  clear u20 H12
  refine k_end ?_
  go_simp
  go_upto_region 18 with (fail)
  refine wp_seq_atS (opsAt Tryd.f72 18) ((false, 0) :: (true, 1) :: []) (fun _ => True) (by kernel_rfl) (by kernel_rfl) trivial ?_
  refine k_callR (by kernel_rfl) (d := (some 78)) (by kernel_rfl) (f := 70) (args := #[.pointer (some ⟨nq, 0, none⟩)]) (fun _ => by kernel_rfl) (goE H13 (onCP1 (hm.sto H13 (ksC (Nat.ne_of_gt (by omega)) (ksC (Nat.ne_of_gt (by omega)) (ksC (Nat.ne_of_gt (by omega)) (ksC (Nat.ne_of_gt (by omega)) (ksC (Nat.ne_of_gt (by omega)) ks0)))))) (Nat.le_trans HG6 H13.size) (hd.sto H13 (ksC (by omega) (ksC (by omega) (ksC (by omega) (ksC (by omega) (ksC (by omega) ks0)))))) (H13.blk 0 _ _ rfl).atL HC.out.2)) (fun _ w21 q21 => ⟨.bool true, q21.1, trivial, ?_⟩)
  have u21 := q21.2
  clear q21
  have H14 : Sto w [(nq, flat [conj f, p.y]), (w.heap.size, flat [((p.y) * (p.y)) - 1]), (w7.heap.size, flat [(((p.y) * (p.y)) * dd) + 1]), (w8.heap.size, flat [1]), (w11.heap.size, flat [dd])] w21 := u21
  clear u21 H13
  refine k_pure (by kernel_rfl) (d := (some 79)) (by kernel_rfl) (v := .bool false) (fun _ => by kernel_rfl) ?_
  refine k_end ?_
  go_simp
  go_upto_region 20 with (fail)
  obtain ⟨l, ⟨TL, hTL⟩, hml, hll⟩ := H14.blk 0 _ _ rfl
  obtain ⟨a, b, c, d, rfl, -, -, -, -⟩ := four_list hml
  obtain ⟨l1, ⟨TB, hTB⟩, hm1, -⟩ := HH1.out.of_heap (H14.other _ HH1.out.lt (ksC (by omega) (ksC (by omega) (ksC (by omega) (ksC (by omega) (ksC (by omega) ks0))))))
  obtain ⟨a1, c1, d1, e1, rfl, -, -, -, -⟩ := four_list hm1
  have HS := Lib.hid H14; clear H14
  refine wp_seq_atS (opsAt Tryd.f72 20) ((true, 0) :: (false, 1) :: (true, 2) :: (false, 3) :: []) (fun _ => True) (by kernel_rfl) (by kernel_rfl) trivial ?_
  refine k_pure (by kernel_rfl) (d := (some 80)) (by kernel_rfl) (v := .pointer (some ⟨b1, 0, none⟩)) (fun _ => by kernel_rfl) ?_
  refine k_make (by kernel_rfl) (d := (some 81)) (by kernel_rfl) (v := .agg (fps [a, b, c, d])) (run_loadRow (ty := 85) (x := .tmp 5) (b := nq) (by kernel_rfl) (by kernel_rfl) hTL Tryd.underlying85 rfl (by kernel_rfl)) trivial ?_
  intro wz hwz _
  subst hwz
  refine k_pure (by kernel_rfl) (d := (some 82)) (by kernel_rfl) (v := .pointer (some ⟨b1, 0, none⟩)) (fun _ => by kernel_rfl) ?_
  refine k_put (by kernel_rfl) (d := none) (by kernel_rfl) (ty := 85) (x := .tmp 82) (y := .tmp 81) (by kernel_rfl) (g := b1) (cells := fps [a, b, c, d]) (by kernel_rfl) (by kernel_rfl) hTB (by kernel_rfl) (by kernel_rfl) (all_fps _) trivial ?_
  intro wy hwy _
  have hu := upd_setRow (m := [a, b, c, d]) hTB
  rw [← hwy] at hu
  clear hwy
  have HY := Lib.hid ((HX3.out.thenZ (HS.out.end1 (tsC (by omega) (tsC (by omega) (tsC (by omega) (tsC (by omega) ts0))))) HQ2).last hu (Nat.le_of_eq HNQ.out) hml hll (Ne.symm HNE.out))
  clear hTL hml hll hTB hm1 hu HS
  refine k_end ?_
  go_simp
  go_wp2_with fail
  exact bodyPost_ret_by (by kernel_rfl) (by kernel_rfl) ⟨rfl, HY.out⟩
end Go.Proofs.YtfkfljohhabldaaDoor
namespace Go.FourQ
open Go.RowKit
/-- w' is w, but that these two blocks hold other things (of the first one the very bytes); there may be new blocks. -/
structure UpdX (w w' : World) (b : Nat) (l : List Nat) (c : Nat) : Prop where
  os : w'.os = w.os
  tape : w'.tape = w.tape
  output : w'.output = w.output
  size : w.heap.size ≤ w'.heap.size
  blk : Fps w' b l
  other : ∀ k, k < w.heap.size → k ≠ b → k ≠ c → w'.heap[k]? = w.heap[k]?
theorem nc0 {w2 : World} {c : Nat} : ∀ p ∈ ([] : List (Nat × Nat)), p.1 = c → ∃ T old, old.size = p.2 ∧ w2.heap[c]? = some (.cells old T (0, 0)) := fun _ hp => by simp at hp
theorem ncN {w2 : World} {c b m : Nat} {ns : List (Nat × Nat)} (hb : b ≠ c) (r : ∀ p ∈ ns, p.1 = c → ∃ T old, old.size = p.2 ∧ w2.heap[c]? = some (.cells old T (0, 0))) : ∀ p ∈ (b, m) :: ns, p.1 = c → ∃ T old, old.size = p.2 ∧ w2.heap[c]? = some (.cells old T (0, 0)) := fun p hp e => by
  rcases List.mem_cons.1 hp with rfl | hp
  · exact absurd e hb
  · exact r p hp e
theorem ncE {w2 : World} {c m : Nat} {l : List Nat} {ns : List (Nat × Nat)} (hm : 16 * l.length = m) (hf : Fps w2 c l) (r : ∀ p ∈ ns, p.1 = c → ∃ T old, old.size = p.2 ∧ w2.heap[c]? = some (.cells old T (0, 0))) : ∀ p ∈ (c, m) :: ns, p.1 = c → ∃ T old, old.size = p.2 ∧ w2.heap[c]? = some (.cells old T (0, 0)) := fun p hp e => by
  rcases List.mem_cons.1 hp with rfl | hp
  · obtain ⟨T, hT⟩ := hf; exact ⟨T, _, (size_fps l).trans hm, hT⟩
  · exact r p hp e
theorem Kept.updx {w0 w1 w2 : World} {bs : List (Nat × Array Value)} {ns : List (Nat × Nat)} (h : Kept w0 bs ns w1) {g n c : Nat} {l : List Nat} (u : UpdX w1 w2 g l c) (hn : 16 * l.length = n) (hg : w0.heap.size ≤ g) (hc : w0.heap.size ≤ c) (hb : ∀ p ∈ bs, p.1 ≠ g) (hbc : ∀ p ∈ bs, p.1 ≠ c) (hns : ∀ p ∈ ns, p.1 = g → p.2 = n)
    (hnc : ∀ p ∈ ns, p.1 = c → ∃ T old, old.size = p.2 ∧ w2.heap[c]? = some (.cells old T (0, 0))) : Kept w0 bs ns w2 where
  nb := h.nb.trans ⟨u.os, u.tape, u.output, u.size, fun k hk => u.other k (Nat.lt_of_lt_of_le hk h.nb.size) (by omega) (by omega)⟩
  row := fun p hp => by obtain ⟨T, hT⟩ := h.row p hp; exact ⟨T, (u.other _ (lt_of_heap hT) (hb p hp) (hbc p hp)).trans hT⟩
  room := fun p hp => by
    obtain ⟨T, old, ho, hT⟩ := h.room p hp
    by_cases e : p.1 = g
    · have h2 := hns p hp e
      obtain ⟨T', hT'⟩ := u.blk
      rw [e]
      exact ⟨T', _, by rw [size_fps, hn, h2], hT'⟩
    · by_cases e2 : p.1 = c
      · rw [e2]; exact hnc p hp e2
      · exact ⟨T, old, ho, (u.other _ (lt_of_heap hT) e e2).trans hT⟩
end Go.FourQ
namespace Go.Proofs.YtfkfljohhabldaaDoor
open Go.RowKit Go.FourQ
section
variable {w : World} {b1 b2 u v : Nat} {x y : Zq} {p : Pt}
theorem marshalE (hm : ModW w) (hg : 5 ≤ b1 ∧ 5 ≤ b2) (h1 : FpsZ w b1 (flat [x, y])) (h2 : Fps w b2 [u, v]) (hne : b1 ≠ b2) {e : Nat} (he : ebit x = e) :
    Calls Tryd.prog 71 #[.pointer (some ⟨b1, 0, none⟩), .pointer (some ⟨b2, 0, none⟩)] w fun ee w' => ee = .returned (.tuple #[]) ∧ UpdX w w' b2 [y.re.val, top e y.im.val] b1 := by
  have key : ∀ {l : List Nat} {w' : World}, Upd2 w w' b1 (flat [x, y]) b2 l → UpdX w w' b2 l b1 := fun q => ⟨q.os, q.tape, q.output, q.size, q.blk2, fun k hk h1 h2 => q.other k hk h2 h1⟩
  subst he
  by_cases hx : x = 0
  · subst hx
    rw [ebit_zero]
    exact (marshalZ sgnQ_zero hm hg h1 h2 hne).mono fun _ _ q => ⟨q.1, key q.2⟩
  · rcases sgnQ_pm (zq_ne hx) with e | e
    · rw [show ebit x = 0 by unfold ebit; rw [e]; decide]
      exact (marshalP e hm hg h1 h2 hne).mono fun _ _ q => ⟨q.1, key q.2⟩
    · rw [show ebit x = 1 by unfold ebit; rw [e]; decide]
      exact (marshalM e hm hg h1 h2 hne).mono fun _ _ q => ⟨q.1, key q.2⟩
theorem Upd2.fourX {w w' : World} {b1 b2 : Nat} {l : List Nat} {x y : Zq} (q : Upd2 w w' b1 (flat [x, y]) b2 l) : ∃ a b c d, (LowB a ∧ LowB b ∧ LowB c ∧ LowB d) ∧ (zp a = x.re ∧ zp b = x.im ∧ zp c = y.re ∧ zp d = y.im) ∧ Fps w' b2 l ∧ UpdX w w' b1 [a, b, c, d] b2 := by
  obtain ⟨m, hl, hm, hlow⟩ := q.blk1
  obtain ⟨a, b, c, d, rfl, h1, h2, h3, h4⟩ := four_list hm
  exact ⟨a, b, c, d, ⟨hlow a (by simp), hlow b (by simp), hlow c (by simp), hlow d (by simp)⟩, ⟨h1, h2, h3, h4⟩, q.blk2, ⟨q.os, q.tape, q.output, q.size, hl, q.other⟩⟩
theorem unmE {X Y : Zq} (hX : p.x = X) (hY : p.y = Y) {e : Nat} (he : ebit p.x = e) (hm : ModW w) (hg : 5 ≤ b1 ∧ 5 ≤ b2 ∧ 5 ≤ w.heap.size) (hd : AtZ w 0 0 dd) (h1 : FpsZ w b1 (flat [0, 0])) (h2 : Fps w b2 [Y.re.val, top e Y.im.val]) (hne : b1 ≠ b2) :
    Calls Tryd.prog 72 #[.pointer (some ⟨b1, 0, none⟩), .pointer (some ⟨b2, 0, none⟩)] w fun ee w' => ∃ a b c d, ee = .returned (.bool true) ∧ (LowB a ∧ LowB b ∧ LowB c ∧ LowB d) ∧ (zp a = X.re ∧ zp b = X.im ∧ zp c = Y.re ∧ zp d = Y.im) ∧ Fps w' b2 [Y.re.val, top e Y.im.val] ∧ UpdX w w' b1 [a, b, c, d] b2 := by
  subst hX hY
  obtain ⟨f, hf⟩ := SqV.ex (p.y * p.y - 1) (p.y * p.y * dd + 1) (esgn (ebit p.x))
  have hr := decode_root hf
  have key : ∀ {w' : World} {ee : Ending}, (ee = .returned (.bool true) ∧ Upd2 w w' b1 (flat [p.x, p.y]) b2 [p.y.re.val, top e p.y.im.val]) → ∃ a b c d, ee = .returned (.bool true) ∧ (LowB a ∧ LowB b ∧ LowB c ∧ LowB d) ∧ (zp a = p.x.re ∧ zp b = p.x.im ∧ zp c = p.y.re ∧ zp d = p.y.im) ∧ Fps w' b2 [p.y.re.val, top e p.y.im.val] ∧ UpdX w w' b1 [a, b, c, d] b2 := fun ⟨h, q⟩ => by
    obtain ⟨a, b, c, d, h1, h2, h3, h4⟩ := Upd2.fourX q
    exact ⟨a, b, c, d, h, h1, h2, h3, h4⟩
  rw [he] at hf
  rcases (he ▸ ebit01 p.x : e = 0 ∨ e = 1) with rfl | rfl
  · by_cases hc : OnC f p.y
    · have := unm00 hf hc hm hg hd h1 h2 hne
      rw [hr.1 hc] at this
      exact this.mono fun _ _ q => key q
    · have := unm01 hf ⟨hc, decode_on (hr.2 hc)⟩ hm hg hd h1 h2 hne
      rw [hr.2 hc] at this
      exact this.mono fun _ _ q => key q
  · by_cases hc : OnC f p.y
    · have := unm10 hf hc hm hg hd h1 h2 hne
      rw [hr.1 hc] at this
      exact this.mono fun _ _ q => key q
    · have := unm11 hf ⟨hc, decode_on (hr.2 hc)⟩ hm hg hd h1 h2 hne
      rw [hr.2 hc] at this
      exact this.mono fun _ _ q => key q
end
set_option maxRecDepth 100000 in
set_option maxHeartbeats 1000000 in
theorem implEncode {w : World} {x y : Zq} {eb : Nat} (he : ebit x = eb) (hm : ModW w) (hg : 5 ≤ w.heap.size) :
    Calls Tryd.prog 39 #[.agg (fps [x.re.val, x.im.val, y.re.val, y.im.val])] w fun e w' => e = .returned (.agg (fps [y.re.val, top eb y.im.val])) ∧ Below w.heap.size w w' := by
  have HE := Lib.hid he
  clear he
  go_enter Tryd.func39, Tryd.ntmps39
  go_upto_region 2 with (fail)
  refine wp_gen (fun WW => Kept w [(w.heap.size, (fps [x.re.val, x.im.val, y.re.val, y.im.val])), (w.heap.size + 1, (fps [0, 0])), (w.heap.size + 1 + 1, (fps [0, 0]))] [] WW) (Kept.zero (nb_alloc (nb_alloc (nb_alloc (Below.refl _ _) _) _) _) (rowsC (row_as (hp3_0 (w := w) _ _ _) (by kernel_rfl)) (rowsC (row_as (hp3_1 (w := w) _ _ _) (by kernel_rfl)) (rowsC (row_as (hp3_2 (w := w) _ _ _) (by kernel_rfl)) rows0)))) ?_
  intro W0 K0
  have O2K1 := K0.at 2 rfl
  obtain ⟨T2K1, O2K1⟩ := O2K1
  have K1 : Kept w [(w.heap.size, (fps [x.re.val, x.im.val, y.re.val, y.im.val])), (w.heap.size + 1, (fps [0, 0]))] [(w.heap.size + 1 + 1, 32)] W0 := Kept.mks K0.nb (rowsC (K0.at 0 rfl) (rowsC (K0.at 1 rfl) rows0)) (roomsC (by kernel_rfl) O2K1 rooms0)
  refine wp_seq_atS (opsAt Tryd.f39 2) ((true, 0) :: (false, 1) :: (false, 2) :: []) (Kept w [(w.heap.size, (fps [x.re.val, x.im.val, y.re.val, y.im.val])), (w.heap.size + 1, (fps [0, 0]))] [(w.heap.size + 1 + 1, 32)]) (by kernel_rfl) (by kernel_rfl) K1 ?_
  refine k_row (by kernel_rfl) (d := (some 4)) (by kernel_rfl) (ty := 35) (x := (.tmp 1)) (by kernel_rfl) (b := w.heap.size) (by kernel_rfl) (cs := (fps [x.re.val, x.im.val, y.re.val, y.im.val])) (fun _ hs => hs.at 0 rfl) Tryd.underlying35 rfl (by kernel_rfl) ?_
  refine k_callR (by kernel_rfl) (d := (some 5)) (by kernel_rfl) (f := 50) (args := #[.agg (fps [x.re.val, x.im.val, y.re.val, y.im.val])]) (fun _ => by kernel_rfl) (made_c) (fun _ w2 ⟨n2, he2, hge2, ⟨T2, F2⟩, hb2⟩ => ⟨_, he2, K1.go hb2, ?_⟩)
  have K2 := K1.go hb2
  have M2_0 := lt_of_heap O2K1
  have R2_0 : w.heap.size < W0.heap.size := (by obtain ⟨T, h⟩ := K1.at 0 rfl; exact lt_of_heap h)
  have R2_1 : w.heap.size + 1 < W0.heap.size := (by obtain ⟨T, h⟩ := K1.at 1 rfl; exact lt_of_heap h)
  have Z2 : w.heap.size ≤ W0.heap.size := K1.nb.size
  have G2_10 := nb_heap O2K1 _ hb2
  have L2 := hb2.size
  have S2 := lt_of_heap F2
  refine k_callR (by kernel_rfl) (d := (some 6)) (by kernel_rfl) (f := 71) (args := #[.pointer (some ⟨n2, 0, none⟩), .pointer (some ⟨w.heap.size + 1 + 1, 0, none⟩)]) (fun _ => by kernel_rfl) (marshalE (hm.nb K2.nb) (by omega) (row_fps F2) ⟨_, G2_10⟩ (by omega) HE.out) (fun _ w3 ⟨he3, hb3⟩ => ⟨_, he3, K2.updx (n := 32) hb3 rfl (by omega) (by omega) (neC (by omega) (neC (by omega) ne0)) (neC (by omega) (neC (by omega) ne0)) (nsE ns0) (ncN (by omega) nc0), ?_⟩)
  have K3 := K2.updx (n := 32) hb3 rfl (by omega) (by omega) (neC (by omega) (neC (by omega) ne0)) (neC (by omega) (neC (by omega) ne0)) (nsE ns0) (ncN (by omega) nc0)
  obtain ⟨TU3, V3_u⟩ := hb3.blk
  have L3 := hb3.size
  have K4 : Kept w [(w.heap.size, (fps [x.re.val, x.im.val, y.re.val, y.im.val])), (w.heap.size + 1, (fps [0, 0])), (w.heap.size + 1 + 1, (fps [y.re.val, top eb y.im.val]))] [] w3 := Kept.zero K3.nb (rowsC (K3.at 0 rfl) (rowsC (K3.at 1 rfl) (rowsC ⟨_, V3_u⟩ rows0)))
  clear O2K1 F2 V3_u G2_10
  refine k_end ?_
  go_simp
  go_upto_region 3 with (fail)
  have O1K5 := K4.at 1 rfl
  obtain ⟨T1K5, O1K5⟩ := O1K5
  have K5 : Kept w [(w.heap.size, (fps [x.re.val, x.im.val, y.re.val, y.im.val])), (w.heap.size + 1 + 1, (fps [y.re.val, top eb y.im.val]))] [(w.heap.size + 1, 32)] w3 := Kept.mks K4.nb (rowsC (K4.at 0 rfl) (rowsC (K4.at 2 rfl) rows0)) (roomsC (by kernel_rfl) O1K5 rooms0)
  refine wp_seq_atS (opsAt Tryd.f39 3) ((true, 0) :: (false, 1) :: []) (Kept w [(w.heap.size, (fps [x.re.val, x.im.val, y.re.val, y.im.val])), (w.heap.size + 1 + 1, (fps [y.re.val, top eb y.im.val]))] [(w.heap.size + 1, 32)]) (by kernel_rfl) (by kernel_rfl) K5 ?_
  refine k_row (by kernel_rfl) (d := (some 7)) (by kernel_rfl) (ty := 63) (x := (.tmp 3)) (by kernel_rfl) (b := w.heap.size + 1 + 1) (by kernel_rfl) (cs := (fps [y.re.val, top eb y.im.val])) (fun _ hs => hs.at 1 rfl) Tryd.underlying63 rfl (by kernel_rfl) ?_
  refine k_put (by kernel_rfl) (d := none) (by kernel_rfl) (ty := 63) (x := (.tmp 2)) (y := (.tmp 7)) (by kernel_rfl) (g := w.heap.size + 1) (cells := (fps [y.re.val, top eb y.im.val])) (by kernel_rfl) (by kernel_rfl) O1K5 (by kernel_rfl) (by kernel_rfl) (all_fps _) (K5.puti (n := 32) (by kernel_rfl) (by omega) (neC (by omega) (neC (by omega) ne0)) (nsE ns0)) ?_
  intro w6 hw6 K6
  have G6_s : w6.heap[w.heap.size + 1]? = some (.cells (fps [y.re.val, top eb y.im.val]) _ (0, 0)) := hw6 ▸ setRow_heap _ _ _ _ _ _ O1K5
  have L6 : w3.heap.size ≤ w6.heap.size := by rw [hw6]; exact Nat.le_of_eq (size_setRow _ _ _).symm
  clear hw6
  have K7 : Kept w [(w.heap.size, (fps [x.re.val, x.im.val, y.re.val, y.im.val])), (w.heap.size + 1, (fps [y.re.val, top eb y.im.val])), (w.heap.size + 1 + 1, (fps [y.re.val, top eb y.im.val]))] [] w6 := Kept.zero K6.nb (rowsC (K6.at 0 rfl) (rowsC ⟨_, G6_s⟩ (rowsC (K6.at 1 rfl) rows0)))
  clear O1K5 G6_s
  refine k_end ?_
  go_simp
  go_wp2_with fail
  obtain ⟨TR, hR⟩ := K7.at 1 rfl
  exact bodyPost_ret_by (results_cell_row rfl _ _ (w.heap.size + 1) _ (fps [y.re.val, top eb y.im.val]) _ _ rfl hR Tryd.underlying63 rfl (by kernel_rfl)) rfl ⟨rfl, K7.nb⟩
set_option maxRecDepth 100000 in
set_option maxHeartbeats 1000000 in
theorem implDecode {w : World} {p : Pt} {X Y : Zq} {eb : Nat} (hX : p.x = X) (hY : p.y = Y) (he : ebit p.x = eb) (hm : ModW w) (hg : 5 ≤ w.heap.size) (hd : AtZ w 0 0 dd) :
    Calls Tryd.prog 40 #[.agg (fps [Y.re.val, top eb Y.im.val])] w fun e w' => e = .returned (.tuple #[.agg (fps [X.re.val, X.im.val, Y.re.val, Y.im.val]), .bool true]) ∧ Below w.heap.size w w' := by
  have HX := Lib.hid hX; have HY := Lib.hid hY; have HE := Lib.hid he
  clear hX hY he
  go_enter Tryd.func40, Tryd.ntmps40
  go_upto_region 2 with (fail)
  refine wp_gen (fun WW => Kept w [(w.heap.size, (fps [Y.re.val, top eb Y.im.val])), (w.heap.size + 1, (fps [0, 0, 0, 0])), (w.heap.size + 1 + 1, (fps [0, 0, 0, 0]))] [] WW) (Kept.zero (nb_alloc (nb_alloc (nb_alloc (Below.refl _ _) _) _) _) (rowsC (row_as (hp3_0 (w := w) _ _ _) (by kernel_rfl)) (rowsC (row_as (hp3_1 (w := w) _ _ _) (by kernel_rfl)) (rowsC (row_as (hp3_2 (w := w) _ _ _) (by kernel_rfl)) rows0)))) ?_
  intro W0 K0
  have O0K1 := K0.at 0 rfl
  have O2K1 := K0.at 2 rfl
  obtain ⟨T0K1, O0K1⟩ := O0K1
  obtain ⟨T2K1, O2K1⟩ := O2K1
  have K1 : Kept w [(w.heap.size + 1, (fps [0, 0, 0, 0]))] [(w.heap.size, 32), (w.heap.size + 1 + 1, 64)] W0 := Kept.mks K0.nb (rowsC (K0.at 1 rfl) rows0) (roomsC (by kernel_rfl) O0K1 (roomsC (by kernel_rfl) O2K1 rooms0))
  refine wp_seq_atS (opsAt Tryd.f40 2) ((false, 0) :: (true, 1) :: []) (Kept w [(w.heap.size + 1, (fps [0, 0, 0, 0]))] [(w.heap.size, 32), (w.heap.size + 1 + 1, 64)]) (by kernel_rfl) (by kernel_rfl) K1 ?_
  refine k_callR (by kernel_rfl) (d := (some 5)) (by kernel_rfl) (f := 72) (args := #[.pointer (some ⟨w.heap.size + 1 + 1, 0, none⟩), .pointer (some ⟨w.heap.size, 0, none⟩)]) (fun _ => by kernel_rfl) (unmE HX.out HY.out HE.out (hm.nb K1.nb) ⟨by omega, by omega, Nat.le_trans hg K1.nb.size⟩ (hd.nb K1.nb) (row_zero O2K1) ⟨_, O0K1⟩ (by omega)) (fun _ w2 ⟨p2, q2, r2, s2, he2, hl2, hz2, hv2, hb2⟩ => ⟨_, he2, K1.updx (n := 64) hb2 rfl (by omega) (by omega) (neC (by omega) ne0) (neC (by omega) ne0) (nsN (by omega) (nsE ns0)) (ncE (by kernel_rfl) hv2 (ncN (by omega) nc0)), ?_⟩)
  have K2 := K1.updx (n := 64) hb2 rfl (by omega) (by omega) (neC (by omega) ne0) (neC (by omega) ne0) (nsN (by omega) (nsE ns0)) (ncE (by kernel_rfl) hv2 (ncN (by omega) nc0))
  obtain ⟨TW2, W2_v⟩ := hv2
  replace hz2 := Lib.hid hz2
  obtain ⟨TU2, V2_u⟩ := hb2.blk
  have L2 := hb2.size
  refine k_pure (by kernel_rfl) (d := (some 6)) (by kernel_rfl) (v := .bool false) (fun _ => by kernel_rfl) ?_
  have K3 : Kept w [(w.heap.size, (fps [Y.re.val, top eb Y.im.val])), (w.heap.size + 1, (fps [0, 0, 0, 0])), (w.heap.size + 1 + 1, (fps [p2, q2, r2, s2]))] [] w2 := Kept.zero K2.nb (rowsC ⟨_, W2_v⟩ (rowsC (K2.at 0 rfl) (rowsC ⟨_, V2_u⟩ rows0)))
  clear O2K1 O0K1 W2_v V2_u
  refine k_end ?_
  go_simp
  go_upto_region 4 with (fail)
  have O1K4 := K3.at 1 rfl
  obtain ⟨T1K4, O1K4⟩ := O1K4
  have K4 : Kept w [(w.heap.size, (fps [Y.re.val, top eb Y.im.val])), (w.heap.size + 1 + 1, (fps [p2, q2, r2, s2]))] [(w.heap.size + 1, 64)] w2 := Kept.mks K3.nb (rowsC (K3.at 0 rfl) (rowsC (K3.at 2 rfl) rows0)) (roomsC (by kernel_rfl) O1K4 rooms0)
  refine wp_seq_atS (opsAt Tryd.f40 4) ((false, 0) :: (false, 1) :: (true, 2) :: []) (Kept w [(w.heap.size, (fps [Y.re.val, top eb Y.im.val])), (w.heap.size + 1 + 1, (fps [p2, q2, r2, s2]))] [(w.heap.size + 1, 64)]) (by kernel_rfl) (by kernel_rfl) K4 ?_
  refine k_call (by kernel_rfl) (d := (some 8)) (by kernel_rfl) (f := 55) (args := #[.pointer (some ⟨w.heap.size + 1 + 1, 0, none⟩)]) (v := .agg (fps [X.re.val, X.im.val, Y.re.val, Y.im.val])) (fun _ => by kernel_rfl) (plain_c (hm.nb K4.nb) (K4.at 1 rfl) hl2 hz2.out) (fun w5 hb5 => ⟨K4.go hb5, ?_⟩)
  have K5 := K4.go hb5
  have G5_10 := nb_heap O1K4 _ hb5
  have L5 := hb5.size
  refine k_put (by kernel_rfl) (d := none) (by kernel_rfl) (ty := 35) (x := (.tmp 2)) (y := (.tmp 8)) (by kernel_rfl) (g := w.heap.size + 1) (cells := (fps [X.re.val, X.im.val, Y.re.val, Y.im.val])) (by kernel_rfl) (by kernel_rfl) G5_10 (by kernel_rfl) (by kernel_rfl) (all_fps _) (K5.puti (n := 64) (by kernel_rfl) (by omega) (neC (by omega) (neC (by omega) ne0)) (nsE ns0)) ?_
  intro w6 hw6 K6
  have G6_s : w6.heap[w.heap.size + 1]? = some (.cells (fps [X.re.val, X.im.val, Y.re.val, Y.im.val]) _ (0, 0)) := hw6 ▸ setRow_heap _ _ _ _ _ _ G5_10
  have L6 : w5.heap.size ≤ w6.heap.size := by rw [hw6]; exact Nat.le_of_eq (size_setRow _ _ _).symm
  clear hw6
  refine k_pure (by kernel_rfl) (d := (some 3)) (by kernel_rfl) (v := .bool true) (fun _ => by kernel_rfl) ?_
  have K7 : Kept w [(w.heap.size, (fps [Y.re.val, top eb Y.im.val])), (w.heap.size + 1, (fps [X.re.val, X.im.val, Y.re.val, Y.im.val])), (w.heap.size + 1 + 1, (fps [p2, q2, r2, s2]))] [] w6 := Kept.zero K6.nb (rowsC (K6.at 0 rfl) (rowsC ⟨_, G6_s⟩ (rowsC (K6.at 1 rfl) rows0)))
  clear O1K4 G6_s G5_10
  refine k_end ?_
  go_simp
  go_wp2_with fail
  obtain ⟨TR, hR⟩ := K7.at 1 rfl
  exact bodyPost_ret_by (res_cell_tmp (p := 2) (q := 3) rfl _ _ (w.heap.size + 1) _ (fps [X.re.val, X.im.val, Y.re.val, Y.im.val]) _ _ (.bool true) rfl rfl hR Tryd.underlying35 rfl (by kernel_rfl)) rfl ⟨rfl, K7.nb⟩
end Go.Proofs.YtfkfljohhabldaaDoor
namespace Go.FourQ
open Go.RowKit
theorem eqFields2 {P : Program} {w : World} {d : Nat} {xs ys : Array Value} {f g : Field} {u1 u2 v1 v2 : Value} (n1 : f.name ≠ "_") (n2 : g.name ≠ "_")
    (p1 : (part f.type xs f.offset).run P w = .ok u1 w) (p2 : (part f.type ys f.offset).run P w = .ok u2 w) (p3 : (part g.type xs g.offset).run P w = .ok v1 w) (p4 : (part g.type ys g.offset).run P w = .ok v2 w)
    (q1 : (Op.equalIn d f.type u1 u2).run P w = .ok true w) (q2 : (Op.equalIn d g.type v1 v2).run P w = .ok true w) : (Op.eqFields d xs ys [f, g]).run P w = .ok true w := by
  unfold Op.eqFields
  rw [if_pos n1, Sem.run_bind, p1, Result.andThen_ok, Sem.run_bind, p2, Result.andThen_ok, Sem.run_bind, q1, Result.andThen_ok]
  rw [if_neg (by decide)]
  unfold Op.eqFields
  rw [if_pos n2, Sem.run_bind, p3, Result.andThen_ok, Sem.run_bind, p4, Result.andThen_ok, Sem.run_bind, q2, Result.andThen_ok]
  rw [if_neg (by decide)]
  rfl
end Go.FourQ
namespace Go.Proofs.YtfkfljohhabldaaDoor
open Go.RowKit Go.FourQ
theorem eqIn_fq {a b : Nat} (ha : a < 256 ^ 16) (hb : b < 256 ^ 16) (n : Nat) (w : World) :
    (Op.equalIn (n + 3) 33 (.agg (fps [a, b])) (.agg (fps [a, b]))).run Tryd.prog w = .ok true w := by
  have := run_eq_pair (P := Tryd.prog) (n + 2) Tryd.underlying33 (s := 16) (by kernel_rfl) Tryd.underlying22 rfl (xs := fps [a, b]) (ys := fps [a, b]) (x0 := fpC a) (x1 := fpC b) (y0 := fpC a) (y1 := fpC b) (by kernel_rfl) (by kernel_rfl) (by kernel_rfl) (by kernel_rfl) w
    (run_eqIn_fpC Tryd.underlying22 (by kernel_rfl) Tryd.underlying5 ha ha n w) (run_eqIn_fpC Tryd.underlying22 (by kernel_rfl) Tryd.underlying5 hb hb n w)
  rwa [decide_eq_true rfl, decide_eq_true rfl] at this
theorem eqPt {a b c d : Nat} (ha : a < 256 ^ 16) (hb : b < 256 ^ 16) (hc : c < 256 ^ 16) (hd : d < 256 ^ 16) (w : World) :
    (binOp .eql 35 (.agg (fps [a, b, c, d])) (.agg (fps [a, b, c, d]))).run Tryd.prog w = .ok (.bool true) w := by
  refine run_eql_agg w _ _ _ _ ?_
  rw [run_equalIn_struct w 9999 _ _ _ (by rw [Tryd.underlying35]; simp only [Program.fieldsOf, Tryd.underlying35]) (by kernel_rfl)]
  have hf : (Tryd.prog.fieldsOf 35).toList.map (fun f => (f.name, f.type, f.offset)) = [("X", 33, 0), ("Y", 33, 32)] := by kernel_rfl
  have hl : (Tryd.prog.fieldsOf 35).toList.length = 2 := by kernel_rfl
  generalize (Tryd.prog.fieldsOf 35).toList = fs at hf hl
  match fs, hl, hf with
  | [f, g], _, hf =>
    simp only [List.map, List.cons.injEq, Prod.mk.injEq, and_true] at hf
    obtain ⟨⟨n1, t1, o1⟩, n2, t2, o2⟩ := hf
    have hsz : (Tryd.prog.info? 33).map (·.size) = some 32 := by kernel_rfl
    have p1 := run_part_agg (P := Tryd.prog) (o := 0) (cs := fps [a, b, c, d]) Tryd.underlying33 rfl hsz w
    have p3 := run_part_agg (P := Tryd.prog) (o := 32) (cs := fps [a, b, c, d]) Tryd.underlying33 rfl hsz w
    rw [show (fps [a, b, c, d]).extract 0 (0 + 32) = fps [a, b] by kernel_rfl] at p1
    rw [show (fps [a, b, c, d]).extract 32 (32 + 32) = fps [c, d] by kernel_rfl] at p3
    rw [← t1, ← o1] at p1
    rw [← t2, ← o2] at p3
    have q1 := eqIn_fq ha hb 9996 w
    have q2 := eqIn_fq hc hd 9996 w
    rw [← t1] at q1
    rw [← t2] at q2
    exact eqFields2 (by rw [n1]; decide) (by rw [n2]; decide) p1 p1 p3 p3 q1 q2
theorem eqPt_t {x y : Zq} (w : World) : (binOp .eql 35 (.agg (fps [x.re.val, x.im.val, y.re.val, y.im.val])) (.agg (fps [x.re.val, x.im.val, y.re.val, y.im.val]))).run Tryd.prog w = .ok (.bool true) w :=
  eqPt (lt16 _) (lt16 _) (lt16 _) (lt16 _) w
end Go.Proofs.YtfkfljohhabldaaDoor
namespace Go.FourQ
open Go.ChangeShapes Go.WideShapes Go.ChangeAt Go.RowKit
section
variable {H : Type} {enc : TypeId × Value → H} {P : Program}
def rowed (P : Program) (ts : List TypeId) : Bool := ts.all fun t => P.readableRec t && decide (t < P.types.size)
theorem trodAll_nb (hl : laidOutB P = true) {W W' : World} (hb : Below W.heap.size W W') :
    ∀ {ts : List TypeId} {vs : List Value} {ds : List (DataW H)} {ps : List MemPlace}, rowed P ts = true → (∀ x ∈ ps, x.block < W.heap.size) → DataW.TrodAll enc P W 0 (fun _ => true) true ts vs ds ps →
      DataW.TrodAll enc P W' 0 (fun b => decide (b < W.heap.size)) true ts vs ds ps
  | [], [], [], _, _, _, h => h
  | [], [], _ :: _, _, _, _, h => h.elim
  | [], _ :: _, _, _, _, _, h => h.elim
  | _ :: _, [], _, _, _, _, h => h.elim
  | _ :: _, _ :: _, [], _, _, _, h => h.elim
  | t :: ts, v :: vs, d :: ds, ps, hr, hlt, h => by
    obtain ⟨p, q, h1, h2, e⟩ := h
    simp only [rowed, List.all_cons, Bool.and_eq_true, decide_eq_true_eq] at hr
    exact ⟨p, q, Below.trod hl hr.1.1 hr.1.2 h1 hb (fun x hx => hlt x (by rw [e]; simp [hx])),
      trodAll_nb hl hb (by simpa [rowed] using hr.2) (fun x hx => hlt x (by rw [e]; simp [hx])) h2, e⟩
theorem post_true {f : Func} {s : ChangeSpec} {apart : Bool} {W W' : World} {args : Array Value} {ds gs : List (DataW H)} {before : List MemPlace} {tb : TypeId}
    (hl : laidOutB P = true) (hv : varsRowed P s.vars = true) (hp : rowed P f.params.toList = true) (hrt : f.resultTypes = #[tb]) (htb : P.underlying tb = some .bool)
    (hW : DataW.Whole enc P f.params.toList s.vars apart W args.toList ds gs before)
    (hs : s.fn H (ds ++ gs) = { results := [.lit (.bool true)], args := ds, vars := gs }) (hb : Below W.heap.size W W') :
    s.post enc P f apart true false false W args (.bool true) W' := by
  have hW' := hW
  have hlt := hW.lt
  obtain ⟨p, q, hA, hV, rfl, hfz, hnd⟩ := hW
  refine ⟨ds, gs, p ++ q, [], p, q, hW', ?_, ?_, ?_, hb.frame _, fun h => by cases h⟩
  · rw [hs, hrt]; exact trodAll_mk1 (shut_bool htb true)
  · rw [hs]; exact trodAll_nb hl hb hp (fun x hx => hlt x (by simp [hx])) hA
  · rw [hs]; exact Below.trodVars hl hb hv hV
end
def ofBytes : List Nat → Nat
  | [] => 0
  | b :: l => b + 256 * ofBytes l
theorem ofBytes_lt : ∀ (l : List Nat), (∀ b ∈ l, b < 256) → ofBytes l < 256 ^ l.length
  | [], _ => by simp [ofBytes]
  | b :: l, h => by
    have h1 := ofBytes_lt l fun c hc => h c (by simp [hc])
    have h2 := h b (by simp)
    simp only [ofBytes, List.length_cons, Nat.pow_succ]
    omega
theorem ofBytes_get : ∀ (l : List Nat), (∀ b ∈ l, b < 256) → ∀ i, i < l.length → ofBytes l / 256 ^ i % 256 = l.getD i 0
  | [], _, i, h => by simp at h
  | b :: l, hl, 0, _ => by
    have h2 := hl b (by simp)
    simp only [ofBytes, Nat.pow_zero, Nat.div_one, List.getD_cons_zero]
    omega
  | b :: l, hl, i + 1, h => by
    have h2 := hl b (by simp)
    have e : ofBytes (b :: l) / 256 ^ (i + 1) = ofBytes l / 256 ^ i := by
      rw [Nat.pow_succ', ← Nat.div_div_eq_div_mul]
      congr 1
      simp only [ofBytes]
      omega
    rw [e, List.getD_cons_succ]
    exact ofBytes_get l (fun c hc => hl c (by simp [hc])) i (by simpa using h)
theorem bytes_fpC (cs : List Value) (hlen : cs.length = 16) (h : ∀ i, i < 16 → ∃ n : Int, cs[i]? = some (.int .u8 n) ∧ (Lit.int .u8 n).wf = true) : ∃ x, x < 256 ^ 16 ∧ cs = (fpC x).toList := by
  let f : Value → Nat := fun v => match v with | .int .u8 n => n.toNat | _ => 0
  have hb : ∀ i, i < 16 → cs[i]? = some (.int .u8 (((cs.map f).getD i 0 : Nat) : Int)) ∧ (cs.map f).getD i 0 < 256 := fun i hi => by
    obtain ⟨n, hn, hw⟩ := h i hi
    have hw := bounds_u8 hw
    have e : (cs.map f).getD i 0 = n.toNat := by
      rw [List.getD, List.getElem?_map, hn]; rfl
    rw [e]
    refine ⟨?_, by omega⟩
    rw [hn]
    congr 2
    omega
  have hlt : ∀ b ∈ cs.map f, b < 256 := fun b hm => by
    obtain ⟨i, hi, rfl⟩ := List.getElem_of_mem hm
    have := (hb i (by simpa [hlen] using hi)).2
    rwa [List.getD_eq_getElem?_getD, List.getElem?_eq_getElem hi] at this
  refine ⟨ofBytes (cs.map f), ?_, ?_⟩
  · have := ofBytes_lt _ hlt
    rwa [List.length_map, hlen] at this
  · refine List.ext_getElem? fun i => ?_
    rcases Nat.lt_or_ge i 16 with hi | hi
    · rw [(hb i hi).1, Array.getElem?_toList, fpC_get _ _ hi, byteV, ofBytes_get _ hlt i (by simpa [hlen] using hi)]
    · rw [List.getElem?_eq_none (by omega), List.getElem?_eq_none (by simpa [size_fpC] using hi)]
section
variable {H : Type} {enc : TypeId × Value → H} {P : Program} {w : World}
theorem trod_fp {base : Nat} {spare : Nat → Bool} {held : Bool} {fuel : Nat} {t e : TypeId} {cs : List Value} {x : DataW H × List MemPlace} (ht : P.underlying t = some (.array 16 e)) (he : P.underlying e = some (.int .u8)) (c : P.cellsOf e = 1) (ct : P.cellsOf t = 16)
    (h : DataW.trod enc P w base spare held fuel t cs = some x) : ∃ y, y < 256 ^ 16 ∧ cs = (fpC y).toList := by
  obtain ⟨xs, m, _, _, hl, hxl, hel⟩ := DataW.trod_array ht h
  rw [ct] at hl
  refine bytes_fpC cs hl fun i hi => ?_
  have hE := hel i hi
  rw [c, Nat.mul_one, List.getElem?_eq_getElem (by omega)] at hE
  obtain ⟨n, e1, _, hw⟩ := DataW.trod_int he hE
  refine ⟨n, ?_, hw⟩
  have h0 : ((cs.drop i).take 1)[0]? = some (.int .u8 n) := by rw [e1]; rfl
  simpa using h0
end
end Go.FourQ
namespace Go.Proofs.YtfkfljohhabldaaDoor
open Go.RowKit Go.FourQ Go.ChangeAt
theorem own : ownKnob Tryd.prog.godebug = none := by kernel_rfl
theorem gMod : Tryd.prog.globalNamed "loop.example/pub-g03039/pub/circl/fourq.modulusP" = some 4 := by kernel_rfl
theorem gModType : (Tryd.prog.globals[4]?).map (·.type) = some 73 := by kernel_rfl
theorem cellsFp : Tryd.prog.cellsOf 73 = 16 := by kernel_rfl
theorem cellsU8 : Tryd.prog.cellsOf 5 = 1 := by kernel_rfl
theorem cellsA16 : Tryd.prog.cellsOf 22 = 16 := by kernel_rfl
theorem laidOut : laidOutB Tryd.prog = true := by kernel_rfl
theorem modW_of {W : World} {rest : List (String × DataW Unit)} (h : laidMet Tryd.prog (("loop.example/pub-g03039/pub/circl/fourq.modulusP", Rows.laid_loop_example_pub_g03039_pub_circl_fourq_modulusP) :: rest) W) : ModW W := by
  have t : Lib.TabIs Tryd.prog W "loop.example/pub-g03039/pub/circl/fourq.modulusP" .u8 [255, 255, 255, 255, 255, 255, 255, 255, 255, 255, 255, 255, 255, 255, 255, 127] :=
    Lib.tabIs_of_head gMod gModType Tryd.underlying73 Tryd.underlying5 cellsU8 cellsFp h
  unfold Lib.TabIs World.var? at t
  rw [gMod] at t
  simp only [Option.bind_some] at t
  split at t
  · rename_i cs T fr hc
    have e : cs = fpC pp := (Option.some.inj t).trans (by kernel_rfl)
    exact ⟨T, fr, by rw [hc, e]⟩
  · cases t
end Go.Proofs.YtfkfljohhabldaaDoor
namespace Go.FourQ
open Go.RowKit Go.ChangeAt
theorem laid_tail {P : Program} {W : World} {a : String × DataW Unit} {rest : List (String × DataW Unit)} (h : laidMet P (a :: rest) W) : laidMet P rest W := by
  obtain ⟨n, d⟩ := a
  obtain ⟨ps, ⟨g, t, cs, fuel, p, q, _, _, _, _, hr, rfl⟩, hn, hc⟩ := h
  exact ⟨q, hr, (List.nodup_append.1 hn).2.1, fun b off hb => hc b off (by simp [hb])⟩
theorem take_drop_full {α : Type} (l : List α) (n : Nat) (h : l.length = n + n) : l.take n ++ (l.drop n).take n = l := by
  rw [List.take_of_length_le (l := l.drop n) (by rw [List.length_drop]; omega), List.take_append_drop]
theorem cells_of_pair {H : Type} {enc : TypeId × Value → H} {P : Program} {w : World} {base : Nat} {sp : Nat → Bool} {held : Bool} {fuel : Nat} {t u e : TypeId} {cs : List Value} {z0 z1 : List Int} {p : List MemPlace}
    (ht : P.underlying t = some (.array 2 u)) (hu : P.underlying u = some (.array 16 e)) (he : P.underlying e = some (.int .u8)) (ce : P.cellsOf e = 1) (cu : P.cellsOf u = 16) (ct : P.cellsOf t = 32)
    (h : DataW.trod enc P w base sp held fuel t cs = some (.agg [Lib.tabData .u8 z0, Lib.tabData .u8 z1], p)) : cs = (z0 ++ z1).map fun z => Value.int .u8 z := by
  obtain ⟨xs, m, _, hx, hl, hxl, hel⟩ := DataW.trod_array ht h
  have e0 := hel 0 (by omega)
  have e1 := hel 1 (by omega)
  rw [cu, Nat.zero_mul, List.drop_zero] at e0
  rw [cu, Nat.one_mul] at e1
  match xs, hxl with
  | [x0, x1], _ =>
    simp only [Prod.mk.injEq, DataW.agg.injEq, List.map, List.cons.injEq, and_true] at hx
    obtain ⟨⟨h0, h1⟩, _⟩ := hx
    obtain ⟨y0, p0⟩ := x0
    obtain ⟨y1, p1⟩ := x1
    subst h0 h1
    have c0 := Lib.cells_of_tab hu he ce cu (e0.trans rfl)
    have c1 := Lib.cells_of_tab hu he ce cu (e1.trans rfl)
    rw [List.map_append, ← c0, ← c1]
    exact (take_drop_full cs 16 (by rw [hl, ct])).symm
theorem gv_of_laid {P : Program} {W : World} {name : String} {z0 z1 : List Int} {rest : List (String × DataW Unit)} {g : Nat} {t u e : TypeId}
    (hg : P.globalNamed name = some g) (hty : (P.globals[g]?).map (·.type) = some t) (ht : P.underlying t = some (.array 2 u)) (hu : P.underlying u = some (.array 16 e)) (he : P.underlying e = some (.int .u8)) (ce : P.cellsOf e = 1) (cu : P.cellsOf u = 16) (ct : P.cellsOf t = 32)
    (h : laidMet P ((name, .agg [Lib.tabData .u8 z0, Lib.tabData .u8 z1]) :: rest) W) : GV W g ((z0 ++ z1).map fun z => Value.int .u8 z).toArray := by
  obtain ⟨ps, ⟨g', t', cs, fuel, p, q, hg', ht', hvar, hd, _, rfl⟩, _, hc⟩ := h
  obtain rfl := Option.some.inj (hg.symm.trans hg')
  obtain rfl := Option.some.inj (hty.symm.trans ht')
  have hcs := cells_of_pair ht hu he ce cu ct hd
  obtain ⟨xs, m, _, hx, hl, hxl, hel⟩ := DataW.trod_array ht hd
  have hsz : cs.size = 32 := by rw [← ct, ← hl]; simp
  obtain ⟨⟨c, T, hT⟩, _⟩ := hc g 0 (List.mem_append.2 (.inl (List.mem_append.2 (.inl (List.mem_map.2 ⟨0, List.mem_range.2 (by omega), rfl⟩)))))
  refine ⟨T, ?_⟩
  unfold World.var? at hvar
  rw [hg] at hvar
  simp only [Option.bind_some, hT] at hvar
  rw [hT, ← hcs, Option.some.inj hvar]
theorem atz_of {w : World} {b a c : Nat} (ha : LowB a) (hc : LowB c) (h : GV w b (fps [a, c])) : AtZ w b 0 ⟨zp a, zp c⟩ :=
  FpsZ.atz (L := [⟨zp a, zp c⟩]) (k := 0) (FpsZ.ofFps (l := [a, c]) h (fun v hv => by
    rcases List.mem_cons.1 hv with rfl | hv
    · exact ha
    · rw [List.mem_singleton.1 hv]; exact hc)) rfl rfl
end Go.FourQ
namespace Go.FourQ
open Go.ChangeShapes Go.WideShapes Go.RowKit Go.ChangeAt
section
variable {H : Type} {enc : TypeId × Value → H} {P : Program} {w : World}
theorem fps_toList (x : Nat) (l : List Nat) : (fps (x :: l)).toList = (fpC x).toList ++ (fps l).toList := by simp [fps]
theorem arr_of_list {cs : Array Value} {l : List Nat} (h : cs.toList = (fps l).toList) : cs = fps l := by cases cs; cases hq : fps l; simp_all
theorem trod_fq {base : Nat} {spare : Nat → Bool} {held : Bool} {fuel : Nat} {t u e : TypeId} {cs : List Value} {x : DataW H × List MemPlace} (ht : P.underlying t = some (.array 2 u)) (hu : P.underlying u = some (.array 16 e)) (he : P.underlying e = some (.int .u8)) (c : P.cellsOf e = 1) (cu : P.cellsOf u = 16)
    (ct : P.cellsOf t = 32) (h : DataW.trod enc P w base spare held fuel t cs = some x) : ∃ x y, x < 256 ^ 16 ∧ y < 256 ^ 16 ∧ cs = (fps [x, y]).toList := by
  obtain ⟨xs, m, _, _, hl, hxl, hel⟩ := DataW.trod_array ht h
  have h0 := hel 0 (by omega)
  have h1 := hel 1 (by omega)
  rw [cu, List.getElem?_eq_getElem (by omega)] at h0 h1
  obtain ⟨x, hx, ex⟩ := trod_fp hu he c cu h0
  obtain ⟨y, hy, ey⟩ := trod_fp hu he c cu h1
  refine ⟨x, y, hx, hy, ?_⟩
  rw [ct] at hl
  rw [fps_toList, fps_toList, ← ex, ← ey]
  simp only [Nat.zero_mul, Nat.one_mul, List.drop_zero]
  rw [show (fps []).toList = [] from rfl, List.append_nil, List.take_of_length_le (l := List.drop 16 _) (by rw [List.length_drop]; omega)]
  exact (List.take_append_drop 16 cs).symm
/-- A point: four elements. -/
theorem open_pt {r : Reach} {b0 base : Nat} {spare : Nat → Bool} {held : Bool} {t tq u e : TypeId} {n0 n1 : Field} {v : Value} {d : DataW H} {p : List MemPlace} (hs : P.underlying t = some (.struct #[n0, n1])) (t0 : n0.type = tq) (t1 : n1.type = tq) (o0 : n0.offset = 0) (o1 : n1.offset = 32)
    (ht : P.underlying tq = some (.array 2 u)) (hu : P.underlying u = some (.array 16 e)) (he : P.underlying e = some (.int .u8)) (c : P.cellsOf e = 1) (cu : P.cellsOf u = 16) (ct : P.cellsOf tq = 32) (cs' : P.cellsOf t = 64)
    (hv : Value.okWide P w r b0 t v) (h : DataW.Trod enc P w base spare held t v d p) : ∃ a b c d, a < 256 ^ 16 ∧ b < 256 ^ 16 ∧ c < 256 ^ 16 ∧ d < 256 ^ 16 ∧ v = .agg (fps [a, b, c, d]) := by
  simp only [Value.okWide, hs] at hv
  obtain ⟨cs, rfl, _, _⟩ := hv
  obtain ⟨fuel, hf⟩ := h
  obtain ⟨y0, y1, n, _, hl, h0, h1⟩ := trod_struct2 hs hf
  rw [t0, o0, ct] at h0
  rw [t1, o1, ct] at h1
  obtain ⟨a, b, ha, hb, e0⟩ := trod_fq ht hu he c cu ct h0
  obtain ⟨a', b', ha', hb', e1⟩ := trod_fq ht hu he c cu ct h1
  refine ⟨a, b, a', b', ha, hb, ha', hb', congrArg Value.agg (arr_of_list ?_)⟩
  rw [cs'] at hl
  have hl' : cs.toList.length = 64 := hl
  rw [fps_toList, fps_toList, ← List.append_assoc, ← e1.symm.symm, show (fpC a).toList ++ (fpC b).toList = (fps [a, b]).toList by rw [fps_toList, fps_toList]; simp [fps], ← e0]
  change cs.toList = List.take 32 (List.drop 0 cs.toList) ++ List.take 32 (List.drop 32 cs.toList)
  rw [List.drop_zero, List.take_of_length_le (l := List.drop 32 _) (by rw [List.length_drop]; omega)]
  exact (List.take_append_drop 32 cs.toList).symm
end
end Go.FourQ
namespace Go.Proofs.YtfkfljohhabldaaDoor
open Go.ChangeShapes Go.WideShapes Go.RowKit Go.FourQ Go.ChangeAt
def holdIn (w : World) (g : Nat) (v : Array Value) : World :=
  { w with heap := w.heap.modify g fun
      | .cells _ t frozen => .cells v t frozen
      | o => o }
section
variable {H : Type} {enc : TypeId × Value → H} {P : Program} {w : World} {spare : Nat → Bool}
theorem trodVars_len : ∀ {ns : List String} {gs : List (DataW H)} {ps : List MemPlace}, DataW.TrodVars enc P w spare ns gs ps → gs.length = ns.length
  | [], [], _, _ => rfl
  | [], _ :: _, _, h => h.elim
  | _ :: _, [], _, h => h.elim
  | _ :: _, _ :: _, _, h => by
    obtain ⟨_, _, _, _, _, _, _, _, _, _, hs, _⟩ := h
    exact congrArg (· + 1) (trodVars_len hs)
theorem gs2 {l : List (DataW H)} (h : l.length = 2) : ∃ a b, l = [a, b] := match l, h with | [a, b], _ => ⟨a, b, rfl⟩
end
theorem cellsFq : Tryd.prog.cellsOf 83 = 32 := by kernel_rfl
/-- paramD. -/
def ddC : Array Value := fps [4205857648805777768770, 125317048443780598345676279555970305165]
theorem dd_of {W : World} {rest : List (String × DataW Unit)} (h : laidMet Tryd.prog (("loop.example/pub-g03039/pub/circl/fourq.paramD", Rows.laid_loop_example_pub_g03039_pub_circl_fourq_paramD) :: rest) W) : AtZ W 0 0 dd := by
  have t := gv_of_laid (g := 0) (t := 83) (z0 := [66, 1, 0, 0, 0, 0, 0, 0, 228, 0, 0, 0, 0, 0, 0, 0]) (z1 := [141, 12, 252, 241, 136, 20, 130, 179, 252, 224, 87, 102, 132, 47, 71, 94]) (by kernel_rfl) (by kernel_rfl) Tryd.underlying83 Tryd.underlying73 Tryd.underlying5 cellsU8 cellsFp cellsFq h
  have e : ((([66, 1, 0, 0, 0, 0, 0, 0, 228, 0, 0, 0, 0, 0, 0, 0] : List Int) ++ [141, 12, 252, 241, 136, 20, 130, 179, 252, 224, 87, 102, 132, 47, 71, 94]).map (fun z => Value.int IntKind.u8 z)).toArray = fps [4205857648805777768770, 125317048443780598345676279555970305165] := by kernel_rfl
  rw [e] at t
  exact atz_of (a := 4205857648805777768770) (c := 125317048443780598345676279555970305165) (by unfold LowB; decide) (by unfold LowB; decide) t
end Go.Proofs.YtfkfljohhabldaaDoor
