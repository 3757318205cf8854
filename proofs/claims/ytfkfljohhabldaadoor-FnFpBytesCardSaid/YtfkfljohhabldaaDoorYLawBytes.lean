/- FnFpBytes: whatever bytes: true. -/
import Derived.Test.YtfkfljohhabldaaDoorY1
import Derived.Laws.BytesString
namespace Go.FourQ
open Go.RowKit
section
variable {P : Program} {md : Region.Mode} {ops : Array Oper} {Q : Exit → Act → World → Prop} {S : World → Prop} {a : Act} {w : World} {r : List (Bool × Nat)} {i : Nat} {d : Option Tmp} {v : Value}
theorem k_ifS (hw : wantN ops i a = some true) (hd : (opN ops i).dst = d) (hrun : ∀ w', S w' → (execOp a.eval (opN ops i)).run P w' = .ok (.value v) w')
    (h : PlanG P ops Q S r (a.put d v) w) : PlanG P ops Q S ((true, i) :: r) a w := by
  subst hd
  exact ⟨⟨_, v, (wantN_some hw).1, .inl ⟨(wantN_some hw).2, hrun⟩, h.out⟩⟩
end
/-- The string of sixteen bytes. -/
def strA (x : Nat) : ByteArray := ((List.range 16).map fun i => ((x / 256 ^ i % 256 : Nat) : Int)).foldl (fun r n => r.push (UInt8.ofNat n.toNat)) ByteArray.empty
theorem run_conv16 {P : Program} {w : World} {b x c : Nat} {src dst e : TypeId} (h : C16 w b 0 x) (hs : P.underlying src = some (.slice e)) (he : P.underlying e = some (.int .u8)) (hd : P.underlying dst = some .string) :
    (convert src dst (.slice (some ⟨b, 0, none⟩) 16 c)).run P w = .ok (.string (strA x)) w := by
  rw [run_convert_bytes_string w src dst e _ _ _ hs he hd]
  refine run_bytesToString w ⟨b, 0, none⟩ 16 c _ ?_
  have := run_loadCells_list (P := P) w ⟨b, 0, none⟩ (((List.range 16).map fun i => ((x / 256 ^ i % 256 : Nat) : Int)).map (Value.int .u8)) (fun j v hj => by
    rw [Addr.add_lit]
    have hl := (List.getElem?_eq_some_iff.1 hj).1
    simp only [List.length_map, List.length_range] at hl
    rw [h j hl]
    rw [List.getElem?_map, List.getElem?_map, List.getElem?_range hl] at hj
    exact hj)
  simpa using this
theorem run_eqlStr {P : Program} {w : World} {t : TypeId} (s : ByteArray) : (binOp .eql t (.string s) (.string s)).run P w = .ok (.bool true) w := by
  simp [binOp, Op.stringOp]
theorem run_convOp {P : Program} {ρ : Operand → Value} {o : Oper} {w : World} {x : Operand} {s d : TypeId} {u v : Value} (ho : o.op = .convert s d x) (hx : ρ x = u) (h : (convert s d u).run P w = .ok v w) : (execOp ρ o).run P w = .ok (.value v) w := by
  unfold execOp
  simp [ho, hx, h, Result.andThen]
theorem run_eqlOp {P : Program} {ρ : Operand → Value} {o : Oper} {w : World} {x y : Operand} {t t' : TypeId} {s : ByteArray} (ho : o.op = .binOp .eql t x y t') (hx : ρ x = .string s) (hy : ρ y = .string s) : (execOp ρ o).run P w = .ok (.value (.bool true)) w := by
  unfold execOp
  simp only [ho, hx, hy, Sem.run_bind, eqGuard, Sem.run_pure, run_eqlStr s]
  simp [Sem.run_pure, Result.andThen_ok]
end Go.FourQ
namespace Go.Proofs.YtfkfljohhabldaaDoor
open Go.RowKit Go.FourQ
theorem of_cc {w : World} {x : Nat} (hx : x < 256 ^ 16) {y : Nat} (h : x % pp = y) :
    Calls Tryd.prog 12 #[.agg (fpC x)] w fun e w' => e = .returned (.agg (dgA (digs 8 y))) ∧ Below w.heap.size w w' := h ▸ of_c w x hx
theorem is_cc {w : World} {x y : Nat} {r : Bool} (hx : x < 256 ^ 16) (hy : y < 256 ^ 16) (h : decide (x = y) = r) :
    Calls Tryd.prog 11 #[.agg (fpC x), .agg (dgA (digs 8 y))] w fun e w' => e = .returned (.bool r) ∧ Below w.heap.size w w' := h ▸ is_c hx hy
theorem implBytesR {w : World} {x : Nat} (hm : ModW w) (hg : 5 ≤ w.heap.size) (hx : LowB x) (h : x % pp = x) :
    Calls Tryd.prog 13 #[.agg (fpC x), .int .i64 16] w fun e w' => ∃ p T, e = .returned (.slice (some ⟨p, 0, none⟩) 16 16) ∧ w'.heap[p]? = some (.cells (fpC x) T (0, 0)) ∧ Below w.heap.size w w' :=
  (implBytes hm hg hx).mono fun _ _ ⟨p, he, ⟨T, hT⟩, hb⟩ => ⟨p, T, he, by rw [hT, h, fps_one], hb⟩
theorem implOfR {w : World} {b x : Nat} (hm : ModW w) (hg : 5 ≤ w.heap.size) {T : TypeId} (hT : w.heap[b]? = some (.cells (fpC x) T (0, 0))) (hx : LowB x) (h : x % pp = x) :
    Calls Tryd.prog 14 #[.slice (some ⟨b, 0, none⟩) 16 16] w fun e w' => e = .returned (.tuple #[.agg (fpC x), .bool true]) ∧ Below w.heap.size w w' := by
  have := implOf (cc := 16) hm hg (Fps.c16 (k := 0) (l := [x]) ⟨T, by rw [hT, fps_one]⟩ rfl rfl) hx
  rwa [h] at this
theorem row16 {w : World} {b x : Nat} (h : ∃ T, w.heap[b]? = some (.cells (fpC x) T (0, 0))) : C16 w b 0 x := by
  obtain ⟨T, hT⟩ := h
  exact Fps.c16 (k := 0) (l := [x]) ⟨T, by rw [hT, fps_one]⟩ rfl rfl

set_option maxRecDepth 100000 in
set_option maxHeartbeats 1000000 in
theorem fpBytes_f {w : World} {x y : Nat} (hx : x < 256 ^ 16) (hy : y < 256 ^ 16) (hxy : x % pp = y) (hn : x ≠ y) :
    Calls Tryd.prog 3 #[.agg (fpC x)] w fun e w' => e = .returned (.bool true) ∧ Below w.heap.size w w' := by
  have HY := Lib.hid hxy; have HN := Lib.hid hn
  clear hxy hn
  go_enter Tryd.func3, Tryd.ntmps3
  go_upto_region 1 with (fail)
  refine wp_gen (fun WW => Kept w [(w.heap.size, (fpC x))] [] WW) (Kept.zero (nb_alloc (Below.refl _ _) _) (rowsC (row_as (hp1_0 (w := w) _) (by kernel_rfl)) rows0)) ?_
  intro W0 K0
  have K1 : Kept w [(w.heap.size, (fpC x))] [] W0 := Kept.mks K0.nb (rowsC (K0.at 0 rfl) rows0) rooms0
  refine wp_region_atS (opsAt Tryd.f3 1) ((true, 0) :: (true, 1) :: (false, 2) :: (false, 3) :: (true, 4) :: []) (Kept w [(w.heap.size, (fpC x))] []) (by kernel_rfl) rfl (by kernel_rfl) (fun _ _ d _ _ h => by cases d <;> exact h) (by kernel_rfl) (by kernel_rfl) K1.drew ?_
  have K2 := K1.drew
  have DK2 : W0.heap.size ≤ W0.drew.heap.size := Nat.le_refl _
  refine k_row (by kernel_rfl) (d := (some 6)) (by kernel_rfl) (ty := 22) (x := (.tmp 1)) (by kernel_rfl) (b := w.heap.size) (by kernel_rfl) (cs := (fpC x)) (fun _ hs => hs.at 0 rfl) Tryd.underlying22 rfl (by kernel_rfl) ?_
  refine k_row (by kernel_rfl) (d := (some 7)) (by kernel_rfl) (ty := 22) (x := (.tmp 1)) (by kernel_rfl) (b := w.heap.size) (by kernel_rfl) (cs := (fpC x)) (fun _ hs => hs.at 0 rfl) Tryd.underlying22 rfl (by kernel_rfl) ?_
  refine k_call (by kernel_rfl) (d := (some 8)) (by kernel_rfl) (f := 12) (args := #[.agg (fpC x)]) (v := .agg (dgA (digs 8 y))) (fun _ => by kernel_rfl) (of_cc hx HY.out) (fun w3 hb3 => ⟨K2.go hb3, ?_⟩)
  have K3 := K2.go hb3
  have L3 := hb3.size
  refine k_call (by kernel_rfl) (d := (some 9)) (by kernel_rfl) (f := 11) (args := #[.agg (fpC x), .agg (dgA (digs 8 y))]) (v := .bool false) (fun _ => by kernel_rfl) (is_cc hx hy (decide_eq_false HN.out)) (fun w4 hb4 => ⟨K3.go hb4, ?_⟩)
  have K4 := K3.go hb4
  have L4 := hb4.size
  refine k_pure (by kernel_rfl) (d := (some 10)) (by kernel_rfl) (v := .bool true) (fun _ => by kernel_rfl) ?_
  have K5 : Kept w [(w.heap.size, (fpC x))] [] w4 := Kept.zero K4.nb (rowsC (K4.at 0 rfl) rows0)
  refine k_end ?_
  go_simp
  go_wp2_with fail
  exact bodyPost_ret_by (by kernel_rfl) (by kernel_rfl) ⟨rfl, K5.nb⟩

theorem eqFp {x : Nat} (hx : x < 256 ^ 16) (w : World) : (binOp .eql 22 (.agg (fpC x)) (.agg (fpC x))).run Tryd.prog w = .ok (.bool true) w := by
  have h := eql_fpC Tryd.underlying22 (by kernel_rfl) Tryd.underlying5 hx hx w
  rwa [decide_eq_true rfl] at h

set_option maxRecDepth 100000 in
set_option maxHeartbeats 1000000 in
theorem fpBytes_t {w : World} {x : Nat} (hm : ModW w) (hg : 5 ≤ w.heap.size) (hx : x < 256 ^ 16) (hl : LowB x) (hxy : x % pp = x) :
    Calls Tryd.prog 3 #[.agg (fpC x)] w fun e w' => e = .returned (.bool true) ∧ Below w.heap.size w w' := by
  have HY := Lib.hid hxy
  clear hxy
  go_enter Tryd.func3, Tryd.ntmps3
  go_upto_region 1 with (fail)
  refine wp_gen (fun WW => Kept w [(w.heap.size, (fpC x))] [] WW) (Kept.zero (nb_alloc (Below.refl _ _) _) (rowsC (row_as (hp1_0 (w := w) _) (by kernel_rfl)) rows0)) ?_
  intro W0 K0
  have K1 : Kept w [(w.heap.size, (fpC x))] [] W0 := Kept.mks K0.nb (rowsC (K0.at 0 rfl) rows0) rooms0
  refine wp_region_atS (opsAt Tryd.f3 1) ((true, 0) :: (true, 1) :: (false, 2) :: (false, 3) :: (true, 4) :: []) (Kept w [(w.heap.size, (fpC x))] []) (by kernel_rfl) rfl (by kernel_rfl) (fun _ _ d _ _ h => by cases d <;> exact h) (by kernel_rfl) (by kernel_rfl) K1.drew ?_
  have K2 := K1.drew
  have DK2 : W0.heap.size ≤ W0.drew.heap.size := Nat.le_refl _
  refine k_row (by kernel_rfl) (d := (some 6)) (by kernel_rfl) (ty := 22) (x := (.tmp 1)) (by kernel_rfl) (b := w.heap.size) (by kernel_rfl) (cs := (fpC x)) (fun _ hs => hs.at 0 rfl) Tryd.underlying22 rfl (by kernel_rfl) ?_
  refine k_row (by kernel_rfl) (d := (some 7)) (by kernel_rfl) (ty := 22) (x := (.tmp 1)) (by kernel_rfl) (b := w.heap.size) (by kernel_rfl) (cs := (fpC x)) (fun _ hs => hs.at 0 rfl) Tryd.underlying22 rfl (by kernel_rfl) ?_
  refine k_call (by kernel_rfl) (d := (some 8)) (by kernel_rfl) (f := 12) (args := #[.agg (fpC x)]) (v := .agg (dgA (digs 8 x))) (fun _ => by kernel_rfl) (of_cc hx HY.out) (fun w3 hb3 => ⟨K2.go hb3, ?_⟩)
  have K3 := K2.go hb3
  have L3 := hb3.size
  refine k_call (by kernel_rfl) (d := (some 9)) (by kernel_rfl) (f := 11) (args := #[.agg (fpC x), .agg (dgA (digs 8 x))]) (v := .bool true) (fun _ => by kernel_rfl) (is_cc hx hx (decide_eq_true rfl)) (fun w4 hb4 => ⟨K3.go hb4, ?_⟩)
  have K4 := K3.go hb4
  have L4 := hb4.size
  refine k_pure (by kernel_rfl) (d := (some 10)) (by kernel_rfl) (v := .bool false) (fun _ => by kernel_rfl) ?_
  have K5 : Kept w [(w.heap.size, (fpC x))] [] w4 := Kept.zero K4.nb (rowsC (K4.at 0 rfl) rows0)
  refine k_end ?_
  go_simp
  go_upto_region 3 with (fail)
  have K6 : Kept w [(w.heap.size, (fpC x))] [] w4 := Kept.mks K5.nb (rowsC (K5.at 0 rfl) rows0) rooms0
  refine wp_seq_atS (opsAt Tryd.f3 3) ((true, 0) :: (false, 1) :: (true, 2) :: []) (Kept w [(w.heap.size, (fpC x))] []) (by kernel_rfl) (by kernel_rfl) K6 ?_
  refine k_row (by kernel_rfl) (d := (some 11)) (by kernel_rfl) (ty := 22) (x := (.tmp 1)) (by kernel_rfl) (b := w.heap.size) (by kernel_rfl) (cs := (fpC x)) (fun _ hs => hs.at 0 rfl) Tryd.underlying22 rfl (by kernel_rfl) ?_
  refine k_callR (by kernel_rfl) (d := (some 12)) (by kernel_rfl) (f := 13) (args := #[.agg (fpC x), .int .i64 16]) (fun _ => by kernel_rfl) (implBytesR (hm.nb K6.nb) (Nat.le_trans hg K6.nb.size) hl HY.out) (fun _ w7 ⟨p7, T7, he7, hf7, hb7⟩ => ⟨_, he7, K6.go hb7, ?_⟩)
  have K7 := K6.go hb7
  have R7_0 : w.heap.size < w4.heap.size := (by obtain ⟨T, h⟩ := K6.at 0 rfl; exact lt_of_heap h)
  have Z7 : w.heap.size ≤ w4.heap.size := K6.nb.size
  have L7 := hb7.size
  have S7 := lt_of_heap hf7
  refine k_pure (by kernel_rfl) (d := (some 3)) (by kernel_rfl) (v := .slice (some ⟨p7, 0, none⟩) 16 16) (fun _ => by kernel_rfl) ?_
  have K8 : Kept w [(w.heap.size, (fpC x)), (p7, (fpC x))] [] w7 := Kept.zero K7.nb (rowsC (K7.at 0 rfl) (rowsC ⟨_, hf7⟩ rows0))
  clear hf7
  refine k_end ?_
  go_simp
  go_upto_region 4 with (fail)
  have K9 : Kept w [(w.heap.size, (fpC x)), (p7, (fpC x))] [] w7 := Kept.mks K8.nb (rowsC (K8.at 0 rfl) (rowsC (K8.at 1 rfl) rows0)) rooms0
  refine wp_seq_atS (opsAt Tryd.f3 4) ((true, 0) :: (false, 1) :: (true, 2) :: (true, 3) :: (true, 4) :: (false, 5) :: (false, 6) :: (true, 7) :: []) (Kept w [(w.heap.size, (fpC x)), (p7, (fpC x))] []) (by kernel_rfl) (by kernel_rfl) K9 ?_
  refine k_pure (by kernel_rfl) (d := (some 14)) (by kernel_rfl) (v := .slice (some ⟨p7, 0, none⟩) 16 16) (fun _ => by kernel_rfl) ?_
  refine k_call (by kernel_rfl) (d := (some 15)) (by kernel_rfl) (f := 14) (args := #[.slice (some ⟨p7, 0, none⟩) 16 16]) (v := .tuple #[.agg (fpC x), .bool true]) (fun _ => by kernel_rfl) ((by obtain ⟨T, hT⟩ := K9.at 1 rfl; exact implOfR (hm.nb K9.nb) (Nat.le_trans hg K9.nb.size) hT hl HY.out)) (fun w10 hb10 => ⟨K9.go hb10, ?_⟩)
  have K10 := K9.go hb10
  have L10 := hb10.size
  refine k_pure (by kernel_rfl) (d := (some 13)) (by kernel_rfl) (v := .tuple #[.agg (fpC x), .bool true]) (fun _ => by kernel_rfl) ?_
  refine k_pure (by kernel_rfl) (d := (some 16)) (by kernel_rfl) (v := .agg (fpC x)) (fun _ => by kernel_rfl) ?_
  refine k_pure (by kernel_rfl) (d := (some 17)) (by kernel_rfl) (v := .bool true) (fun _ => by kernel_rfl) ?_
  refine k_make (by kernel_rfl) (d := (some 4)) (by kernel_rfl) (v := .pointer (some ⟨w10.heap.size, 0, none⟩)) (w' := w10.alloc (.cells (fpC 0) 22)) (by kernel_rfl) (K10.go ((Below.refl _ _).alloc (Nat.le_refl _) _)) ?_
  intro w11 hw11 K11
  have G11_n : w11.heap[w10.heap.size]? = some (.cells (fpC 0) 22 (0, 0)) := hw11 ▸ heap_alloc_new _ _
  have S11 : w10.heap.size < w11.heap.size := lt_of_heap G11_n
  have R11_0 : w.heap.size < w10.heap.size := (by obtain ⟨T, h⟩ := K10.at 0 rfl; exact lt_of_heap h)
  have R11_1 : p7 < w10.heap.size := (by obtain ⟨T, h⟩ := K10.at 1 rfl; exact lt_of_heap h)
  have Z11 : w.heap.size ≤ w10.heap.size := K10.nb.size
  clear hw11
  refine k_put (by kernel_rfl) (d := none) (by kernel_rfl) (ty := 22) (x := (.tmp 4)) (y := (.tmp 16)) (by kernel_rfl) (g := w10.heap.size) (cells := (fpC x)) (by kernel_rfl) (by kernel_rfl) G11_n (by kernel_rfl) (by kernel_rfl) (all_fpC _) (K11.puti (n := 16) (by kernel_rfl) (by omega) (neC (by omega) (neC (by omega) ne0)) ns0) ?_
  intro w12 hw12 K12
  have G12_s : w12.heap[w10.heap.size]? = some (.cells (fpC x) _ (0, 0)) := hw12 ▸ setRow_heap _ _ _ _ _ _ G11_n
  have L12 : w11.heap.size ≤ w12.heap.size := by rw [hw12]; exact Nat.le_of_eq (size_setRow _ _ _).symm
  clear hw12
  refine k_pure (by kernel_rfl) (d := (some 5)) (by kernel_rfl) (v := .bool true) (fun _ => by kernel_rfl) ?_
  have K13 : Kept w [(w.heap.size, (fpC x)), (p7, (fpC x)), (w10.heap.size, (fpC x))] [] w12 := Kept.zero K12.nb (rowsC (K12.at 0 rfl) (rowsC (K12.at 1 rfl) (rowsC ⟨_, G12_s⟩ rows0)))
  clear G12_s G11_n
  refine k_end ?_
  go_simp
  go_upto_region 5 with (fail)
  have K14 : Kept w [(w.heap.size, (fpC x)), (p7, (fpC x)), (w10.heap.size, (fpC x))] [] w12 := Kept.mks K13.nb (rowsC (K13.at 0 rfl) (rowsC (K13.at 1 rfl) (rowsC (K13.at 2 rfl) rows0))) rooms0
  refine wp_region_atS (opsAt Tryd.f3 5) ((true, 0) :: (true, 1) :: (true, 2) :: (true, 3) :: (true, 4) :: (true, 5) :: (true, 6) :: (true, 7) :: (true, 8) :: (true, 9) :: (true, 10) :: (true, 11) :: (true, 12) :: (true, 13) :: []) (Kept w [(w.heap.size, (fpC x)), (p7, (fpC x)), (w10.heap.size, (fpC x))] []) (by kernel_rfl) rfl (by kernel_rfl) (fun _ _ d _ _ h => by cases d <;> exact h) (by kernel_rfl) (by kernel_rfl) K14.drew ?_
  have K15 := K14.drew
  refine k_pure (by kernel_rfl) (d := (some 18)) (by kernel_rfl) (v := .bool true) (fun _ => by kernel_rfl) ?_
  refine k_pure (by kernel_rfl) (d := (some 19)) (by kernel_rfl) (v := .bool true) (fun _ => by kernel_rfl) ?_
  refine k_pure (by kernel_rfl) (d := (some 20)) (by kernel_rfl) (v := .slice (some ⟨p7, 0, none⟩) 16 16) (fun _ => by kernel_rfl) ?_
  refine k_ifS (by kernel_rfl) (d := (some 21)) (by kernel_rfl) (v := .string (strA x)) (fun _ hs => run_convOp (x := (.tmp 20)) (u := .slice (some ⟨p7, 0, none⟩) 16 16) (by kernel_rfl) (by kernel_rfl) (run_conv16 (row16 (hs.at 1 rfl)) Tryd.underlying28 Tryd.underlying5 Tryd.underlying9)) ?_
  refine k_pure (by kernel_rfl) (d := (some 22)) (by kernel_rfl) (v := .slice (some ⟨w.heap.size, 0, none⟩) 16 16) (fun _ => by kernel_rfl) ?_
  refine k_ifS (by kernel_rfl) (d := (some 23)) (by kernel_rfl) (v := .string (strA x)) (fun _ hs => run_convOp (x := (.tmp 22)) (u := .slice (some ⟨w.heap.size, 0, none⟩) 16 16) (by kernel_rfl) (by kernel_rfl) (run_conv16 (row16 (hs.at 0 rfl)) Tryd.underlying28 Tryd.underlying5 Tryd.underlying9)) ?_
  refine k_pure (by kernel_rfl) (d := (some 24)) (by kernel_rfl) (v := .bool true) (fun _ => run_eqlOp (x := (.tmp 21)) (y := (.tmp 23)) (t := 9) (t' := 9) (s := strA x) (by kernel_rfl) (by kernel_rfl) (by kernel_rfl)) ?_
  refine k_pure (by kernel_rfl) (d := (some 25)) (by kernel_rfl) (v := .bool true) (fun _ => by kernel_rfl) ?_
  refine k_pure (by kernel_rfl) (d := (some 26)) (by kernel_rfl) (v := .bool true) (fun _ => by kernel_rfl) ?_
  refine k_row (by kernel_rfl) (d := (some 27)) (by kernel_rfl) (ty := 22) (x := (.tmp 4)) (by kernel_rfl) (b := w10.heap.size) (by kernel_rfl) (cs := (fpC x)) (fun _ hs => hs.at 2 rfl) Tryd.underlying22 rfl (by kernel_rfl) ?_
  refine k_row (by kernel_rfl) (d := (some 28)) (by kernel_rfl) (ty := 22) (x := (.tmp 1)) (by kernel_rfl) (b := w.heap.size) (by kernel_rfl) (cs := (fpC x)) (fun _ hs => hs.at 0 rfl) Tryd.underlying22 rfl (by kernel_rfl) ?_
  refine k_eql (by kernel_rfl) (d := (some 29)) (by kernel_rfl) (ty := 22) (ty' := 22) (x := (.tmp 27)) (y := (.tmp 28)) (by kernel_rfl) (xs := (fpC x)) (ys := (fpC x)) (b := true) (by kernel_rfl) (by kernel_rfl) (by kernel_rfl) (fun w' => eqFp hx w') ?_
  refine k_pure (by kernel_rfl) (d := (some 30)) (by kernel_rfl) (v := .bool true) (fun _ => by kernel_rfl) ?_
  refine k_pure (by kernel_rfl) (d := (some 2)) (by kernel_rfl) (v := .bool true) (fun _ => by kernel_rfl) ?_
  have K16 : Kept w [(w.heap.size, (fpC x)), (p7, (fpC x)), (w10.heap.size, (fpC x))] [] w12.drew := Kept.zero K15.nb (rowsC (K15.at 0 rfl) (rowsC (K15.at 1 rfl) (rowsC (K15.at 2 rfl) rows0)))
  refine k_end ?_
  go_simp
  go_wp2_with fail
  exact bodyPost_ret_by (by kernel_rfl) (by kernel_rfl) ⟨rfl, K16.nb⟩

theorem fnFpBytes_c {w : World} {x : Nat} (hm : ModW w) (hg : 5 ≤ w.heap.size) (hx : x < 256 ^ 16) :
    Calls Tryd.prog 3 #[.agg (fpC x)] w fun e w' => e = .returned (.bool true) ∧ Below w.heap.size w w' := by
  have hy : x % pp < pp := Nat.mod_lt _ pp_pos
  by_cases h : x = x % pp
  · exact fpBytes_t hm hg hx (h ▸ low_mod' x) h.symm
  · exact fpBytes_f hx (Nat.lt_trans hy (by decide +kernel)) rfl h
end Go.Proofs.YtfkfljohhabldaaDoor
