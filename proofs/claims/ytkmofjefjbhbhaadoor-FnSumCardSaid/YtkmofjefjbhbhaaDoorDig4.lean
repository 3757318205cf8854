/- Digests: made anew, and made ready. -/
import Derived.Test.YtkmofjefjbhbhaaDoorTurn
namespace Go.Sl
open Go.RowKit Go.FourQ Go.Sha
/-- Bytes, as cells. -/
def bv (l : List Int) : List Value := l.map (Value.int .u8)
theorem bv_get {l : List Int} {j : Nat} {x : Int} (h : l[j]? = some x) : (bv l)[j]? = some (.int .u8 x) := by unfold bv; rw [List.getElem?_map, h]; rfl
/-- A digest's cells behind its words. -/
def dgR (x : List Int) (nx len : Nat) : List Value := bv x ++ [.int .i64 (nx : Int), .int .u64 (len : Int), .bool false]
def dgL (s : St) (x : List Int) (nx len : Nat) : List Value := wv s.list ++ dgR x nx len
theorem run_indexSz {P : Program} {w : World} {ρ : Operand → Value} {o : Oper} {t e : TypeId} {b off n c i : Nat} {x y : Operand} {z : Int} (ho : o.op = .indexAddr t x y) (hx : ρ x = .slice (some ⟨b, off, none⟩) n c) (hy : ρ y = .int .i64 z) (hz : z = (i : Int)) (hu : P.underlying t = some (.slice e)) (hs : (P.info? e).map (·.size) = some 1) (hi : i < n) :
    (execOp ρ o).run P w = .ok (.value (.pointer (some ⟨b, off + i, none⟩))) w := by
  have h := run_indexSl (w := w) ho hx hy hz hu hs hi
  rw [addr_add] at h
  exact h
theorem set_lt {L : List Value} {j m : Nat} {v : Value} (h : m < L.length) : ∃ x, (L.set j v)[m]? = some x := ⟨_, List.getElem?_eq_getElem (by rw [List.length_set]; exact h)⟩
/-- Four cells are written. -/
def put4 (L : List Value) (o : Nat) (a b c d : Value) : List Value := (((L.set (o + 0) a).set (o + 1) b).set (o + 2) c).set (o + 3) d
end Go.Sl
namespace Go.Proofs.YtkmofjefjbhbhaaDoor
open Go.RowKit Go.FourQ Go.Sha Go.Sl

set_option maxRecDepth 100000 in
set_option maxHeartbeats 1000000 in
theorem reset_c {w : World} {b : Nat} (hD : Bl w b (wv (List.replicate 8 0) ++ dgR (List.replicate 64 0) 0 0)) :
    Calls Tryd.prog 16 #[.pointer (some ⟨b, 0, none⟩)] w fun e w' => e = .returned (.tuple #[]) ∧ Mm w [(b, dgL H0 (List.replicate 64 0) 0 0)] w' := by
  have HDB := Lib.hid hD
  clear hD
  go_enter Tryd.func16, Tryd.ntmps16
  go_upto_region 0 with (fail)
  have H0 : Mm w [(b, wv (List.replicate 8 0) ++ dgR (List.replicate 64 0) 0 0)] w := (Mm.one HDB.out)
  refine wp_seq_atS (opsAt Tryd.f16 0) ((true, 0) :: (true, 1) :: (true, 2) :: (false, 3) :: (true, 4) :: []) (fun _ => True) (by kernel_rfl) (by kernel_rfl) trivial ?_
  refine k_pure (by kernel_rfl) (d := (some 2)) (by kernel_rfl) (v := .pointer (some ⟨b, 0, none⟩)) (fun _ => by kernel_rfl) ?_
  refine k_pure (by kernel_rfl) (d := (some 3)) (by kernel_rfl) (v := .pointer (some ⟨b, 0, none⟩)) (fun _ => by kernel_rfl) ?_
  refine k_pure (by kernel_rfl) (d := (some 4)) (by kernel_rfl) (v := .pointer (some ⟨b, 74, none⟩)) (fun _ => by kernel_rfl) ?_
  refine k_make (by kernel_rfl) (d := (some 5)) (by kernel_rfl) (v := .bool false) (run_loadA (ty := 4) (x := (.tmp 4)) (a := ⟨b, 74, none⟩) (by kernel_rfl) (by kernel_rfl) Tryd.underlying4 rfl ((H0.at 0 rfl).cell rfl)) trivial ?_
  intro w4 hw4 _
  replace hw4 := hw4.symm
  subst hw4
  refine k_pure (by kernel_rfl) (d := (some 6)) (by kernel_rfl) (v := .bool true) (fun _ => by kernel_rfl) ?_
  refine k_end ?_
  go_simp
  go_upto_region 1 with (fail)
  refine wp_seq_atS (opsAt Tryd.f16 1) ((true, 0) :: (true, 1) :: (true, 2) :: (true, 3) :: (false, 4) :: []) (fun _ => True) (by kernel_rfl) (by kernel_rfl) trivial ?_
  refine k_pure (by kernel_rfl) (d := (some 7)) (by kernel_rfl) (v := .pointer (some ⟨b, 0, none⟩)) (fun _ => by kernel_rfl) ?_
  refine k_pure (by kernel_rfl) (d := (some 8)) (by kernel_rfl) (v := .pointer (some ⟨b, 0, none⟩)) (fun _ => by kernel_rfl) ?_
  refine k_pure (by kernel_rfl) (d := (some 9)) (by kernel_rfl) (v := .pointer (some ⟨b, 0, none⟩)) (fun _ => by kernel_rfl) ?_
  refine k_pure (by kernel_rfl) (d := (some 10)) (by kernel_rfl) (v := .pointer (some ⟨b, 0, none⟩)) (fun _ => by kernel_rfl) ?_
  have H10 : Mm w [(b, wv [1779033703, 0, 0, 0, 0, 0, 0, 0] ++ dgR (List.replicate 64 0) 0 0)] (w.setCell ⟨b, 0, none⟩ (.int .u32 1779033703)) := (by have h := H0.put 0 rfl 0 (.int .u32 1779033703); rw [(show (wv (List.replicate 8 0) ++ dgR (List.replicate 64 0) 0 0).set 0 (.int .u32 1779033703) = wv [1779033703, 0, 0, 0, 0, 0, 0, 0] ++ dgR (List.replicate 64 0) 0 0 from rfl)] at h; exact h)
  refine k_skipOp (by kernel_rfl) (d := none) (by kernel_rfl) (run_storeA (ty := 40) (x := (.tmp 10)) (y := (.const (.int .u32 1779033703))) (b := b) (off := 0) (v := .int .u32 1779033703) (by kernel_rfl) (by kernel_rfl) (by kernel_rfl) rfl rfl (by kernel_rfl) ((H0.at 0 rfl).cell (rfl)) (H0.at 0 rfl).free) trivial ?_
  intro w10 hw10 _
  rw [← hw10] at H10
  clear hw10 H0
  refine k_end ?_
  go_simp
  go_upto_region 2 with (fail)
  refine wp_seq_atS (opsAt Tryd.f16 2) ((true, 0) :: (true, 1) :: (true, 2) :: (true, 3) :: (false, 4) :: []) (fun _ => True) (by kernel_rfl) (by kernel_rfl) trivial ?_
  refine k_pure (by kernel_rfl) (d := (some 11)) (by kernel_rfl) (v := .pointer (some ⟨b, 0, none⟩)) (fun _ => by kernel_rfl) ?_
  refine k_pure (by kernel_rfl) (d := (some 12)) (by kernel_rfl) (v := .pointer (some ⟨b, 0, none⟩)) (fun _ => by kernel_rfl) ?_
  refine k_pure (by kernel_rfl) (d := (some 13)) (by kernel_rfl) (v := .pointer (some ⟨b, 0, none⟩)) (fun _ => by kernel_rfl) ?_
  refine k_pure (by kernel_rfl) (d := (some 14)) (by kernel_rfl) (v := .pointer (some ⟨b, 1, none⟩)) (fun _ => by kernel_rfl) ?_
  have H15 : Mm w [(b, wv [1779033703, 3144134277, 0, 0, 0, 0, 0, 0] ++ dgR (List.replicate 64 0) 0 0)] (w10.setCell ⟨b, 1, none⟩ (.int .u32 3144134277)) := (by have h := H10.put 0 rfl 1 (.int .u32 3144134277); rw [(show (wv [1779033703, 0, 0, 0, 0, 0, 0, 0] ++ dgR (List.replicate 64 0) 0 0).set 1 (.int .u32 3144134277) = wv [1779033703, 3144134277, 0, 0, 0, 0, 0, 0] ++ dgR (List.replicate 64 0) 0 0 from rfl)] at h; exact h)
  refine k_skipOp (by kernel_rfl) (d := none) (by kernel_rfl) (run_storeA (ty := 40) (x := (.tmp 14)) (y := (.const (.int .u32 3144134277))) (b := b) (off := 1) (v := .int .u32 3144134277) (by kernel_rfl) (by kernel_rfl) (by kernel_rfl) rfl rfl (by kernel_rfl) ((H10.at 0 rfl).cell (rfl)) (H10.at 0 rfl).free) trivial ?_
  intro w15 hw15 _
  rw [← hw15] at H15
  clear hw15 H10
  refine k_end ?_
  go_simp
  go_upto_region 3 with (fail)
  refine wp_seq_atS (opsAt Tryd.f16 3) ((true, 0) :: (true, 1) :: (true, 2) :: (true, 3) :: (false, 4) :: []) (fun _ => True) (by kernel_rfl) (by kernel_rfl) trivial ?_
  refine k_pure (by kernel_rfl) (d := (some 15)) (by kernel_rfl) (v := .pointer (some ⟨b, 0, none⟩)) (fun _ => by kernel_rfl) ?_
  refine k_pure (by kernel_rfl) (d := (some 16)) (by kernel_rfl) (v := .pointer (some ⟨b, 0, none⟩)) (fun _ => by kernel_rfl) ?_
  refine k_pure (by kernel_rfl) (d := (some 17)) (by kernel_rfl) (v := .pointer (some ⟨b, 0, none⟩)) (fun _ => by kernel_rfl) ?_
  refine k_pure (by kernel_rfl) (d := (some 18)) (by kernel_rfl) (v := .pointer (some ⟨b, 2, none⟩)) (fun _ => by kernel_rfl) ?_
  have H20 : Mm w [(b, wv [1779033703, 3144134277, 1013904242, 0, 0, 0, 0, 0] ++ dgR (List.replicate 64 0) 0 0)] (w15.setCell ⟨b, 2, none⟩ (.int .u32 1013904242)) := (by have h := H15.put 0 rfl 2 (.int .u32 1013904242); rw [(show (wv [1779033703, 3144134277, 0, 0, 0, 0, 0, 0] ++ dgR (List.replicate 64 0) 0 0).set 2 (.int .u32 1013904242) = wv [1779033703, 3144134277, 1013904242, 0, 0, 0, 0, 0] ++ dgR (List.replicate 64 0) 0 0 from rfl)] at h; exact h)
  refine k_skipOp (by kernel_rfl) (d := none) (by kernel_rfl) (run_storeA (ty := 40) (x := (.tmp 18)) (y := (.const (.int .u32 1013904242))) (b := b) (off := 2) (v := .int .u32 1013904242) (by kernel_rfl) (by kernel_rfl) (by kernel_rfl) rfl rfl (by kernel_rfl) ((H15.at 0 rfl).cell (rfl)) (H15.at 0 rfl).free) trivial ?_
  intro w20 hw20 _
  rw [← hw20] at H20
  clear hw20 H15
  refine k_end ?_
  go_simp
  go_upto_region 4 with (fail)
  refine wp_seq_atS (opsAt Tryd.f16 4) ((true, 0) :: (true, 1) :: (true, 2) :: (true, 3) :: (false, 4) :: []) (fun _ => True) (by kernel_rfl) (by kernel_rfl) trivial ?_
  refine k_pure (by kernel_rfl) (d := (some 19)) (by kernel_rfl) (v := .pointer (some ⟨b, 0, none⟩)) (fun _ => by kernel_rfl) ?_
  refine k_pure (by kernel_rfl) (d := (some 20)) (by kernel_rfl) (v := .pointer (some ⟨b, 0, none⟩)) (fun _ => by kernel_rfl) ?_
  refine k_pure (by kernel_rfl) (d := (some 21)) (by kernel_rfl) (v := .pointer (some ⟨b, 0, none⟩)) (fun _ => by kernel_rfl) ?_
  refine k_pure (by kernel_rfl) (d := (some 22)) (by kernel_rfl) (v := .pointer (some ⟨b, 3, none⟩)) (fun _ => by kernel_rfl) ?_
  have H25 : Mm w [(b, wv [1779033703, 3144134277, 1013904242, 2773480762, 0, 0, 0, 0] ++ dgR (List.replicate 64 0) 0 0)] (w20.setCell ⟨b, 3, none⟩ (.int .u32 2773480762)) := (by have h := H20.put 0 rfl 3 (.int .u32 2773480762); rw [(show (wv [1779033703, 3144134277, 1013904242, 0, 0, 0, 0, 0] ++ dgR (List.replicate 64 0) 0 0).set 3 (.int .u32 2773480762) = wv [1779033703, 3144134277, 1013904242, 2773480762, 0, 0, 0, 0] ++ dgR (List.replicate 64 0) 0 0 from rfl)] at h; exact h)
  refine k_skipOp (by kernel_rfl) (d := none) (by kernel_rfl) (run_storeA (ty := 40) (x := (.tmp 22)) (y := (.const (.int .u32 2773480762))) (b := b) (off := 3) (v := .int .u32 2773480762) (by kernel_rfl) (by kernel_rfl) (by kernel_rfl) rfl rfl (by kernel_rfl) ((H20.at 0 rfl).cell (rfl)) (H20.at 0 rfl).free) trivial ?_
  intro w25 hw25 _
  rw [← hw25] at H25
  clear hw25 H20
  refine k_end ?_
  go_simp
  go_upto_region 5 with (fail)
  refine wp_seq_atS (opsAt Tryd.f16 5) ((true, 0) :: (true, 1) :: (true, 2) :: (true, 3) :: (false, 4) :: []) (fun _ => True) (by kernel_rfl) (by kernel_rfl) trivial ?_
  refine k_pure (by kernel_rfl) (d := (some 23)) (by kernel_rfl) (v := .pointer (some ⟨b, 0, none⟩)) (fun _ => by kernel_rfl) ?_
  refine k_pure (by kernel_rfl) (d := (some 24)) (by kernel_rfl) (v := .pointer (some ⟨b, 0, none⟩)) (fun _ => by kernel_rfl) ?_
  refine k_pure (by kernel_rfl) (d := (some 25)) (by kernel_rfl) (v := .pointer (some ⟨b, 0, none⟩)) (fun _ => by kernel_rfl) ?_
  refine k_pure (by kernel_rfl) (d := (some 26)) (by kernel_rfl) (v := .pointer (some ⟨b, 4, none⟩)) (fun _ => by kernel_rfl) ?_
  have H30 : Mm w [(b, wv [1779033703, 3144134277, 1013904242, 2773480762, 1359893119, 0, 0, 0] ++ dgR (List.replicate 64 0) 0 0)] (w25.setCell ⟨b, 4, none⟩ (.int .u32 1359893119)) := (by have h := H25.put 0 rfl 4 (.int .u32 1359893119); rw [(show (wv [1779033703, 3144134277, 1013904242, 2773480762, 0, 0, 0, 0] ++ dgR (List.replicate 64 0) 0 0).set 4 (.int .u32 1359893119) = wv [1779033703, 3144134277, 1013904242, 2773480762, 1359893119, 0, 0, 0] ++ dgR (List.replicate 64 0) 0 0 from rfl)] at h; exact h)
  refine k_skipOp (by kernel_rfl) (d := none) (by kernel_rfl) (run_storeA (ty := 40) (x := (.tmp 26)) (y := (.const (.int .u32 1359893119))) (b := b) (off := 4) (v := .int .u32 1359893119) (by kernel_rfl) (by kernel_rfl) (by kernel_rfl) rfl rfl (by kernel_rfl) ((H25.at 0 rfl).cell (rfl)) (H25.at 0 rfl).free) trivial ?_
  intro w30 hw30 _
  rw [← hw30] at H30
  clear hw30 H25
  refine k_end ?_
  go_simp
  go_upto_region 6 with (fail)
  refine wp_seq_atS (opsAt Tryd.f16 6) ((true, 0) :: (true, 1) :: (true, 2) :: (true, 3) :: (false, 4) :: []) (fun _ => True) (by kernel_rfl) (by kernel_rfl) trivial ?_
  refine k_pure (by kernel_rfl) (d := (some 27)) (by kernel_rfl) (v := .pointer (some ⟨b, 0, none⟩)) (fun _ => by kernel_rfl) ?_
  refine k_pure (by kernel_rfl) (d := (some 28)) (by kernel_rfl) (v := .pointer (some ⟨b, 0, none⟩)) (fun _ => by kernel_rfl) ?_
  refine k_pure (by kernel_rfl) (d := (some 29)) (by kernel_rfl) (v := .pointer (some ⟨b, 0, none⟩)) (fun _ => by kernel_rfl) ?_
  refine k_pure (by kernel_rfl) (d := (some 30)) (by kernel_rfl) (v := .pointer (some ⟨b, 5, none⟩)) (fun _ => by kernel_rfl) ?_
  have H35 : Mm w [(b, wv [1779033703, 3144134277, 1013904242, 2773480762, 1359893119, 2600822924, 0, 0] ++ dgR (List.replicate 64 0) 0 0)] (w30.setCell ⟨b, 5, none⟩ (.int .u32 2600822924)) := (by have h := H30.put 0 rfl 5 (.int .u32 2600822924); rw [(show (wv [1779033703, 3144134277, 1013904242, 2773480762, 1359893119, 0, 0, 0] ++ dgR (List.replicate 64 0) 0 0).set 5 (.int .u32 2600822924) = wv [1779033703, 3144134277, 1013904242, 2773480762, 1359893119, 2600822924, 0, 0] ++ dgR (List.replicate 64 0) 0 0 from rfl)] at h; exact h)
  refine k_skipOp (by kernel_rfl) (d := none) (by kernel_rfl) (run_storeA (ty := 40) (x := (.tmp 30)) (y := (.const (.int .u32 2600822924))) (b := b) (off := 5) (v := .int .u32 2600822924) (by kernel_rfl) (by kernel_rfl) (by kernel_rfl) rfl rfl (by kernel_rfl) ((H30.at 0 rfl).cell (rfl)) (H30.at 0 rfl).free) trivial ?_
  intro w35 hw35 _
  rw [← hw35] at H35
  clear hw35 H30
  refine k_end ?_
  go_simp
  go_upto_region 7 with (fail)
  refine wp_seq_atS (opsAt Tryd.f16 7) ((true, 0) :: (true, 1) :: (true, 2) :: (true, 3) :: (false, 4) :: []) (fun _ => True) (by kernel_rfl) (by kernel_rfl) trivial ?_
  refine k_pure (by kernel_rfl) (d := (some 31)) (by kernel_rfl) (v := .pointer (some ⟨b, 0, none⟩)) (fun _ => by kernel_rfl) ?_
  refine k_pure (by kernel_rfl) (d := (some 32)) (by kernel_rfl) (v := .pointer (some ⟨b, 0, none⟩)) (fun _ => by kernel_rfl) ?_
  refine k_pure (by kernel_rfl) (d := (some 33)) (by kernel_rfl) (v := .pointer (some ⟨b, 0, none⟩)) (fun _ => by kernel_rfl) ?_
  refine k_pure (by kernel_rfl) (d := (some 34)) (by kernel_rfl) (v := .pointer (some ⟨b, 6, none⟩)) (fun _ => by kernel_rfl) ?_
  have H40 : Mm w [(b, wv [1779033703, 3144134277, 1013904242, 2773480762, 1359893119, 2600822924, 528734635, 0] ++ dgR (List.replicate 64 0) 0 0)] (w35.setCell ⟨b, 6, none⟩ (.int .u32 528734635)) := (by have h := H35.put 0 rfl 6 (.int .u32 528734635); rw [(show (wv [1779033703, 3144134277, 1013904242, 2773480762, 1359893119, 2600822924, 0, 0] ++ dgR (List.replicate 64 0) 0 0).set 6 (.int .u32 528734635) = wv [1779033703, 3144134277, 1013904242, 2773480762, 1359893119, 2600822924, 528734635, 0] ++ dgR (List.replicate 64 0) 0 0 from rfl)] at h; exact h)
  refine k_skipOp (by kernel_rfl) (d := none) (by kernel_rfl) (run_storeA (ty := 40) (x := (.tmp 34)) (y := (.const (.int .u32 528734635))) (b := b) (off := 6) (v := .int .u32 528734635) (by kernel_rfl) (by kernel_rfl) (by kernel_rfl) rfl rfl (by kernel_rfl) ((H35.at 0 rfl).cell (rfl)) (H35.at 0 rfl).free) trivial ?_
  intro w40 hw40 _
  rw [← hw40] at H40
  clear hw40 H35
  refine k_end ?_
  go_simp
  go_upto_region 8 with (fail)
  refine wp_seq_atS (opsAt Tryd.f16 8) ((true, 0) :: (true, 1) :: (true, 2) :: (true, 3) :: (false, 4) :: []) (fun _ => True) (by kernel_rfl) (by kernel_rfl) trivial ?_
  refine k_pure (by kernel_rfl) (d := (some 35)) (by kernel_rfl) (v := .pointer (some ⟨b, 0, none⟩)) (fun _ => by kernel_rfl) ?_
  refine k_pure (by kernel_rfl) (d := (some 36)) (by kernel_rfl) (v := .pointer (some ⟨b, 0, none⟩)) (fun _ => by kernel_rfl) ?_
  refine k_pure (by kernel_rfl) (d := (some 37)) (by kernel_rfl) (v := .pointer (some ⟨b, 0, none⟩)) (fun _ => by kernel_rfl) ?_
  refine k_pure (by kernel_rfl) (d := (some 38)) (by kernel_rfl) (v := .pointer (some ⟨b, 7, none⟩)) (fun _ => by kernel_rfl) ?_
  have H45 : Mm w [(b, wv [1779033703, 3144134277, 1013904242, 2773480762, 1359893119, 2600822924, 528734635, 1541459225] ++ dgR (List.replicate 64 0) 0 0)] (w40.setCell ⟨b, 7, none⟩ (.int .u32 1541459225)) := (by have h := H40.put 0 rfl 7 (.int .u32 1541459225); rw [(show (wv [1779033703, 3144134277, 1013904242, 2773480762, 1359893119, 2600822924, 528734635, 0] ++ dgR (List.replicate 64 0) 0 0).set 7 (.int .u32 1541459225) = wv [1779033703, 3144134277, 1013904242, 2773480762, 1359893119, 2600822924, 528734635, 1541459225] ++ dgR (List.replicate 64 0) 0 0 from rfl)] at h; exact h)
  refine k_skipOp (by kernel_rfl) (d := none) (by kernel_rfl) (run_storeA (ty := 40) (x := (.tmp 38)) (y := (.const (.int .u32 1541459225))) (b := b) (off := 7) (v := .int .u32 1541459225) (by kernel_rfl) (by kernel_rfl) (by kernel_rfl) rfl rfl (by kernel_rfl) ((H40.at 0 rfl).cell (rfl)) (H40.at 0 rfl).free) trivial ?_
  intro w45 hw45 _
  rw [← hw45] at H45
  clear hw45 H40
  refine k_end ?_
  go_simp
  go_upto_region 17 with (fail)
  refine wp_seq_atS (opsAt Tryd.f16 17) ((true, 0) :: (true, 1) :: (true, 2) :: (false, 3) :: []) (fun _ => True) (by kernel_rfl) (by kernel_rfl) trivial ?_
  refine k_pure (by kernel_rfl) (d := (some 71)) (by kernel_rfl) (v := .pointer (some ⟨b, 0, none⟩)) (fun _ => by kernel_rfl) ?_
  refine k_pure (by kernel_rfl) (d := (some 72)) (by kernel_rfl) (v := .pointer (some ⟨b, 0, none⟩)) (fun _ => by kernel_rfl) ?_
  refine k_pure (by kernel_rfl) (d := (some 73)) (by kernel_rfl) (v := .pointer (some ⟨b, 72, none⟩)) (fun _ => by kernel_rfl) ?_
  have H49 : Mm w [(b, wv [1779033703, 3144134277, 1013904242, 2773480762, 1359893119, 2600822924, 528734635, 1541459225] ++ dgR (List.replicate 64 0) 0 0)] (w45.setCell ⟨b, 72, none⟩ (.int .i64 0)) := (by have h := H45.put 0 rfl 72 (.int .i64 0); rw [(show (wv [1779033703, 3144134277, 1013904242, 2773480762, 1359893119, 2600822924, 528734635, 1541459225] ++ dgR (List.replicate 64 0) 0 0).set 72 (.int .i64 0) = wv [1779033703, 3144134277, 1013904242, 2773480762, 1359893119, 2600822924, 528734635, 1541459225] ++ dgR (List.replicate 64 0) 0 0 from rfl)] at h; exact h)
  refine k_skipOp (by kernel_rfl) (d := none) (by kernel_rfl) (run_storeA (ty := 3) (x := (.tmp 73)) (y := (.const (.int .i64 0))) (b := b) (off := 72) (v := .int .i64 0) (by kernel_rfl) (by kernel_rfl) (by kernel_rfl) rfl rfl (by kernel_rfl) ((H45.at 0 rfl).cell (rfl)) (H45.at 0 rfl).free) trivial ?_
  intro w49 hw49 _
  rw [← hw49] at H49
  clear hw49 H45
  refine k_end ?_
  go_simp
  go_upto_region 18 with (fail)
  refine wp_seq_atS (opsAt Tryd.f16 18) ((true, 0) :: (true, 1) :: (true, 2) :: (false, 3) :: []) (fun _ => True) (by kernel_rfl) (by kernel_rfl) trivial ?_
  refine k_pure (by kernel_rfl) (d := (some 74)) (by kernel_rfl) (v := .pointer (some ⟨b, 0, none⟩)) (fun _ => by kernel_rfl) ?_
  refine k_pure (by kernel_rfl) (d := (some 75)) (by kernel_rfl) (v := .pointer (some ⟨b, 0, none⟩)) (fun _ => by kernel_rfl) ?_
  refine k_pure (by kernel_rfl) (d := (some 76)) (by kernel_rfl) (v := .pointer (some ⟨b, 73, none⟩)) (fun _ => by kernel_rfl) ?_
  have H53 : Mm w [(b, wv [1779033703, 3144134277, 1013904242, 2773480762, 1359893119, 2600822924, 528734635, 1541459225] ++ dgR (List.replicate 64 0) 0 0)] (w49.setCell ⟨b, 73, none⟩ (.int .u64 0)) := (by have h := H49.put 0 rfl 73 (.int .u64 0); rw [(show (wv [1779033703, 3144134277, 1013904242, 2773480762, 1359893119, 2600822924, 528734635, 1541459225] ++ dgR (List.replicate 64 0) 0 0).set 73 (.int .u64 0) = wv [1779033703, 3144134277, 1013904242, 2773480762, 1359893119, 2600822924, 528734635, 1541459225] ++ dgR (List.replicate 64 0) 0 0 from rfl)] at h; exact h)
  refine k_skipOp (by kernel_rfl) (d := none) (by kernel_rfl) (run_storeA (ty := 43) (x := (.tmp 76)) (y := (.const (.int .u64 0))) (b := b) (off := 73) (v := .int .u64 0) (by kernel_rfl) (by kernel_rfl) (by kernel_rfl) rfl rfl (by kernel_rfl) ((H49.at 0 rfl).cell (rfl)) (H49.at 0 rfl).free) trivial ?_
  intro w53 hw53 _
  rw [← hw53] at H53
  clear hw53 H49
  refine k_end ?_
  go_simp
  have HF := Lib.hid H53
  clear H53
  go_wp2_with fail
  go_end0
  exact ⟨rfl, HF.out⟩

set_option maxRecDepth 100000 in
set_option maxHeartbeats 1000000 in
theorem new_c {w : World} :
    Calls Tryd.prog 7 #[] w fun e w' => ∃ n, e = .returned (.pointer (some ⟨n, 0, none⟩)) ∧ w.heap.size ≤ n ∧ Mm w [(n, dgL H0 (List.replicate 64 0) 0 0)] w' := by
  go_enter Tryd.func7, Tryd.ntmps7
  go_upto_region 1 with (fail)
  have H0 : Mm w [] w := (Mm.zero w)
  refine wp_seq_atS (opsAt Tryd.f7 1) ((false, 0) :: (true, 1) :: []) (fun _ => True) (by kernel_rfl) (by kernel_rfl) trivial ?_
  obtain ⟨n1, hn1⟩ : ∃ n, w.heap.size = n := ⟨_, rfl⟩
  have H1 : Mm w [(n1, wv (List.replicate 8 0) ++ dgR (List.replicate 64 0) 0 0)] (w.alloc (.cells (wv (List.replicate 8 0) ++ dgR (List.replicate 64 0) 0 0).toArray 45)) := H0.new hn1.symm rfl
  have hge1 : w.heap.size ≤ n1 := by rw [← hn1]; exact H0.size
  refine k_make (by kernel_rfl) (d := (some 2)) (by kernel_rfl) (v := .pointer (some ⟨n1, 0, none⟩)) (w' := w.alloc (.cells (wv (List.replicate 8 0) ++ dgR (List.replicate 64 0) 0 0).toArray 45)) (by rw [← hn1]; kernel_rfl) trivial ?_
  intro w1 hw1 _
  rw [← hw1] at H1
  clear hw1 hn1 H0
  refine k_pure (by kernel_rfl) (d := (some 1)) (by kernel_rfl) (v := .pointer (some ⟨n1, 0, none⟩)) (fun _ => by kernel_rfl) ?_
  refine k_end ?_
  go_simp
  go_upto_region 2 with (fail)
  refine wp_seq_atS (opsAt Tryd.f7 2) ((true, 0) :: (false, 1) :: []) (fun _ => True) (by kernel_rfl) (by kernel_rfl) trivial ?_
  refine k_pure (by kernel_rfl) (d := (some 3)) (by kernel_rfl) (v := .pointer (some ⟨n1, 0, none⟩)) (fun _ => by kernel_rfl) ?_
  refine k_callR (by kernel_rfl) (d := (some 4)) (by kernel_rfl) (f := 16) (args := #[.pointer (some ⟨n1, 0, none⟩)]) (fun _ => by kernel_rfl) (reset_c (Mm.at H1 0 rfl)) (fun _ w4 ⟨he4, u4⟩ => ⟨_, he4, trivial, ?_⟩)
  have H4 := H1.upd (i := 0) rfl u4
  clear u4 he4 H1
  refine k_end ?_
  go_simp
  have HF := Lib.hid (show Mm w [(n1, dgL H0 (List.replicate 64 0) 0 0)] w4 from H4)
  clear H4
  go_wp2_with fail
  exact bodyPost_ret_by (by kernel_rfl) (by kernel_rfl) ⟨n1, rfl, by assumption, HF.out⟩

set_option maxRecDepth 100000 in
set_option maxHeartbeats 1000000 in
theorem copied_c {w : World} {v : Value} {l : List Int} (hp : Rd w .u8 v l) (hl : l.length ≤ 4096) :
    Calls Tryd.prog 9 #[v] w fun e w' => ∃ v', e = .returned v' ∧ Ow w' w.heap.size 5 .u8 v' l ∧ Below w.heap.size w w' := by
  have HP := Lib.hid hp
  clear hp
  go_enter Tryd.func9, Tryd.ntmps9
  go_upto_region 1 with (fail)
  have H0 : Mm w [] w := (Mm.zero w)
  refine wp_seq_atS (opsAt Tryd.f9 1) ((true, 0) :: (false, 1) :: (true, 2) :: []) (fun _ => True) (by kernel_rfl) (by kernel_rfl) trivial ?_
  refine k_pure (by kernel_rfl) (d := (some 3)) (by kernel_rfl) (v := v) (fun _ => by kernel_rfl) ?_
  obtain ⟨i2, hi2, hz2, hs2, hy2⟩ := info_parts (P := Tryd.prog) (e := 5) (z := .int .u8 0) (size := 1) (bytes := 1) (by kernel_rfl)
  obtain ⟨v2, wz2, hr2, ho2, hg2⟩ := run_app (P := Tryd.prog) (w := w) (base := w.heap.size) (k := .u8) (e := 5) (v := .slice none 0 0) (u := v) (l := []) (m := l) (t := 24) (ty := 24) Tryd.underlying24 hi2 hz2 hs2 hy2 (by decide) Ow.nil HP.out (by simp; omega) (Nat.le_refl _)
  refine k_make (by kernel_rfl) (d := (some 4)) (by kernel_rfl) (v := v2) (run_appOp (x := .const (.slice none 0 0)) (y := .tmp 3) (by kernel_rfl) (by kernel_rfl) (by kernel_rfl) hr2) trivial ?_
  intro w2 hw2 _
  subst hw2
  have HO := Lib.hid ho2
  have HB := Lib.hid (below_grown (Below.refl _ _) (Nat.le_refl _) hg2 (fun b hb => by cases hb))
  clear ho2 hg2 hr2
  refine k_pure (by kernel_rfl) (d := (some 2)) (by kernel_rfl) (v := v2) (fun _ => by kernel_rfl) ?_
  refine k_end ?_
  go_simp
  clear H0
  go_wp2_with fail
  exact bodyPost_ret_by (by kernel_rfl) (by kernel_rfl) ⟨v2, rfl, HO.out, HB.out⟩

set_option maxRecDepth 100000 in
set_option maxHeartbeats 1000000 in
theorem put32_c {w : World} {b off n c : Nat} {x x3 : Int} {L : List Value} (hD : Bl w b L) (hn : 4 ≤ n) (hl : off + n ≤ L.length) (h3 : L[off + 3]? = some (.int .u8 x3)) :
    Calls Tryd.prog 23 #[.slice (some ⟨b, off, none⟩) n c, .int .u32 x] w fun e w' => e = .returned (.tuple #[]) ∧ Mm w [(b, put4 L off (.int .u8 (b8 (wR x 24))) (.int .u8 (b8 (wR x 16))) (.int .u8 (b8 (wR x 8))) (.int .u8 (b8 x)))] w' := by
  have HD := Lib.hid hD; have HL3 := Lib.hid h3
  clear hD h3
  go_enter Tryd.func23, Tryd.ntmps23
  go_upto_region 0 with (fail)
  have H0 : Mm w [(b, L)] w := (Mm.one HD.out)
  refine wp_seq_atS (opsAt Tryd.f23 0) ((true, 0) :: (true, 1) :: (false, 2) :: []) (fun _ => True) (by kernel_rfl) (by kernel_rfl) trivial ?_
  refine k_pure (by kernel_rfl) (d := (some 4)) (by kernel_rfl) (v := .slice (some ⟨b, off, none⟩) n c) (fun _ => by kernel_rfl) ?_
  refine k_pure (by kernel_rfl) (d := (some 5)) (by kernel_rfl) (v := .pointer (some ⟨b, off + 3, none⟩)) (fun _ => run_indexSz (t := 24) (x := (.tmp 4)) (y := (.const (.int .i64 3))) (b := b) (off := off) (n := n) (c := c) (i := 3) (z := 3) (by kernel_rfl) (by kernel_rfl) (by kernel_rfl) rfl Tryd.underlying24 (by kernel_rfl) (by omega)) ?_
  refine k_make (by kernel_rfl) (d := (some 6)) (by kernel_rfl) (v := .int .u8 x3) (run_loadA (ty := 5) (x := (.tmp 5)) (a := ⟨b, off + 3, none⟩) (by kernel_rfl) (by kernel_rfl) Tryd.underlying5 rfl ((H0.at 0 rfl).cell HL3.out)) trivial ?_
  intro w3 hw3 _
  replace hw3 := hw3.symm
  subst hw3
  refine k_end ?_
  go_simp
  go_upto_region 1 with (fail)
  refine wp_seq_atS (opsAt Tryd.f23 1) ((true, 0) :: (true, 1) :: (true, 2) :: (true, 3) :: (true, 4) :: (false, 5) :: []) (fun _ => True) (by kernel_rfl) (by kernel_rfl) trivial ?_
  refine k_pure (by kernel_rfl) (d := (some 7)) (by kernel_rfl) (v := .slice (some ⟨b, off, none⟩) n c) (fun _ => by kernel_rfl) ?_
  refine k_pure (by kernel_rfl) (d := (some 8)) (by kernel_rfl) (v := .int .u32 x) (fun _ => by kernel_rfl) ?_
  refine k_pure (by kernel_rfl) (d := (some 9)) (by kernel_rfl) (v := .int .u32 (wR x 24)) (fun _ => run_binOpV (op := .shr) (x := (.tmp 8)) (y := (.const (.int .u64 24))) (t := 40) (t' := 52) (u := .int .u32 x) (v := .int .u64 24) (by kernel_rfl) (by kernel_rfl) (by kernel_rfl) rfl (shrU (n := 24) (by first | rfl | omega) (by first | decide | (show _ ≤ 32; omega)))) ?_
  refine k_pure (by kernel_rfl) (d := (some 10)) (by kernel_rfl) (v := .int .u8 (b8 (wR x 24))) (fun _ => run_convOpE (x := (.tmp 9)) (s := 40) (d := 5) (u := .int .u32 (wR x 24)) (v := .int .u8 (IntKind.u8.wrap (wR x 24))) (by kernel_rfl) (by kernel_rfl) (by kernel_rfl) rfl) ?_
  refine k_pure (by kernel_rfl) (d := (some 11)) (by kernel_rfl) (v := .pointer (some ⟨b, off + 0, none⟩)) (fun _ => run_indexSz (t := 24) (x := (.tmp 7)) (y := (.const (.int .i64 0))) (b := b) (off := off) (n := n) (c := c) (i := 0) (z := 0) (by kernel_rfl) (by kernel_rfl) (by kernel_rfl) rfl Tryd.underlying24 (by kernel_rfl) (by omega)) ?_
  have H9 : Mm w [(b, L.set (off + 0) (.int .u8 (b8 (wR x 24))))] (w.setCell ⟨b, off + 0, none⟩ (.int .u8 (b8 (wR x 24)))) := (by have h := H0.put 0 rfl (off + 0) (.int .u8 (b8 (wR x 24))); rw [(show (L).set (off + 0) (.int .u8 (b8 (wR x 24))) = L.set (off + 0) (.int .u8 (b8 (wR x 24))) from rfl)] at h; exact h)
  refine k_skipOp (by kernel_rfl) (d := none) (by kernel_rfl) (run_storeA (ty := 5) (x := (.tmp 11)) (y := (.tmp 10)) (b := b) (off := off + 0) (v := .int .u8 (b8 (wR x 24))) (by kernel_rfl) (by kernel_rfl) (by kernel_rfl) rfl rfl (by kernel_rfl) ((H0.at 0 rfl).cell (List.getElem?_eq_getElem (by first | omega | (simp only [List.length_set]; omega)))) (H0.at 0 rfl).free) trivial ?_
  intro w9 hw9 _
  rw [← hw9] at H9
  clear hw9 H0
  refine k_end ?_
  go_simp
  go_upto_region 2 with (fail)
  refine wp_seq_atS (opsAt Tryd.f23 2) ((true, 0) :: (true, 1) :: (true, 2) :: (true, 3) :: (true, 4) :: (false, 5) :: []) (fun _ => True) (by kernel_rfl) (by kernel_rfl) trivial ?_
  refine k_pure (by kernel_rfl) (d := (some 12)) (by kernel_rfl) (v := .slice (some ⟨b, off, none⟩) n c) (fun _ => by kernel_rfl) ?_
  refine k_pure (by kernel_rfl) (d := (some 13)) (by kernel_rfl) (v := .int .u32 x) (fun _ => by kernel_rfl) ?_
  refine k_pure (by kernel_rfl) (d := (some 14)) (by kernel_rfl) (v := .int .u32 (wR x 16)) (fun _ => run_binOpV (op := .shr) (x := (.tmp 13)) (y := (.const (.int .u64 16))) (t := 40) (t' := 52) (u := .int .u32 x) (v := .int .u64 16) (by kernel_rfl) (by kernel_rfl) (by kernel_rfl) rfl (shrU (n := 16) (by first | rfl | omega) (by first | decide | (show _ ≤ 32; omega)))) ?_
  refine k_pure (by kernel_rfl) (d := (some 15)) (by kernel_rfl) (v := .int .u8 (b8 (wR x 16))) (fun _ => run_convOpE (x := (.tmp 14)) (s := 40) (d := 5) (u := .int .u32 (wR x 16)) (v := .int .u8 (IntKind.u8.wrap (wR x 16))) (by kernel_rfl) (by kernel_rfl) (by kernel_rfl) rfl) ?_
  refine k_pure (by kernel_rfl) (d := (some 16)) (by kernel_rfl) (v := .pointer (some ⟨b, off + 1, none⟩)) (fun _ => run_indexSz (t := 24) (x := (.tmp 12)) (y := (.const (.int .i64 1))) (b := b) (off := off) (n := n) (c := c) (i := 1) (z := 1) (by kernel_rfl) (by kernel_rfl) (by kernel_rfl) rfl Tryd.underlying24 (by kernel_rfl) (by omega)) ?_
  have H15 : Mm w [(b, (L.set (off + 0) (.int .u8 (b8 (wR x 24)))).set (off + 1) (.int .u8 (b8 (wR x 16))))] (w9.setCell ⟨b, off + 1, none⟩ (.int .u8 (b8 (wR x 16)))) := (by have h := H9.put 0 rfl (off + 1) (.int .u8 (b8 (wR x 16))); rw [(show (L.set (off + 0) (.int .u8 (b8 (wR x 24)))).set (off + 1) (.int .u8 (b8 (wR x 16))) = (L.set (off + 0) (.int .u8 (b8 (wR x 24)))).set (off + 1) (.int .u8 (b8 (wR x 16))) from rfl)] at h; exact h)
  refine k_skipOp (by kernel_rfl) (d := none) (by kernel_rfl) (run_storeA (ty := 5) (x := (.tmp 16)) (y := (.tmp 15)) (b := b) (off := off + 1) (v := .int .u8 (b8 (wR x 16))) (by kernel_rfl) (by kernel_rfl) (by kernel_rfl) rfl rfl (by kernel_rfl) ((H9.at 0 rfl).cell (List.getElem?_eq_getElem (by first | omega | (simp only [List.length_set]; omega)))) (H9.at 0 rfl).free) trivial ?_
  intro w15 hw15 _
  rw [← hw15] at H15
  clear hw15 H9
  refine k_end ?_
  go_simp
  go_upto_region 3 with (fail)
  refine wp_seq_atS (opsAt Tryd.f23 3) ((true, 0) :: (true, 1) :: (true, 2) :: (true, 3) :: (true, 4) :: (false, 5) :: []) (fun _ => True) (by kernel_rfl) (by kernel_rfl) trivial ?_
  refine k_pure (by kernel_rfl) (d := (some 17)) (by kernel_rfl) (v := .slice (some ⟨b, off, none⟩) n c) (fun _ => by kernel_rfl) ?_
  refine k_pure (by kernel_rfl) (d := (some 18)) (by kernel_rfl) (v := .int .u32 x) (fun _ => by kernel_rfl) ?_
  refine k_pure (by kernel_rfl) (d := (some 19)) (by kernel_rfl) (v := .int .u32 (wR x 8)) (fun _ => run_binOpV (op := .shr) (x := (.tmp 18)) (y := (.const (.int .u64 8))) (t := 40) (t' := 52) (u := .int .u32 x) (v := .int .u64 8) (by kernel_rfl) (by kernel_rfl) (by kernel_rfl) rfl (shrU (n := 8) (by first | rfl | omega) (by first | decide | (show _ ≤ 32; omega)))) ?_
  refine k_pure (by kernel_rfl) (d := (some 20)) (by kernel_rfl) (v := .int .u8 (b8 (wR x 8))) (fun _ => run_convOpE (x := (.tmp 19)) (s := 40) (d := 5) (u := .int .u32 (wR x 8)) (v := .int .u8 (IntKind.u8.wrap (wR x 8))) (by kernel_rfl) (by kernel_rfl) (by kernel_rfl) rfl) ?_
  refine k_pure (by kernel_rfl) (d := (some 21)) (by kernel_rfl) (v := .pointer (some ⟨b, off + 2, none⟩)) (fun _ => run_indexSz (t := 24) (x := (.tmp 17)) (y := (.const (.int .i64 2))) (b := b) (off := off) (n := n) (c := c) (i := 2) (z := 2) (by kernel_rfl) (by kernel_rfl) (by kernel_rfl) rfl Tryd.underlying24 (by kernel_rfl) (by omega)) ?_
  have H21 : Mm w [(b, ((L.set (off + 0) (.int .u8 (b8 (wR x 24)))).set (off + 1) (.int .u8 (b8 (wR x 16)))).set (off + 2) (.int .u8 (b8 (wR x 8))))] (w15.setCell ⟨b, off + 2, none⟩ (.int .u8 (b8 (wR x 8)))) := (by have h := H15.put 0 rfl (off + 2) (.int .u8 (b8 (wR x 8))); rw [(show ((L.set (off + 0) (.int .u8 (b8 (wR x 24)))).set (off + 1) (.int .u8 (b8 (wR x 16)))).set (off + 2) (.int .u8 (b8 (wR x 8))) = ((L.set (off + 0) (.int .u8 (b8 (wR x 24)))).set (off + 1) (.int .u8 (b8 (wR x 16)))).set (off + 2) (.int .u8 (b8 (wR x 8))) from rfl)] at h; exact h)
  refine k_skipOp (by kernel_rfl) (d := none) (by kernel_rfl) (run_storeA (ty := 5) (x := (.tmp 21)) (y := (.tmp 20)) (b := b) (off := off + 2) (v := .int .u8 (b8 (wR x 8))) (by kernel_rfl) (by kernel_rfl) (by kernel_rfl) rfl rfl (by kernel_rfl) ((H15.at 0 rfl).cell (List.getElem?_eq_getElem (by first | omega | (simp only [List.length_set]; omega)))) (H15.at 0 rfl).free) trivial ?_
  intro w21 hw21 _
  rw [← hw21] at H21
  clear hw21 H15
  refine k_end ?_
  go_simp
  go_upto_region 4 with (fail)
  refine wp_seq_atS (opsAt Tryd.f23 4) ((true, 0) :: (true, 1) :: (true, 2) :: (true, 3) :: (false, 4) :: []) (fun _ => True) (by kernel_rfl) (by kernel_rfl) trivial ?_
  refine k_pure (by kernel_rfl) (d := (some 22)) (by kernel_rfl) (v := .slice (some ⟨b, off, none⟩) n c) (fun _ => by kernel_rfl) ?_
  refine k_pure (by kernel_rfl) (d := (some 23)) (by kernel_rfl) (v := .int .u32 x) (fun _ => by kernel_rfl) ?_
  refine k_pure (by kernel_rfl) (d := (some 24)) (by kernel_rfl) (v := .int .u8 (b8 x)) (fun _ => run_convOpE (x := (.tmp 23)) (s := 40) (d := 5) (u := .int .u32 x) (v := .int .u8 (IntKind.u8.wrap x)) (by kernel_rfl) (by kernel_rfl) (by kernel_rfl) rfl) ?_
  refine k_pure (by kernel_rfl) (d := (some 25)) (by kernel_rfl) (v := .pointer (some ⟨b, off + 3, none⟩)) (fun _ => run_indexSz (t := 24) (x := (.tmp 22)) (y := (.const (.int .i64 3))) (b := b) (off := off) (n := n) (c := c) (i := 3) (z := 3) (by kernel_rfl) (by kernel_rfl) (by kernel_rfl) rfl Tryd.underlying24 (by kernel_rfl) (by omega)) ?_
  have H26 : Mm w [(b, (((L.set (off + 0) (.int .u8 (b8 (wR x 24)))).set (off + 1) (.int .u8 (b8 (wR x 16)))).set (off + 2) (.int .u8 (b8 (wR x 8)))).set (off + 3) (.int .u8 (b8 x)))] (w21.setCell ⟨b, off + 3, none⟩ (.int .u8 (b8 x))) := (by have h := H21.put 0 rfl (off + 3) (.int .u8 (b8 x)); rw [(show (((L.set (off + 0) (.int .u8 (b8 (wR x 24)))).set (off + 1) (.int .u8 (b8 (wR x 16)))).set (off + 2) (.int .u8 (b8 (wR x 8)))).set (off + 3) (.int .u8 (b8 x)) = (((L.set (off + 0) (.int .u8 (b8 (wR x 24)))).set (off + 1) (.int .u8 (b8 (wR x 16)))).set (off + 2) (.int .u8 (b8 (wR x 8)))).set (off + 3) (.int .u8 (b8 x)) from rfl)] at h; exact h)
  refine k_skipOp (by kernel_rfl) (d := none) (by kernel_rfl) (run_storeA (ty := 5) (x := (.tmp 25)) (y := (.tmp 24)) (b := b) (off := off + 3) (v := .int .u8 (b8 x)) (by kernel_rfl) (by kernel_rfl) (by kernel_rfl) rfl rfl (by kernel_rfl) ((H21.at 0 rfl).cell (List.getElem?_eq_getElem (by first | omega | (simp only [List.length_set]; omega)))) (H21.at 0 rfl).free) trivial ?_
  intro w26 hw26 _
  rw [← hw26] at H26
  clear hw26 H21
  refine k_end ?_
  go_simp
  have HF := Lib.hid H26
  clear H26
  go_wp2_with fail
  go_end0
  exact ⟨rfl, HF.out⟩
end Go.Proofs.YtkmofjefjbhbhaaDoor
