/- Elements loaded out of the middle of a block, and stored; the statement's own look at the highest bits. -/
import Derived.Test.YtfkfljohhabldaaDoorOf
namespace Go.FourQ
open Go.RowKit

section
variable {P : Program} {ops : Array Oper} {rest : List Oper} {o : Oper} {a : Act} {w : World} {Q : Exit → Act → World → Prop}

theorem addr_add (b o j : Nat) : (⟨b, o, none⟩ : Addr).add j = ⟨b, o + j, none⟩ := by unfold Addr.add; split <;> simp_all

theorem run_loadVar_at (w : World) (b off : Nat) (ty : TypeId) (cs : Array Value) (d : TypeDesc) (hc : ∀ j v, cs[j]? = some v → w.cell? ⟨b, off + j, none⟩ = some v)
    (hu : P.underlying ty = some d) (hd : (match d with | .struct _ | .array _ _ => true | _ => false) = true) (hi : (P.info? ty).map (·.size) = some cs.size) :
    (loadVar ty ⟨b, off, none⟩).run P w = .ok (.agg cs) w := by
  have hl : (loadCells ⟨b, off, none⟩ cs.toList.length).run P w = .ok cs.toList.toArray w :=
    run_loadCells_list (P := P) w ⟨b, off, none⟩ cs.toList (fun j v hv => by
      rw [addr_add]
      exact hc j v (by simpa using hv))
  cases hq : P.info? ty with
  | none => simp [hq] at hi
  | some i =>
    have hs : i.size = cs.size := by simpa [hq] using hi
    have hagg : (isAgg ty).run P w = .ok true w := by
      unfold isAgg
      rw [Sem.run_bind, run_underlying hu w]
      cases d <;> simp_all
    simp only [Array.length_toList, Array.toArray_toList] at hl
    simp [loadVar, Sem.run_bind, hagg, sizeOf, typeInfo, hq, hs, hl]

theorem wpList_load_at (hgd : o.guard = none) (ty : TypeId) (x : Operand) (ho : o.op = .load ty x)
    (b off : Nat) (hx : a.eval x = .pointer (some ⟨b, off, none⟩)) (cs : Array Value) (d : TypeDesc) (hc : ∀ j v, cs[j]? = some v → w.cell? ⟨b, off + j, none⟩ = some v)
    (hu : P.underlying ty = some d) (hd : (match d with | .struct _ | .array _ _ => true | _ => false) = true) (hi : (P.info? ty).map (·.size) = some cs.size)
    (h : wpList P ops Q rest (a.put o.dst (.agg cs)) w) : wpList P ops Q (o :: rest) a w := by
  refine wpList_plain hgd fun K hK => ?_
  unfold Oper.wp execOp
  simp only [ho, hx, Instr.loadAt, Instr.sureAddr, Sem.run_bind, Sem.run_pure, Result.andThen_ok, run_loadVar_at w b off ty cs d hc hu hd hi]
  exact hK _ _ h

theorem fps_getElem {l : List Nat} {j : Nat} {v : Value} (h : (fps l)[j]? = some v) : ∃ x, l[j / 16]? = some x ∧ v = byteV x (j % 16) := by
  have hj : j < 16 * l.length := by
    rcases Nat.lt_or_ge j (16 * l.length) with h' | h'
    · exact h'
    · rw [Array.getElem?_eq_none (by rw [size_fps]; exact h')] at h; simp at h
  have hk : l[j / 16]? = some (l[j / 16]'(by omega)) := List.getElem?_eq_getElem _
  have e : j = 16 * (j / 16) + j % 16 := by omega
  refine ⟨_, hk, ?_⟩
  rw [e, fps_get l _ _ _ hk (by omega)] at h
  exact (Option.some.inj h).symm

/-- The cells of some elements of a block. -/
theorem Fps.cells {b : Nat} {l m : List Nat} (h : Fps w b l) {k off : Nat} (ho : off = 16 * k) (hm : ∀ i x, m[i]? = some x → l[k + i]? = some x) :
    ∀ j v, (fps m)[j]? = some v → w.cell? ⟨b, off + j, none⟩ = some v := fun j v hj => by
  obtain ⟨x, hx, rfl⟩ := fps_getElem hj
  have := h.cell (hm _ _ hx) (o := 16 * (k + j / 16)) rfl (j % 16) (Nat.mod_lt _ (by decide))
  have e : off + j = 16 * (k + j / 16) + j % 16 := by omega
  rw [e]
  exact this

theorem Fps.cells1 {b : Nat} {l : List Nat} (h : Fps w b l) {k off x : Nat} (ho : off = 16 * k) (hk : l[k]? = some x) :
    ∀ j v, (fpC x)[j]? = some v → w.cell? ⟨b, off + j, none⟩ = some v := fun j v hj =>
  h.cells (m := [x]) ho (fun i y hy => by
    rcases i with _ | i
    · obtain rfl : x = y := by simpa using hy
      exact hk
    · simp at hy) j v (by rw [fps_one]; exact hj)

end
end Go.FourQ

namespace Go.Proofs.YtfkfljohhabldaaDoor
open Go.RowKit Go.FourQ

/-- Do elements lie below 2^127? -/
def lowAll (l : List Nat) : Bool := l.all fun x => decide (x < 170141183460469231731687303715884105728)

theorem lowAll_drop {l : List Nat} {k x : Nat} (h : l[k]? = some x) : lowAll (l.drop k) = (decide (x < 170141183460469231731687303715884105728) && lowAll (l.drop (k + 1))) := by
  obtain ⟨hk, hx⟩ := List.getElem?_eq_some_iff.1 h
  rw [List.drop_eq_getElem_cons hk, hx]; rfl

set_option maxRecDepth 100000 in
set_option maxHeartbeats 2000000 in
theorem low_c {w : World} {b : Nat} {l : List Nat} (h : Fps w b l) (hl : ∀ x ∈ l, x < 256 ^ 16) (hlen : l.length < 1000) :
    Calls Tryd.prog 29 #[.slice (some ⟨b, 0, none⟩) l.length l.length] w fun e w' => e = .returned (.bool (lowAll l)) ∧ Below w.heap.size w w' := by
  have HL := Lib.hid hl
  obtain ⟨r, hr⟩ : ∃ r, lowAll l = r := ⟨_, rfl⟩
  rw [hr]
  have HR := Lib.hid hr
  clear hr hl
  go_enter Tryd.func29, Tryd.ntmps29
  go_wp2_with fail
  go_loopw [7] (fun i wr => ∃ k : Nat, k ≤ l.length ∧ i = .int .i64 k ∧ Below w.heap.size w wr ∧ Hid (lowAll (l.drop k) = r)) (fun i _ => l.length - (intOf i).toNat)
  case atStart => exact ⟨0, Nat.zero_le _, rfl, Below.refl _ _, HR.out⟩
  case round =>
    obtain ⟨k, hk, rfl, hbel, hr⟩ := hrel
    by_cases hlt : k < l.length
    · obtain ⟨x, hx⟩ : ∃ x, l[k]? = some x := ⟨_, List.getElem?_eq_getElem hlt⟩
      have hx16 := HL.out x (List.mem_of_getElem? hx)
      have hd := lowAll_drop hx
      rw [hr.out] at hd
      have hf : Fps wr b l := h.of_heap (hbel.block b h.lt)
      obtain ⟨t, ht, ht'⟩ : ∃ t : Nat, x / 256 ^ 15 % 256 = t ∧ (x < 170141183460469231731687303715884105728 ↔ t ≤ 127) := ⟨_, rfl, by simp only [Nat.reducePow] at *; omega⟩
      have h15 : (fpC x)[15]? = some (.int .u8 (t : Int)) := by rw [fpC_get x 15 (by decide), byteV, ht]
      have HF := Lib.hid hf; have HX := Lib.hid hx
      clear ht hx16 hf hx
      by_cases hlow : x < 170141183460469231731687303715884105728
      · have ht1 := ht'.1 hlow
        have hdl : lowAll (l.drop (k + 1)) = r := by rw [hd]; simp [hlow]
        have HDL := Lib.hid hdl
        clear hd hr hlow ht' hdl
        go_wp2_with (first | (refine wpList_load_at rfl 22 _ rfl b (k * 16) rfl (fpC x) _ (HF.out.cells1 (Nat.mul_comm _ _) HX.out) Tryd.underlying22 rfl (by kernel_rfl) ?_) | (refine wpList_store_row rfl 22 _ _ rfl _ (fpC x) rfl rfl _ _ (heap_alloc_new _ _) (by kernel_rfl) rfl (all_fpC _) ?_; rw [setRow_alloc_new]))
        exact ⟨⟨k + 1, by omega, by go_num, hbel.alloc hbel.size _, HDL.out⟩, by simp [intOf]; omega⟩
      · have ht1 : 127 < t := by
          rcases Nat.lt_or_ge 127 t with h1 | h1
          · exact h1
          · exact absurd (ht'.2 h1) hlow
        have hrf : r = false := by rw [hd]; simp [hlow]
        subst hrf
        clear hd hr hlow ht'
        go_wp2_with (first | (refine wpList_load_at rfl 22 _ rfl b (k * 16) rfl (fpC x) _ (HF.out.cells1 (Nat.mul_comm _ _) HX.out) Tryd.underlying22 rfl (by kernel_rfl) ?_) | (refine wpList_store_row rfl 22 _ _ rfl _ (fpC x) rfl rfl _ _ (heap_alloc_new _ _) (by kernel_rfl) rfl (all_fpC _) ?_; rw [setRow_alloc_new]))
        go_ret
        exact ⟨rfl, hbel.alloc hbel.size _⟩
    · have hkl : k = l.length := by omega
      have hrt : r = true := by rw [← hr.out, hkl, List.drop_length]; rfl
      subst hrt
      clear hr
      subst hkl
      go_wp2_with fail
      go_ret
      exact ⟨rfl, hbel⟩

end Go.Proofs.YtfkfljohhabldaaDoor
