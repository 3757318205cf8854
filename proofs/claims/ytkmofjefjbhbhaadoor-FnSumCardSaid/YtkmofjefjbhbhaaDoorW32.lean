/- Steps of walks over words and slices: sums of numbers that fit, shifts, places in a slice. -/
import Derived.Test.YtkmofjefjbhbhaaDoorMm
import Derived.Test.YtkmofjefjbhbhaaDoorDg
namespace Go.Sl
open Go.RowKit Go.FourQ
section
variable {P : Program} {w : World} {t : TypeId} {x y z : Int} {k yk : IntKind}
theorem addI (h : x + y = z) (hb : -9223372036854775808 ≤ z ∧ z ≤ 9223372036854775807) : (binOp .add t (.int .i64 x) (.int .i64 y)).run P w = .ok (.int .i64 z) w := by
  subst h; rw [binOp_add]; show Result.ok (Value.int .i64 (IntKind.i64.wrap _)) w = _; rw [IntWalk.i64_in _ hb]
theorem subI (h : x - y = z) (hb : -9223372036854775808 ≤ z ∧ z ≤ 9223372036854775807) : (binOp .sub t (.int .i64 x) (.int .i64 y)).run P w = .ok (.int .i64 z) w := by
  subst h; rw [binOp_sub]; show Result.ok (Value.int .i64 (IntKind.i64.wrap _)) w = _; rw [IntWalk.i64_in _ hb]
theorem mulI (h : x * y = z) (hb : -9223372036854775808 ≤ z ∧ z ≤ 9223372036854775807) : (binOp .mul t (.int .i64 x) (.int .i64 y)).run P w = .ok (.int .i64 z) w := by
  subst h; rw [binOp_mul]; show Result.ok (Value.int .i64 (IntKind.i64.wrap _)) w = _; rw [IntWalk.i64_in _ hb]
theorem remI {m n : Nat} (hm : x = (m : Int)) (hn : y = (n : Int)) (h0 : 0 < n) : (binOp .rem t (.int .i64 x) (.int .i64 y)).run P w = .ok (.int .i64 ((m % n : Nat) : Int)) w := by
  subst hm hn
  rw [binOp_rem]
  have h1 : n ≠ 0 := by omega
  simp [Op.intDiv, h1]
  exact Int.tmod_eq_emod_of_nonneg (by omega)
theorem shrU {n : Nat} (hy : y = (n : Int)) (hn : n ≤ k.bits) : (binOp .shr t (.int k x) (.int yk y)).run P w = .ok (.int k (x / 2 ^ n)) w := by
  subst hy; rw [binOp_shr, shift_shr k yk x _ (by omega) (by omega), Int.toNat_natCast]; rfl
theorem shlU {n : Nat} (hy : y = (n : Int)) (hn : n ≤ k.bits) : (binOp .shl t (.int k x) (.int yk y)).run P w = .ok (.int k (k.wrap (x * 2 ^ n))) w := by
  subst hy; rw [binOp_shl, shift_shl k yk x _ (by omega) (by omega), Int.toNat_natCast]; rfl
theorem run_loadA {ρ : Operand → Value} {o : Oper} {ty : TypeId} {x : Operand} {a : Addr} {v : Value} {d : TypeDesc} (ho : o.op = .load ty x) (hx : ρ x = .pointer (some a)) (hu : P.underlying ty = some d) (hd : (match d with | .struct _ | .array _ _ => false | _ => true) = true)
    (hc : w.cell? a = some v) : (execOp ρ o).run P w = .ok (.value v) w := by
  have hagg : (isAgg ty).run P w = .ok false w := by
    cases d <;> simp_all [isAgg, run_underlying hu]
  unfold execOp
  simp [ho, hx, Instr.loadAt, Instr.sureAddr, loadVar, hagg, hc, Result.andThen]
theorem run_storeA {ρ : Operand → Value} {o : Oper} {ty : TypeId} {x y : Operand} {b off : Nat} {v old : Value} (ho : o.op = .store ty x y) (hx : ρ x = .pointer (some ⟨b, off, none⟩)) (hy : ρ y = v) (h1 : v.cells = #[v]) (h2 : v.oneCell' = true) (hi : (P.info? ty).map (·.size) = some 1)
    (hc : w.cell? ⟨b, off, none⟩ = some old) (hf : w.frozen? ⟨b, off, none⟩ = false) : (execOp ρ o).run P w = .ok .skip (w.setCell ⟨b, off, none⟩ v) := by
  obtain ⟨i, hi1, hi2⟩ : ∃ i, P.info? ty = some i ∧ i.size = 1 := by
    cases h : P.info? ty with
    | none => simp [h] at hi
    | some i => exact ⟨i, rfl, by simpa [h] using hi⟩
  have e : ((⟨b, off, none⟩ : Addr).add 0) = ⟨b, off, none⟩ := by rw [Addr.add_lit]; rfl
  have hst : (store (⟨b, off, none⟩ : Addr) v).run P w = .ok () (w.setCell ⟨b, off, none⟩ v) := by
    rw [run_store P w _ _ _ h2, hc]
    simp [hf]
  unfold execOp
  simp [ho, hx, hy, Instr.storeAt, Instr.sureAddr, storeVar, sizeOf, typeInfo, hi1, hi2, h1, storeCells, e, Result.andThen, hst]
theorem run_indexSl {ρ : Operand → Value} {o : Oper} {t e : TypeId} {a : Addr} {n c i : Nat} {x y : Operand} {z : Int} (ho : o.op = .indexAddr t x y) (hx : ρ x = .slice (some a) n c) (hy : ρ y = .int .i64 z) (hz : z = (i : Int)) (hu : P.underlying t = some (.slice e)) (hs : (P.info? e).map (·.size) = some 1) (hi : i < n) :
    (execOp ρ o).run P w = .ok (.value (.pointer (some (a.add i)))) w := by
  subst hz
  have h2 : P.elem t = e := by simp [Program.elem, hu]
  have h3 : (sizeOf e).run P w = .ok 1 w := by
    cases hq : P.info? e with
    | none => simp [hq] at hs
    | some j => simp [hq] at hs; simp [sizeOf, typeInfo, hq, hs]
  have h4 := run_indexAt_slice (P := P) (w := w) t a n c .i64 (i : Int) (by rw [h2]; exact hu)
  rw [if_pos ⟨by omega, by omega⟩, h2, h3] at h4
  simp only [Result.andThen, Int.toNat_natCast, Nat.mul_one] at h4
  unfold execOp
  simp [ho, hx, hy, h4, Result.andThen]
theorem run_indexZ {ρ : Operand → Value} {o : Oper} {t e : TypeId} {n b off off' i : Nat} {x y : Operand} {z : Int} (ho : o.op = .indexAddr t x y) (hx : ρ x = .pointer (some ⟨b, off, none⟩)) (hy : ρ y = .int .i64 z) (hz : z = (i : Int)) (hu : P.underlying t = some (.array n e)) (hs : (P.info? e).map (·.size) = some 1) (hi : i < n) (he : off + i = off') :
    (execOp ρ o).run P w = .ok (.value (.pointer (some ⟨b, off', none⟩))) w := by
  subst hz
  exact run_indexV ho hx hy hu hs hi (by omega)
theorem Rd.some' {v : Value} {l : List Int} (h : Rd w k v l) (hl : 0 < l.length) : ∃ ad c, v = .slice (some ad) l.length c ∧ l.length ≤ c ∧ ∀ j x, l[j]? = some x → w.cell? (ad.add j) = some (.int k x) := by
  obtain ⟨ao, c, rfl, hc, hn, hcell⟩ := h
  cases ao with
  | none => have := hn rfl; omega
  | some ad => exact ⟨ad, c, rfl, hc, hcell ad rfl⟩
theorem getD_of {l : List Int} {j : Nat} (h : j < l.length) : l[j]? = some (l.getD j 0) := by
  rw [List.getD_eq_getElem?_getD, List.getElem?_eq_getElem h]; rfl
/-- Words, as cells. -/
def wv (l : List Int) : List Value := l.map (Value.int .u32)
theorem wv_get {l : List Int} {j : Nat} {x : Int} (h : l[j]? = some x) : (wv l)[j]? = some (.int .u32 x) := by unfold wv; rw [List.getElem?_map, h]; rfl
theorem wv_set {l : List Int} {j : Nat} {x : Int} : (wv l).set j (.int .u32 x) = wv (l.set j x) := by unfold wv; rw [List.map_set]
end
end Go.Sl
