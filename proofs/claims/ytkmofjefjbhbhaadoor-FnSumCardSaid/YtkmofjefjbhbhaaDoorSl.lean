/- Slices of numbers: what they read; those that the call owns: they grow and are written. -/
import Derived.OwnWalk
import Derived.ArgAppend
import Derived.Below
import Derived.Laws.BytesArg
namespace Go.Sl
open Go.RowKit
section
variable {P : Program} {w w' : World} {k : IntKind} {base : Nat} {e : TypeId} {v u : Value} {l m : List Int}
/-- A slice that reads l. -/
def Rd (w : World) (k : IntKind) (v : Value) (l : List Int) : Prop := ∃ ao c, v = .slice ao l.length c ∧ l.length ≤ c ∧ (ao = none → c = 0) ∧ ∀ ad, ao = some ad → ∀ j x, l[j]? = some x → w.cell? (ad.add j) = some (.int k x)
theorem Rd.of_block (h : Rd w k v l) (hb : ∀ a, a < w.heap.size → v.ownBlock = some a → w'.heap[a]? = w.heap[a]?) : Rd w' k v l := by
  obtain ⟨ao, c, rfl, hc, hn, hcell⟩ := h
  refine ⟨ao, c, rfl, hc, hn, fun ad had j x hj => ?_⟩
  have h := hcell ad had j x hj
  have hlt := World.block_lt_of_cell? w _ h
  subst had
  have e : (ad.add j).block = ad.block := by unfold Addr.add; split <;> rfl
  rw [← h]
  exact World.cell?_of_block (hb _ hlt (by rw [e]; rfl))
theorem Rd.nb (h : Rd w k v l) (hb : Below w.heap.size w w') : Rd w' k v l := h.of_block fun a ha _ => hb.block a ha
theorem Rd.grown {row : Option Nat} (h : Rd w k v l) (hg : w.grownBy w' row) (hne : v.ownBlock = none ∨ v.ownBlock ≠ row) : Rd w' k v l :=
  h.of_block fun a ha hv => hg.block a ha (by rcases hne with h | h <;> rw [hv] at h <;> simp_all)
theorem below_grown {n : Nat} {row : Option Nat} {w0 : World} (h : Below n w0 w) (hn : n ≤ w.heap.size) (hg : w.grownBy w' row) (hrow : ∀ b, row = some b → n ≤ b) : Below n w0 w' :=
  h.trans ⟨hg.os, hg.tape, hg.output, hg.size, fun b hb => hg.block b (by omega) (fun e => by have := hrow b e.symm; omega)⟩
/-- A slice that the call owns. -/
def Ow (w : World) (base : Nat) (e : TypeId) (k : IntKind) (v : Value) (l : List Int) : Prop := w.ownsRow base e 1 v l.length (l.map (Value.int k))
theorem Ow.nil : Ow w base e k (.slice none 0 0) [] := World.ownsRow_nil w base e 1
theorem Ow.rd (h : Ow w base e k v l) : Rd w k v l := by
  rcases h.2 with ⟨rfl, h0⟩ | ⟨g, cap, cur, rfl, hbg, hg, hnc, hcm, hcs, htake⟩
  · obtain rfl : l = [] := List.eq_nil_of_length_eq_zero h0
    exact ⟨none, 0, rfl, Nat.le_refl _, fun _ => rfl, fun _ h => by cases h⟩
  · refine ⟨_, cap, rfl, hnc, (fun h => by cases h), fun ad had j x hj => ?_⟩
    obtain rfl := Option.some.inj had
    exact World.ownsRow.cells h (g := g) rfl j _ (by rw [List.getElem?_map, hj]; rfl)
theorem Ow.lt (h : Ow w base e k v l) {b : Nat} (hb : v.ownBlock = some b) : base ≤ b ∧ b < w.heap.size := World.ownsRow.lt h b hb
theorem Ow.kept {row : Option Nat} (h : Ow w base e k v l) (hg : w.grownBy w' row) (hne : v.ownBlock = none ∨ v.ownBlock ≠ row) : Ow w' base e k v l := World.ownsRow.kept h hg hne
theorem Ow.of_heap (h : Ow w base e k v l) (hb : ∀ b, v.ownBlock = some b → w'.heap[b]? = w.heap[b]?) : Ow w' base e k v l := by
  refine ⟨h.1, ?_⟩
  rcases h.2 with h0 | ⟨g, cap, cur, rfl, hbg, hg, r⟩
  · exact .inl h0
  · exact .inr ⟨g, cap, cur, rfl, hbg, (hb g rfl).trans hg, r⟩
theorem Ow.base_le {base' : Nat} (h : Ow w base e k v l) (hb : base' ≤ base) : Ow w base' e k v l := by
  refine ⟨h.1, ?_⟩
  rcases h.2 with h0 | ⟨g, cap, cur, hv, hbg, r⟩
  · exact .inl h0
  · exact .inr ⟨g, cap, cur, hv, Nat.le_trans hb hbg, r⟩
/-- What is appended lies behind. -/
theorem run_app {t ty : TypeId} {i : TypeInfo} {bytes : Nat} (ht : P.underlying t = some (.slice e)) (hi : P.info? e = some i) (hz : i.zero = some (.int k 0)) (hsize : i.size = 1) (hby : i.bytes = bytes) (hb8 : bytes ≤ 8)
    (hown : Ow w base e k v l) (hr : Rd w k u m) (hlen : l.length + m.length ≤ 1099511627776) (hbase : base ≤ w.heap.size) :
    ∃ v' w', (Builtin.append_ #[t, t] ty #[v, u]).run P w = .ok v' w' ∧ Ow w' base e k v' (l ++ m) ∧ w.grownBy w' v.ownBlock := by
  obtain ⟨ao, c, rfl, hc, hn, hcell⟩ := hr
  cases ao with
  | none =>
    obtain rfl := hn rfl
    obtain rfl : m = [] := List.eq_nil_of_length_eq_zero (by omega)
    refine ⟨v, w, run_append_owned_none w base t ty e i 1 ht hi v _ _ hown, by rw [List.append_nil]; exact hown, World.grownBy.refl w _⟩
  | some ad =>
    obtain ⟨v', w', hr, ho, hg, _⟩ := run_append_own (P := P) w base t ty e i (.int k 0) 1 bytes ht hi hz hsize hby rfl (by decide) v l.length (l.map (Value.int k)) hown ad m.length c (m.map (Value.int k)) (by simp) (fun j u hu => by
      rw [List.getElem?_map] at hu
      obtain ⟨x, hx, rfl⟩ := Option.map_eq_some_iff.1 hu
      exact hcell ad rfl j x hx) (fun u hu => by obtain ⟨x, _, rfl⟩ := List.mem_map.1 hu; rfl) (by simp only [maxLen]; omega) (by
      have : (l.length + m.length) * bytes ≤ 1099511627776 * 8 := Nat.mul_le_mul hlen hb8
      omega) hbase
    refine ⟨v', w', hr, ?_, hg⟩
    unfold Ow
    rw [List.length_append, List.map_append]
    exact ho
theorem run_appOp {ρ : Operand → Value} {o : Oper} {x y : Operand} {dT sT : TypeId} {a b r : Value} (ho : o.op = .call { callee := .builtin .append, args := #[x, y], argTypes := #[dT, sT] })
    (hx : ρ x = a) (hy : ρ y = b) (h : (Builtin.append_ #[dT, sT] o.type #[a, b]).run P w = .ok r w') : (execOp ρ o).run P w = .ok (.value r) w' := by
  unfold execOp
  simp [ho, resolve, invoke, builtin, hx, hy, h, Result.andThen]
/-- One of an owned slice's numbers is written. -/
theorem Ow.put {g c j : Nat} {x : Int} (h : Ow w base e k (.slice (some ⟨g, 0, none⟩) l.length c) l) : Ow (w.setCell ⟨g, j, none⟩ (.int k x)) base e k (.slice (some ⟨g, 0, none⟩) l.length c) (l.set j x) ∧ w.grownBy (w.setCell ⟨g, j, none⟩ (.int k x)) (some g) := by
  have := World.ownsRow.stored h j (.int k x)
  unfold Ow
  rw [List.length_set, List.map_set]
  exact this
theorem Ow.cell {g c j : Nat} {x : Int} (h : Ow w base e k (.slice (some ⟨g, 0, none⟩) l.length c) l) (hj : l[j]? = some x) : w.cell? ⟨g, j, none⟩ = some (.int k x) := by
  rw [World.ownsRow.cellAt h j (by rw [Nat.mul_one]; exact (List.getElem?_eq_some_iff.1 hj).1), List.getElem?_map, hj]; rfl
theorem Ow.free {g c j : Nat} (h : Ow w base e k (.slice (some ⟨g, 0, none⟩) l.length c) l) : w.frozen? ⟨g, j, none⟩ = false := World.ownsRow.frozenAt h j
theorem run_mk {t : TypeId} {i : TypeInfo} (ht : P.underlying t = some (.slice e)) (hi : P.info? e = some i) (hz : i.zero = some (.int k 0)) (hsize : i.size = 1) (hby : i.bytes ≤ 8) {n : Nat} (hn : n ≤ 1099511627776) (hbase : base ≤ w.heap.size) :
    ∃ w', (Instr.makeSlice t (.int .i64 (n : Int)) (.int .i64 (n : Int))).run P w = .ok (.slice (some ⟨w.heap.size, 0, none⟩) n n) w' ∧ Ow w' base e k (.slice (some ⟨w.heap.size, 0, none⟩) n n) (List.replicate n 0) ∧ w.grownBy w' none := by
  obtain ⟨w', hr, ho, hg⟩ := run_make_full (P := P) w base t e i (.int k 0) 1 ht hi hz hsize .i64 .i64 n (by have : i.bytes * n ≤ 8 * 1099511627776 := Nat.mul_le_mul hby hn; omega) (by simp only [maxLen]; omega) hbase
  refine ⟨w', hr, ?_, hg⟩
  unfold Ow
  rw [List.length_replicate, List.map_replicate]
  rw [Nat.mul_one, show ((Value.int k 0).cells) = #[.int k 0] from rfl, toList_madeCells_one] at ho
  exact ho
theorem run_mkOp {ρ : Operand → Value} {o : Oper} {x y : Operand} {t : TypeId} {a b r : Value} (ho : o.op = .makeSlice t x y)
    (hx : ρ x = a) (hy : ρ y = b) (h : (Instr.makeSlice t a b).run P w = .ok r w') : (execOp ρ o).run P w = .ok (.value r) w' := by
  unfold execOp
  simp [ho, hx, hy, h, Result.andThen]
theorem loadCells_rd {ao : Option Addr} (h : ∀ ad, ao = some ad → ∀ j x, l[j]? = some x → w.cell? (ad.add j) = some (.int k x)) {ad : Addr} (had : ao = some ad) : (loadCells ad l.length).run P w = .ok (l.map (Value.int k)).toArray w := by
  have := run_loadCells_list (P := P) w ad (l.map (Value.int k)) (fun j u hu => by
    rw [List.getElem?_map] at hu
    obtain ⟨x, hx, rfl⟩ := Option.map_eq_some_iff.1 hu
    exact h ad had j x hx)
  simpa using this
/-- The text of a slice's bytes. -/
theorem Rd.str {src dst : TypeId} (h : Rd w .u8 v l) (hs : P.underlying src = some (.slice e)) (he : P.underlying e = some (.int .u8)) (hd : P.underlying dst = some .string) : (convert src dst v).run P w = .ok (.string (strOfNums l)) w := by
  obtain ⟨ao, c, rfl, hc, hn, hcell⟩ := h
  cases ao with
  | none =>
    obtain rfl := hn rfl
    obtain rfl : l = [] := List.eq_nil_of_length_eq_zero (by omega)
    exact run_convert_bytes_nil w src e hs he _ _ dst hd
  | some ad =>
    rw [run_convert_bytes_string w src dst e _ _ c hs he hd, run_bytesToString w ad _ c l (loadCells_rd hcell rfl), foldl_push_bytes]
    simp [strOfNums, ByteArray.empty, ByteArray.emptyWithCapacity]
    rfl
theorem run_bound {w : World} {y n : Nat} {code : BoundsCode} (h : n ≤ y) : (Instr.sliceBound (.int .i64 (n : Int)) y code).run P w = .ok n w := by
  unfold Instr.sliceBound
  have : (0 : Int) ≤ (n : Int) ∧ (n : Int) ≤ (y : Int) := ⟨by omega, by omega⟩
  simp [asIntOf, this]
/-- A part of a slice. -/
theorem Rd.part {t : TypeId} (h : Rd w k v l) (ht : P.underlying t = some (.slice e)) (hs : (P.info? e).map (·.size) = some 1) {lo hi : Nat} (hlo : lo ≤ hi) (hhi : hi ≤ l.length) {a b : Option Value} (ha : a = some (.int .i64 (lo : Int)) ∨ (a = none ∧ lo = 0)) (hb : b = some (.int .i64 (hi : Int)) ∨ (b = none ∧ hi = l.length)) :
    ∃ v', (∀ w_, (Instr.sliceAt t v a b none).run P w_ = .ok v' w_) ∧ Rd w k v' ((l.drop lo).take (hi - lo)) ∧ (∀ x, v'.ownBlock = some x → v.ownBlock = some x) := by
  obtain ⟨ao, c, rfl, hc, hn, hcell⟩ := h
  have hlen : ((l.drop lo).take (hi - lo)).length = hi - lo := by rw [List.length_take, List.length_drop]; omega
  have hsz : ∀ w_, (sizeOf e).run P w_ = .ok 1 w_ := fun w_ => by
    cases hq : P.info? e with
    | none => simp [hq] at hs
    | some j => simp [hq] at hs; simp [sizeOf, typeInfo, hq, hs]
  refine ⟨.slice (if c = lo then ao else ao.map (·.add (lo * 1))) (hi - lo) (c - lo), ?_, ⟨(if c = lo then ao else ao.map (·.add (lo * 1))), c - lo, by rw [hlen], by rw [hlen]; omega, ?_, ?_⟩, ?_⟩
  · intro w_
    unfold Instr.sliceAt Instr.slice
    have hb' : (Instr.sliceBounds true l.length c a b none).run P w_ = .ok (lo, hi, c) w_ := by
      unfold Instr.sliceBounds
      rcases ha with rfl | ⟨rfl, rfl⟩ <;> rcases hb with rfl | ⟨rfl, rfl⟩ <;> simp [run_bound (P := P) (w := w_) hlo, run_bound (P := P) (w := w_) (Nat.le_trans hhi hc), Option.isSome]
    simp [run_underlying ht, hb', hsz w_]
  · intro h
    split at h
    · omega
    · cases ao with
      | none => have := hn rfl; omega
      | some ad => cases h
  · intro ad had j x hj
    have hj2 : j < hi - lo := by have := (List.getElem?_eq_some_iff.1 hj).1; omega
    rw [List.getElem?_take_of_lt hj2, List.getElem?_drop] at hj
    rw [if_neg (by omega)] at had
    cases ao with
    | none => cases had
    | some ad0 =>
      obtain rfl := Option.some.inj had
      rw [Nat.mul_one, Addr.add_add]
      exact hcell ad0 rfl _ _ hj
  · intro x hx
    cases ao with
    | none => split at hx <;> cases hx
    | some ad0 =>
      split at hx
      · exact hx
      · have e : (ad0.add (lo * 1)).block = ad0.block := by unfold Addr.add; split <;> rfl
        simp only [Option.map, Value.ownBlock, e] at hx ⊢
        exact hx
theorem run_slOp {ρ : Operand → Value} {o : Oper} {t : TypeId} {x : Operand} {lo hi mx : Option Operand} {v r : Value} {a b c : Option Value} (ho : o.op = .slice t x lo hi mx) (hx : ρ x = v) (ha : lo.map ρ = a) (hb : hi.map ρ = b) (hc : mx.map ρ = c) (h : (Instr.sliceAt t v a b c).run P w = .ok r w) : (execOp ρ o).run P w = .ok (.value r) w := by
  subst ha hb hc
  unfold execOp
  simp [ho, hx, h, Result.andThen]
end
end Go.Sl
