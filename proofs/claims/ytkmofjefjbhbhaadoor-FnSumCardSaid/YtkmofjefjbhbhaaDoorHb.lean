/- Steps of the reference's hashes: slices that grow beside blocks that are kept. No condition. -/
import Derived.Test.YtkmofjefjbhbhaaDoorOw
namespace Go.Sl
open Go.RowKit Go.FourQ Go.Sha
section
variable {P : Program} {w wr w' : World} {t : TypeId} {k : IntKind} {x y : Int} {base : Nat} {e : TypeId} {v u : Value} {l m : List Int} {s : List (Nat × List Value)}
theorem neqT (h : x ≠ y) : (binOp .neq t (.int k x) (.int k y)).run P w = .ok (.bool true) w := by rw [binOp_neq, show (x != y) = true from by simpa using h]; rfl
theorem mulU64 {z : Int} (h : x * y = z) (hb : 0 ≤ z ∧ z < 18446744073709551616) : (binOp .mul t (.int .u64 x) (.int .u64 y)).run P w = .ok (.int .u64 z) w := by
  subst h; rw [binOp_mul]; show Result.ok (Value.int .u64 (IntKind.u64.wrap _)) w = _; rw [IntKind.wrap_u64]; congr 2; omega
/-- A slice of its own grows. -/
theorem Mm.grown {row : Option Nat} (h : Mm w s wr) (hg : wr.grownBy w' row) (hr : ∀ b, row = some b → w.heap.size ≤ b ∧ ∀ p ∈ s, p.1 ≠ b) : Mm w s w' where
  os := hg.os.trans h.os
  tape := hg.tape.trans h.tape
  output := hg.output.trans h.output
  size := Nat.le_trans h.size hg.size
  blk := fun j c N hj => (h.blk j c N hj).of_heap (hg.block c (h.blk j c N hj).lt (fun e => (hr c e.symm).2 _ (List.mem_of_getElem? hj) rfl))
  ne := h.ne
  other := fun j hj hp => (hg.block j (Nat.lt_of_lt_of_le hj h.size) (fun e => by have := (hr j e.symm).1; omega)).trans (h.other j hj hp)
theorem Mm.allocM {o : Obj} (h : Mm w s wr) : Mm w s (wr.alloc o) := h.go ((Below.refl _ _).alloc (Nat.le_refl _) _)
theorem Ow.alloc {o : Obj} (h : Ow w base e k v l) : Ow (w.alloc o) base e k v l := h.of_heap fun _ hb => Below.heap_alloc _ _ _ (h.lt hb).2
theorem Ow.empty (h : base ≤ w.heap.size) : Ow (w.alloc (.cells (bv []).toArray e)) base e .u8 (.slice (some ⟨w.heap.size, 0, none⟩) 0 0) [] :=
  ⟨rfl, .inr ⟨_, 0, #[], rfl, h, heap_alloc_new _ _, Nat.le_refl _, by decide, rfl, rfl⟩⟩
theorem rd_new {l : List Int} : Rd (w.alloc (.cells (bv l).toArray e)) .u8 (.slice (some ⟨w.heap.size, 0, none⟩) l.length l.length) l :=
  (Bl.new (L := bv l) rfl rfl).rd rfl (Nat.le_refl _) fun j x hj => by rw [Nat.zero_add]; exact bv_get hj
/-- What is appended lies behind; blocks below the base are kept. -/
theorem app_step {ty : TypeId} {i : TypeInfo} {n : Nat} (ht : P.underlying t = some (.slice e)) (hi : P.info? e = some i) (hz : i.zero = some (.int .u8 0)) (hsize : i.size = 1) (hby : i.bytes = 1)
    (h : Mm w s wr) (ho : Ow wr base e .u8 v l) (hr : Rd wr .u8 u m) (hn : (l ++ m).length = n) (hn2 : n ≤ 100000) (hb : w.heap.size ≤ base) (hb2 : base ≤ wr.heap.size) (hs : ∀ p ∈ s, p.1 < base) :
    ∃ ao c w', (Builtin.append_ #[t, t] ty #[v, u]).run P wr = .ok (.slice ao n c) w' ∧ Ow w' base e .u8 (.slice ao n c) (l ++ m) ∧ Mm w s w' := by
  obtain ⟨v', w', hrun, ho', hg⟩ := run_app (P := P) ht hi hz hsize hby (by decide) ho hr (by rw [← List.length_append, hn]; omega) hb2
  obtain ⟨ao, c, rfl, _⟩ := ho'.rd
  rw [hn] at ho' hrun
  refine ⟨ao, c, w', hrun, ho', h.grown hg fun b hb' => ?_⟩
  have := (ho.lt hb').1
  exact ⟨by omega, fun p hp => by have := hs p hp; omega⟩
theorem mm_below (h : Mm w [] wr) : Below w.heap.size w wr := h.below bs0
/-! The package's own hash, byte by byte. -/
theorem ownH_length (sz : Nat) (l : List Int) : (ownH sz l).length = sz := by unfold ownH; rw [List.length_map, own_length]
theorem ownH_take {sz t : Nat} {l : List Int} (ht : t < sz) : (ownH sz l).take (t + 1) = (ownH sz l).take t ++ [b8 ((own sz l l.length).getD t 0 + b8 ((l.length : Nat) : Int))] := by
  have h : (ownH sz l)[t]? = some (b8 ((own sz l l.length).getD t 0 + b8 ((l.length : Nat) : Int))) := by
    unfold ownH
    rw [List.getElem?_map, getD_of (by rw [own_length]; exact ht)]; rfl
  rw [List.take_add_one, h]; rfl
/-! SHA-256. -/
theorem zs_stop {n i : Nat} (h : i ≤ zs n) : (n + 1 + i) % 64 = 56 ↔ i = zs n := by unfold zs at h ⊢; split at h <;> split <;> omega
theorem out_take {X : St} : ∀ {i : Nat}, i < 8 → (out32 X).take (4 * (i + 1)) = (out32 X).take (4 * i) ++ by4 (X.list.getD i 0)
  | 0, _ => rfl | 1, _ => rfl | 2, _ => rfl | 3, _ => rfl | 4, _ => rfl | 5, _ => rfl | 6, _ => rfl | 7, _ => rfl
  | i + 8, h => by omega
/-- A place of an array's value. -/
theorem run_indexAg {ρ : Operand → Value} {o : Oper} {e : TypeId} {X : St} {i : Nat} {x y : Operand} {d : TypeDesc} (ho : o.op = .index t x y) (hx : ρ x = .agg (wv X.list).toArray) (hy : ρ y = .int .i64 (i : Int)) (hu : P.underlying t = some (.array 8 e)) (hs : (P.info? e).map (·.size) = some 1) (he : P.underlying e = some d) (hd : (match d with | .struct _ | .array _ _ => false | _ => true) = true) (hi : i < 8) :
    (execOp ρ o).run P w = .ok (.value (.int .u32 (X.list.getD i 0))) w := by
  have hagg : (isAgg e).run P w = .ok false w := by
    cases d <;> simp_all [isAgg, run_underlying he]
  have hsz : (sizeOf e).run P w = .ok 1 w := by
    cases hq : P.info? e with
    | none => simp [hq] at hs
    | some j => simp [hq] at hs; simp [sizeOf, typeInfo, hq, hs]
  have hg : (wv X.list).toArray[i]? = some (.int .u32 (X.list.getD i 0)) := by rw [List.getElem?_toArray]; exact wv_get (getD_of hi)
  have hb : (0 : Int) ≤ (i : Int) ∧ (i : Int) < ((8 : Nat) : Int) := ⟨by omega, by omega⟩
  have h : (Instr.index t (.agg (wv X.list).toArray) (.int .i64 (i : Int))).run P w = .ok (.int .u32 (X.list.getD i 0)) w := by
    unfold Instr.index part
    simp only [asIntOf, Sem.run_bind, Sem.run_pure, Result.andThen_ok, run_underlying hu, hb, if_true, and_self, hsz, hagg, Int.toNat_natCast, Nat.mul_one, hg, Bool.false_eq_true, if_false]
  unfold execOp
  simp [ho, hx, hy, h, Result.andThen]
theorem by8_succ {x : Int} {i : Nat} : by8 x (i + 1) = by8 x i ++ [b8 (x / 2 ^ (56 - 8 * i))] := by unfold by8; rw [List.range_succ, List.map_append]; rfl
theorem Rd.own_lt {ao : Option Addr} {n c b : Nat} {l : List Int} (h : Rd w .u8 (.slice ao n c) l) (hb : (Value.slice ao n c).ownBlock = some b) (hl : 0 < n) : b < w.heap.size := by
  obtain ⟨a2, c2, e2, hc, hn, h2⟩ := h
  injection e2 with e3 e4 e5
  subst e3 e4
  cases ao with
  | none => cases hb
  | some ad =>
    have h3 := World.block_lt_of_cell? w _ (h2 ad rfl 0 _ (getD_of hl))
    have e : (ad.add 0).block = ad.block := by unfold Addr.add; split <;> rfl
    rw [e] at h3
    simpa [Value.ownBlock] using (Option.some.inj hb) ▸ h3
/-- A slice of before, where all blocks that changed are new. -/
theorem Rd.fresh {k : IntKind} (h : Rd w k v l) (g : Mm w s wr) (hs : ∀ p ∈ s, w.heap.size ≤ p.1) : Rd wr k v l := by
  obtain ⟨ao, c, rfl, hc, hn, hcell⟩ := h
  exact ⟨ao, c, rfl, hc, hn, fun ad had j x hj => g.old (hcell ad had j x hj) hs⟩
/-- A byte of a slice of before. -/
theorem Mm.cellN {ad : Addr} {len c j : Nat} {p : List Int} {x : Int} (h : Mm w s wr) (hp : Rd w .u8 (.slice (some ad) len c) p) (hs : ∀ q ∈ s, w.heap.size ≤ q.1) (hl : p.length = len) (hx : p.getD j 0 = x) (hj : j < len) : wr.cell? (ad.add j) = some (.int .u8 x) := by
  obtain ⟨a2, c2, e2, _, _, h2⟩ := hp.fresh h hs
  injection e2 with e3 e4 e5
  subst hx
  exact h2 ad e3.symm _ _ (getD_of (by omega))
/-- The first i bytes are written out. -/
def mixO (sz : Nat) (l : List Int) (i : Nat) : List Int := (ownH sz l).take i ++ (own sz l l.length).drop i
theorem mixO_length {sz i : Nat} {l : List Int} (h : i ≤ sz) : (mixO sz l i).length = sz := by unfold mixO; rw [List.length_append, List.length_take, List.length_drop, ownH_length, own_length]; omega
theorem mixO_get {sz i : Nat} {l : List Int} (h : i < sz) : (mixO sz l i).getD i 0 = (own sz l l.length).getD i 0 := by
  unfold mixO
  have h1 : ((ownH sz l).take i).length = i := by rw [List.length_take, ownH_length]; omega
  rw [List.getD_eq_getElem?_getD, List.getD_eq_getElem?_getD, List.getElem?_append_right (by rw [h1]; exact Nat.le_refl _), h1, Nat.sub_self, List.getElem?_drop, Nat.add_zero]
theorem mixO_set {sz i : Nat} {l : List Int} (h : i < sz) : (bv (mixO sz l i)).set i (.int .u8 (b8 ((own sz l l.length).getD i 0 + b8 ((l.length : Nat) : Int)))) = bv (mixO sz l (i + 1)) := by
  rw [bv_set]
  congr 1
  unfold mixO
  have h1 : ((ownH sz l).take i).length = i := by rw [List.length_take, ownH_length]; omega
  rw [List.set_append_right _ _ (by rw [h1]; exact Nat.le_refl _), h1, Nat.sub_self, List.drop_eq_getElem_cons (by rw [own_length]; exact h), List.set_cons_zero, ownH_take h, List.append_assoc]
  rfl
theorem mixO_all {sz : Nat} {l : List Int} : mixO sz l sz = ownH sz l := by
  unfold mixO
  rw [List.take_of_length_le (by rw [ownH_length]; exact Nat.le_refl _), List.drop_of_length_le (by rw [own_length]; exact Nat.le_refl _), List.append_nil]
/-- The three numbers of a hash, as cells. -/
def hsL (k s b : Int) : List Value := [.int .i64 k, .int .i64 s, .int .i64 b]
/-- The hash that the statement speaks of. -/
def hashO (k s b : Int) (l : List Int) : List Int := if k = 1 then sha l else ownH (szO s b) l
theorem hashO_one {s b : Int} {l : List Int} : hashO 1 s b l = sha l := if_pos rfl
theorem hashO_own {k s b : Int} {l : List Int} (h : k ≠ 1) : hashO k s b l = ownH (szO s b) l := if_neg h
theorem own_zero (sz : Nat) (l m : List Int) : own sz l 0 = own sz m 0 := rfl
/-- What follows what changed nothing of before. -/
theorem Mm.trans0 (h : Mm w [] wr) (u : Mm wr s w') : Mm w s w' where
  os := u.os.trans h.os
  tape := u.tape.trans h.tape
  output := u.output.trans h.output
  size := Nat.le_trans h.size u.size
  blk := u.blk
  ne := u.ne
  other := fun k hk hp => (u.other k (Nat.lt_of_lt_of_le hk h.size) hp).trans (h.other k hk bs0)
theorem run_loadRowB {ρ : Operand → Value} {o : Oper} {ty : TypeId} {x : Operand} {b : Nat} {L : List Value} {d : TypeDesc} (hb : Bl w b L) (ho : o.op = .load ty x) (hx : ρ x = .pointer (some ⟨b, 0, none⟩))
    (hu : P.underlying ty = some d) (hd : (match d with | .struct _ | .array _ _ => true | _ => false) = true) (hi : (P.info? ty).map (·.size) = some L.toArray.size) : (execOp ρ o).run P w = .ok (.value (.agg L.toArray)) w := by
  obtain ⟨T, hT⟩ := hb
  exact run_loadRow ho hx hT hu hd hi
end
end Go.Sl
namespace Go.FourQ
open Go.RowKit
section
variable {P : Program} {ops : Array Oper} {Q : Exit → Act → World → Prop} {S : World → Prop} {a : Act} {w : World} {t m : PT} {i : Nat} {d : Option Tmp} {v : Value}
theorem t_callR (hw : wantN ops i a = some true) (hd : (opN ops i).dst = d) {f : FuncId} {args : Array Value} (hrun : ∀ w', (execOp a.eval (opN ops i)).run P w' = .ok (.enter f args) w') {R : Ending → World → Prop}
    (hc : Calls P f args w R) (h : ∀ e w', R e w' → ∃ v, e = .returned v ∧ S w' ∧ TreeG P ops Q S t (a.put d v) w') (hm : TreeG P ops Q S m a w) : TreeG P ops Q S (.fork i t m) a w := by
  subst hd
  refine ⟨?_, hm.out⟩
  have hw' := wantN_some hw
  unfold wpOp
  simp only [hw'.1, hw'.2, if_true]
  refine .inl ?_
  unfold Oper.wp
  rw [hrun w]
  refine hc.mono ?_
  intro e w' hR
  obtain ⟨v, rfl, hS, ht⟩ := h e w' hR
  exact ⟨hS, ht.out⟩
end
end Go.FourQ
