/- Steps of a digest's Write: comparisons, parts of an array as slices, bytes copied into the buffer, a digest's cells. No condition. -/
import Derived.Test.YtkmofjefjbhbhaaDoorDig4
import Derived.Laws.CopyRow
namespace Go.Sl
open Go.RowKit Go.FourQ Go.Sha
section
variable {P : Program} {w : World} {t : TypeId} {x y : Int} {k : IntKind}
theorem gtrT (h : y < x) : (binOp .gtr t (.int k x) (.int k y)).run P w = .ok (.bool true) w := by rw [binOp_gtr, show decide (x > y) = true from decide_eq_true h]; rfl
theorem gtrF (h : ¬ y < x) : (binOp .gtr t (.int k x) (.int k y)).run P w = .ok (.bool false) w := by rw [binOp_gtr, show decide (x > y) = false from decide_eq_false h]; rfl
theorem geqT (h : y ≤ x) : (binOp .geq t (.int k x) (.int k y)).run P w = .ok (.bool true) w := by rw [binOp_geq, show decide (x ≥ y) = true from decide_eq_true h]; rfl
theorem geqF (h : ¬ y ≤ x) : (binOp .geq t (.int k x) (.int k y)).run P w = .ok (.bool false) w := by rw [binOp_geq, show decide (x ≥ y) = false from decide_eq_false h]; rfl
theorem lssT (h : x < y) : (binOp .lss t (.int k x) (.int k y)).run P w = .ok (.bool true) w := by rw [binOp_lss, show decide (x < y) = true from decide_eq_true h]; rfl
theorem lssF (h : ¬ x < y) : (binOp .lss t (.int k x) (.int k y)).run P w = .ok (.bool false) w := by rw [binOp_lss, show decide (x < y) = false from decide_eq_false h]; rfl
theorem eqlT (h : x = y) : (binOp .eql t (.int k x) (.int k y)).run P w = .ok (.bool true) w := by rw [binOp_eql, show (x == y) = true from by rw [h]; exact beq_self_eq_true _]; rfl
theorem eqlF (h : x ≠ y) : (binOp .eql t (.int k x) (.int k y)).run P w = .ok (.bool false) w := by rw [binOp_eql, show (x == y) = false from beq_eq_false_iff_ne.2 h]; rfl
theorem neqF (h : x = y) : (binOp .neq t (.int k x) (.int k y)).run P w = .ok (.bool false) w := by rw [binOp_neq, show (x != y) = false from by rw [h]; simp]; rfl
/-- Unsigned numbers that fit. -/
theorem addU64 {z : Int} (h : x + y = z) (hb : 0 ≤ z ∧ z < 18446744073709551616) : (binOp .add t (.int .u64 x) (.int .u64 y)).run P w = .ok (.int .u64 z) w := by
  subst h; rw [binOp_add]; show Result.ok (Value.int .u64 (IntKind.u64.wrap _)) w = _; rw [IntKind.wrap_u64]; congr 2; omega
theorem subU64 {z : Int} (h : x - y = z) (hb : 0 ≤ z ∧ z < 18446744073709551616) : (binOp .sub t (.int .u64 x) (.int .u64 y)).run P w = .ok (.int .u64 z) w := by
  subst h; rw [binOp_sub]; show Result.ok (Value.int .u64 (IntKind.u64.wrap _)) w = _; rw [IntKind.wrap_u64]; congr 2; omega
theorem remU {m n : Nat} (hm : x = (m : Int)) (hn : y = (n : Int)) (h0 : 0 < n) : (binOp .rem t (.int k x) (.int k y)).run P w = .ok (.int k ((m % n : Nat) : Int)) w := by
  subst hm hn
  rw [binOp_rem]
  have h1 : n ≠ 0 := by omega
  simp [Op.intDiv, h1]
  exact Int.tmod_eq_emod_of_nonneg (by omega)
theorem wrapU64 {n : Nat} (h : n < 18446744073709551616) : IntKind.u64.wrap (n : Int) = (n : Int) := by rw [IntKind.wrap_u64]; omega
theorem run_boundK {yy n : Nat} {code : BoundsCode} (h : n ≤ yy) : (Instr.sliceBound (.int k (n : Int)) yy code).run P w = .ok n w := by
  unfold Instr.sliceBound
  have : (0 : Int) ≤ (n : Int) ∧ (n : Int) ≤ (yy : Int) := ⟨by omega, by omega⟩
  simp [asIntOf, this]
/-- A part of an array, as a slice. -/
theorem run_slArr {e : TypeId} {n b off off' lo hi m c : Nat} (ht : P.underlying t = some (.array n e)) (hs : (P.info? e).map (·.size) = some 1) (hlo : lo ≤ hi) (hhi : hi ≤ n) (hlt : lo < n) (he : off + lo = off') (hm : hi - lo = m) (hc : n - lo = c) {a bb : Option Value} (ha : a = some (.int k (lo : Int)) ∨ (a = none ∧ lo = 0)) (hb : bb = some (.int k (hi : Int)) ∨ (bb = none ∧ hi = n)) :
    (Instr.sliceAt t (.pointer (some ⟨b, off, none⟩)) a bb none).run P w = .ok (.slice (some ⟨b, off', none⟩) m c) w := by
  subst he hm hc
  have hsz : (sizeOf e).run P w = .ok 1 w := by
    cases hq : P.info? e with
    | none => simp [hq] at hs
    | some j => simp [hq] at hs; simp [sizeOf, typeInfo, hq, hs]
  have hb' : (Instr.sliceBounds false n n a bb none).run P w = .ok (lo, hi, n) w := by
    unfold Instr.sliceBounds
    rcases ha with rfl | ⟨rfl, rfl⟩ <;> rcases hb with rfl | ⟨rfl, rfl⟩ <;> simp [run_boundK (P := P) (w := w) hlo, run_boundK (P := P) (w := w) hhi, Option.isSome]
  unfold Instr.sliceAt
  have e2 : ¬ n = lo := by omega
  simp [run_underlying ht, Instr.sureAddr, hb', hsz, e2, addr_add]
/-- Bytes are copied into a block. -/
theorem run_copyB {dT sT ty e : TypeId} {b o dn dc : Nat} {L : List Value} {v : Value} {p : List Int} {m : Nat} (hb : Bl w b L) (hp : Rd w .u8 v p) (hu : P.underlying dT = some (.slice e)) (hs : (P.info? e).map (·.size) = some 1) (ho : o + dn ≤ L.length) (hm : min p.length dn = m) :
    ∃ w', (Builtin.copy_ #[dT, sT] ty #[.slice (some ⟨b, o, none⟩) dn dc, v]).run P w = .ok (.int .i64 (m : Int)) w' ∧ Mm w [(b, L.take o ++ bv (p.take m) ++ L.drop (o + m))] w' := by
  obtain ⟨ao, c, rfl, hc, hn, hcell⟩ := hp
  have hle : m ≤ p.length ∧ m ≤ dn := by omega
  have hlen : (bv (p.take m)).length = m := by unfold bv; rw [List.length_map, List.length_take]; omega
  cases ao with
  | none =>
    obtain rfl := hn rfl
    have h0 : p.length = 0 := by omega
    obtain rfl : m = 0 := by omega
    refine ⟨w, run_copy_none w dT sT ty e _ _ _ _ _ _ hu hs (by rw [h0]; exact Nat.zero_min _), ?_⟩
    rw [List.take_zero, show bv [] = [] from rfl, List.append_nil, Nat.add_zero, List.take_append_drop]
    exact Mm.one hb
  | some ad =>
    obtain ⟨T, hT⟩ := hb
    refine ⟨_, ?_, ((Mm.one ⟨T, hT⟩).row 0 rfl _ : Mm w _ _)⟩
    have := run_copy_row (P := P) w dT sT ty e b o dn dc ad p.length c L.toArray T (bv (p.take m)) hu hs hT (by rw [hlen, ← hm]) (fun j u hu => by
      unfold bv at hu
      rw [List.getElem?_map] at hu
      obtain ⟨x, hx, rfl⟩ := Option.map_eq_some_iff.1 hu
      have hj : j < m := by have := (List.getElem?_eq_some_iff.1 hx).1; rw [List.length_take] at this; omega
      rw [List.getElem?_take_of_lt hj] at hx
      exact hcell ad rfl j x hx) (by rw [hlen]; simp; omega) (fun u hu => by obtain ⟨x, _, rfl⟩ := List.mem_map.1 hu; rfl)
    rw [hlen] at this
    exact this
theorem bv_length {l : List Int} : (bv l).length = l.length := by unfold bv; rw [List.length_map]
theorem bv_append {l m : List Int} : bv (l ++ m) = bv l ++ bv m := by unfold bv; rw [List.map_append]
theorem bv_take {l : List Int} {n : Nat} : bv (l.take n) = (bv l).take n := by unfold bv; rw [List.map_take]
theorem bv_drop {l : List Int} {n : Nat} : bv (l.drop n) = (bv l).drop n := by unfold bv; rw [List.map_drop]
/-! A digest's cells. -/
variable {h : St} {xs p : List Int} {nx len m r : Nat}
theorem dgL_split : dgL h xs nx len = (wv h.list ++ bv xs) ++ [.int .i64 (nx : Int), .int .u64 (len : Int), .bool false] := by unfold dgL dgR; rw [List.append_assoc]
theorem dgL_pre (hx : xs.length = 64) : (wv h.list ++ bv xs).length = 72 := by rw [List.length_append, bv_length, hx]; rfl
theorem dgL_length (hx : xs.length = 64) : (dgL h xs nx len).length = 75 := by rw [dgL_split, List.length_append, dgL_pre hx]; rfl
theorem dgL_nx (hx : xs.length = 64) : (dgL h xs nx len)[72]? = some (.int .i64 (nx : Int)) := by rw [dgL_split, List.getElem?_append_right (by rw [dgL_pre hx]; decide), dgL_pre hx]; rfl
theorem dgL_len (hx : xs.length = 64) : (dgL h xs nx len)[73]? = some (.int .u64 (len : Int)) := by rw [dgL_split, List.getElem?_append_right (by rw [dgL_pre hx]; decide), dgL_pre hx]; rfl
theorem dgL_is (hx : xs.length = 64) : (dgL h xs nx len)[74]? = some (.bool false) := by rw [dgL_split, List.getElem?_append_right (by rw [dgL_pre hx]; decide), dgL_pre hx]; rfl
theorem dgL_snx (hx : xs.length = 64) : (dgL h xs nx len).set 72 (.int .i64 (m : Int)) = dgL h xs m len := by rw [dgL_split, dgL_split, List.set_append_right _ _ (by rw [dgL_pre hx]; decide), dgL_pre hx]; rfl
theorem dgL_slen (hx : xs.length = 64) : (dgL h xs nx len).set 73 (.int .u64 (m : Int)) = dgL h xs nx m := by rw [dgL_split, dgL_split, List.set_append_right _ _ (by rw [dgL_pre hx]; decide), dgL_pre hx]; rfl
theorem dgL_x (hx : xs.length = 64) {j : Nat} {z : Int} (hj : xs[j]? = some z) : (dgL h xs nx len)[8 + j]? = some (.int .u8 z) := by
  unfold dgL dgR
  have hj' := (List.getElem?_eq_some_iff.1 hj).1
  rw [List.getElem?_append_right (show (wv h.list).length ≤ 8 + j from by show 8 ≤ 8 + j; omega), show (wv h.list).length = 8 from rfl, show 8 + j - 8 = j by omega, List.getElem?_append_left (by rw [bv_length]; exact hj')]
  exact bv_get hj
theorem dgL_fill (hx : xs.length = 64) (hr : r + p.length ≤ 64) : (dgL h xs nx len).take (8 + r) ++ bv p ++ (dgL h xs nx len).drop (8 + r + p.length) = dgL h (fill xs p r) nx len := by
  have e1 : (dgL h xs nx len).take (8 + r) = wv h.list ++ bv (xs.take r) := by
    unfold dgL dgR
    rw [List.take_append, show (wv h.list).length = 8 from rfl, List.take_of_length_le (show (wv h.list).length ≤ 8 + r from by show 8 ≤ 8 + r; omega), show 8 + r - 8 = r by omega, List.take_append_of_le_length (by rw [bv_length]; omega), bv_take]
  have e2 : (dgL h xs nx len).drop (8 + r + p.length) = bv (xs.drop (r + p.length)) ++ [.int .i64 (nx : Int), .int .u64 (len : Int), .bool false] := by
    unfold dgL dgR
    rw [List.drop_append, show (wv h.list).length = 8 from rfl, List.drop_of_length_le (show (wv h.list).length ≤ 8 + r + p.length from by show 8 ≤ 8 + r + p.length; omega), List.nil_append, show 8 + r + p.length - 8 = r + p.length by omega, List.drop_append_of_le_length (by rw [bv_length]; omega), bv_drop]
  rw [e1, e2]
  unfold dgL dgR fill
  simp only [bv_append, List.append_assoc]
/-- The buffer as a slice. -/
theorem dg_rd {b : Nat} (hb : Bl w b (dgL h xs nx len)) (hx : xs.length = 64) : Rd w .u8 (.slice (some ⟨b, 8, none⟩) 64 64) xs :=
  hb.rd hx.symm (Nat.le_refl _) fun _ _ hj => dgL_x hx hj
/-- A block elsewhere. -/
theorem Mm.far {w' : World} {b c : Nat} {L M : List Value} (h : Mm w [(b, L)] w') (hc : Bl w c M) (hbc : b ≠ c) : Bl w' c M := hc.of_heap (h.other c hc.lt fun q hq => by obtain rfl := List.mem_singleton.1 hq; exact hbc)
theorem Bl.apart {b c : Nat} {L M : List Value} (h : Bl w b L) (g : Bl w c M) (hl : L.length ≠ M.length) : b ≠ c := by
  rintro rfl
  obtain ⟨T, h⟩ := h
  obtain ⟨U, g⟩ := g
  rw [h] at g
  exact hl (by injection g with g; injection g with g; have := congrArg Array.size g; simpa using this)
theorem Mm.then1 {w1 w2 : World} {b : Nat} {L M : List Value} (h : Mm w [(b, L)] w1) (u : Mm w1 [(b, M)] w2) : Mm w [(b, M)] w2 := h.upd (i := 0) rfl u
theorem len_drop_take {l : List Int} {m n : Nat} (hl : l.length = n) : (l.drop m).take (n - m) = l.drop m := List.take_of_length_le (by rw [List.length_drop]; omega)
/-- What is left of a slice. -/
theorem Rd.tail {e : TypeId} {ao : Option Addr} {n c m n' : Nat} {l : List Int} (h : Rd w k (.slice ao n c) l) (hl : l.length = n) (ht : P.underlying t = some (.slice e)) (hs : (P.info? e).map (·.size) = some 1) (hm : m ≤ n) (hn : n - m = n') :
    ∃ ao' c', (∀ w_, (Instr.sliceAt t (.slice ao n c) (some (.int .i64 (m : Int))) none none).run P w_ = .ok (.slice ao' n' c') w_) ∧ Rd w k (.slice ao' n' c') (l.drop m) ∧ (l.drop m).length = n' ∧ (∀ x, (Value.slice ao' n' c').ownBlock = some x → (Value.slice ao n c).ownBlock = some x) := by
  obtain ⟨v', hr, hd, hb⟩ := h.part (P := P) (t := t) ht hs (lo := m) (hi := l.length) (by omega) (Nat.le_refl _) (a := some (.int .i64 (m : Int))) (b := none) (.inl rfl) (.inr ⟨rfl, rfl⟩)
  rw [len_drop_take rfl] at hd
  have hlen : (l.drop m).length = n' := by rw [List.length_drop]; omega
  obtain ⟨ao', c', rfl, r⟩ := hd
  rw [hlen] at r hb hr
  exact ⟨ao', c', hr, ⟨ao', c', by rw [hlen], by rw [hlen]; exact r.1, r.2⟩, hlen, hb⟩
/-- The first part of a slice. -/
theorem Rd.head {e : TypeId} {ao : Option Addr} {n c m : Nat} {l : List Int} (h : Rd w k (.slice ao n c) l) (hl : l.length = n) (ht : P.underlying t = some (.slice e)) (hs : (P.info? e).map (·.size) = some 1) (hm : m ≤ n) :
    ∃ ao' c', (∀ w_, (Instr.sliceAt t (.slice ao n c) none (some (.int .i64 (m : Int))) none).run P w_ = .ok (.slice ao' m c') w_) ∧ Rd w k (.slice ao' m c') (l.take m) ∧ (l.take m).length = m ∧ (∀ x, (Value.slice ao' m c').ownBlock = some x → (Value.slice ao n c).ownBlock = some x) := by
  obtain ⟨v', hr, hd, hb⟩ := h.part (P := P) (t := t) ht hs (lo := 0) (hi := m) (Nat.zero_le _) (by omega) (a := none) (b := some (.int .i64 (m : Int))) (.inr ⟨rfl, rfl⟩) (.inl rfl)
  rw [List.drop_zero, Nat.sub_zero] at hd
  have hlen : (l.take m).length = m := by rw [List.length_take]; omega
  obtain ⟨ao', c', rfl, r⟩ := hd
  rw [hlen] at r hb hr
  exact ⟨ao', c', hr, ⟨ao', c', by rw [hlen], by rw [hlen]; exact r.1, r.2⟩, hlen, hb⟩
theorem and63' : ∀ a : Nat, a < 80 → ∀ r : Nat, r < 64 → bits .andNot .i64 ((64 * a + r : Nat) : Int) 63 = ((64 * a : Nat) : Int) := by decide +kernel
theorem and63 (n : Nat) (h : n < 5000) : bits .andNot .i64 (n : Int) 63 = ((64 * (n / 64) : Nat) : Int) := by
  have e : n = 64 * (n / 64) + n % 64 := by omega
  conv => lhs; rw [e]
  exact and63' (n / 64) (by omega) (n % 64) (by omega)
theorem cs_one {l : List Int} (hl : l.length = 64) : cs h l 1 = comp h l := by
  show comp h (blk l 0) = comp h l
  unfold blk
  rw [Nat.mul_zero, List.drop_zero, List.take_of_length_le (by omega)]
theorem fill_all {l : List Int} (hx : xs.length = 64) (hr : r + l.length = 64) : fill xs l r = xs.take r ++ l := by
  unfold fill
  rw [hr, List.drop_of_length_le (by omega), List.append_nil]
theorem own_ne {v u : Value} {b : Nat} (hv : v.ownBlock ≠ some b) (hb : ∀ x, u.ownBlock = some x → v.ownBlock = some x) : u.ownBlock ≠ some b := fun e => hv (hb b e)
/-- Eight bytes are written. -/
def put8 (L : List Value) (o : Nat) (x : Int) : Nat → List Value
  | 0 => L
  | i + 1 => (put8 L o x i).set (o + i) (.int .u8 (b8 (x / 2 ^ (56 - 8 * i))))
theorem put8_length {L : List Value} {o : Nat} {x : Int} (i : Nat) : (put8 L o x i).length = L.length := by
  induction i with
  | zero => rfl
  | succ i ih => rw [put8, List.length_set, ih]
def by8 (x : Int) (i : Nat) : List Int := (List.range i).map fun j : Nat => b8 (x / 2 ^ (56 - 8 * j))
theorem by8_length {x : Int} (i : Nat) : (by8 x i).length = i := by unfold by8; rw [List.length_map, List.length_range]
theorem put8_is {L : List Value} {o : Nat} {x : Int} : ∀ {i : Nat}, o + i ≤ L.length → put8 L o x i = L.take o ++ bv (by8 x i) ++ L.drop (o + i)
  | 0, _ => by rw [put8, by8, List.range_zero, List.map_nil, show bv [] = [] from rfl, List.append_nil, Nat.add_zero, List.take_append_drop]
  | i + 1, h => by
    have h1 : (L.take o ++ bv (by8 x i)).length = o + i := by rw [List.length_append, List.length_take, bv_length, by8_length]; omega
    rw [put8, put8_is (by omega), List.set_append_right _ _ (by rw [h1]; exact Nat.le_refl _), h1, Nat.sub_self, List.drop_eq_getElem_cons (by omega), List.set_cons_zero]
    have e : by8 x (i + 1) = by8 x i ++ [b8 (x / 2 ^ (56 - 8 * i))] := by unfold by8; rw [List.range_succ, List.map_append]; rfl
    rw [e, bv_append, show o + i + 1 = o + (i + 1) by omega]
    simp only [List.append_assoc]
    rfl
theorem by8_bits (n : Nat) : by8 ((8 * n : Nat) : Int) 8 = bits8 n := rfl
end
end Go.Sl
