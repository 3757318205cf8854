/- Numbers as digits of 16 bits: what a list of digits stands for, and memory that holds one. No condition. -/
import Derived.Test.YtfkfljohhabldaaDoorMem
import Derived.Deep.LoopGhost
import Derived.Deep.QuietTactic
import Derived.BigQuiet
namespace Go.FourQ
open Go.RowKit

/-- What digits stand for, the lowest first. -/
def val : List Nat → Nat
  | [] => 0
  | d :: l => d + 65536 * val l

/-- The digits of a number, so many. -/
def digs : Nat → Nat → List Nat
  | 0, _ => []
  | k + 1, n => n % 65536 :: digs k (n / 65536)

theorem digs_length : ∀ k n, (digs k n).length = k
  | 0, _ => rfl
  | k + 1, n => by rw [digs, List.length_cons, digs_length k]

theorem val_digs : ∀ k n, val (digs k n) = n % 65536 ^ k
  | 0, n => by rw [digs, val, Nat.pow_zero, Nat.mod_one]
  | k + 1, n => by
    rw [digs, val, val_digs k, Nat.pow_succ, Nat.mul_comm (65536 ^ k), Nat.mod_mul]

theorem digs_get : ∀ k n i, i < k → (digs k n)[i]? = some (n / 65536 ^ i % 65536)
  | 0, _, _, h => absurd h (Nat.not_lt_zero _)
  | k + 1, n, 0, _ => by rw [digs, List.getElem?_cons_zero, Nat.pow_zero, Nat.div_one]
  | k + 1, n, i + 1, h => by
    rw [digs, List.getElem?_cons_succ, digs_get k _ i (by omega), Nat.div_div_eq_div_mul, Nat.pow_succ, Nat.mul_comm]

theorem val_lt : ∀ l : List Nat, (∀ d ∈ l, d < 65536) → val l < 65536 ^ l.length
  | [], _ => by simp [val]
  | d :: l, h => by
    have h1 := h d (by simp)
    have h2 := val_lt l (fun e he => h e (by simp [he]))
    simp only [val, List.length_cons, Nat.pow_succ]
    omega

theorem digs_val : ∀ l : List Nat, (∀ d ∈ l, d < 65536) → digs l.length (val l) = l
  | [], _ => rfl
  | d :: l, h => by
    have h1 := h d (by simp)
    have ih := digs_val l (fun e he => h e (by simp [he]))
    have e1 : (d + 65536 * val l) % 65536 = d := by omega
    have e2 : (d + 65536 * val l) / 65536 = val l := by omega
    simp only [List.length_cons, digs, val, e1, e2, ih]

theorem val_append : ∀ a b : List Nat, val (a ++ b) = val a + 65536 ^ a.length * val b
  | [], b => by simp [val]
  | d :: a, b => by
    simp only [List.cons_append, val, val_append a b, List.length_cons, Nat.pow_succ]
    rw [Nat.mul_add, Nat.mul_comm (65536 ^ a.length) 65536, Nat.mul_assoc, Nat.add_assoc]

theorem val_take_succ (l : List Nat) (k d : Nat) (h : l[k]? = some d) : val (l.take (k + 1)) = val (l.take k) + 65536 ^ k * d := by
  obtain ⟨hk, hd⟩ := List.getElem?_eq_some_iff.1 h
  rw [List.take_succ_eq_append_getElem hk, val_append, List.length_take, Nat.min_eq_left (Nat.le_of_lt hk), hd]
  simp [val]

theorem digs_congr : ∀ k a b, a % 65536 ^ k = b % 65536 ^ k → digs k a = digs k b
  | 0, _, _, _ => rfl
  | k + 1, a, b, h => by
    rw [Nat.pow_succ, Nat.mul_comm (65536 ^ k), Nat.mod_mul, Nat.mod_mul] at h
    have h1 : a % 65536 = b % 65536 := by omega
    have h2 : a / 65536 % 65536 ^ k = b / 65536 % 65536 ^ k := by omega
    rw [digs, digs, h1, digs_congr k _ _ h2]

theorem digs_snoc : ∀ k n, digs (k + 1) n = digs k n ++ [n / 65536 ^ k % 65536]
  | 0, n => by simp [digs]
  | k + 1, n => by
    rw [digs, digs_snoc k (n / 65536), digs, List.cons_append, Nat.div_div_eq_div_mul, Nat.pow_succ, Nat.mul_comm (65536 ^ k)]

/-- Digits of which the first k have been settled, and what is carried on. -/
def Lk (D : List Nat) (k : Nat) : List Nat := digs k (val (D.take k)) ++ D.drop k
def Ck (D : List Nat) (k : Nat) : Nat := val (D.take k) / 65536 ^ k

theorem Lk_zero (D : List Nat) : Lk D 0 = D := by simp [Lk, digs]
theorem Ck_zero (D : List Nat) : Ck D 0 = 0 := by simp [Ck, val]

theorem Lk_length (D : List Nat) (k : Nat) (h : k ≤ D.length) : (Lk D k).length = D.length := by
  rw [Lk, List.length_append, digs_length, List.length_drop]; omega

theorem LC_step {D : List Nat} {k d : Nat} (h : D[k]? = some d) : (Lk D k).set k ((Ck D k + d) % 65536) = Lk D (k + 1) ∧ (Ck D k + d) / 65536 = Ck D (k + 1) := by
  have hv := val_take_succ D k d h
  have hp : 0 < 65536 ^ k := Nat.pow_pos (by decide)
  have hs : val (D.take (k + 1)) / 65536 ^ k = Ck D k + d := by
    rw [hv, Nat.add_mul_div_left _ _ hp]; rfl
  obtain ⟨hk, hd⟩ := List.getElem?_eq_some_iff.1 h
  constructor
  · unfold Lk
    have e1 : digs (k + 1) (val (D.take (k + 1))) = digs k (val (D.take k)) ++ [(Ck D k + d) % 65536] := by
      rw [digs_snoc, hs]
      congr 1
      exact digs_congr k _ _ (by rw [hv, Nat.add_mul_mod_self_left])
    rw [e1, List.set_append, if_neg (by rw [digs_length]; omega), digs_length, Nat.sub_self, List.drop_eq_getElem_cons hk, List.set_cons_zero, List.append_assoc]
    rfl
  · unfold Ck at hs ⊢
    rw [Nat.pow_succ, ← Nat.div_div_eq_div_mul, hs]

theorem Ck_bound (D : List Nat) (B : Nat) (hB : 0 < B) (hD : ∀ d ∈ D, d < B) : ∀ k, k ≤ D.length → Ck D k < B
  | 0, _ => by rw [Ck_zero]; exact hB
  | k + 1, h => by
    have hk : D[k]? = some D[k] := List.getElem?_eq_getElem (by omega)
    have := (LC_step hk).2
    have h1 := hD D[k] (List.getElem_mem _)
    have h2 := Ck_bound D B hB hD k (by omega)
    omega

theorem val_set : ∀ (l : List Nat) (i d e : Nat), l[i]? = some d → val (l.set i (d + e)) = val l + 65536 ^ i * e
  | [], _, _, _, h => by simp at h
  | x :: l, 0, d, e, h => by
    obtain rfl : x = d := by simpa using h
    simp only [List.set_cons_zero, val, Nat.pow_zero]
    omega
  | x :: l, i + 1, d, e, h => by
    rw [List.set_cons_succ, val, val_set l i d e (by simpa using h), val, Nat.mul_add, Nat.pow_succ, Nat.mul_comm (65536 ^ i) 65536, Nat.mul_assoc, Nat.add_assoc]

theorem digs_lt : ∀ k n d, d ∈ digs k n → d < 65536
  | 0, _, _, h => by simp [digs] at h
  | k + 1, n, d, h => by
    rw [digs, List.mem_cons] at h
    rcases h with rfl | h
    · exact Nat.mod_lt _ (by decide)
    · exact digs_lt k _ _ h

theorem pow256 (i : Nat) : 65536 ^ i = 256 ^ (2 * i) := by rw [Nat.pow_mul]

theorem mod_succ256 (x k : Nat) : x % 256 ^ (k + 1) = x % 256 ^ k + 256 ^ k * (x / 256 ^ k % 256) := by rw [Nat.pow_succ, Nat.mod_mul]

/-- A byte is laid into its digit. -/
theorem of_step (x k : Nat) (hk : k < 16) : x % 256 ^ k / 65536 ^ (k / 2) % 65536 < 65536 ∧ x / 256 ^ k % 256 * 256 ^ (k % 2) < 65536 ∧
    x % 256 ^ k / 65536 ^ (k / 2) % 65536 + x / 256 ^ k % 256 * 256 ^ (k % 2) < 65536 ∧
    (digs 8 (x % 256 ^ k)).set (k / 2) (x % 256 ^ k / 65536 ^ (k / 2) % 65536 + x / 256 ^ k % 256 * 256 ^ (k % 2)) = digs 8 (x % 256 ^ (k + 1)) := by
  have hi : k / 2 < 8 := by omega
  have hget := digs_get 8 (x % 256 ^ k) (k / 2) hi
  have hb : x / 256 ^ k % 256 < 256 := Nat.mod_lt _ (by decide)
  have hd : x % 256 ^ k / 65536 ^ (k / 2) % 65536 < 65536 := Nat.mod_lt _ (by decide)
  have hVlt : x % 256 ^ k < 256 ^ k := Nat.mod_lt _ (Nat.pow_pos (by decide))
  have hpp : 65536 ^ (k / 2) * 256 ^ (k % 2) = 256 ^ k := by
    rw [pow256, ← Nat.pow_add]
    congr 1
    omega
  have hle : (256 : Nat) ^ (k % 2) ≤ 256 := by
    rcases (by omega : k % 2 = 0 ∨ k % 2 = 1) with h | h <;> rw [h] <;> decide
  have he : x / 256 ^ k % 256 * 256 ^ (k % 2) ≤ 255 * 256 ^ (k % 2) := Nat.mul_le_mul_right _ (by omega)
  have hdlt : x % 256 ^ k / 65536 ^ (k / 2) < 256 ^ (k % 2) := by
    rw [Nat.div_lt_iff_lt_mul (Nat.pow_pos (by decide)), Nat.mul_comm, hpp]
    exact hVlt
  have hd2 : x % 256 ^ k / 65536 ^ (k / 2) % 65536 < 256 ^ (k % 2) := Nat.lt_of_le_of_lt (Nat.mod_le _ _) hdlt
  have hsum : x % 256 ^ k / 65536 ^ (k / 2) % 65536 + x / 256 ^ k % 256 * 256 ^ (k % 2) < 65536 := by omega
  refine ⟨hd, by omega, hsum, ?_⟩
  have hv := val_set _ _ _ (x / 256 ^ k % 256 * 256 ^ (k % 2)) hget
  rw [val_digs, Nat.mod_eq_of_lt (a := x % 256 ^ k) (Nat.lt_of_lt_of_le hVlt (by
    have e : (65536 : Nat) ^ 8 = 256 ^ 16 := by rw [pow256]
    rw [e]; exact Nat.pow_le_pow_right (by decide) (by omega))), Nat.mul_comm (x / 256 ^ k % 256), ← Nat.mul_assoc, hpp, ← mod_succ256] at hv
  have hl : ((digs 8 (x % 256 ^ k)).set (k / 2) (x % 256 ^ k / 65536 ^ (k / 2) % 65536 + x / 256 ^ k % 256 * 256 ^ (k % 2))).length = 8 := by rw [List.length_set, digs_length]
  rw [Nat.mul_comm (256 ^ (k % 2))] at hv
  have hmem : ∀ d ∈ (digs 8 (x % 256 ^ k)).set (k / 2) (x % 256 ^ k / 65536 ^ (k / 2) % 65536 + x / 256 ^ k % 256 * 256 ^ (k % 2)), d < 65536 := fun d h => by
    rcases List.mem_or_eq_of_mem_set h with h | rfl
    · exact digs_lt _ _ _ h
    · exact hsum
  generalize (digs 8 (x % 256 ^ k)).set (k / 2) (x % 256 ^ k / 65536 ^ (k / 2) % 65536 + x / 256 ^ k % 256 * 256 ^ (k % 2)) = L at *
  have h9 := digs_val L hmem
  rw [hl, hv] at h9
  exact h9.symm

/-- Cells that hold words. -/
def dgA (l : List Nat) : Array Value := (l.map fun d : Nat => Value.int .u64 (d : Int)).toArray

theorem dgA_get {l : List Nat} {i d : Nat} (h : l[i]? = some d) : (dgA l)[i]? = some (.int .u64 (d : Int)) := by
  simp [dgA, h]

theorem size_dgA (l : List Nat) : (dgA l).size = l.length := by simp [dgA]

theorem dgA_set (l : List Nat) (i d : Nat) : (dgA l).setIfInBounds i (.int .u64 (d : Int)) = dgA (l.set i d) := by
  unfold dgA
  rw [List.map_set, ← List.setIfInBounds_toArray]

theorem all_dgA (l : List Nat) : (dgA l).all (·.oneCell') = true := by
  rw [Array.all_eq_true_iff_forall_mem]
  intro v hv
  simp [dgA] at hv
  obtain ⟨d, _, rfl⟩ := hv
  rfl

/-- Block b holds these words and nothing else. -/
def Ds (w : World) (b : Nat) (l : List Nat) : Prop := ∃ T, w.heap[b]? = some (.cells (dgA l) T (0, 0))

theorem Ds.lt {w : World} {c : Nat} {m : List Nat} (h : Ds w c m) : c < w.heap.size := by
  obtain ⟨T, hT⟩ := h
  rcases Nat.lt_or_ge c w.heap.size with h' | h'
  · exact h'
  · simp [Array.getElem?_eq_none h'] at hT

theorem Ds.of_heap {w w' : World} {c : Nat} {m : List Nat} (h : Ds w c m) (e : w'.heap[c]? = w.heap[c]?) : Ds w' c m := by
  obtain ⟨T, hT⟩ := h
  exact ⟨T, e.trans hT⟩

theorem Ds.alloc {w : World} {c : Nat} {m : List Nat} (h : Ds w c m) (o : Obj) : Ds (w.alloc o) c m := h.of_heap (Below.heap_alloc _ _ _ h.lt)

theorem Ds.new (w : World) (l : List Nat) (c : Array Value) (T : TypeId) (n : Nat) (hn : n = w.heap.size) (hc : c = dgA l) : Ds (w.alloc (.cells c T)) n l := by
  subst hn hc
  exact ⟨T, heap_alloc_new _ _⟩

theorem Ds.cell {w : World} {b : Nat} {l : List Nat} (h : Ds w b l) {i d : Nat} (hi : l[i]? = some d) : w.cell? ⟨b, i, none⟩ = some (.int .u64 (d : Int)) := by
  obtain ⟨T, hT⟩ := h
  rw [cell_of_row w b i _ T (0, 0) hT]
  exact dgA_get hi

theorem Ds.free {w : World} {b : Nat} {l : List Nat} (h : Ds w b l) (o : Nat) : w.frozen? ⟨b, o, none⟩ = false := by
  obtain ⟨T, hT⟩ := h
  exact frozen_of_row w b o _ T hT

theorem Ds.set {w : World} {b : Nat} {l : List Nat} (h : Ds w b l) (i d : Nat) : Ds (w.setCell ⟨b, i, none⟩ (.int .u64 (d : Int))) b (l.set i d) := by
  obtain ⟨T, hT⟩ := h
  exact ⟨T, by rw [heap_setCell_same w b i _ T _ hT, dgA_set]⟩

theorem Ds.setOther {w : World} {b c : Nat} {l : List Nat} (h : Ds w c l) (i : Nat) (v : Value) (hc : c ≠ b) : Ds (w.setCell ⟨b, i, none⟩ v) c l :=
  h.of_heap (heap_setCell_other _ _ _ _ hc)

/-- An element of an array by value. -/
theorem run_index_one {P : Program} {t e : TypeId} {n : Nat} {cs : Array Value} {k : IntKind} {i : Nat} {v : Value} {d : TypeDesc} (ht : P.underlying t = some (.array n e)) (he : P.underlying e = some d)
    (hd : (match d with | .struct _ | .array _ _ => false | _ => true) = true) (hs : (P.info? e).map (·.size) = some 1) (hi : i < n) (hv : cs[i]? = some v) (w : World) :
    (Instr.index t (.agg cs) (.int k (i : Int))).run P w = .ok v w := by
  have hagg : (isAgg e).run P w = .ok false w := by
    unfold isAgg
    rw [Sem.run_bind, run_underlying he w]
    cases d <;> simp_all
  cases hq : P.info? e with
  | none => simp [hq] at hs
  | some q =>
    have hs1 : q.size = 1 := by simpa [hq] using hs
    simp [Instr.index, asIntOf, Sem.run_bind, run_underlying ht, part, hagg, sizeOf, typeInfo, hq, hs1, hv]
    intro h
    omega

end Go.FourQ
