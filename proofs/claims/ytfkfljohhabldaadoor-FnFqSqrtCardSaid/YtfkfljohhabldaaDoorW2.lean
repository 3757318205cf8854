/- Walks over values: rows of bytes and digits, their parts, tests on them; what is kept while some rows are written. No condition. -/
import Derived.Test.YtfkfljohhabldaaDoorPtr
import Derived.Test.YtfkfljohhabldaaDoorPair
namespace Go.FourQ
open Go.RowKit

/-- Numbers of eight digits each, as cells. -/
def dgL (L : List Nat) : Array Value := dgA (L.flatMap (digs 8))
theorem dgL_two (x y : Nat) : dgL [x, y] = dgQ x y := by simp [dgL, dgQ]
theorem dgL_one (x : Nat) : dgL [x] = dgA (digs 8 x) := by simp [dgL]

theorem dgL_get : ∀ (L : List Nat) (k x i : Nat), L[k]? = some x → i < 8 → (dgL L)[8 * k + i]? = (dgA (digs 8 x))[i]?
  | [], k, x, i, h, _ => by simp at h
  | y :: L, 0, x, i, h, hi => by
    obtain rfl : y = x := by simpa using h
    simp only [dgL, dgA, List.flatMap_cons, List.map_append, List.getElem?_toArray, Nat.mul_zero, Nat.zero_add]
    rw [List.getElem?_append_left (by rw [List.length_map, digs_length]; exact hi)]
  | y :: L, k + 1, x, i, h, hi => by
    have ih := dgL_get L k x i (by simpa using h) hi
    simp only [dgL, dgA, List.flatMap_cons, List.map_append, List.getElem?_toArray] at ih ⊢
    rw [List.getElem?_append_right (by rw [List.length_map, digs_length]; omega), List.length_map, digs_length, ← ih]
    congr 1; omega

theorem fpsub1 {L : List Nat} {k x : Nat} (h : L[k]? = some x) : ∀ j v, (fpC x)[j]? = some v → (fps L)[16 * k + j]? = some v := fun j v hj => by
  rw [← fps_one] at hj
  obtain ⟨y, hy, rfl⟩ := fps_getElem hj
  have hj0 : j / 16 = 0 := by
    rcases Nat.eq_zero_or_pos (j / 16) with h0 | h0
    · exact h0
    · rw [List.getElem?_eq_none (by simp only [List.length_cons, List.length_nil]; omega)] at hy; cases hy
  rw [hj0] at hy
  obtain rfl : x = y := by simpa using hy
  have := fps_get L k x (j % 16) h (Nat.mod_lt _ (by decide))
  rwa [show j % 16 = j by omega] at this ⊢
theorem fpsub2 {L : List Nat} {k x y : Nat} (h : L[k]? = some x) (g : L[k + 1]? = some y) : ∀ j v, (fps [x, y])[j]? = some v → (fps L)[16 * k + j]? = some v := fun j v hj => by
  obtain ⟨z, hz, rfl⟩ := fps_getElem hj
  rcases hq : j / 16 with _ | q
  · rw [hq] at hz
    obtain rfl : x = z := by simpa using hz
    have := fps_get L k x (j % 16) h (Nat.mod_lt _ (by decide))
    rwa [show 16 * k + j % 16 = 16 * k + j by omega] at this
  · rw [hq] at hz
    have hq0 : q = 0 := by
      rcases Nat.eq_zero_or_pos q with h0 | h0
      · exact h0
      · rw [List.getElem?_eq_none (by simp only [List.length_cons, List.length_nil]; omega)] at hz; cases hz
    subst hq0
    obtain rfl : y = z := by simpa using hz
    have := fps_get L (k + 1) y (j % 16) g (Nat.mod_lt _ (by decide))
    rwa [show 16 * (k + 1) + j % 16 = 16 * k + j by omega] at this
theorem dgsub1 {L : List Nat} {k x : Nat} (h : L[k]? = some x) : ∀ j v, (dgA (digs 8 x))[j]? = some v → (dgL L)[8 * k + j]? = some v := fun j v hj => by
  have hl : j < 8 := by have := (Array.getElem?_eq_some_iff.1 hj).1; rwa [size_dgA, digs_length] at this
  rw [dgL_get L k x j h hl]; exact hj
theorem dgsub2 {L : List Nat} {k x y : Nat} (h : L[k]? = some x) (g : L[k + 1]? = some y) : ∀ j v, (dgQ x y)[j]? = some v → (dgL L)[8 * k + j]? = some v := fun j v hj => by
  rw [← dgL_two] at hj
  have hl : j < 16 := by
    have := (Array.getElem?_eq_some_iff.1 hj).1
    simpa [dgL, size_dgA, digs_length] using this
  rcases Nat.lt_or_ge j 8 with h8 | h8
  · have e := dgL_get [x, y] 0 x j rfl h8
    rw [Nat.mul_zero, Nat.zero_add] at e
    rw [dgL_get L k x j h h8, ← e]; exact hj
  · have e := dgL_get [x, y] 1 y (j - 8) rfl (by omega)
    rw [show 8 * 1 + (j - 8) = j by omega] at e
    have e2 := dgL_get L (k + 1) y (j - 8) g (by omega)
    rw [show 8 * (k + 1) + (j - 8) = 8 * k + j by omega] at e2
    rw [e2, ← e]; exact hj

theorem all_fps : ∀ L : List Nat, (fps L).all (·.oneCell') = true
  | [] => by simp [fps]
  | x :: L => by rw [fps, Array.all_append, all_fpC, all_fps L]; rfl

/-- One of the rows is written. -/
theorem Kept.puti {w0 w1 : World} {bs : List (Nat × Array Value)} {ns : List (Nat × Nat)} (h : Kept w0 bs ns w1) {g n : Nat} {cs : Array Value} (hn : cs.size = n) (hg : w0.heap.size ≤ g) (hb : ∀ p ∈ bs, p.1 ≠ g) (hns : ∀ p ∈ ns, p.1 = g → p.2 = n) : Kept w0 bs ns (w1.setRow g cs) where
  nb := below_setRow h.nb hg
  row := fun p hp => by obtain ⟨T, hT⟩ := h.row p hp; exact ⟨T, (setRow_other _ _ _ _ (hb p hp)).trans hT⟩
  room := fun p hp => by
    obtain ⟨T, old, ho, hT⟩ := h.room p hp
    by_cases e : p.1 = g
    · have h2 := hns p hp e
      rw [e] at hT ⊢
      exact ⟨T, cs, by rw [hn, h2], setRow_heap _ _ _ _ _ _ hT⟩
    · exact ⟨T, old, ho, (setRow_other _ _ _ _ e).trans hT⟩
theorem Kept.mks {w0 w1 : World} {bs : List (Nat × Array Value)} {ns : List (Nat × Nat)} (nb : Below w0.heap.size w0 w1) (row : ∀ p ∈ bs, ∃ T, w1.heap[p.1]? = some (.cells p.2 T (0, 0))) (room : ∀ p ∈ ns, ∃ T old, old.size = p.2 ∧ w1.heap[p.1]? = some (.cells old T (0, 0))) : Kept w0 bs ns w1 := ⟨nb, row, room⟩
theorem rooms0 {w' : World} : ∀ p ∈ ([] : List (Nat × Nat)), ∃ T old, old.size = p.2 ∧ w'.heap[p.1]? = some (.cells old T (0, 0)) := fun _ hp => by simp at hp
theorem roomsC {w' : World} {ns : List (Nat × Nat)} {g n : Nat} {T : TypeId} {old : Array Value} (ho : old.size = n) (hg : w'.heap[g]? = some (.cells old T (0, 0))) (r : ∀ p ∈ ns, ∃ T old, old.size = p.2 ∧ w'.heap[p.1]? = some (.cells old T (0, 0))) :
    ∀ p ∈ (g, n) :: ns, ∃ T old, old.size = p.2 ∧ w'.heap[p.1]? = some (.cells old T (0, 0)) := fun p hp => by
  rcases List.mem_cons.1 hp with rfl | hp
  · exact ⟨T, old, ho, hg⟩
  · exact r p hp
theorem ns0 {g n : Nat} : ∀ p ∈ ([] : List (Nat × Nat)), p.1 = g → p.2 = n := fun _ hp => by simp at hp
theorem nsE {g n : Nat} {ns : List (Nat × Nat)} (r : ∀ p ∈ ns, p.1 = g → p.2 = n) : ∀ p ∈ (g, n) :: ns, p.1 = g → p.2 = n := fun p hp e => by
  rcases List.mem_cons.1 hp with rfl | hp
  · rfl
  · exact r p hp e
theorem nsN {g n b m : Nat} {ns : List (Nat × Nat)} (hb : b ≠ g) (r : ∀ p ∈ ns, p.1 = g → p.2 = n) : ∀ p ∈ (b, m) :: ns, p.1 = g → p.2 = n := fun p hp e => by
  rcases List.mem_cons.1 hp with rfl | hp
  · exact absurd e hb
  · exact r p hp e

section
variable {P : Program} {ops : Array Oper} {Q : Exit → Act → World → Prop} {S : World → Prop} {a : Act} {w : World} {t m : PT} {i : Nat} {d : Option Tmp} {v : Value}

theorem t_part (hw : wantN ops i a = some true) (hd : (opN ops i).dst = d) {ty : TypeId} {x : Operand} (hop : (opN ops i).op = .load ty x) {b off : Nat} (hx : a.eval x = .pointer (some ⟨b, off, none⟩)) {all cs : Array Value}
    (hc : ∀ w', S w' → ∃ T, w'.heap[b]? = some (.cells all T (0, 0))) (hp : ∀ j v, cs[j]? = some v → all[off + j]? = some v) {td : TypeDesc}
    (hu : P.underlying ty = some td) (ht : (match td with | .struct _ | .array _ _ => true | _ => false) = true) (hi : (P.info? ty).map (·.size) = some cs.size)
    (h : TreeG P ops Q S t (a.put d (.agg cs)) w) : TreeG P ops Q S (.take i t) a w := by
  subst hd
  refine ⟨_, .agg cs, (wantN_some hw).1, .inl ⟨(wantN_some hw).2, fun w' hS => ?_⟩, h.out⟩
  obtain ⟨T, hT⟩ := hc w' hS
  unfold execOp
  simp only [hop, hx, Instr.loadAt, Instr.sureAddr, Sem.run_bind, Sem.run_pure, Result.andThen_ok, run_loadVar_at w' b off ty cs td (fun j v hj => by rw [cell_of_row w' _ _ _ T (0, 0) hT]; exact hp j v hj) hu ht hi]

theorem t_callR (hw : wantN ops i a = some true) (hd : (opN ops i).dst = d) {f : FuncId} {args : Array Value} (hrun : ∀ w', (execOp a.eval (opN ops i)).run P w' = .ok (.enter f args) w') {R : Ending → World → Prop}
    (hc : Calls P f args w R)
    (h : ∀ e w', R e w' → ∃ v, e = .returned v ∧ S w' ∧ TreeG P ops Q S t (a.put d v) w') (hm : TreeG P ops Q S m a w) : TreeG P ops Q S (.fork i t m) a w := by
  subst hd
  refine ⟨?_, hm.out⟩
  have hw' := wantN_some hw
  unfold wpOp
  simp only [hw'.1, hw'.2, if_true]
  refine .inl ?_
  unfold Oper.wp
  rw [hrun w]
  refine hc.mono ?_
  intro e w' hR
  obtain ⟨v, rfl, hS, h'⟩ := h e w' hR
  exact ⟨hS, h'.out⟩
end
end Go.FourQ
