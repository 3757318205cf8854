/- Steps of the package's own hash: slices made anew, bytes in place, two blocks that are there. No condition. -/
import Derived.Test.YtkmofjefjbhbhaaDoorTree
import Derived.Deep.OwnRows
namespace Go.Sl
open Go.RowKit Go.FourQ Go.Sha
section
variable {P : Program} {w wr : World} {t : TypeId} {k : IntKind}
theorem run_indexSe {ρ : Operand → Value} {o : Oper} {t e : TypeId} {b off off' n c i : Nat} {x y : Operand} {z : Int} (ho : o.op = .indexAddr t x y) (hx : ρ x = .slice (some ⟨b, off, none⟩) n c) (hy : ρ y = .int .i64 z) (hz : z = (i : Int)) (hu : P.underlying t = some (.slice e)) (hs : (P.info? e).map (·.size) = some 1) (hi : i < n) (he : off + i = off') :
    (execOp ρ o).run P w = .ok (.value (.pointer (some ⟨b, off', none⟩))) w := by
  subst he
  exact run_indexSz ho hx hy hz hu hs hi
theorem run_mkB {ρ : Operand → Value} {o : Oper} {x y : Operand} {e : TypeId} {n : Nat} (ho : o.op = .makeSlice t x y) (hx : ρ x = .int .i64 (n : Int)) (hy : ρ y = .int .i64 (n : Int)) (ht : P.underlying t = some (.slice e)) (hinfo : (P.info? e).map (fun i => (i.zero, i.size, i.bytes)) = some (some (.int .u8 0), 1, 1)) (hn : n ≤ 1000000) :
    (execOp ρ o).run P w = .ok (.value (.slice (some ⟨w.heap.size, 0, none⟩) n n)) (w.alloc (.cells (bv (List.replicate n 0)).toArray e)) := by
  have h := run_make_row' (P := P) t e (.int .u8 0) 1 ht hinfo rfl .i64 .i64 n (by omega) (by omega) w
  have e1 : (bv (List.replicate n 0)).toArray = madeCells #[Value.int .u8 0] n := by
    apply Array.toList_inj.1
    rw [toList_madeCells_one]
    show bv (List.replicate n 0) = _
    unfold bv
    rw [List.map_replicate]
  rw [e1]
  exact run_mkOp ho hx hy h
/-- Two blocks that are there. -/
theorem Mm.two {b c : Nat} {L M : List Value} (hb : Bl w b L) (hc : Bl w c M) (hbc : b ≠ c) : Mm w [(b, L), (c, M)] w where
  os := rfl
  tape := rfl
  output := rfl
  size := Nat.le_refl _
  blk := fun i d N hi => by
    rcases i with _ | _ | i
    · obtain ⟨rfl, rfl⟩ : b = d ∧ L = N := by simpa using hi
      exact hb
    · obtain ⟨rfl, rfl⟩ : c = d ∧ M = N := by simpa using hi
      exact hc
    · simp at hi
  ne := fun i j d e N O hi hj hij => by
    rcases i with _ | _ | i
    · obtain ⟨rfl, rfl⟩ : b = d ∧ L = N := by simpa using hi
      rcases j with _ | _ | j
      · exact absurd rfl hij
      · obtain ⟨rfl, rfl⟩ : c = e ∧ M = O := by simpa using hj
        exact hbc
      · simp at hj
    · obtain ⟨rfl, rfl⟩ : c = d ∧ M = N := by simpa using hi
      rcases j with _ | _ | j
      · obtain ⟨rfl, rfl⟩ : b = e ∧ L = O := by simpa using hj
        exact Ne.symm hbc
      · exact absurd rfl hij
      · simp at hj
    · simp at hi
  other := fun _ _ _ => rfl
theorem bv_set {l : List Int} {j : Nat} {x : Int} : (bv l).set j (.int .u8 x) = bv (l.set j x) := by unfold bv; rw [List.map_set]
theorem bv_at {l : List Int} {j : Nat} (h : j < l.length) : (bv l)[j]? = some (.int .u8 (l.getD j 0)) := bv_get (getD_of h)
/-- The cells of the package's own hash. -/
def ownL (sz : Nat) (B : Int) (cnt g : Nat) : List Value := [.int .i64 (sz : Int), .int .i64 B, .int .i64 (cnt : Int), .slice (some ⟨g, 0, none⟩) sz sz]
/-- The first i bytes are set. -/
def fr (sz i : Nat) : List Int := ((List.range i).map fun j : Nat => b8 (j : Int)) ++ List.replicate (sz - i) 0
theorem fr_zero (sz : Nat) : fr sz 0 = List.replicate sz 0 := rfl
theorem fr_all (sz : Nat) (l : List Int) : fr sz sz = own sz l 0 := by unfold fr; rw [Nat.sub_self]; exact List.append_nil _
theorem fr_length {sz i : Nat} (h : i ≤ sz) : (fr sz i).length = sz := by unfold fr; rw [List.length_append, List.length_map, List.length_range, List.length_replicate]; omega
theorem fr_set {sz i : Nat} (h : i < sz) : (bv (fr sz i)).set i (.int .u8 (b8 (i : Int))) = bv (fr sz (i + 1)) := by
  rw [bv_set]
  congr 1
  unfold fr
  rw [List.set_append_right _ _ (by rw [List.length_map, List.length_range]; exact Nat.le_refl _), List.length_map, List.length_range, Nat.sub_self, show sz - i = (sz - (i + 1)) + 1 by omega, List.replicate_succ, List.set_cons_zero, List.range_succ, List.map_append, List.append_assoc]
  rfl
/-- Both sizes of the package's own hash. -/
def szO (s b : Int) : Nat := if s < 1 ∨ 16 < s ∨ b < s ∨ 32 < b then 1 else s.toNat
theorem szO_pos {s b : Int} : 1 ≤ szO s b ∧ szO s b ≤ 16 := by unfold szO; split <;> omega
theorem szO_one {s b : Int} (h : s < 1 ∨ 16 < s ∨ b < s ∨ 32 < b) : szO s b = 1 := if_pos h
theorem szO_s {s b : Int} (h : ¬ (s < 1 ∨ 16 < s ∨ b < s ∨ 32 < b)) : ((szO s b : Nat) : Int) = s := by unfold szO; rw [if_neg h]; omega
theorem own_step {sz t k k2 : Nat} {l st : List Int} {bb : Int} (hst : own sz l t = st) (hk : t % sz = k) (hk2 : (t + 1) % sz = k2) (hbb : l.getD t 0 = bb) :
    (st.set k (b8 (b8 (b8 (31 * st.getD k 0) + bb) + b8 (t : Int)))).set k2 (bits .xor .u8 ((st.set k (b8 (b8 (b8 (31 * st.getD k 0) + bb) + b8 (t : Int)))).getD k2 0) ((st.set k (b8 (b8 (b8 (31 * st.getD k 0) + bb) + b8 (t : Int)))).getD k 0)) = own sz l (t + 1) := by
  subst hst hk hk2 hbb
  rfl
/-- Two blocks are written. -/
theorem Mm.upd2 {w' : World} {s : List (Nat × List Value)} {i j b c : Nat} {L M L' M' : List Value} (h : Mm w s wr) (hij : i ≠ j) (hi : s[i]? = some (b, L)) (hj : s[j]? = some (c, M)) (u : Mm wr [(b, L'), (c, M')] w') : Mm w ((s.set i (b, L')).set j (c, M')) w' := by
  have hli := (List.getElem?_eq_some_iff.1 hi).1
  have hlj := (List.getElem?_eq_some_iff.1 hj).1
  have gj : ((s.set i (b, L')).set j (c, M'))[j]? = some (c, M') := List.getElem?_set_self (by rw [List.length_set]; exact hlj)
  have gi : ((s.set i (b, L')).set j (c, M'))[i]? = some (b, L') := by rw [List.getElem?_set_ne (Ne.symm hij), List.getElem?_set_self hli]
  have gk : ∀ k, k ≠ i → k ≠ j → ((s.set i (b, L')).set j (c, M'))[k]? = s[k]? := fun k h1 h2 => by rw [List.getElem?_set_ne (Ne.symm h2), List.getElem?_set_ne (Ne.symm h1)]
  have key : ∀ (m e : Nat) (Q : List Value), ((s.set i (b, L')).set j (c, M'))[m]? = some (e, Q) → ∃ Q', s[m]? = some (e, Q') := fun m e Q hm => by
    by_cases hmj : m = j
    · subst hmj
      obtain ⟨rfl, rfl⟩ : c = e ∧ M' = Q := by simpa using gj.symm.trans hm
      exact ⟨M, hj⟩
    · by_cases hmi : m = i
      · subst hmi
        obtain ⟨rfl, rfl⟩ : b = e ∧ L' = Q := by simpa using gi.symm.trans hm
        exact ⟨L, hi⟩
      · exact ⟨Q, (gk m hmi hmj).symm.trans hm⟩
  refine ⟨u.os.trans h.os, u.tape.trans h.tape, u.output.trans h.output, Nat.le_trans h.size u.size, fun m e Q hm => ?_, fun m n d e N O hm hn hmn => ?_, fun k hk hp => ?_⟩
  · by_cases hmj : m = j
    · subst hmj
      obtain ⟨rfl, rfl⟩ : c = e ∧ M' = Q := by simpa using gj.symm.trans hm
      exact u.blk 1 c M' rfl
    · by_cases hmi : m = i
      · subst hmi
        obtain ⟨rfl, rfl⟩ : b = e ∧ L' = Q := by simpa using gi.symm.trans hm
        exact u.blk 0 b L' rfl
      · have hm' := (gk m hmi hmj).symm.trans hm
        have hb := h.blk m e Q hm'
        refine hb.of_heap (u.other e hb.lt fun p hp => ?_)
        rcases List.mem_cons.1 hp with rfl | hp
        · exact Ne.symm (h.ne m i e b Q L hm' hi hmi)
        · obtain rfl := List.mem_singleton.1 hp
          exact Ne.symm (h.ne m j e c Q M hm' hj hmj)
  · obtain ⟨N', hm'⟩ := key m d N hm
    obtain ⟨O', hn'⟩ := key n e O hn
    exact h.ne m n d e N' O' hm' hn' hmn
  · have hkb : k ≠ b := fun e => hp (b, L') (List.mem_of_getElem? gi) e.symm
    have hkc : k ≠ c := fun e => hp (c, M') (List.mem_of_getElem? gj) e.symm
    refine (u.other k (Nat.lt_of_lt_of_le hk h.size) fun p hm => ?_).trans (h.other k hk fun p hm => ?_)
    · rcases List.mem_cons.1 hm with rfl | hm
      · exact Ne.symm hkb
      · obtain rfl := List.mem_singleton.1 hm
        exact Ne.symm hkc
    · obtain ⟨m, hm'⟩ := List.getElem?_of_mem hm
      by_cases hmj : m = j
      · subst hmj
        obtain rfl : (c, M) = p := Option.some.inj (hj.symm.trans hm')
        exact Ne.symm hkc
      · by_cases hmi : m = i
        · subst hmi
          obtain rfl : (b, L) = p := Option.some.inj (hi.symm.trans hm')
          exact Ne.symm hkb
        · exact hp p (List.mem_of_getElem? ((gk m hmi hmj).trans hm'))
/-- A new block is of no concern. -/
theorem Mm.drop0 {b : Nat} {L : List Value} {s : List (Nat × List Value)} (h : Mm w ((b, L) :: s) wr) (hb : w.heap.size ≤ b) : Mm w s wr where
  os := h.os
  tape := h.tape
  output := h.output
  size := h.size
  blk := fun i c M hi => h.blk (i + 1) c M hi
  ne := fun i j c d M N hi hj hij => h.ne (i + 1) (j + 1) c d M N hi hj (by omega)
  other := fun k hk hp => h.other k hk fun p hm => by
    rcases List.mem_cons.1 hm with rfl | hm
    · show b ≠ k; omega
    · exact hp p hm
/-- A byte of a slice that lies in none of the blocks. -/
theorem Mm.cellR {ad : Addr} {len c j : Nat} {p : List Int} {x : Int} {s : List (Nat × List Value)} (h : Mm w s wr) (hp : Rd w .u8 (.slice (some ad) len c) p) (hs : ∀ q ∈ s, (Value.slice (some ad) len c).ownBlock ≠ some q.1) (hl : p.length = len) (hx : p.getD j 0 = x) (hj : j < len) : wr.cell? (ad.add j) = some (.int .u8 x) := by
  obtain ⟨a2, c2, e2, _, _, h2⟩ := hp.mm h hs
  injection e2 with e3 e4 e5
  subst hx
  exact h2 ad e3.symm _ _ (getD_of (by omega))
end
end Go.Sl
