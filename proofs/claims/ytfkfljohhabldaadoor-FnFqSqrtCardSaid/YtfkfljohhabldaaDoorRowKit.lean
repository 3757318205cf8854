/- From a walk that leaves what was there as it was ('Below') to the row's 'post'; an argument of 16 bytes, opened. No condition. -/
import Derived.Test.YtfkfljohhabldaaDoorLawKit
import Derived.OpenVars
import Derived.ProofKit
import Derived.OpenShut
import Derived.LaidMore
import Derived.Lay
import Derived.SevenTiedAt
import Derived.Stop.Joined
namespace Go.FourQ
open Go.ChangeShapes Go.WideShapes Go.ChangeAt Go.RowKit

section
variable {H : Type} {enc : TypeId × Value → H} {P : Program}

def rowed (P : Program) (ts : List TypeId) : Bool := ts.all fun t => P.readableRec t && decide (t < P.types.size)

theorem trodAll_nb (hl : laidOutB P = true) {W W' : World} (hb : Below W.heap.size W W') :
    ∀ {ts : List TypeId} {vs : List Value} {ds : List (DataW H)} {ps : List MemPlace}, rowed P ts = true → (∀ x ∈ ps, x.block < W.heap.size) → DataW.TrodAll enc P W 0 (fun _ => true) true ts vs ds ps →
      DataW.TrodAll enc P W' 0 (fun b => decide (b < W.heap.size)) true ts vs ds ps
  | [], [], [], _, _, _, h => h
  | [], [], _ :: _, _, _, _, h => h.elim
  | [], _ :: _, _, _, _, _, h => h.elim
  | _ :: _, [], _, _, _, _, h => h.elim
  | _ :: _, _ :: _, [], _, _, _, h => h.elim
  | t :: ts, v :: vs, d :: ds, ps, hr, hlt, h => by
    obtain ⟨p, q, h1, h2, e⟩ := h
    simp only [rowed, List.all_cons, Bool.and_eq_true, decide_eq_true_eq] at hr
    exact ⟨p, q, Below.trod hl hr.1.1 hr.1.2 h1 hb (fun x hx => hlt x (by rw [e]; simp [hx])),
      trodAll_nb hl hb (by simpa [rowed] using hr.2) (fun x hx => hlt x (by rw [e]; simp [hx])) h2, e⟩

theorem post_true {f : Func} {s : ChangeSpec} {apart : Bool} {W W' : World} {args : Array Value} {ds gs : List (DataW H)} {before : List MemPlace} {tb : TypeId}
    (hl : laidOutB P = true) (hv : varsRowed P s.vars = true) (hp : rowed P f.params.toList = true) (hrt : f.resultTypes = #[tb]) (htb : P.underlying tb = some .bool)
    (hW : DataW.Whole enc P f.params.toList s.vars apart W args.toList ds gs before)
    (hs : s.fn H (ds ++ gs) = { results := [.lit (.bool true)], args := ds, vars := gs }) (hb : Below W.heap.size W W') :
    s.post enc P f apart true false false W args (.bool true) W' := by
  have hW' := hW
  have hlt := hW.lt
  obtain ⟨p, q, hA, hV, rfl, hfz, hnd⟩ := hW
  refine ⟨ds, gs, p ++ q, [], p, q, hW', ?_, ?_, ?_, hb.frame _, fun h => by cases h⟩
  · rw [hs, hrt]; exact trodAll_mk1 (shut_bool htb true)
  · rw [hs]; exact trodAll_nb hl hb hp (fun x hx => hlt x (by simp [hx])) hA
  · rw [hs]; exact Below.trodVars hl hb hv hV
end

/-! Sixteen bytes. -/

def ofBytes : List Nat → Nat
  | [] => 0
  | b :: l => b + 256 * ofBytes l

theorem ofBytes_lt : ∀ (l : List Nat), (∀ b ∈ l, b < 256) → ofBytes l < 256 ^ l.length
  | [], _ => by simp [ofBytes]
  | b :: l, h => by
    have h1 := ofBytes_lt l fun c hc => h c (by simp [hc])
    have h2 := h b (by simp)
    simp only [ofBytes, List.length_cons, Nat.pow_succ]
    omega

theorem ofBytes_get : ∀ (l : List Nat), (∀ b ∈ l, b < 256) → ∀ i, i < l.length → ofBytes l / 256 ^ i % 256 = l.getD i 0
  | [], _, i, h => by simp at h
  | b :: l, hl, 0, _ => by
    have h2 := hl b (by simp)
    simp only [ofBytes, Nat.pow_zero, Nat.div_one, List.getD_cons_zero]
    omega
  | b :: l, hl, i + 1, h => by
    have h2 := hl b (by simp)
    have e : ofBytes (b :: l) / 256 ^ (i + 1) = ofBytes l / 256 ^ i := by
      rw [Nat.pow_succ', ← Nat.div_div_eq_div_mul]
      congr 1
      simp only [ofBytes]
      omega
    rw [e, List.getD_cons_succ]
    exact ofBytes_get l (fun c hc => hl c (by simp [hc])) i (by simpa using h)

theorem bytes_fpC (cs : List Value) (hlen : cs.length = 16) (h : ∀ i, i < 16 → ∃ n : Int, cs[i]? = some (.int .u8 n) ∧ (Lit.int .u8 n).wf = true) : ∃ x, x < 256 ^ 16 ∧ cs = (fpC x).toList := by
  let f : Value → Nat := fun v => match v with | .int .u8 n => n.toNat | _ => 0
  have hb : ∀ i, i < 16 → cs[i]? = some (.int .u8 (((cs.map f).getD i 0 : Nat) : Int)) ∧ (cs.map f).getD i 0 < 256 := fun i hi => by
    obtain ⟨n, hn, hw⟩ := h i hi
    have hw := bounds_u8 hw
    have e : (cs.map f).getD i 0 = n.toNat := by
      rw [List.getD, List.getElem?_map, hn]; rfl
    rw [e]
    refine ⟨?_, by omega⟩
    rw [hn]
    congr 2
    omega
  have hlt : ∀ b ∈ cs.map f, b < 256 := fun b hm => by
    obtain ⟨i, hi, rfl⟩ := List.getElem_of_mem hm
    have := (hb i (by simpa [hlen] using hi)).2
    rwa [List.getD_eq_getElem?_getD, List.getElem?_eq_getElem hi] at this
  refine ⟨ofBytes (cs.map f), ?_, ?_⟩
  · have := ofBytes_lt _ hlt
    rwa [List.length_map, hlen] at this
  · refine List.ext_getElem? fun i => ?_
    rcases Nat.lt_or_ge i 16 with hi | hi
    · rw [(hb i hi).1, Array.getElem?_toList, fpC_get _ _ hi, byteV, ofBytes_get _ hlt i (by simpa [hlen] using hi)]
    · rw [List.getElem?_eq_none (by omega), List.getElem?_eq_none (by simpa [size_fpC] using hi)]

section
variable {H : Type} {enc : TypeId × Value → H} {P : Program} {w : World}

theorem trod_fp {base : Nat} {spare : Nat → Bool} {held : Bool} {fuel : Nat} {t e : TypeId} {cs : List Value} {x : DataW H × List MemPlace} (ht : P.underlying t = some (.array 16 e)) (he : P.underlying e = some (.int .u8)) (c : P.cellsOf e = 1) (ct : P.cellsOf t = 16)
    (h : DataW.trod enc P w base spare held fuel t cs = some x) : ∃ y, y < 256 ^ 16 ∧ cs = (fpC y).toList := by
  obtain ⟨xs, m, _, _, hl, hxl, hel⟩ := DataW.trod_array ht h
  rw [ct] at hl
  refine bytes_fpC cs hl fun i hi => ?_
  have hE := hel i hi
  rw [c, Nat.mul_one, List.getElem?_eq_getElem (by omega)] at hE
  obtain ⟨n, e1, _, hw⟩ := DataW.trod_int he hE
  refine ⟨n, ?_, hw⟩
  have h0 : ((cs.drop i).take 1)[0]? = some (.int .u8 n) := by rw [e1]; rfl
  simpa using h0

/-- An argument of sixteen bytes. -/
theorem open_fp {r : Reach} {b0 base : Nat} {spare : Nat → Bool} {held : Bool} {t e : TypeId} {v : Value} {d : DataW H} {p : List MemPlace} (ht : P.underlying t = some (.array 16 e)) (he : P.underlying e = some (.int .u8)) (c : P.cellsOf e = 1) (ct : P.cellsOf t = 16)
    (hv : Value.okWide P w r b0 t v) (h : DataW.Trod enc P w base spare held t v d p) : ∃ y, y < 256 ^ 16 ∧ v = .agg (fpC y) := by
  simp only [Value.okWide, ht] at hv
  obtain ⟨cs, rfl, _, _⟩ := hv
  obtain ⟨fuel, hf⟩ := h
  obtain ⟨y, hy, e⟩ := trod_fp ht he c ct hf
  refine ⟨y, hy, ?_⟩
  have : cs.toList = (fpC y).toList := e
  rw [show cs = fpC y from by cases cs; cases hq : fpC y; simp_all]

/-- Two elements in an array. -/
theorem open_fq {r : Reach} {b0 base : Nat} {spare : Nat → Bool} {held : Bool} {t u e : TypeId} {v : Value} {d : DataW H} {p : List MemPlace} (ht : P.underlying t = some (.array 2 u)) (hu : P.underlying u = some (.array 16 e)) (he : P.underlying e = some (.int .u8)) (c : P.cellsOf e = 1) (cu : P.cellsOf u = 16)
    (ct : P.cellsOf t = 32) (hv : Value.okWide P w r b0 t v) (h : DataW.Trod enc P w base spare held t v d p) : ∃ x y, x < 256 ^ 16 ∧ y < 256 ^ 16 ∧ v = .agg (fps [x, y]) := by
  simp only [Value.okWide, ht] at hv
  obtain ⟨cs, rfl, _, _⟩ := hv
  obtain ⟨fuel, hf⟩ := h
  obtain ⟨xs, m, _, _, hl, hxl, hel⟩ := DataW.trod_array ht hf
  have h0 := hel 0 (by omega)
  have h1 := hel 1 (by omega)
  rw [cu, List.getElem?_eq_getElem (by omega)] at h0 h1
  obtain ⟨x, hx, ex⟩ := trod_fp hu he c cu h0
  obtain ⟨y, hy, ey⟩ := trod_fp hu he c cu h1
  refine ⟨x, y, hx, hy, ?_⟩
  have hl' : (cs.toList).length = 32 := by rw [← ct]; exact hl
  have : cs.toList = (fps [x, y]).toList := by
    have e1 : (fps [x, y]).toList = (fpC x).toList ++ (fpC y).toList := by simp [fps]
    rw [e1, ← ex, ← ey]
    simp only [Nat.zero_mul, Nat.one_mul, List.drop_zero]
    have hs : cs.size = 32 := by simpa using hl'
    rw [List.take_of_length_le (l := List.drop 16 _) (by simp [Value.cells]; omega)]
    exact (List.take_append_drop 16 cs.toList).symm
  rw [show cs = fps [x, y] from by cases cs; cases hq : fps [x, y]; simp_all]
end
end Go.FourQ
