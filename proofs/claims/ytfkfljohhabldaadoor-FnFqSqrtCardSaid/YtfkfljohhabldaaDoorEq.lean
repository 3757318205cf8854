/- '==' on arrays. No condition. -/
import Derived.Test.YtfkfljohhabldaaDoorDig
namespace Go.FourQ
open Go.RowKit

section
variable {P : Program}

theorem forIn_all (w : World) (body : Nat → Option Bool × Unit → Sem (ForInStep (Option Bool × Unit))) (f : Nat → Bool) : ∀ (l : List Nat),
    (∀ i ∈ l, (body i (none, ())).run P w = .ok (if f i then .yield (none, ()) else .done (some false, ())) w) →
    (forIn (m := Sem) l ((none, ()) : Option Bool × Unit) body).run P w = .ok (if l.all f then (none, ()) else (some false, ())) w
  | [], _ => by simp
  | i :: l, h => by
    have h1 := h i (by simp)
    have ih := forIn_all w body f l (fun j hj => h j (by simp [hj]))
    rw [List.forIn_cons, Sem.run_bind, h1]
    by_cases hf : f i
    · simp [hf, Result.andThen, ih]
    · simp [hf, Result.andThen]

theorem run_equalIn_array (w : World) (d : Nat) {t e : TypeId} {n s : Nat} {xs ys : Array Value} (ht : P.underlying t = some (.array n e)) (hs : (P.info? e).map (·.size) = some s) (f : Nat → Bool)
    (hf : ∀ i, i < n → (do Op.equalIn d e (← part e xs (i * s)) (← part e ys (i * s))).run P w = .ok (f i) w) :
    (Op.equalIn (d + 1) t (.agg xs) (.agg ys)).run P w = .ok ((List.range n).all f) w := by
  have hsz : (sizeOf e).run P w = .ok s w := by
    cases hq : P.info? e with
    | none => simp [hq] at hs
    | some q =>
      have hs1 : q.size = s := by simpa [hq] using hs
      simp [sizeOf, typeInfo, hq, hs1]
  simp only [Op.equalIn, Sem.run_bind, run_underlying ht, Result.andThen_ok, hsz]
  rw [Std.Legacy.Range.forIn_eq_forIn_range']
  have hl : List.range' [:n].start [:n].size [:n].step = List.range n := by simp [List.range_eq_range', Std.Legacy.Range.size]
  rw [hl, forIn_all w _ f (List.range n) (fun i hi => ?_)]
  · by_cases h : (List.range n).all f
    · rw [if_pos h, h]; simp [Result.andThen]
    · rw [if_neg h]
      have h' : (List.range n).all f = false := by simpa using h
      rw [h']
      simp [Result.andThen]
  · have h := hf i (by simpa using hi)
    simp only [Sem.run_bind] at h ⊢
    cases h1 : (part e xs (i * s)).run P w with
    | halt x w1 => rw [h1] at h; simp [Result.andThen] at h
    | ok a w1 =>
      rw [h1] at h
      simp only [Result.andThen_ok] at h ⊢
      cases h2 : (part e ys (i * s)).run P w1 with
      | halt x w2 => rw [h2] at h; simp [Result.andThen] at h
      | ok b w2 =>
        rw [h2] at h
        simp only [Result.andThen_ok] at h ⊢
        rw [h]
        simp only [Result.andThen_ok]
        cases f i <;> simp

theorem run_part_one {e : TypeId} {cs : Array Value} {i : Nat} {v : Value} {d : TypeDesc} (he : P.underlying e = some d)
    (hd : (match d with | .struct _ | .array _ _ => false | _ => true) = true) (hv : cs[i]? = some v) (w : World) : (part e cs (i * 1)).run P w = .ok v w := by
  have hagg : (isAgg e).run P w = .ok false w := by
    unfold isAgg
    rw [Sem.run_bind, run_underlying he w]
    cases d <;> simp_all
  simp [part, Sem.run_bind, hagg, hv]

theorem run_part_agg {e : TypeId} {s : Nat} {cs : Array Value} {o : Nat} {d : TypeDesc} (he : P.underlying e = some d)
    (hd : (match d with | .struct _ | .array _ _ => true | _ => false) = true) (hs : (P.info? e).map (·.size) = some s) (w : World) : (part e cs o).run P w = .ok (.agg (cs.extract o (o + s))) w := by
  have hagg : (isAgg e).run P w = .ok true w := by
    unfold isAgg
    rw [Sem.run_bind, run_underlying he w]
    cases d <;> simp_all
  cases hq : P.info? e with
  | none => simp [hq] at hs
  | some q =>
    have hs1 : q.size = s := by simpa [hq] using hs
    simp [part, Sem.run_bind, hagg, sizeOf, typeInfo, hq, hs1]

/-- '==' on arrays of integers of one kind. -/
theorem run_eq_ints (d : Nat) {t e : TypeId} {n : Nat} {k : IntKind} {xs ys : Array Value} (ht : P.underlying t = some (.array n e)) (hs : (P.info? e).map (·.size) = some 1) (he : P.underlying e = some (.int k))
    (a b : Nat → Int) (ha : ∀ i, i < n → xs[i]? = some (.int k (a i))) (hb : ∀ i, i < n → ys[i]? = some (.int k (b i))) (w : World) :
    (Op.equalIn (d + 2) t (.agg xs) (.agg ys)).run P w = .ok ((List.range n).all fun i => a i == b i) w :=
  run_equalIn_array w (d + 1) ht hs _ fun i hi => by
    have p1 := run_part_one (P := P) (d := .int k) he rfl (ha i hi) w
    have p2 := run_part_one (P := P) (d := .int k) he rfl (hb i hi) w
    rw [Sem.run_bind, p1, Result.andThen_ok, Sem.run_bind, p2, Result.andThen_ok]
    exact run_equalIn_int w d e k k _ _ he

theorem run_eql_agg (w : World) (t : TypeId) (xs ys : Array Value) (b : Bool) (h : (Op.equalIn 10000 t (.agg xs) (.agg ys)).run P w = .ok b w) : (binOp .eql t (.agg xs) (.agg ys)).run P w = .ok (.bool b) w := by
  rw [run_eql_struct, h]; rfl

theorem run_neq_agg (w : World) (t : TypeId) (xs ys : Array Value) (b : Bool) (h : (Op.equalIn 10000 t (.agg xs) (.agg ys)).run P w = .ok b w) : (binOp .neq t (.agg xs) (.agg ys)).run P w = .ok (.bool !b) w := by
  rw [run_neq_struct, h]; rfl

theorem mod_ext (B x y : Nat) : ∀ n, (∀ i, i < n → x / B ^ i % B = y / B ^ i % B) → x % B ^ n = y % B ^ n
  | 0, _ => by rw [Nat.pow_zero, Nat.mod_one, Nat.mod_one]
  | n + 1, h => by
    rw [Nat.pow_succ, Nat.mod_mul, Nat.mod_mul, mod_ext B x y n (fun i hi => h i (by omega)), h n (by omega)]

/-- Elements are the same bytes just where they are the same number. -/
theorem fpC_beq {x y : Nat} (hx : x < 256 ^ 16) (hy : y < 256 ^ 16) : ((List.range 16).all fun i => ((x / 256 ^ i % 256 : Nat) : Int) == ((y / 256 ^ i % 256 : Nat) : Int)) = decide (x = y) := by
  rw [Bool.eq_iff_iff]
  simp only [List.all_eq_true, List.mem_range, beq_iff_eq, decide_eq_true_eq]
  constructor
  · intro h
    have e := mod_ext 256 x y 16 (fun i hi => by have := h i hi; omega)
    rwa [Nat.mod_eq_of_lt hx, Nat.mod_eq_of_lt hy] at e
  · rintro rfl i _
    rfl

theorem digs_beq {x y : Nat} (hx : x < 65536 ^ 8) (hy : y < 65536 ^ 8) : ((List.range 8).all fun i => ((x / 65536 ^ i % 65536 : Nat) : Int) == ((y / 65536 ^ i % 65536 : Nat) : Int)) = decide (x = y) := by
  rw [Bool.eq_iff_iff]
  simp only [List.all_eq_true, List.mem_range, beq_iff_eq, decide_eq_true_eq]
  constructor
  · intro h
    have e := mod_ext 65536 x y 8 (fun i hi => by have := h i hi; omega)
    rwa [Nat.mod_eq_of_lt hx, Nat.mod_eq_of_lt hy] at e
  · rintro rfl i _
    rfl

/-- '==' on elements of 16 bytes. -/
theorem eql_fpC {t e : TypeId} {x y : Nat} (ht : P.underlying t = some (.array 16 e)) (hs : (P.info? e).map (·.size) = some 1) (he : P.underlying e = some (.int .u8)) (hx : x < 256 ^ 16) (hy : y < 256 ^ 16) (w : World) :
    (binOp .eql t (.agg (fpC x)) (.agg (fpC y))).run P w = .ok (.bool (decide (x = y))) w := by
  rw [← fpC_beq hx hy]
  exact run_eql_agg w t _ _ _ (run_eq_ints 9998 ht hs he _ _ (fun i hi => fpC_get x i hi) (fun i hi => fpC_get y i hi) w)

theorem neq_fpC {t e : TypeId} {x y : Nat} (ht : P.underlying t = some (.array 16 e)) (hs : (P.info? e).map (·.size) = some 1) (he : P.underlying e = some (.int .u8)) (hx : x < 256 ^ 16) (hy : y < 256 ^ 16) (w : World) :
    (binOp .neq t (.agg (fpC x)) (.agg (fpC y))).run P w = .ok (.bool (!decide (x = y))) w := by
  rw [← fpC_beq hx hy]
  exact run_neq_agg w t _ _ _ (run_eq_ints 9998 ht hs he _ _ (fun i hi => fpC_get x i hi) (fun i hi => fpC_get y i hi) w)

/-- '==' on numbers of eight digits. -/
theorem eql_digs {t e : TypeId} {x y : Nat} (ht : P.underlying t = some (.array 8 e)) (hs : (P.info? e).map (·.size) = some 1) (he : P.underlying e = some (.int .u64)) (hx : x < 65536 ^ 8) (hy : y < 65536 ^ 8) (w : World) :
    (binOp .eql t (.agg (dgA (digs 8 x))) (.agg (dgA (digs 8 y)))).run P w = .ok (.bool (decide (x = y))) w := by
  rw [← digs_beq hx hy]
  exact run_eql_agg w t _ _ _ (run_eq_ints 9998 ht hs he _ _ (fun i hi => dgA_get (digs_get 8 x i hi)) (fun i hi => dgA_get (digs_get 8 y i hi)) w)

end
end Go.FourQ
