/- Conditional moves without a case: by a number that is 0 or 1. Different places. -/
import Derived.Test.YtfkfljohhabldaaDoorSto
namespace Go.FourQ
open Go.RowKit
/-- A list with two neighbours laid anew. -/
def cl (L : List Zp) (k : Nat) (p q : Zp) : List Zp := (L.set k p).set (k + 1) q
theorem cl_len (L : List Zp) (k : Nat) (p q : Zp) : (cl L k p q).length = L.length := by simp [cl]
theorem cl_self {L : List Zp} {k : Nat} {p q : Zp} (hp : L[k]? = some p) (hq : L[k + 1]? = some q) : cl L k p q = L := by
  unfold cl; rw [set_self hp, set_self hq]
theorem cl_fst {L : List Zp} {k : Nat} (p q p' : Zp) : (cl L k p q).set k p' = cl L k p' q := by
  unfold cl; rw [List.set_comm _ _ (by omega), List.set_set]
theorem cl_snd {L : List Zp} {k : Nat} (p q q' : Zp) : (cl L k p q).set (k + 1) q' = cl L k p q' := by
  unfold cl; rw [List.set_set]
theorem cl_get0 {L : List Zp} {k : Nat} (h : k + 1 < L.length) (p q : Zp) : (cl L k p q)[k]? = some p := by
  unfold cl; rw [List.getElem?_set_ne (by omega), List.getElem?_set_self (by omega)]
theorem cl_get1 {L : List Zp} {k : Nat} (h : k + 1 < L.length) (p q : Zp) : (cl L k p q)[k + 1]? = some q := by
  unfold cl; rw [List.getElem?_set_self (by rw [List.length_set]; exact h)]
theorem cl_lt0 {L : List Zp} {k : Nat} (h : k + 1 < L.length) (p q : Zp) : k < (cl L k p q).length := by rw [cl_len]; omega
theorem cl_lt1 {L : List Zp} {k : Nat} (h : k + 1 < L.length) (p q : Zp) : k + 1 < (cl L k p q).length := by rw [cl_len]; exact h
theorem FpsZ.two2 {w : World} {b k : Nat} {L : List Zp} {x y : Zp} (h : FpsZ w b L) (i0 : L[k]? = some x) (i1 : L[k + 1]? = some y) :
    ∃ l u v, Fps w b l ∧ l[k]? = some u ∧ l[k + 1]? = some v ∧ zp u = x ∧ zp v = y ∧ LowB u ∧ LowB v := by
  obtain ⟨l, hF, e, hl⟩ := h
  subst e
  rw [List.getElem?_map] at i0 i1
  obtain ⟨u, hu, rfl⟩ := Option.map_eq_some_iff.1 i0
  obtain ⟨v, hv, rfl⟩ := Option.map_eq_some_iff.1 i1
  exact ⟨l, u, v, hF, hu, hv, rfl, rfl, hl u (List.mem_of_getElem? hu), hl v (List.mem_of_getElem? hv)⟩
end Go.FourQ
namespace Go.Proofs.YtfkfljohhabldaaDoor
open Go.RowKit Go.FourQ

theorem ModW.sto {w wr : World} {s : List (Nat × List Zp)} (h : ModW w) (g : Sto w s wr) (hk : ∀ p ∈ s, p.1 ≠ 4) : ModW wr := h.of_heap (g.other _ h.lt hk)

section
variable {w wr : World} {s : List (Nat × List Zp)} {i b1 b2 o1 o2 k1 : Nat} {L1 : List Zp} {x y x0 x1 y0 y1 : Zp} {v : Int}

theorem stSel (hv : v = 0 ∨ v = 1) (h : Sto w s wr) (hi : s[i]? = some (b1, L1)) (e1 : o1 = 16 * k1) (i1 : L1[k1]? = some x) (h2 : At wr b2 o2 y) (hne : b2 ≠ b1 ∨ o2 ≠ o1) :
    Calls Tryd.prog 106 #[.int .i64 v, .slice (some ⟨b1, o1, none⟩) 16 16, .slice (some ⟨b2, o2, none⟩) 16 16] wr fun e w' => e = .returned (.tuple #[]) ∧ Sto w (s.set i (b1, L1.set k1 (if v = 1 then y else x))) w' := by
  have hk := (List.getElem?_eq_some_iff.1 i1).1
  rcases hv with rfl | rfl
  · rw [if_neg (by decide), set_self i1]
    exact (ctZ0 (h.blk i b1 L1 hi) h2 e1 hk hne).mono fun _ _ q => ⟨q.1, h.upd hi q.2⟩
  · rw [if_pos rfl]
    exact (ctZ1 (h.blk i b1 L1 hi) h2 e1 hk hne).mono fun _ _ q => ⟨q.1, h.upd hi q.2⟩

theorem stCmov (hv : v = 0 ∨ v = 1) (h : Sto w s wr) (hi : s[i]? = some (b1, L1)) (e1 : o1 = 16 * k1) (i0 : L1[k1]? = some x0) (i1 : L1[k1 + 1]? = some x1) (hA : AtQ wr b2 o2 y0 y1)
    (d0 : b2 ≠ b1 ∨ o2 ≠ o1) (d1 : b2 ≠ b1 ∨ o2 + 16 ≠ o1) (d2 : b2 ≠ b1 ∨ o2 + 16 ≠ o1 + 16) :
    Calls Tryd.prog 110 #[.pointer (some ⟨b1, o1, none⟩), .pointer (some ⟨b2, o2, none⟩), .int .i64 v] wr fun e w' => e = .returned (.tuple #[]) ∧ Sto w (s.set i (b1, (L1.set k1 (if v = 1 then y0 else x0)).set (k1 + 1) (if v = 1 then y1 else x1))) w' := by
  have hk := (List.getElem?_eq_some_iff.1 i1).1
  rcases hv with rfl | rfl
  · rw [if_neg (by decide), if_neg (by decide), set_self i0, set_self i1]
    exact (fqCmov0 (h.blk i b1 L1 hi) hA e1 hk d0 d2).mono fun _ _ q => ⟨q.1, h.upd hi q.2⟩
  · rw [if_pos rfl, if_pos rfl]
    exact (fqCmov1 (h.blk i b1 L1 hi) hA e1 hk d0 d1 d2).mono fun _ _ q => ⟨q.1, h.upd hi q.2⟩

theorem isz01 (z : Nat) : isz z = 0 ∨ isz z = 1 := by
  unfold isz
  by_cases h : z = 0
  · rw [if_pos h]; exact .inr rfl
  · rw [if_neg h]; exact .inl rfl
theorem stSgnQ (hm : ModW wr) (hg : 4 < b1) (h : Sto w s wr) (hi : s[i]? = some (b1, L1)) (e1 : o1 = 16 * k1) (i0 : L1[k1]? = some x0) (i1 : L1[k1 + 1]? = some x1) :
    Calls Tryd.prog 86 #[.pointer (some ⟨b1, o1, none⟩)] wr fun e w' => e = .returned (.int .i64 (sgnQ x0 x1)) ∧ Sto w (s.set i (b1, L1)) w' :=
  (fqSgn hm hg (h.blk i b1 L1 hi) e1 i0 i1).mono fun _ _ q => ⟨q.1, h.upd hi q.2⟩

theorem stNegQ (hm : ModW wr) (hg : 4 < b1) (h : Sto w s wr) (hi : s[i]? = some (b1, L1)) (e1 : o1 = 16 * k1) (i1 : k1 + 1 < L1.length) (hA : AtQ wr b2 o2 x0 x1) (dA : b2 ≠ b1 ∨ o2 + 16 ≠ o1) :
    Calls Tryd.prog 112 #[.pointer (some ⟨b1, o1, none⟩), .pointer (some ⟨b2, o2, none⟩)] wr fun e w' => e = .returned (.tuple #[]) ∧ Sto w (s.set i (b1, (L1.set k1 (-x0)).set (k1 + 1) (-x1))) w' :=
  (fqNeg hm hg (h.blk i b1 L1 hi) hA e1 i1 dA rfl rfl).mono fun _ _ q => ⟨q.1, h.upd hi q.2⟩

/-- 1 of what is not 0. -/
def nz (x : Nat) : Int := IntKind.i64.wrap (1 - isz x)
theorem nz_eq (x : Nat) : nz x = if x = 0 then 0 else 1 := by
  unfold nz isz
  by_cases h : x = 0
  · rw [if_pos h, if_pos h]; rfl
  · rw [if_neg h, if_neg h]; rfl
theorem nz01 (x : Nat) : nz x = 0 ∨ nz x = 1 := by
  rw [nz_eq]
  by_cases h : x = 0
  · rw [if_pos h]; exact .inl rfl
  · rw [if_neg h]; exact .inr rfl
/-- 1 of two equal numbers. -/
def ceq (x y : Int) : Int := if x = y then 1 else 0
/-- 1 of two different numbers. -/
def df (x y : Int) : Int := IntKind.i64.wrap (1 - (if IntKind.i32.wrap x = IntKind.i32.wrap y then 1 else 0))
theorem df_eq (x y : Int) : df x y = if IntKind.i32.wrap x = IntKind.i32.wrap y then 0 else 1 := by
  unfold df
  by_cases h : IntKind.i32.wrap x = IntKind.i32.wrap y
  · rw [if_pos h, if_pos h]; rfl
  · rw [if_neg h, if_neg h]; rfl
theorem df01 (x y : Int) : df x y = 0 ∨ df x y = 1 := by
  rw [df_eq]
  by_cases h : IntKind.i32.wrap x = IntKind.i32.wrap y
  · rw [if_pos h]; exact .inl rfl
  · rw [if_neg h]; exact .inr rfl

theorem ctEq (x y : Int) (w : World) :
    Calls Tryd.prog 111 #[.int .i32 x, .int .i32 y] w fun e w' => e = .returned (.int .i64 (if x = y then 1 else 0)) ∧ w = w' := by
  have c1 := boolU8 true
  have c2 := boolU8 false
  simp only [if_true, Bool.false_eq_true, if_false] at c1 c2
  by_cases h : x = y
  · rw [if_pos h]
    subst h
    go_enter Tryd.func111, Tryd.ntmps111
    go_wp2
    go_ret
    exact ⟨rfl, rfl⟩
  · have h' : (x == y) = false := by simp; exact h
    rw [if_neg h]
    clear h
    go_enter Tryd.func111, Tryd.ntmps111
    go_wp2
    go_ret
    exact ⟨rfl, rfl⟩
theorem ctEqS (x y : Int) (h : Sto w s wr) :
    Calls Tryd.prog 111 #[.int .i32 x, .int .i32 y] wr fun e w' => e = .returned (.int .i64 (ceq x y)) ∧ Sto w s w' :=
  (ctEq x y wr).mono fun _ _ q => ⟨q.1, q.2 ▸ h⟩
end
end Go.Proofs.YtfkfljohhabldaaDoor
