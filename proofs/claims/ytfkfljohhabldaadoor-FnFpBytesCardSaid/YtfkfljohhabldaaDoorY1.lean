/- Part 1 of what the laws lean on: arithmetic, walks through the functions, the curve. -/
import Derived.BigQuiet
import Derived.Deep.Cut
import Derived.Deep.LoopGhost
import Derived.Deep.QuietTactic
import Derived.Great.BuildSlice
import Derived.Ground.MnProg
import Derived.KernelRfl
import Derived.LaidMore
import Derived.Laws.Append
import Derived.Laws.CopyRow
import Derived.Laws.IdiomCopy
import Derived.Laws.MakeOwn
import Derived.Lay
import Derived.Lib.Endian
import Derived.Lib.EndianBits
import Derived.Lib.EndianMore
import Derived.Lib.Hide
import Derived.Lib.LaidTab
import Derived.Lib.SliceRun
import Derived.OpenShut
import Derived.OpenVars
import Derived.OrdersHeld
import Derived.ProofKit
import Derived.SevenTiedAt
import Derived.Shelf.Bin.LEPutUint64
import Derived.Shelf.Bin.LEUint64
import Derived.Shelf.Bits.Mul64
import Derived.Shelf.Spec.BitsCarry
import Derived.StillTailTactics
import Derived.Stop.Joined
import Derived.Test.YtfkfljohhabldaaDoorProg
import Derived.Test.YtfkfljohhabldaaDoorRows
import Derived.WalkKit
import Derived.WalkLawsBesides
import Derived.WalkSpells
namespace Go.FourQ
/-- A prime number. -/
def Prim (r : Nat) : Prop := 2 ≤ r ∧ ∀ d, d ∣ r → d = 1 ∨ d = r
theorem Prim.coprime {r a : Nat} (h : Prim r) (ha : ¬ r ∣ a) : Nat.Coprime r a := by
  rcases h.2 (Nat.gcd r a) (Nat.gcd_dvd_left r a) with h1 | h1
  · exact h1
  · exact absurd (h1 ▸ Nat.gcd_dvd_right r a) ha
theorem Prim.dvd_mul {r a b : Nat} (h : Prim r) (hd : r ∣ a * b) : r ∣ a ∨ r ∣ b := by
  by_cases ha : r ∣ a
  · exact .inl ha
  · exact .inr ((h.coprime ha).dvd_of_dvd_mul_left hd)
/-- A list without repetitions that lies in another one of no greater length is a rearrangement of it. -/
theorem perm_of_sub {α : Type} [DecidableEq α] : ∀ (l m : List α), l.Nodup → (∀ x ∈ l, x ∈ m) → m.length ≤ l.length → l.Perm m
  | [], m, _, _, hl => by
    have : m = [] := List.eq_nil_of_length_eq_zero (by simpa using hl)
    subst this; exact List.Perm.refl _
  | a :: l, m, hn, hs, hl => by
    have ha : a ∈ m := hs a (by simp)
    rw [List.nodup_cons] at hn
    have ih := perm_of_sub l (m.erase a) hn.2 (fun x hx => by
      have hne : x ≠ a := fun e => hn.1 (by rw [← e]; exact hx)
      exact (List.mem_erase_of_ne hne).2 (hs x (by simp [hx]))) (by
      rw [List.length_erase_of_mem ha]
      simp at hl
      omega)
    exact (ih.cons a).trans (List.perm_cons_erase ha).symm
/-- The product of a list of numbers. -/
def prodN : List Nat → Nat
  | [] => 1
  | x :: l => x * prodN l
theorem prodN_perm {l m : List Nat} (h : l.Perm m) : prodN l = prodN m := by
  induction h with
  | nil => rfl
  | cons x _ ih => simp [prodN, ih]
  | swap x y l => simp [prodN, Nat.mul_left_comm]
  | trans _ _ ih1 ih2 => exact ih1.trans ih2
theorem prodN_map_mod (a r : Nat) : ∀ l : List Nat, prodN (l.map fun x => a * x % r) % r = a ^ l.length * prodN l % r
  | [] => by simp [prodN]
  | x :: l => by
    have ih := prodN_map_mod a r l
    simp only [List.map_cons, prodN, List.length_cons]
    rw [Nat.mul_mod, ih, ← Nat.mul_mod, Nat.mul_mod, Nat.mod_mod, ← Nat.mul_mod]
    congr 1
    rw [Nat.pow_succ]
    simp [Nat.mul_assoc, Nat.mul_left_comm, Nat.mul_comm]
theorem prodN_coprime {r : Nat} (h : Prim r) : ∀ l : List Nat, (∀ x ∈ l, ¬ r ∣ x) → ¬ r ∣ prodN l
  | [], _ => fun hd => by
    have := Nat.le_of_dvd (by simp [prodN]) hd
    have := h.1
    simp [prodN] at *
    omega
  | x :: l, hl => fun hd => by
    rcases h.dvd_mul hd with h1 | h1
    · exact hl x (by simp) h1
    · exact prodN_coprime h l (fun y hy => hl y (by simp [hy])) h1
theorem dvd_sub_of_mod {r a b : Nat} (h : a % r = b % r) (hab : b ≤ a) : r ∣ a - b := by
  have e1 := Nat.div_add_mod a r
  have e2 := Nat.div_add_mod b r
  refine ⟨a / r - b / r, ?_⟩
  rw [Nat.mul_sub]
  omega
theorem mod_cancel {r a x y : Nat} (h : Nat.Coprime r a) (he : a * x % r = a * y % r) : x % r = y % r := by
  rcases Nat.le_total y x with hl | hl
  · have h1 : r ∣ a * x - a * y := dvd_sub_of_mod he (Nat.mul_le_mul_left a hl)
    rw [← Nat.mul_sub] at h1
    obtain ⟨k, hk⟩ := h.dvd_of_dvd_mul_left h1
    have : x = y + r * k := by omega
    rw [this, Nat.add_mul_mod_self_left]
  · have h1 : r ∣ a * y - a * x := dvd_sub_of_mod he.symm (Nat.mul_le_mul_left a hl)
    rw [← Nat.mul_sub] at h1
    obtain ⟨k, hk⟩ := h.dvd_of_dvd_mul_left h1
    have : y = x + r * k := by omega
    rw [this, Nat.add_mul_mod_self_left]
theorem map_nodup {α β : Type} (f : α → β) : ∀ l : List α, l.Nodup → (∀ x ∈ l, ∀ y ∈ l, f x = f y → x = y) → (l.map f).Nodup
  | [], _, _ => by simp
  | a :: l, hn, hf => by
    rw [List.nodup_cons] at hn
    rw [List.map_cons, List.nodup_cons]
    refine ⟨fun hm => ?_, map_nodup f l hn.2 fun x hx y hy => hf x (by simp [hx]) y (by simp [hy])⟩
    obtain ⟨b, hb, he⟩ := List.mem_map.1 hm
    have := hf b (by simp [hb]) a (by simp) he
    exact hn.1 (this ▸ hb)
theorem range_nodup : ∀ n, (List.range n).Nodup
  | 0 => by simp
  | n + 1 => by
    rw [List.range_succ, List.nodup_append]
    refine ⟨range_nodup n, by simp, ?_⟩
    intro a ha b hb
    simp at ha hb
    omega
/-- Fermat's little theorem. -/
theorem fermat {r a : Nat} (h : Prim r) (ha : ¬ r ∣ a) : a ^ (r - 1) % r = 1 := by
  have h2 := h.1
  have hmem : ∀ x, x ∈ (List.range (r - 1)).map (· + 1) ↔ 1 ≤ x ∧ x < r := by
    intro x
    simp only [List.mem_map, List.mem_range]
    constructor
    · rintro ⟨y, hy, rfl⟩; omega
    · intro hx; exact ⟨x - 1, by omega, by omega⟩
  have hnd : ((List.range (r - 1)).map (· + 1)).Nodup := map_nodup _ _ (range_nodup _) (by intro x _ y _ e; omega)
  have hlen : ((List.range (r - 1)).map (· + 1)).length = r - 1 := by simp
  generalize (List.range (r - 1)).map (· + 1) = l at hmem hnd hlen
  have hnot : ∀ x ∈ l, ¬ r ∣ x := fun x hx hd => by
    have h1 := (hmem x).1 hx
    have := Nat.le_of_dvd (by omega) hd
    omega
  have hinj : ∀ x ∈ l, ∀ y ∈ l, a * x % r = a * y % r → x = y := by
    intro x hx y hy e
    have h3 := mod_cancel (h.coprime ha) e
    have h4 := (hmem x).1 hx
    have h5 := (hmem y).1 hy
    rwa [Nat.mod_eq_of_lt h4.2, Nat.mod_eq_of_lt h5.2] at h3
  have hperm : (l.map fun x => a * x % r).Perm l := perm_of_sub _ _ (map_nodup _ _ hnd hinj) (by
    intro x hx
    obtain ⟨y, hy, rfl⟩ := List.mem_map.1 hx
    rw [hmem]
    refine ⟨?_, Nat.mod_lt _ (by omega)⟩
    rcases Nat.eq_zero_or_pos (a * y % r) with h0 | h0
    · rcases h.dvd_mul (Nat.dvd_of_mod_eq_zero h0) with h6 | h6
      · exact absurd h6 ha
      · exact absurd h6 (hnot y hy)
    · exact h0) (by simp)
  have he := prodN_map_mod a r l
  rw [prodN_perm hperm, hlen] at he
  have hc := h.coprime (prodN_coprime h l hnot)
  have h7 : prodN l * 1 % r = prodN l * a ^ (r - 1) % r := by rw [Nat.mul_one, he, Nat.mul_comm]
  have h8 := mod_cancel hc h7
  rw [← h8, Nat.mod_eq_of_lt (by omega)]
/-- a to the power of e modulo m, e below 2^f. -/
def pwm (m : Nat) : Nat → Nat → Nat → Nat
  | 0, _, _ => 1 % m
  | f + 1, a, e => if e % 2 = 1 then pwm m f (a * a % m) (e / 2) * a % m else pwm m f (a * a % m) (e / 2)
theorem pow_mod_left (a m e : Nat) : (a % m) ^ e % m = a ^ e % m := by rw [← Nat.pow_mod]
theorem pwm_eq (m : Nat) : ∀ f a e, e < 2 ^ f → pwm m f a e = a ^ e % m
  | 0, a, e, h => by
    have : e = 0 := by simpa using h
    subst this; rfl
  | f + 1, a, e, h => by
    have ih := pwm_eq m f (a * a % m) (e / 2) (by rw [Nat.pow_succ] at h; omega)
    have e1 : (a * a % m) ^ (e / 2) % m = a ^ (2 * (e / 2)) % m := by
      rw [pow_mod_left, ← Nat.pow_two, ← Nat.pow_mul]
    unfold pwm
    split
    · rename_i ho
      rw [ih, e1, Nat.mul_mod, Nat.mod_mod, ← Nat.mul_mod, ← Nat.pow_succ]
      congr 2
      omega
    · rename_i ho
      rw [ih, e1]
      congr 2
      omega
theorem pow_gcd {r a : Nat} : ∀ (m n : Nat), a ^ m % r = 1 % r → a ^ n % r = 1 % r → a ^ (Nat.gcd m n) % r = 1 % r := by
  intro m n
  induction m, n using Nat.gcd.induction with
  | H0 n => intro _ h; simpa using h
  | H1 m n hm ih =>
    intro h1 h2
    rw [Nat.gcd_rec]
    refine ih ?_ h1
    have e := Nat.div_add_mod n m
    have h3 : a ^ n % r = a ^ (n % m) % r := by
      conv => lhs; rw [← e]
      rw [Nat.pow_add, Nat.pow_mul, Nat.mul_mod, Nat.pow_mod, h1, ← Nat.pow_mod, Nat.one_pow, ← Nat.mul_mod, Nat.one_mul]
    rw [← h3]; exact h2
/-- A number without a divisor up to its root is prime. -/
theorem prim_of_trial {n k : Nat} (h2 : 2 ≤ n) (hk : n < k * k) (h : ∀ d, 2 ≤ d → d < k → n % d ≠ 0) : Prim n := by
  refine ⟨h2, fun d hd => ?_⟩
  obtain ⟨e, he⟩ := hd
  have hd0 : d ≠ 0 := fun h0 => by subst h0; simp at he; omega
  have he0 : e ≠ 0 := fun h0 => by subst h0; simp at he; omega
  by_cases h1 : d = 1
  · exact .inl h1
  by_cases h3 : e = 1
  · subst h3; simp at he; exact .inr he.symm
  exfalso
  rcases Nat.lt_or_ge d k with hl | hl
  · exact h d (by omega) hl (by rw [he]; exact Nat.mul_mod_right d e)
  · rcases Nat.lt_or_ge e k with hl' | hl'
    · exact h e (by omega) hl' (by rw [he]; exact Nat.mul_mod_left d e)
    · have := Nat.mul_le_mul hl hl'
      omega
def trial (n k : Nat) : Bool := (List.range k).all fun d => decide (d < 2) || decide (n % d ≠ 0)
theorem prim_of_trialB {n k : Nat} (h2 : 2 ≤ n) (hk : n < k * k) (h : trial n k = true) : Prim n := by
  refine prim_of_trial h2 hk fun d h3 h4 => ?_
  unfold trial at h
  rw [List.all_eq_true] at h
  have := h d (by simpa using h4)
  simp at this
  rcases this with h5 | h5
  · omega
  · exact h5
/-- Each number but 1 has a prime divisor; one that is not prime has one whose square it is not below. -/
theorem exists_prim : ∀ n, 2 ≤ n → ∃ r, Prim r ∧ r ∣ n := by
  intro n
  induction n using Nat.strongRecOn with
  | ind n ih =>
    intro h2
    by_cases hp : Prim n
    · exact ⟨n, hp, Nat.dvd_refl n⟩
    · have : ∃ d, d ∣ n ∧ d ≠ 1 ∧ d ≠ n := by
        refine Classical.byContradiction fun hne => hp ⟨h2, fun d hd => ?_⟩
        by_cases h1 : d = 1
        · exact .inl h1
        · refine .inr (Classical.byContradiction fun h3 => hne ⟨d, hd, h1, h3⟩)
      obtain ⟨d, hd, h1, h3⟩ := this
      have hle := Nat.le_of_dvd (by omega) hd
      have hd0 : d ≠ 0 := fun h0 => by subst h0; have := Nat.eq_zero_of_zero_dvd hd; omega
      obtain ⟨r, hr, hrd⟩ := ih d (by omega) (by omega)
      exact ⟨r, hr, Nat.dvd_trans hrd hd⟩
theorem exists_small_prim {n : Nat} (h2 : 2 ≤ n) (hp : ¬ Prim n) : ∃ r, Prim r ∧ r ∣ n ∧ r * r ≤ n := by
  have : ∃ d, d ∣ n ∧ d ≠ 1 ∧ d ≠ n := by
    refine Classical.byContradiction fun hne => hp ⟨h2, fun d hd => ?_⟩
    by_cases h1 : d = 1
    · exact .inl h1
    · refine .inr (Classical.byContradiction fun h3 => hne ⟨d, hd, h1, h3⟩)
  obtain ⟨d, ⟨e, he⟩, h1, h3⟩ := this
  have hd0 : d ≠ 0 := fun h0 => by subst h0; simp at he; omega
  have he0 : e ≠ 0 := fun h0 => by subst h0; simp at he; omega
  have he1 : e ≠ 1 := fun h0 => by subst h0; simp at he; omega
  rcases Nat.le_total d e with hl | hl
  · obtain ⟨r, hr, hrd⟩ := exists_prim d (by omega)
    have h5 := Nat.le_of_dvd (by omega) hrd
    exact ⟨r, hr, Nat.dvd_trans hrd ⟨e, he⟩, by rw [he]; exact Nat.le_trans (Nat.mul_le_mul h5 h5) (Nat.mul_le_mul_left d hl)⟩
  · obtain ⟨r, hr, hrd⟩ := exists_prim e (by omega)
    have h5 := Nat.le_of_dvd (by omega) hrd
    exact ⟨r, hr, Nat.dvd_trans hrd ⟨d, by rw [he, Nat.mul_comm]⟩, by rw [he]; exact Nat.le_trans (Nat.mul_le_mul h5 h5) (Nat.mul_le_mul_right e hl)⟩
/-- One step of Pocklington's criterion: a prime divisor q of n - 1 divides r - 1 for each prime divisor r of n. -/
theorem pock_step {n a q m r u v : Nat} (hr : Prim r) (hrn : r ∣ n) (hn : n - 1 = q * m) (hq : Prim q)
    (h1 : a ^ (n - 1) % n = 1) (hn2 : 2 ≤ n) (hb : u * (a ^ m % n) = v * n + u + 1) : q ∣ r - 1 := by
  refine Classical.byContradiction fun hqr => ?_
  have hr2 := hr.1
  have e1 : a ^ (n - 1) % r = 1 % r := by
    rw [← Nat.mod_mod_of_dvd _ hrn, h1]
  have hra : ¬ r ∣ a := fun hd => by
    have h0 : a ^ (n - 1) % r = 0 := by
      rw [Nat.pow_mod, Nat.mod_eq_zero_of_dvd hd, Nat.zero_pow (by omega)]
      exact Nat.zero_mod r
    rw [h0, Nat.mod_eq_of_lt (by omega)] at e1
    omega
  have e2 : a ^ (r - 1) % r = 1 % r := by rw [fermat hr hra, Nat.mod_eq_of_lt (by omega)]
  have e3 := pow_gcd (n - 1) (r - 1) e1 e2
  have hg : ¬ q ∣ Nat.gcd (n - 1) (r - 1) := fun hd => hqr (Nat.dvd_trans hd (Nat.gcd_dvd_right _ _))
  have hgm : Nat.gcd (n - 1) (r - 1) ∣ m := by
    have h5 : Nat.gcd (n - 1) (r - 1) ∣ q * m := hn ▸ Nat.gcd_dvd_left _ _
    exact (hq.coprime hg).symm.dvd_of_dvd_mul_left h5
  obtain ⟨k, hk⟩ := hgm
  have e4 : a ^ m % r = 1 % r := by
    rw [hk, Nat.pow_mul, Nat.pow_mod, e3, ← Nat.pow_mod, Nat.one_pow]
  have e5 : a ^ m % n % r = 1 % r := by rw [Nat.mod_mod_of_dvd _ hrn]; exact e4
  have e6 : (u * (a ^ m % n)) % r = u % r := by
    rw [Nat.mul_mod, e5, ← Nat.mul_mod, Nat.mul_one]
  rw [hb] at e6
  obtain ⟨c, hc⟩ := hrn
  have e7 : (v * n + u + 1) % r = (u + 1) % r := by
    rw [hc, Nat.add_assoc, Nat.mul_left_comm, Nat.mul_add_mod]
  rw [e7] at e6
  have h9 : r ∣ (u + 1) - u := dvd_sub_of_mod e6 (by omega)
  have : (u + 1) - u = 1 := by omega
  rw [this] at h9
  have := Nat.le_of_dvd (by omega) h9
  omega
/-- The prime 2^127 - 1. -/
def pp : Nat := 170141183460469231731687303715884105727
theorem prim_127 : Prim 127 := prim_of_trialB (k := 12) (by decide) (by decide) (by decide +kernel)
theorem prim_337 : Prim 337 := prim_of_trialB (k := 19) (by decide) (by decide) (by decide +kernel)
theorem prim_5419 : Prim 5419 := prim_of_trialB (k := 74) (by decide) (by decide) (by decide +kernel)
theorem prim_92737 : Prim 92737 := prim_of_trialB (k := 305) (by decide) (by decide) (by decide +kernel)
theorem prim_649657 : Prim 649657 := prim_of_trialB (k := 807) (by decide) (by decide) (by decide +kernel)
theorem pock_step' {n a q m r u v f : Nat} (hr : Prim r) (hrn : r ∣ n) (hn : n - 1 = q * m) (hq : Prim q)
    (hf : n - 1 < 2 ^ f) (h1 : pwm n f a (n - 1) = 1) (hn2 : 2 ≤ n) (hf' : m < 2 ^ f) (hb : u * pwm n f a m = v * n + u + 1) : q ∣ r - 1 := by
  rw [pwm_eq n f a _ hf] at h1
  rw [pwm_eq n f a _ hf'] at hb
  exact pock_step hr hrn hn hq h1 hn2 hb
theorem pw_one : pwm pp 127 3 (pp - 1) = 1 := by decide +kernel
theorem step_127 {r : Nat} (hr : Prim r) (hrn : r ∣ pp) : 127 ∣ r - 1 :=
  pock_step' (a := 3) (m := 1339694357956450643556592942644756738) (u := 5488341524916963360354409925121738817) (v := 39932940307458654281467970) (f := 127) hr hrn (by decide +kernel) prim_127 (by decide +kernel) pw_one (by decide +kernel) (by decide +kernel) (by decide +kernel)
theorem step_337 {r : Nat} (hr : Prim r) (hrn : r ∣ pp) : 337 ∣ r - 1 :=
  pock_step' (a := 3) (m := 504869980594864189114799120818647198) (u := 110103390783158745583792917372794424523) (v := 62033704596840948153927590324938010284) (f := 127) hr hrn (by decide +kernel) prim_337 (by decide +kernel) pw_one (by decide +kernel) (by decide +kernel) (by decide +kernel)
theorem step_5419 {r : Nat} (hr : Prim r) (hrn : r ∣ pp) : 5419 ∣ r - 1 :=
  pock_step' (a := 3) (m := 31397155095122574595255084649544954) (u := 98952394820600442919124564921781805327) (v := 15525926174423174310316065923586973392) (f := 127) hr hrn (by decide +kernel) prim_5419 (by decide +kernel) pw_one (by decide +kernel) (by decide +kernel) (by decide +kernel)
theorem step_92737 {r : Nat} (hr : Prim r) (hrn : r ∣ pp) : 92737 ∣ r - 1 :=
  pock_step' (a := 3) (m := 1834663440271620084019186556777598) (u := 141899323343967763829894105985566179829) (v := 125560792352922500195915453413722127026) (f := 127) hr hrn (by decide +kernel) prim_92737 (by decide +kernel) pw_one (by decide +kernel) (by decide +kernel) (by decide +kernel)
theorem step_649657 {r : Nat} (hr : Prim r) (hrn : r ∣ pp) : 649657 ∣ r - 1 :=
  pock_step' (a := 3) (m := 261893866240907481535159790036718) (u := 58521024311718766171606481931475363244) (v := 18369621317045171229242846163547228725) (f := 127) hr hrn (by decide +kernel) prim_649657 (by decide +kernel) pw_one (by decide +kernel) (by decide +kernel) (by decide +kernel)
theorem mul_dvd_num {a b c n : Nat} (hc : Nat.gcd a b = 1) (he : a * b = c) (ha : a ∣ n) (hb : b ∣ n) : c ∣ n :=
  he ▸ Nat.Coprime.mul_dvd_of_dvd_of_dvd hc ha hb
theorem big_square {r k n : Nat} (h : k ≤ r) (hk : n < k * k) (hr : r * r ≤ n) : False := by
  have := Nat.mul_le_mul h h
  exact absurd (Nat.lt_of_lt_of_le hk (Nat.le_trans this hr)) (Nat.lt_irrefl n)
/-- 2^127 - 1 is prime. -/
theorem prim_pp : Prim pp := by
  refine Classical.byContradiction fun hp => ?_
  obtain ⟨r, hr, hrn, hle⟩ := exists_small_prim (by decide +kernel : 2 ≤ pp) hp
  have h0 : 0 < r - 1 := Nat.sub_pos_of_lt hr.1
  have h1 := step_127 hr hrn
  have h2 := step_337 hr hrn
  have h3 := step_5419 hr hrn
  have h4 := step_92737 hr hrn
  have h5 := step_649657 hr hrn
  have c2 : 42799 ∣ r - 1 := mul_dvd_num (by decide +kernel) (by decide +kernel) h1 h2
  have c3 : 231927781 ∣ r - 1 := mul_dvd_num (by decide +kernel) (by decide +kernel) c2 h3
  have c4 : 21508286626597 ∣ r - 1 := mul_dvd_num (by decide +kernel) (by decide +kernel) c3 h4
  have c5 : 13973008964975127229 ∣ r - 1 := mul_dvd_num (by decide +kernel) (by decide +kernel) c4 h5
  exact big_square (Nat.le_trans (Nat.le_of_dvd h0 c5) (Nat.sub_le r 1)) (by decide +kernel) hle
end Go.FourQ
namespace Go.FourQ
/-- What lies beyond 2^127 counts once. -/
def fold (t : Nat) : Nat := t % 170141183460469231731687303715884105728 + t / 170141183460469231731687303715884105728
/-- 2^127, under a name. -/
def LowB (x : Nat) : Prop := x < 170141183460469231731687303715884105728
theorem fold_mod (t : Nat) : fold t % pp = t % pp := by
  unfold fold pp
  omega
def subN (x y : Nat) : Nat := if x < y then x + pp - y else x - y
theorem subN_pp {x : Nat} (hx : LowB x) : subN x pp = x % pp := by
  unfold LowB subN pp at *
  split <;> omega
theorem low_mod (x : Nat) : LowB (x % pp) := by unfold LowB pp; omega
theorem low_pp : LowB pp := by unfold LowB pp; omega
theorem sub_words {x y s0 k0 s1 k1 d1 h c0 k2 c1 k3 : Nat} (hx : LowB x) (hy : LowB y)
    (e1 : s0 + y % 18446744073709551616 = 18446744073709551616 * k0 + x % 18446744073709551616) (b1 : s0 < 18446744073709551616)
    (e2 : s1 + y / 18446744073709551616 + k0 = 18446744073709551616 * k1 + x / 18446744073709551616) (b2 : s1 < 18446744073709551616)
    (e3 : d1 + 18446744073709551616 * h = s1 + s1) (b3 : d1 < 18446744073709551616)
    (e4 : c0 + h = 18446744073709551616 * k2 + s0) (b4 : c0 < 18446744073709551616)
    (e5 : c1 + k2 = 18446744073709551616 * k3 + d1 / 2) (b5 : c1 < 18446744073709551616) :
    c0 + 18446744073709551616 * c1 = subN x y := by
  unfold LowB subN pp at *
  have q3 : d1 / 2 + 9223372036854775808 * h = s1 := by omega
  have q4 : h ≤ 1 := by omega
  have q2 : s0 + 18446744073709551616 * s1 + y = x + 340282366920938463463374607431768211456 * k1 := by omega
  have q5 : h = k1 := by omega
  subst q5
  clear e1 e2 e3 b3
  generalize d1 / 2 = d at *
  have q6 : k2 ≤ 1 := by omega
  have q7 : k3 = 0 := by
    rcases (by omega : h = 0 ∨ h = 1) with rfl | rfl <;> rcases (by omega : k2 = 0 ∨ k2 = 1) with rfl | rfl <;> omega
  subst q7
  rcases (by omega : h = 0 ∨ h = 1) with rfl | rfl <;> split <;> omega
end Go.FourQ
namespace Go.FourQ
open Go.RowKit
/-- Byte i of a number. -/
def byteV (x i : Nat) : Value := .int .u8 ((x / 256 ^ i % 256 : Nat) : Int)
/-- The sixteen cells of an element. -/
def fpC (x : Nat) : Array Value := #[byteV x 0, byteV x 1, byteV x 2, byteV x 3, byteV x 4, byteV x 5, byteV x 6, byteV x 7, byteV x 8, byteV x 9, byteV x 10, byteV x 11, byteV x 12, byteV x 13, byteV x 14, byteV x 15]
theorem size_fpC (x : Nat) : (fpC x).size = 16 := rfl
theorem fpC_get (x i : Nat) (h : i < 16) : (fpC x)[i]? = some (byteV x i) := by
  rcases (by omega : i = 0 ∨ i = 1 ∨ i = 2 ∨ i = 3 ∨ i = 4 ∨ i = 5 ∨ i = 6 ∨ i = 7 ∨ i = 8 ∨ i = 9 ∨ i = 10 ∨ i = 11 ∨ i = 12 ∨ i = 13 ∨ i = 14 ∨ i = 15) with
    rfl | rfl | rfl | rfl | rfl | rfl | rfl | rfl | rfl | rfl | rfl | rfl | rfl | rfl | rfl | rfl <;> rfl
/-- The cells of some elements, one behind the other. -/
def fps : List Nat → Array Value
  | [] => #[]
  | x :: l => fpC x ++ fps l
theorem size_fps (l : List Nat) : (fps l).size = 16 * l.length := by
  induction l with
  | nil => rfl
  | cons x l ih => simp [fps, size_fpC, ih]; omega
theorem fps_one (x : Nat) : fps [x] = fpC x := by simp [fps]
theorem fps_get : ∀ (l : List Nat) (k x i : Nat), l[k]? = some x → i < 16 → (fps l)[16 * k + i]? = some (byteV x i)
  | [], k, x, i, h, _ => by simp at h
  | y :: l, 0, x, i, h, hi => by
    obtain rfl : y = x := by simpa using h
    rw [fps, Array.getElem?_append_left (by rw [size_fpC]; omega)]
    rw [Nat.mul_zero, Nat.zero_add]
    exact fpC_get y i hi
  | y :: l, k + 1, x, i, h, hi => by
    rw [fps, Array.getElem?_append_right (by rw [size_fpC]; omega), size_fpC]
    have e : 16 * (k + 1) + i - 16 = 16 * k + i := by omega
    rw [e]
    exact fps_get l k x i (by simpa using h) hi
/-- Block b holds these elements and nothing else. -/
def Fps (w : World) (b : Nat) (l : List Nat) : Prop := ∃ T, w.heap[b]? = some (.cells (fps l) T (0, 0))
/-- w' is w, but that block b holds other elements; there may be new blocks. -/
structure Upd (w w' : World) (b : Nat) (l : List Nat) : Prop where
  os : w'.os = w.os
  tape : w'.tape = w.tape
  output : w'.output = w.output
  size : w.heap.size ≤ w'.heap.size
  blk : Fps w' b l
  other : ∀ k, k < w.heap.size → k ≠ b → w'.heap[k]? = w.heap[k]?
theorem Fps.lt {w : World} {c : Nat} {m : List Nat} (h : Fps w c m) : c < w.heap.size := by
  obtain ⟨T, hT⟩ := h
  rcases Nat.lt_or_ge c w.heap.size with h' | h'
  · exact h'
  · simp [Array.getElem?_eq_none h'] at hT
theorem Fps.of_heap {w w' : World} {c : Nat} {m : List Nat} (h : Fps w c m) (e : w'.heap[c]? = w.heap[c]?) : Fps w' c m := by
  obtain ⟨T, hT⟩ := h
  exact ⟨T, e.trans hT⟩
theorem Fps.inj {w : World} {c : Nat} {l m : List Nat} (h : Fps w c l) (g : Fps w c m) : fps l = fps m := by
  obtain ⟨T, hT⟩ := h
  obtain ⟨T', hT'⟩ := g
  rw [hT] at hT'
  simp at hT'
  exact hT'.1
theorem Upd.keep {w w' : World} {b c : Nat} {l m : List Nat} (u : Upd w w' b l) (h : Fps w c m) (hc : c ≠ b) : Fps w' c m :=
  h.of_heap (u.other c h.lt hc)
theorem Upd.below {B : Nat} {w w' : World} {b : Nat} {l : List Nat} (u : Upd w w' b l) (hb : B ≤ b) (hB : B ≤ w.heap.size) : Below B w w' :=
  ⟨u.os, u.tape, u.output, u.size, fun k hk => u.other k (by omega) (by omega)⟩
theorem Upd.trans {w w' w'' : World} {b : Nat} {l m : List Nat} (u : Upd w w' b l) (v : Upd w' w'' b m) : Upd w w'' b m :=
  ⟨v.os.trans u.os, v.tape.trans u.tape, v.output.trans u.output, Nat.le_trans u.size v.size, v.blk,
    fun k hk hb => (v.other k (Nat.lt_of_lt_of_le hk u.size) hb).trans (u.other k hk hb)⟩
theorem Upd.ahead {w w' w'' : World} {b : Nat} {l : List Nat} (v : Below w.heap.size w w') (u : Upd w' w'' b l) : Upd w w'' b l :=
  ⟨u.os.trans v.os, u.tape.trans v.tape, u.output.trans v.output, Nat.le_trans v.size u.size, u.blk,
    fun k hk hb => (u.other k (Nat.lt_of_lt_of_le hk v.size) hb).trans (v.block k hk)⟩
theorem Upd.same {w w' : World} {b : Nat} {l : List Nat} (h : Fps w b l) (v : Below w.heap.size w w') : Upd w w' b l :=
  ⟨v.os, v.tape, v.output, v.size, h.of_heap (v.block b h.lt), fun k hk _ => v.block k hk⟩
theorem nb_trans {a b c : World} (h : Below a.heap.size a b) (k : Below b.heap.size b c) : Below a.heap.size a c := h.trans (k.mono h.size)
theorem nb_drew {a b : World} (h : Below a.drew.heap.size a.drew b) : Below a.heap.size a b := ⟨h.os, h.tape, h.output, h.size, h.block⟩
theorem Upd.ofDrew {a b : World} {c : Nat} {l : List Nat} (h : Upd a.drew b c l) : Upd a b c l := ⟨h.os, h.tape, h.output, h.size, h.blk, h.other⟩
theorem Fps.below {B : Nat} {w w' : World} {c : Nat} {m : List Nat} (h : Fps w c m) (v : Below B w w') (hc : c < B) : Fps w' c m := h.of_heap (v.block c hc)
theorem Fps.drew {w : World} {c : Nat} {m : List Nat} (h : Fps w c m) : Fps w.drew c m := h
theorem Fps.alloc {w : World} {c : Nat} {m : List Nat} (h : Fps w c m) (o : Obj) : Fps (w.alloc o) c m :=
  h.of_heap (Below.heap_alloc _ _ _ h.lt)
/-- A new block that holds elements. -/
theorem Fps.new (w : World) (l : List Nat) (c : Array Value) (T : TypeId) (n : Nat) (hn : n = w.heap.size) (hc : c = fps l) : Fps (w.alloc (.cells c T)) n l := by
  subst hn hc
  exact ⟨T, heap_alloc_new _ _⟩
theorem Fps.cell {w : World} {b : Nat} {l : List Nat} (h : Fps w b l) {k x : Nat} (hk : l[k]? = some x) {o : Nat} (ho : o = 16 * k) (i : Nat) (hi : i < 16) :
    w.cell? ⟨b, o + i, none⟩ = some (byteV x i) := by
  obtain ⟨T, hT⟩ := h
  rw [cell_of_row w b (o + i) _ T (0, 0) hT, ho]
  exact fps_get l k x i hk hi
theorem Fps.cell_any {w : World} {b : Nat} {l : List Nat} (h : Fps w b l) {k : Nat} (hk : k < l.length) {o : Nat} (ho : o = 16 * k) (i : Nat) (hi : i < 16) :
    w.cell? ⟨b, o + i, none⟩ = some (byteV l[k] i) := h.cell (List.getElem?_eq_getElem hk) ho i hi
theorem Fps.free {w : World} {b : Nat} {l : List Nat} (h : Fps w b l) (o : Nat) : w.frozen? ⟨b, o, none⟩ = false := by
  obtain ⟨T, hT⟩ := h
  exact frozen_of_row w b o _ T hT
/-- Some cells of a row, one behind the other, written anew. -/
def setsA : Array Value → Nat → List Value → Array Value
  | c, _, [] => c
  | c, o, v :: vs => setsA (c.setIfInBounds o v) (o + 1) vs
theorem setsA_get : ∀ (vs : List Value) (c : Array Value) (o j : Nat), o + vs.length ≤ c.size →
    (setsA c o vs)[j]? = if o ≤ j ∧ j < o + vs.length then vs[j - o]? else c[j]?
  | [], c, o, j, _ => by rw [setsA, if_neg (by simp only [List.length_nil]; omega)]
  | v :: vs, c, o, j, h => by
    simp only [List.length_cons] at h ⊢
    rw [setsA, setsA_get vs _ _ _ (by simp; omega)]
    by_cases h1 : j = o
    · subst h1
      rw [if_neg (by omega), if_pos (by omega), Nat.sub_self, List.getElem?_cons_zero, Array.getElem?_setIfInBounds_self_of_lt (by omega)]
    · by_cases h2 : o + 1 ≤ j ∧ j < o + 1 + vs.length
      · rw [if_pos h2, if_pos (by omega)]
        have : j - o = (j - (o + 1)) + 1 := by omega
        rw [this, List.getElem?_cons_succ]
      · rw [if_neg h2, if_neg (by omega), Array.getElem?_setIfInBounds_ne (by omega)]
theorem setCells_row : ∀ (vs : List Value) (w : World) (b o : Nat) (c : Array Value) (T : TypeId), w.heap[b]? = some (.cells c T (0, 0)) →
    (w.setCells b o vs).heap[b]? = some (.cells (setsA c o vs) T (0, 0))
  | [], _, _, _, _, _, h => h
  | v :: vs, w, b, o, c, T, h => setCells_row vs _ b (o + 1) _ T (heap_setCell_same w b o c T v h)
theorem setCells_other : ∀ (vs : List Value) (w : World) (b o k : Nat), k ≠ b → (w.setCells b o vs).heap[k]? = w.heap[k]?
  | [], _, _, _, _, _ => rfl
  | v :: vs, w, b, o, k, h => (setCells_other vs _ b (o + 1) k h).trans (heap_setCell_other w ⟨b, o, none⟩ k v h)
theorem setCells_size : ∀ (vs : List Value) (w : World) (b o : Nat), (w.setCells b o vs).heap.size = w.heap.size
  | [], _, _, _ => rfl
  | v :: vs, w, b, o => (setCells_size vs _ b (o + 1)).trans (by simp)
theorem setCells_os : ∀ (vs : List Value) (w : World) (b o : Nat), (w.setCells b o vs).os = w.os ∧ (w.setCells b o vs).tape = w.tape ∧ (w.setCells b o vs).output = w.output
  | [], _, _, _ => ⟨rfl, rfl, rfl⟩
  | _ :: vs, _, b, o => setCells_os vs _ b (o + 1)
theorem fps_ext {l m : List Nat} (hl : l.length = m.length) (h : ∀ k x y : Nat, l[k]? = some x → m[k]? = some y → ∀ i, i < 16 → byteV x i = byteV y i) : fps l = fps m := by
  apply Array.ext_getElem?
  intro j
  rcases Nat.lt_or_ge j (16 * l.length) with hj | hj
  · have hk : j / 16 < l.length := by omega
    have e : j = 16 * (j / 16) + j % 16 := by omega
    have hi : j % 16 < 16 := Nat.mod_lt _ (by omega)
    have h1 : l[j / 16]? = some l[j / 16] := List.getElem?_eq_getElem hk
    have h2 : m[j / 16]? = some m[j / 16] := List.getElem?_eq_getElem (by omega)
    rw [e, fps_get l _ _ _ h1 hi, fps_get m _ _ _ h2 hi, h _ _ _ h1 h2 _ hi]
  · rw [Array.getElem?_eq_none (by rw [size_fps]; exact hj), Array.getElem?_eq_none (by rw [size_fps, ← hl]; exact hj)]
theorem bytes8 (v : Nat) : Lib.byteCells (Lib.leBytes 8 v) = [byteV v 0, byteV v 1, byteV v 2, byteV v 3, byteV v 4, byteV v 5, byteV v 6, byteV v 7] := by
  simp only [Lib.byteCells, Lib.leBytes, List.map, Lib.toUInt8_mod, byteV, Nat.div_div_eq_div_mul, Nat.reducePow, Nat.reduceMul, Nat.div_one]
theorem byteV_low (v q i : Nat) (hi : i < 8) : byteV (v + 18446744073709551616 * q) i = byteV v i := by
  unfold byteV
  congr 2
  rcases (by omega : i = 0 ∨ i = 1 ∨ i = 2 ∨ i = 3 ∨ i = 4 ∨ i = 5 ∨ i = 6 ∨ i = 7) with rfl | rfl | rfl | rfl | rfl | rfl | rfl | rfl <;>
    simp only [Nat.reducePow] <;> omega
theorem byteV_high (v q i : Nat) (hv : v < 18446744073709551616) (hi : i < 8) : byteV (v + 18446744073709551616 * q) (8 + i) = byteV q i := by
  unfold byteV
  congr 2
  rcases (by omega : i = 0 ∨ i = 1 ∨ i = 2 ∨ i = 3 ∨ i = 4 ∨ i = 5 ∨ i = 6 ∨ i = 7) with rfl | rfl | rfl | rfl | rfl | rfl | rfl | rfl <;>
    simp only [Nat.reducePow, Nat.reduceAdd] <;> omega
theorem words_eq (x : Nat) : x % 18446744073709551616 + 18446744073709551616 * (x / 18446744073709551616) = x := by omega
theorem list8 (v i : Nat) (h : i < 8) : [byteV v 0, byteV v 1, byteV v 2, byteV v 3, byteV v 4, byteV v 5, byteV v 6, byteV v 7][i]? = some (byteV v i) := by
  rcases (by omega : i = 0 ∨ i = 1 ∨ i = 2 ∨ i = 3 ∨ i = 4 ∨ i = 5 ∨ i = 6 ∨ i = 7) with rfl | rfl | rfl | rfl | rfl | rfl | rfl | rfl <;> rfl
/-- What stands in a list at a place that is written anew, and elsewhere. -/
theorem get_set {l : List Nat} {k z j : Nat} (hj : j < l.length) : (l.set k z)[j]? = some (if j = k then z else l[j]) := by
  by_cases h : j = k
  · subst h; rw [if_pos rfl, List.getElem?_set_self hj]
  · rw [if_neg h, List.getElem?_set_ne (fun e => h e.symm), List.getElem?_eq_getElem hj]
theorem sets_fps (l : List Nat) (k z o : Nat) (hk : k < l.length) (vs : List Value) (s : Nat) (ho : o = 16 * k + s) (hs : s + vs.length ≤ 16)
    (hin : ∀ i, s ≤ i → i < s + vs.length → vs[i - s]? = some (byteV z i)) (hout : ∀ i, i < 16 → ¬ (s ≤ i ∧ i < s + vs.length) → byteV l[k] i = byteV z i) :
    setsA (fps l) o vs = fps (l.set k z) := by
  apply Array.ext_getElem?
  intro j
  rw [setsA_get _ _ _ _ (by rw [size_fps]; omega)]
  rcases Nat.lt_or_ge j (16 * l.length) with hj | hj
  · have hq : j / 16 < l.length := by omega
    have e : j = 16 * (j / 16) + j % 16 := by omega
    have hi : j % 16 < 16 := Nat.mod_lt _ (by omega)
    have h2 := get_set (z := z) (k := k) hq
    have r2 : (fps (l.set k z))[j]? = some (byteV (if j / 16 = k then z else l[j / 16]) (j % 16)) := by
      conv => lhs; rw [e]
      exact fps_get _ _ _ _ h2 hi
    have r1 : (fps l)[j]? = some (byteV l[j / 16] (j % 16)) := by
      conv => lhs; rw [e]
      exact fps_get _ _ _ _ (List.getElem?_eq_getElem hq) hi
    rw [r2, r1]
    by_cases hjk : j / 16 = k
    · subst hjk
      rw [if_pos rfl]
      by_cases hin' : o ≤ j ∧ j < o + vs.length
      · rw [if_pos hin']
        have := hin (j % 16) (by omega) (by omega)
        rw [← this]
        congr 1
        omega
      · rw [if_neg hin']
        congr 1
        exact hout _ hi (by omega)
    · rw [if_neg (by omega), if_neg hjk]
  · rw [if_neg (by omega), Array.getElem?_eq_none (by rw [size_fps]; exact hj), Array.getElem?_eq_none (by rw [size_fps, List.length_set]; exact hj)]
theorem upd_setCells {w : World} {b : Nat} {l : List Nat} (h : Fps w b l) {k z o s : Nat} (vs : List Value) (hk : k < l.length) (ho : o = 16 * k + s) (hs : s + vs.length ≤ 16)
    (hin : ∀ i, s ≤ i → i < s + vs.length → vs[i - s]? = some (byteV z i)) (hout : ∀ i, i < 16 → ¬ (s ≤ i ∧ i < s + vs.length) → byteV l[k] i = byteV z i) :
    Upd w (w.setCells b o vs) b (l.set k z) := by
  obtain ⟨T, hT⟩ := h
  obtain ⟨e1, e2, e3⟩ := setCells_os vs w b o
  refine ⟨e1, e2, e3, by rw [setCells_size]; exact Nat.le_refl _, ⟨T, ?_⟩, fun j _ hj => setCells_other vs w b o j hj⟩
  rw [setCells_row vs w b o _ T hT, sets_fps l k z o hk vs s ho hs hin hout]
theorem byteV_word1 (x i : Nat) (hi : i < 8) : byteV x (8 + i) = byteV (x / 18446744073709551616) i := by
  conv => lhs; rw [← words_eq x]
  exact byteV_high _ _ _ (Nat.mod_lt _ (by decide)) hi
theorem byteV_word0 (x i : Nat) (hi : i < 8) : byteV x i = byteV (x % 18446744073709551616) i := by
  conv => lhs; rw [← words_eq x]
  exact byteV_low _ _ _ hi
/-- The lower word of an element is written. -/
theorem upd_low {w : World} {b : Nat} {l : List Nat} (h : Fps w b l) {k o v x : Nat} (hk : l[k]? = some x) (ho : o = 16 * k) (hv : v < 18446744073709551616) :
    Upd w (w.setCells b o (Lib.byteCells (Lib.leBytes 8 v))) b (l.set k (v + 18446744073709551616 * (x / 18446744073709551616))) := by
  obtain ⟨hk', hx⟩ := List.getElem?_eq_some_iff.1 hk
  rw [bytes8]
  refine upd_setCells h (s := 0) _ hk' (by omega) (by simp) (fun i _ hi => ?_) (fun i hi hn => ?_)
  · simp at hi
    rw [byteV_low v _ i hi, Nat.sub_zero]
    exact list8 v i hi
  · simp at hn
    obtain ⟨i', rfl⟩ : ∃ i', i = 8 + i' := ⟨i - 8, by omega⟩
    rw [hx, byteV_high _ _ _ hv (by omega), byteV_word1 _ _ (by omega)]
/-- The higher word of an element is written. -/
theorem upd_high {w : World} {b : Nat} {l : List Nat} (h : Fps w b l) {k o v x : Nat} (hk : l[k]? = some x) (ho : o = 16 * k + 8) (_hv : v < 18446744073709551616) :
    Upd w (w.setCells b o (Lib.byteCells (Lib.leBytes 8 v))) b (l.set k (x % 18446744073709551616 + 18446744073709551616 * v)) := by
  obtain ⟨hk', hx⟩ := List.getElem?_eq_some_iff.1 hk
  rw [bytes8]
  refine upd_setCells h (s := 8) _ hk' ho (by simp) (fun i h8 hi => ?_) (fun i hi hn => ?_)
  · simp at hi
    obtain ⟨i', rfl⟩ : ∃ i', i = 8 + i' := ⟨i - 8, by omega⟩
    rw [byteV_high _ _ _ (Nat.mod_lt _ (by decide)) (by omega), Nat.add_sub_cancel_left]
    exact list8 v i' (by omega)
  · simp at hn
    rw [hx, byteV_low _ _ _ (by omega), byteV_word0 _ _ (by omega)]
theorem setRow_alloc_new (w : World) (c d : Array Value) (T : TypeId) : (w.alloc (.cells c T)).setRow w.heap.size d = w.alloc (.cells d T) := by
  unfold World.setRow World.alloc
  congr 1
  apply Array.ext_getElem?
  intro k
  simp only [Array.getElem?_modify, Array.getElem?_push]
  by_cases hk : k = w.heap.size
  · subst hk; simp
  · rw [if_neg (fun e => hk e.symm), if_neg hk, if_neg hk]
theorem all_fpC (x : Nat) : (fpC x).all (·.oneCell') = true := by
  simp [fpC, byteV, Value.oneCell']
theorem word_join {v q z : Nat} (hv : v < 18446744073709551616) : (v + 18446744073709551616 * q) % 18446744073709551616 + 18446744073709551616 * z = v + 18446744073709551616 * z := by omega
end Go.FourQ
namespace Go.FourQ
open Go.RowKit
/-- What digits stand for, the lowest first. -/
def val : List Nat → Nat
  | [] => 0
  | d :: l => d + 65536 * val l
/-- The digits of a number, so many. -/
def digs : Nat → Nat → List Nat
  | 0, _ => []
  | k + 1, n => n % 65536 :: digs k (n / 65536)
theorem digs_length : ∀ k n, (digs k n).length = k
  | 0, _ => rfl
  | k + 1, n => by rw [digs, List.length_cons, digs_length k]
theorem val_digs : ∀ k n, val (digs k n) = n % 65536 ^ k
  | 0, n => by rw [digs, val, Nat.pow_zero, Nat.mod_one]
  | k + 1, n => by
    rw [digs, val, val_digs k, Nat.pow_succ, Nat.mul_comm (65536 ^ k), Nat.mod_mul]
theorem digs_get : ∀ k n i, i < k → (digs k n)[i]? = some (n / 65536 ^ i % 65536)
  | 0, _, _, h => absurd h (Nat.not_lt_zero _)
  | k + 1, n, 0, _ => by rw [digs, List.getElem?_cons_zero, Nat.pow_zero, Nat.div_one]
  | k + 1, n, i + 1, h => by
    rw [digs, List.getElem?_cons_succ, digs_get k _ i (by omega), Nat.div_div_eq_div_mul, Nat.pow_succ, Nat.mul_comm]
theorem digs_val : ∀ l : List Nat, (∀ d ∈ l, d < 65536) → digs l.length (val l) = l
  | [], _ => rfl
  | d :: l, h => by
    have h1 := h d (by simp)
    have ih := digs_val l (fun e he => h e (by simp [he]))
    have e1 : (d + 65536 * val l) % 65536 = d := by omega
    have e2 : (d + 65536 * val l) / 65536 = val l := by omega
    simp only [List.length_cons, digs, val, e1, e2, ih]
theorem val_append : ∀ a b : List Nat, val (a ++ b) = val a + 65536 ^ a.length * val b
  | [], b => by simp [val]
  | d :: a, b => by
    simp only [List.cons_append, val, val_append a b, List.length_cons, Nat.pow_succ]
    rw [Nat.mul_add, Nat.mul_comm (65536 ^ a.length) 65536, Nat.mul_assoc, Nat.add_assoc]
theorem val_take_succ (l : List Nat) (k d : Nat) (h : l[k]? = some d) : val (l.take (k + 1)) = val (l.take k) + 65536 ^ k * d := by
  obtain ⟨hk, hd⟩ := List.getElem?_eq_some_iff.1 h
  rw [List.take_succ_eq_append_getElem hk, val_append, List.length_take, Nat.min_eq_left (Nat.le_of_lt hk), hd]
  simp [val]
theorem digs_congr : ∀ k a b, a % 65536 ^ k = b % 65536 ^ k → digs k a = digs k b
  | 0, _, _, _ => rfl
  | k + 1, a, b, h => by
    rw [Nat.pow_succ, Nat.mul_comm (65536 ^ k), Nat.mod_mul, Nat.mod_mul] at h
    have h1 : a % 65536 = b % 65536 := by omega
    have h2 : a / 65536 % 65536 ^ k = b / 65536 % 65536 ^ k := by omega
    rw [digs, digs, h1, digs_congr k _ _ h2]
theorem digs_snoc : ∀ k n, digs (k + 1) n = digs k n ++ [n / 65536 ^ k % 65536]
  | 0, n => by simp [digs]
  | k + 1, n => by
    rw [digs, digs_snoc k (n / 65536), digs, List.cons_append, Nat.div_div_eq_div_mul, Nat.pow_succ, Nat.mul_comm (65536 ^ k)]
/-- Digits of which the first k have been settled, and what is carried on. -/
def Lk (D : List Nat) (k : Nat) : List Nat := digs k (val (D.take k)) ++ D.drop k
def Ck (D : List Nat) (k : Nat) : Nat := val (D.take k) / 65536 ^ k
theorem Lk_zero (D : List Nat) : Lk D 0 = D := by simp [Lk, digs]
theorem Ck_zero (D : List Nat) : Ck D 0 = 0 := by simp [Ck, val]
theorem Lk_length (D : List Nat) (k : Nat) (h : k ≤ D.length) : (Lk D k).length = D.length := by
  rw [Lk, List.length_append, digs_length, List.length_drop]; omega
theorem LC_step {D : List Nat} {k d : Nat} (h : D[k]? = some d) : (Lk D k).set k ((Ck D k + d) % 65536) = Lk D (k + 1) ∧ (Ck D k + d) / 65536 = Ck D (k + 1) := by
  have hv := val_take_succ D k d h
  have hp : 0 < 65536 ^ k := Nat.pow_pos (by decide)
  have hs : val (D.take (k + 1)) / 65536 ^ k = Ck D k + d := by
    rw [hv, Nat.add_mul_div_left _ _ hp]; rfl
  obtain ⟨hk, hd⟩ := List.getElem?_eq_some_iff.1 h
  constructor
  · unfold Lk
    have e1 : digs (k + 1) (val (D.take (k + 1))) = digs k (val (D.take k)) ++ [(Ck D k + d) % 65536] := by
      rw [digs_snoc, hs]
      congr 1
      exact digs_congr k _ _ (by rw [hv, Nat.add_mul_mod_self_left])
    rw [e1, List.set_append, if_neg (by rw [digs_length]; omega), digs_length, Nat.sub_self, List.drop_eq_getElem_cons hk, List.set_cons_zero, List.append_assoc]
    rfl
  · unfold Ck at hs ⊢
    rw [Nat.pow_succ, ← Nat.div_div_eq_div_mul, hs]
theorem Ck_bound (D : List Nat) (B : Nat) (hB : 0 < B) (hD : ∀ d ∈ D, d < B) : ∀ k, k ≤ D.length → Ck D k < B
  | 0, _ => by rw [Ck_zero]; exact hB
  | k + 1, h => by
    have hk : D[k]? = some D[k] := List.getElem?_eq_getElem (by omega)
    have := (LC_step hk).2
    have h1 := hD D[k] (List.getElem_mem _)
    have h2 := Ck_bound D B hB hD k (by omega)
    omega
theorem val_set : ∀ (l : List Nat) (i d e : Nat), l[i]? = some d → val (l.set i (d + e)) = val l + 65536 ^ i * e
  | [], _, _, _, h => by simp at h
  | x :: l, 0, d, e, h => by
    obtain rfl : x = d := by simpa using h
    simp only [List.set_cons_zero, val, Nat.pow_zero]
    omega
  | x :: l, i + 1, d, e, h => by
    rw [List.set_cons_succ, val, val_set l i d e (by simpa using h), val, Nat.mul_add, Nat.pow_succ, Nat.mul_comm (65536 ^ i) 65536, Nat.mul_assoc, Nat.add_assoc]
theorem digs_lt : ∀ k n d, d ∈ digs k n → d < 65536
  | 0, _, _, h => by simp [digs] at h
  | k + 1, n, d, h => by
    rw [digs, List.mem_cons] at h
    rcases h with rfl | h
    · exact Nat.mod_lt _ (by decide)
    · exact digs_lt k _ _ h
theorem pow256 (i : Nat) : 65536 ^ i = 256 ^ (2 * i) := by rw [Nat.pow_mul]
theorem mod_succ256 (x k : Nat) : x % 256 ^ (k + 1) = x % 256 ^ k + 256 ^ k * (x / 256 ^ k % 256) := by rw [Nat.pow_succ, Nat.mod_mul]
/-- A byte is laid into its digit. -/
theorem of_step (x k : Nat) (hk : k < 16) : x % 256 ^ k / 65536 ^ (k / 2) % 65536 < 65536 ∧ x / 256 ^ k % 256 * 256 ^ (k % 2) < 65536 ∧
    x % 256 ^ k / 65536 ^ (k / 2) % 65536 + x / 256 ^ k % 256 * 256 ^ (k % 2) < 65536 ∧
    (digs 8 (x % 256 ^ k)).set (k / 2) (x % 256 ^ k / 65536 ^ (k / 2) % 65536 + x / 256 ^ k % 256 * 256 ^ (k % 2)) = digs 8 (x % 256 ^ (k + 1)) := by
  have hi : k / 2 < 8 := by omega
  have hget := digs_get 8 (x % 256 ^ k) (k / 2) hi
  have hb : x / 256 ^ k % 256 < 256 := Nat.mod_lt _ (by decide)
  have hd : x % 256 ^ k / 65536 ^ (k / 2) % 65536 < 65536 := Nat.mod_lt _ (by decide)
  have hVlt : x % 256 ^ k < 256 ^ k := Nat.mod_lt _ (Nat.pow_pos (by decide))
  have hpp : 65536 ^ (k / 2) * 256 ^ (k % 2) = 256 ^ k := by
    rw [pow256, ← Nat.pow_add]
    congr 1
    omega
  have hle : (256 : Nat) ^ (k % 2) ≤ 256 := by
    rcases (by omega : k % 2 = 0 ∨ k % 2 = 1) with h | h <;> rw [h] <;> decide
  have he : x / 256 ^ k % 256 * 256 ^ (k % 2) ≤ 255 * 256 ^ (k % 2) := Nat.mul_le_mul_right _ (by omega)
  have hdlt : x % 256 ^ k / 65536 ^ (k / 2) < 256 ^ (k % 2) := by
    rw [Nat.div_lt_iff_lt_mul (Nat.pow_pos (by decide)), Nat.mul_comm, hpp]
    exact hVlt
  have hd2 : x % 256 ^ k / 65536 ^ (k / 2) % 65536 < 256 ^ (k % 2) := Nat.lt_of_le_of_lt (Nat.mod_le _ _) hdlt
  have hsum : x % 256 ^ k / 65536 ^ (k / 2) % 65536 + x / 256 ^ k % 256 * 256 ^ (k % 2) < 65536 := by omega
  refine ⟨hd, by omega, hsum, ?_⟩
  have hv := val_set _ _ _ (x / 256 ^ k % 256 * 256 ^ (k % 2)) hget
  rw [val_digs, Nat.mod_eq_of_lt (a := x % 256 ^ k) (Nat.lt_of_lt_of_le hVlt (by
    have e : (65536 : Nat) ^ 8 = 256 ^ 16 := by rw [pow256]
    rw [e]; exact Nat.pow_le_pow_right (by decide) (by omega))), Nat.mul_comm (x / 256 ^ k % 256), ← Nat.mul_assoc, hpp, ← mod_succ256] at hv
  have hl : ((digs 8 (x % 256 ^ k)).set (k / 2) (x % 256 ^ k / 65536 ^ (k / 2) % 65536 + x / 256 ^ k % 256 * 256 ^ (k % 2))).length = 8 := by rw [List.length_set, digs_length]
  rw [Nat.mul_comm (256 ^ (k % 2))] at hv
  have hmem : ∀ d ∈ (digs 8 (x % 256 ^ k)).set (k / 2) (x % 256 ^ k / 65536 ^ (k / 2) % 65536 + x / 256 ^ k % 256 * 256 ^ (k % 2)), d < 65536 := fun d h => by
    rcases List.mem_or_eq_of_mem_set h with h | rfl
    · exact digs_lt _ _ _ h
    · exact hsum
  generalize (digs 8 (x % 256 ^ k)).set (k / 2) (x % 256 ^ k / 65536 ^ (k / 2) % 65536 + x / 256 ^ k % 256 * 256 ^ (k % 2)) = L at *
  have h9 := digs_val L hmem
  rw [hl, hv] at h9
  exact h9.symm
/-- Cells that hold words. -/
def dgA (l : List Nat) : Array Value := (l.map fun d : Nat => Value.int .u64 (d : Int)).toArray
theorem dgA_get {l : List Nat} {i d : Nat} (h : l[i]? = some d) : (dgA l)[i]? = some (.int .u64 (d : Int)) := by
  simp [dgA, h]
theorem size_dgA (l : List Nat) : (dgA l).size = l.length := by simp [dgA]
theorem dgA_set (l : List Nat) (i d : Nat) : (dgA l).setIfInBounds i (.int .u64 (d : Int)) = dgA (l.set i d) := by
  unfold dgA
  rw [List.map_set, ← List.setIfInBounds_toArray]
theorem all_dgA (l : List Nat) : (dgA l).all (·.oneCell') = true := by
  rw [Array.all_eq_true_iff_forall_mem]
  intro v hv
  simp [dgA] at hv
  obtain ⟨d, _, rfl⟩ := hv
  rfl
/-- Block b holds these words and nothing else. -/
def Ds (w : World) (b : Nat) (l : List Nat) : Prop := ∃ T, w.heap[b]? = some (.cells (dgA l) T (0, 0))
theorem Ds.lt {w : World} {c : Nat} {m : List Nat} (h : Ds w c m) : c < w.heap.size := by
  obtain ⟨T, hT⟩ := h
  rcases Nat.lt_or_ge c w.heap.size with h' | h'
  · exact h'
  · simp [Array.getElem?_eq_none h'] at hT
theorem Ds.of_heap {w w' : World} {c : Nat} {m : List Nat} (h : Ds w c m) (e : w'.heap[c]? = w.heap[c]?) : Ds w' c m := by
  obtain ⟨T, hT⟩ := h
  exact ⟨T, e.trans hT⟩
theorem Ds.alloc {w : World} {c : Nat} {m : List Nat} (h : Ds w c m) (o : Obj) : Ds (w.alloc o) c m := h.of_heap (Below.heap_alloc _ _ _ h.lt)
theorem Ds.new (w : World) (l : List Nat) (c : Array Value) (T : TypeId) (n : Nat) (hn : n = w.heap.size) (hc : c = dgA l) : Ds (w.alloc (.cells c T)) n l := by
  subst hn hc
  exact ⟨T, heap_alloc_new _ _⟩
theorem Ds.cell {w : World} {b : Nat} {l : List Nat} (h : Ds w b l) {i d : Nat} (hi : l[i]? = some d) : w.cell? ⟨b, i, none⟩ = some (.int .u64 (d : Int)) := by
  obtain ⟨T, hT⟩ := h
  rw [cell_of_row w b i _ T (0, 0) hT]
  exact dgA_get hi
theorem Ds.free {w : World} {b : Nat} {l : List Nat} (h : Ds w b l) (o : Nat) : w.frozen? ⟨b, o, none⟩ = false := by
  obtain ⟨T, hT⟩ := h
  exact frozen_of_row w b o _ T hT
theorem Ds.set {w : World} {b : Nat} {l : List Nat} (h : Ds w b l) (i d : Nat) : Ds (w.setCell ⟨b, i, none⟩ (.int .u64 (d : Int))) b (l.set i d) := by
  obtain ⟨T, hT⟩ := h
  exact ⟨T, by rw [heap_setCell_same w b i _ T _ hT, dgA_set]⟩
theorem Ds.setOther {w : World} {b c : Nat} {l : List Nat} (h : Ds w c l) (i : Nat) (v : Value) (hc : c ≠ b) : Ds (w.setCell ⟨b, i, none⟩ v) c l :=
  h.of_heap (heap_setCell_other _ _ _ _ hc)
/-- An element of an array by value. -/
theorem run_index_one {P : Program} {t e : TypeId} {n : Nat} {cs : Array Value} {k : IntKind} {i : Nat} {v : Value} {d : TypeDesc} (ht : P.underlying t = some (.array n e)) (he : P.underlying e = some d)
    (hd : (match d with | .struct _ | .array _ _ => false | _ => true) = true) (hs : (P.info? e).map (·.size) = some 1) (hi : i < n) (hv : cs[i]? = some v) (w : World) :
    (Instr.index t (.agg cs) (.int k (i : Int))).run P w = .ok v w := by
  have hagg : (isAgg e).run P w = .ok false w := by
    unfold isAgg
    rw [Sem.run_bind, run_underlying he w]
    cases d <;> simp_all
  cases hq : P.info? e with
  | none => simp [hq] at hs
  | some q =>
    have hs1 : q.size = 1 := by simpa [hq] using hs
    simp [Instr.index, asIntOf, Sem.run_bind, run_underlying ht, part, hagg, sizeOf, typeInfo, hq, hs1, hv]
    intro h
    omega
end Go.FourQ
namespace Go.FourQ
open Go.RowKit
section
variable {P : Program}
theorem forIn_all (w : World) (body : Nat → Option Bool × Unit → Sem (ForInStep (Option Bool × Unit))) (f : Nat → Bool) : ∀ (l : List Nat),
    (∀ i ∈ l, (body i (none, ())).run P w = .ok (if f i then .yield (none, ()) else .done (some false, ())) w) →
    (forIn (m := Sem) l ((none, ()) : Option Bool × Unit) body).run P w = .ok (if l.all f then (none, ()) else (some false, ())) w
  | [], _ => by simp
  | i :: l, h => by
    have h1 := h i (by simp)
    have ih := forIn_all w body f l (fun j hj => h j (by simp [hj]))
    rw [List.forIn_cons, Sem.run_bind, h1]
    by_cases hf : f i
    · simp [hf, Result.andThen, ih]
    · simp [hf, Result.andThen]
theorem run_equalIn_array (w : World) (d : Nat) {t e : TypeId} {n s : Nat} {xs ys : Array Value} (ht : P.underlying t = some (.array n e)) (hs : (P.info? e).map (·.size) = some s) (f : Nat → Bool)
    (hf : ∀ i, i < n → (do Op.equalIn d e (← part e xs (i * s)) (← part e ys (i * s))).run P w = .ok (f i) w) :
    (Op.equalIn (d + 1) t (.agg xs) (.agg ys)).run P w = .ok ((List.range n).all f) w := by
  have hsz : (sizeOf e).run P w = .ok s w := by
    cases hq : P.info? e with
    | none => simp [hq] at hs
    | some q =>
      have hs1 : q.size = s := by simpa [hq] using hs
      simp [sizeOf, typeInfo, hq, hs1]
  simp only [Op.equalIn, Sem.run_bind, run_underlying ht, Result.andThen_ok, hsz]
  rw [Std.Legacy.Range.forIn_eq_forIn_range']
  have hl : List.range' [:n].start [:n].size [:n].step = List.range n := by simp [List.range_eq_range', Std.Legacy.Range.size]
  rw [hl, forIn_all w _ f (List.range n) (fun i hi => ?_)]
  · by_cases h : (List.range n).all f
    · rw [if_pos h, h]; simp [Result.andThen]
    · rw [if_neg h]
      have h' : (List.range n).all f = false := by simpa using h
      rw [h']
      simp [Result.andThen]
  · have h := hf i (by simpa using hi)
    simp only [Sem.run_bind] at h ⊢
    cases h1 : (part e xs (i * s)).run P w with
    | halt x w1 => rw [h1] at h; simp [Result.andThen] at h
    | ok a w1 =>
      rw [h1] at h
      simp only [Result.andThen_ok] at h ⊢
      cases h2 : (part e ys (i * s)).run P w1 with
      | halt x w2 => rw [h2] at h; simp [Result.andThen] at h
      | ok b w2 =>
        rw [h2] at h
        simp only [Result.andThen_ok] at h ⊢
        rw [h]
        simp only [Result.andThen_ok]
        cases f i <;> simp
theorem run_part_one {e : TypeId} {cs : Array Value} {i : Nat} {v : Value} {d : TypeDesc} (he : P.underlying e = some d)
    (hd : (match d with | .struct _ | .array _ _ => false | _ => true) = true) (hv : cs[i]? = some v) (w : World) : (part e cs (i * 1)).run P w = .ok v w := by
  have hagg : (isAgg e).run P w = .ok false w := by
    unfold isAgg
    rw [Sem.run_bind, run_underlying he w]
    cases d <;> simp_all
  simp [part, Sem.run_bind, hagg, hv]
/-- '==' on arrays of integers of one kind. -/
theorem run_eq_ints (d : Nat) {t e : TypeId} {n : Nat} {k : IntKind} {xs ys : Array Value} (ht : P.underlying t = some (.array n e)) (hs : (P.info? e).map (·.size) = some 1) (he : P.underlying e = some (.int k))
    (a b : Nat → Int) (ha : ∀ i, i < n → xs[i]? = some (.int k (a i))) (hb : ∀ i, i < n → ys[i]? = some (.int k (b i))) (w : World) :
    (Op.equalIn (d + 2) t (.agg xs) (.agg ys)).run P w = .ok ((List.range n).all fun i => a i == b i) w :=
  run_equalIn_array w (d + 1) ht hs _ fun i hi => by
    have p1 := run_part_one (P := P) (d := .int k) he rfl (ha i hi) w
    have p2 := run_part_one (P := P) (d := .int k) he rfl (hb i hi) w
    rw [Sem.run_bind, p1, Result.andThen_ok, Sem.run_bind, p2, Result.andThen_ok]
    exact run_equalIn_int w d e k k _ _ he
theorem run_eql_agg (w : World) (t : TypeId) (xs ys : Array Value) (b : Bool) (h : (Op.equalIn 10000 t (.agg xs) (.agg ys)).run P w = .ok b w) : (binOp .eql t (.agg xs) (.agg ys)).run P w = .ok (.bool b) w := by
  rw [run_eql_struct, h]; rfl
theorem mod_ext (B x y : Nat) : ∀ n, (∀ i, i < n → x / B ^ i % B = y / B ^ i % B) → x % B ^ n = y % B ^ n
  | 0, _ => by rw [Nat.pow_zero, Nat.mod_one, Nat.mod_one]
  | n + 1, h => by
    rw [Nat.pow_succ, Nat.mod_mul, Nat.mod_mul, mod_ext B x y n (fun i hi => h i (by omega)), h n (by omega)]
/-- Elements are the same bytes just where they are the same number. -/
theorem fpC_beq {x y : Nat} (hx : x < 256 ^ 16) (hy : y < 256 ^ 16) : ((List.range 16).all fun i => ((x / 256 ^ i % 256 : Nat) : Int) == ((y / 256 ^ i % 256 : Nat) : Int)) = decide (x = y) := by
  rw [Bool.eq_iff_iff]
  simp only [List.all_eq_true, List.mem_range, beq_iff_eq, decide_eq_true_eq]
  constructor
  · intro h
    have e := mod_ext 256 x y 16 (fun i hi => by have := h i hi; omega)
    rwa [Nat.mod_eq_of_lt hx, Nat.mod_eq_of_lt hy] at e
  · rintro rfl i _
    rfl
theorem digs_beq {x y : Nat} (hx : x < 65536 ^ 8) (hy : y < 65536 ^ 8) : ((List.range 8).all fun i => ((x / 65536 ^ i % 65536 : Nat) : Int) == ((y / 65536 ^ i % 65536 : Nat) : Int)) = decide (x = y) := by
  rw [Bool.eq_iff_iff]
  simp only [List.all_eq_true, List.mem_range, beq_iff_eq, decide_eq_true_eq]
  constructor
  · intro h
    have e := mod_ext 65536 x y 8 (fun i hi => by have := h i hi; omega)
    rwa [Nat.mod_eq_of_lt hx, Nat.mod_eq_of_lt hy] at e
  · rintro rfl i _
    rfl
/-- '==' on elements of 16 bytes. -/
theorem eql_fpC {t e : TypeId} {x y : Nat} (ht : P.underlying t = some (.array 16 e)) (hs : (P.info? e).map (·.size) = some 1) (he : P.underlying e = some (.int .u8)) (hx : x < 256 ^ 16) (hy : y < 256 ^ 16) (w : World) :
    (binOp .eql t (.agg (fpC x)) (.agg (fpC y))).run P w = .ok (.bool (decide (x = y))) w := by
  rw [← fpC_beq hx hy]
  exact run_eql_agg w t _ _ _ (run_eq_ints 9998 ht hs he _ _ (fun i hi => fpC_get x i hi) (fun i hi => fpC_get y i hi) w)
/-- '==' on numbers of eight digits. -/
theorem eql_digs {t e : TypeId} {x y : Nat} (ht : P.underlying t = some (.array 8 e)) (hs : (P.info? e).map (·.size) = some 1) (he : P.underlying e = some (.int .u64)) (hx : x < 65536 ^ 8) (hy : y < 65536 ^ 8) (w : World) :
    (binOp .eql t (.agg (dgA (digs 8 x))) (.agg (dgA (digs 8 y)))).run P w = .ok (.bool (decide (x = y))) w := by
  rw [← digs_beq hx hy]
  exact run_eql_agg w t _ _ _ (run_eq_ints 9998 ht hs he _ _ (fun i hi => dgA_get (digs_get 8 x i hi)) (fun i hi => dgA_get (digs_get 8 y i hi)) w)
end
end Go.FourQ
namespace Go.FourQ
open Go.RowKit
section
variable {P : Program}
theorem wp_region_nb {id : Nat} {Q : Exit → Act → World → Prop} {a : Act} {w : World} {l : List Oper} (hm : P.follows .mixedOrders = true) (hB : Region.lexB .any l.toArray = true)
    (h : wpQuiet P l.toArray (fun w' => Below w.heap.size w w') (fun a' => ∀ w', Below w.heap.size w w' → Q .normal a' w') l a) : (Code.region id l.toArray true).wp P Q a w :=
  wp_region_quiet (C := fun w' => Below w.heap.size w w') hm hB ((Below.refl _ _).drew) (by simpa using h)
variable {ops : Array Oper} {C : World → Prop} {Q : Act → Prop} {a : Act} {o : Oper} {rest : List Oper} {w : World}
theorem q_pure (hg : o.guard = none) (v : Value) (hrun : ∀ w', (execOp a.eval o).run P w' = .ok (.value v) w') (h : wpQuiet P ops C Q rest (a.put o.dst v)) : wpQuiet P ops C Q (o :: rest) a := by
  refine wpQuiet_step fun K hK => ?_
  have hw : Region.wanted o (yielded ops a.tmps) = true := by simp [Region.wanted, hg]
  rw [if_pos hw]
  exact ⟨v, fun w' _ => by unfold Oper.quietAt; rw [hrun w']; exact ⟨rfl, rfl⟩, hK _ h⟩
theorem q_load (hg : o.guard = none) (ty : TypeId) (x : Operand) (ho : o.op = .load ty x) (g : Nat) (hx : a.eval x = .pointer (some ⟨g, 0, none⟩)) (t : TypeId) (cs : Array Value) (fr : Nat × Nat) (d : TypeDesc)
    (hh : ∀ w', C w' → w'.heap[g]? = some (.cells cs t fr))
    (hu : P.underlying ty = some d) (hd : (match d with | .struct _ | .array _ _ => true | _ => false) = true) (hi : (P.info? ty).map (·.size) = some cs.size)
    (h : wpQuiet P ops C Q rest (a.put o.dst (.agg cs))) : wpQuiet P ops C Q (o :: rest) a := by
  refine wpQuiet_step fun K hK => ?_
  have hw : Region.wanted o (yielded ops a.tmps) = true := by simp [Region.wanted, hg]
  rw [if_pos hw]
  refine ⟨.agg cs, fun w' hC => ?_, hK _ h⟩
  unfold Oper.quietAt execOp
  simp only [ho, hx, Instr.loadAt, Instr.sureAddr, Sem.run_bind, Sem.run_pure, Result.andThen_ok, run_loadVar_row w' g t ty cs fr d (hh w' hC) hu hd hi]
  exact ⟨rfl, rfl⟩
/-- '==' on two arrays. -/
theorem q_eql (hg : o.guard = none) (ty ty' : TypeId) (x y : Operand) (ho : o.op = .binOp .eql ty x y ty') (xs ys : Array Value) (b : Bool) (hx : a.eval x = .agg xs) (hy : a.eval y = .agg ys)
    (hm : P.eqGuardType P.depth ty = false) (hb : ∀ w', (binOp .eql ty (.agg xs) (.agg ys)).run P w' = .ok (.bool b) w') (h : wpQuiet P ops C Q rest (a.put o.dst (.bool b))) : wpQuiet P ops C Q (o :: rest) a := by
  refine q_pure hg (.bool b) (fun w' => ?_) h
  unfold execOp
  simp only [ho, hx, hy, Sem.run_bind, run_eqGuard_agg w' .eql ty x y xs ys hm, Result.andThen_ok, hb w', Sem.run_pure]
/-- A call of a Go function. -/
theorem q_call (hg : o.guard = none) (f : FuncId) (args : Array Value) (v : Value) (hrun : ∀ w', (execOp a.eval o).run P w' = .ok (.enter f args) w')
    (hc : ∀ w', C w' → Calls P f args w' fun e w'' => e = .returned v ∧ C w'') (h : wpQuiet P ops C Q rest (a.put o.dst v)) : wpQuiet P ops C Q (o :: rest) a := by
  refine wpQuiet_step fun K hK => ?_
  have hw : Region.wanted o (yielded ops a.tmps) = true := by simp [Region.wanted, hg]
  rw [if_pos hw]
  exact ⟨v, fun w' hC => by unfold Oper.quietAt; rw [hrun w']; exact ⟨rfl, hc w' hC⟩, hK _ h⟩
/-- A callee's contract, met in a later world. -/
theorem nb_calls {f : FuncId} {args : Array Value} {v : Value} (hc : ∀ w', Calls P f args w' fun e w'' => e = .returned v ∧ Below w'.heap.size w' w'') :
    ∀ w', Below w.heap.size w w' → Calls P f args w' fun e w'' => e = .returned v ∧ Below w.heap.size w w'' :=
  fun w' h => (hc w').mono fun _ _ ⟨he, hb⟩ => ⟨he, nb_trans h hb⟩
theorem nb_heap {g : Nat} {o : Obj} (h : w.heap[g]? = some o) : ∀ w', Below w.heap.size w w' → w'.heap[g]? = some o := fun w' hb => by
  rw [hb.block g ?_, h]
  rcases Nat.lt_or_ge g w.heap.size with h' | h'
  · exact h'
  · simp [Array.getElem?_eq_none h'] at h
theorem hp1_0 (O0 : Obj) : (w.alloc O0).heap[w.heap.size]? = some O0 := heap_alloc_new _ _
theorem hp2_0 (O0 O1 : Obj) : ((w.alloc O0).alloc O1).heap[w.heap.size]? = some O0 := (Below.heap_alloc _ _ _ (by simp only [World.size_alloc]; omega)).trans (hp1_0 O0)
theorem hp2_1 (O0 O1 : Obj) : ((w.alloc O0).alloc O1).heap[w.heap.size + 1]? = some O1 := by
  have e : (w.alloc O0).heap.size = w.heap.size + 1 := by simp
  rw [← e]; exact heap_alloc_new _ _
theorem hp3_0 (O0 O1 O2 : Obj) : (((w.alloc O0).alloc O1).alloc O2).heap[w.heap.size]? = some O0 := (Below.heap_alloc _ _ _ (by simp only [World.size_alloc]; omega)).trans (hp2_0 O0 O1)
theorem below_setRow {B : Nat} {v : World} {g : Nat} {cs : Array Value} (h : Below B v w) (hg : B ≤ g) : Below B v (w.setRow g cs) :=
  h.trans ⟨rfl, rfl, rfl, by simp, fun k hk => setRow_other w g k cs (by omega)⟩
/-- A result that lies in memory: words; an element. -/
theorem results_ds {fn : Func} {p : Tmp} {ty : TypeId} (h : fn.results = #[.cell p ty]) (tmps : Array Value) (g : Nat) (l : List Nat) (d : TypeDesc)
    (hp : tmps.getD p undef = .pointer (some ⟨g, 0, none⟩)) (hg : Ds w g l)
    (hu : P.underlying ty = some d) (hd : (match d with | .struct _ | .array _ _ => true | _ => false) = true) (hi : (P.info? ty).map (·.size) = some l.length) :
    (results fn tmps).run P w = .ok (.agg (dgA l)) w := by
  obtain ⟨T, hg⟩ := hg
  exact results_cell_row h tmps w g T _ _ d hp hg hu hd (by rw [size_dgA]; exact hi)
theorem results_fps {fn : Func} {p : Tmp} {ty : TypeId} (h : fn.results = #[.cell p ty]) (tmps : Array Value) (g : Nat) (l : List Nat) (d : TypeDesc)
    (hp : tmps.getD p undef = .pointer (some ⟨g, 0, none⟩)) (hg : Fps w g l)
    (hu : P.underlying ty = some d) (hd : (match d with | .struct _ | .array _ _ => true | _ => false) = true) (hi : (P.info? ty).map (·.size) = some (16 * l.length)) :
    (results fn tmps).run P w = .ok (.agg (fps l)) w := by
  obtain ⟨T, hg⟩ := hg
  exact results_cell_row h tmps w g T _ _ d hp hg hu hd (by rw [size_fps]; exact hi)
theorem setRow_ds {g : Nat} {l : List Nat} (m : List Nat) (h : Ds w g l) : Ds (w.setRow g (dgA m)) g m := by
  obtain ⟨T, hT⟩ := h
  exact ⟨T, setRow_heap w g _ _ T _ hT⟩
theorem setRow_fps {g : Nat} {l : List Nat} (m : List Nat) (h : Fps w g l) : Fps (w.setRow g (fps m)) g m := by
  obtain ⟨T, hT⟩ := h
  exact ⟨T, setRow_heap w g _ _ T _ hT⟩
theorem Ds.nb {w' : World} {g : Nat} {l : List Nat} (h : Ds w g l) (v : Below w.heap.size w w') : Ds w' g l := h.of_heap (v.block g h.lt)
theorem Fps.nb {w' : World} {g : Nat} {l : List Nat} (h : Fps w g l) (v : Below w.heap.size w w') : Fps w' g l := h.of_heap (v.block g h.lt)
end
end Go.FourQ
namespace Go.Proofs
open Go.Shelf
def Tryd.laysBin33_ren : Go.Shelf.Ren := ⟨fun | 33 => 138 | n => n, fun | 25 => 146 | 22 => 28 | 33 => 24 | 0 => 0 | 5 => 5 | 45 => 117 | n => n, fun | n => n⟩
theorem Tryd.laysBin33 : Go.Proofs.LaysBin.n33 Tryd.prog Tryd.laysBin33_ren := {
  mixed := by kernel_rfl
  f33 := Tryd.func138.trans (congrArg some (by kernel_rfl))
  t0 := Tryd.underlying0
  a0 := Tryd.isAgg0
  z0 := Tryd.sizeOf0
  v0 := Tryd.zeroValue0
  i0 := by kernel_rfl
  t5 := Tryd.underlying5
  a5 := Tryd.isAgg5
  z5 := Tryd.sizeOf5
  v5 := Tryd.zeroValue5
  i5 := by kernel_rfl
  t22 := Tryd.underlying28
  a22 := Tryd.isAgg28
  z22 := Tryd.sizeOf28
  v22 := Tryd.zeroValue28
  i22 := by kernel_rfl
  t25 := Tryd.underlying146
  a25 := Tryd.isAgg146
  z25 := Tryd.sizeOf146
  v25 := Tryd.zeroValue146
  i25 := by kernel_rfl
  t33 := Tryd.underlying24
  a33 := Tryd.isAgg24
  z33 := Tryd.sizeOf24
  v33 := Tryd.zeroValue24
  i33 := by kernel_rfl
  t45 := Tryd.underlying117
  a45 := Tryd.isAgg117
  z45 := Tryd.sizeOf117
  v45 := Tryd.zeroValue117
  i45 := by kernel_rfl }
open Go.RowKit in
theorem Tryd.binary_LE_Uint64 (g o n c : Nat) (b0 b1 b2 b3 b4 b5 b6 b7 : UInt8) (w : World) (hn : 8 ≤ n) (c0 : w.cell? ⟨g, o, none⟩ = some (.int .u8 b0.toNat)) (c1 : w.cell? ⟨g, o + 1, none⟩ = some (.int .u8 b1.toNat)) (c2 : w.cell? ⟨g, o + 2, none⟩ = some (.int .u8 b2.toNat)) (c3 : w.cell? ⟨g, o + 3, none⟩ = some (.int .u8 b3.toNat)) (c4 : w.cell? ⟨g, o + 4, none⟩ = some (.int .u8 b4.toNat)) (c5 : w.cell? ⟨g, o + 5, none⟩ = some (.int .u8 b5.toNat)) (c6 : w.cell? ⟨g, o + 6, none⟩ = some (.int .u8 b6.toNat)) (c7 : w.cell? ⟨g, o + 7, none⟩ = some (.int .u8 b7.toNat)) :
    Calls Tryd.prog 138 #[.agg #[], .slice (some ⟨g, o, none⟩) n c] w fun e w' => e = .returned (.int .u64 (Lib.leNat [b0, b1, b2, b3, b4, b5, b6, b7])) ∧ Below w.heap.size w w' := Any.binary_LE_Uint64 Tryd.laysBin33 g o n c b0 b1 b2 b3 b4 b5 b6 b7 w hn c0 c1 c2 c3 c4 c5 c6 c7
def Tryd.laysBin34_ren : Go.Shelf.Ren := ⟨fun | 34 => 146 | n => n, fun | 25 => 146 | 22 => 28 | 33 => 24 | 0 => 0 | 5 => 5 | 45 => 117 | n => n, fun | n => n⟩
theorem Tryd.laysBin34 : Go.Proofs.LaysBin.n34 Tryd.prog Tryd.laysBin34_ren := {
  mixed := by kernel_rfl
  f34 := Tryd.func146.trans (congrArg some (by kernel_rfl))
  t0 := Tryd.underlying0
  a0 := Tryd.isAgg0
  z0 := Tryd.sizeOf0
  v0 := Tryd.zeroValue0
  i0 := by kernel_rfl
  t5 := Tryd.underlying5
  a5 := Tryd.isAgg5
  z5 := Tryd.sizeOf5
  v5 := Tryd.zeroValue5
  i5 := by kernel_rfl
  t22 := Tryd.underlying28
  a22 := Tryd.isAgg28
  z22 := Tryd.sizeOf28
  v22 := Tryd.zeroValue28
  i22 := by kernel_rfl
  t25 := Tryd.underlying146
  a25 := Tryd.isAgg146
  z25 := Tryd.sizeOf146
  v25 := Tryd.zeroValue146
  i25 := by kernel_rfl
  t33 := Tryd.underlying24
  a33 := Tryd.isAgg24
  z33 := Tryd.sizeOf24
  v33 := Tryd.zeroValue24
  i33 := by kernel_rfl
  t45 := Tryd.underlying117
  a45 := Tryd.isAgg117
  z45 := Tryd.sizeOf117
  v45 := Tryd.zeroValue117
  i45 := by kernel_rfl }
open Go.RowKit in
theorem Tryd.binary_LE_PutUint64 (g o n c v : Nat) (hv : v < 18446744073709551616) (x0 x1 x2 x3 x4 x5 x6 x7 : Value) (w : World) (hn : 8 ≤ n) (c0 : w.cell? ⟨g, o, none⟩ = some x0) (c1 : w.cell? ⟨g, o + 1, none⟩ = some x1) (c2 : w.cell? ⟨g, o + 2, none⟩ = some x2) (c3 : w.cell? ⟨g, o + 3, none⟩ = some x3) (c4 : w.cell? ⟨g, o + 4, none⟩ = some x4) (c5 : w.cell? ⟨g, o + 5, none⟩ = some x5) (c6 : w.cell? ⟨g, o + 6, none⟩ = some x6) (c7 : w.cell? ⟨g, o + 7, none⟩ = some x7) (f0 : w.frozen? ⟨g, o, none⟩ = false) (f1 : w.frozen? ⟨g, o + 1, none⟩ = false) (f2 : w.frozen? ⟨g, o + 2, none⟩ = false) (f3 : w.frozen? ⟨g, o + 3, none⟩ = false) (f4 : w.frozen? ⟨g, o + 4, none⟩ = false) (f5 : w.frozen? ⟨g, o + 5, none⟩ = false) (f6 : w.frozen? ⟨g, o + 6, none⟩ = false) (f7 : w.frozen? ⟨g, o + 7, none⟩ = false) :
    Calls Tryd.prog 146 #[.agg #[], .slice (some ⟨g, o, none⟩) n c, .int .u64 v] w fun e w' => e = .returned (.tuple #[]) ∧ w' = (w.alloc (.cells #[] 146)).setCells g o (Lib.byteCells (Lib.leBytes 8 v)) := Any.binary_LE_PutUint64 Tryd.laysBin34 g o n c v hv x0 x1 x2 x3 x4 x5 x6 x7 w hn c0 c1 c2 c3 c4 c5 c6 c7 f0 f1 f2 f3 f4 f5 f6 f7
end Go.Proofs
namespace Go.Proofs.YtfkfljohhabldaaDoor
open Go.RowKit Go.FourQ
theorem u8_nat (x i : Nat) : ((UInt8.ofNat (x / 256 ^ i % 256)).toNat : Int) = ((x / 256 ^ i % 256 : Nat) : Int) := by
  congr 1
  rw [UInt8.toNat_ofNat']
  exact Nat.mod_eq_of_lt (Nat.mod_lt _ (by decide))
theorem leNat_bytes (x : Nat) : Lib.leNat [UInt8.ofNat (x / 256 ^ 0 % 256), UInt8.ofNat (x / 256 ^ 1 % 256), UInt8.ofNat (x / 256 ^ 2 % 256), UInt8.ofNat (x / 256 ^ 3 % 256), UInt8.ofNat (x / 256 ^ 4 % 256), UInt8.ofNat (x / 256 ^ 5 % 256), UInt8.ofNat (x / 256 ^ 6 % 256), UInt8.ofNat (x / 256 ^ 7 % 256)] = x % 18446744073709551616 := by
  have e : ∀ i, (UInt8.ofNat (x / 256 ^ i % 256)).toNat = x / 256 ^ i % 256 := fun i => by
    rw [UInt8.toNat_ofNat']; exact Nat.mod_eq_of_lt (Nat.mod_lt _ (by decide))
  simp only [Lib.leNat, e]
  simp only [Nat.reducePow]
  omega
/-- The lower word of an element is read. -/
theorem uint64_lo {w : World} {b : Nat} {l : List Nat} {k x o c v : Nat} (h : Fps w b l) (hk : l[k]? = some x) (ho : o = 16 * k) (hv : x % 18446744073709551616 = v) :
    Calls Tryd.prog 138 #[.agg #[], .slice (some ⟨b, o, none⟩) 8 c] w fun e w' => e = .returned (.int .u64 (v : Int)) ∧ Below w.heap.size w w' := by
  subst hv
  have g : ∀ i, i < 16 → w.cell? ⟨b, o + i, none⟩ = some (.int .u8 ((UInt8.ofNat (x / 256 ^ i % 256)).toNat : Int)) := fun i hi => by
    rw [h.cell hk ho i hi, byteV, u8_nat]
  have r := Tryd.binary_LE_Uint64 b o 8 c _ _ _ _ _ _ _ _ w (Nat.le_refl 8) (g 0 (by omega)) (g 1 (by omega)) (g 2 (by omega)) (g 3 (by omega)) (g 4 (by omega)) (g 5 (by omega)) (g 6 (by omega)) (g 7 (by omega))
  rw [leNat_bytes] at r
  exact r
/-- The higher word of an element is read. -/
theorem uint64_hi {w : World} {b : Nat} {l : List Nat} {k x o c v : Nat} (h : Fps w b l) (hk : l[k]? = some x) (ho : o = 16 * k + 8) (hv : x / 18446744073709551616 % 18446744073709551616 = v) :
    Calls Tryd.prog 138 #[.agg #[], .slice (some ⟨b, o, none⟩) 8 c] w fun e w' => e = .returned (.int .u64 (v : Int)) ∧ Below w.heap.size w w' := by
  subst hv
  have g : ∀ i, i < 8 → w.cell? ⟨b, o + i, none⟩ = some (.int .u8 ((UInt8.ofNat (x / 18446744073709551616 / 256 ^ i % 256)).toNat : Int)) := fun i hi => by
    have e : o + i = 16 * k + (8 + i) := by omega
    rw [e, h.cell hk rfl (8 + i) (by omega), byteV_word1 x i hi, byteV, u8_nat]
  have r := Tryd.binary_LE_Uint64 b o 8 c _ _ _ _ _ _ _ _ w (Nat.le_refl 8) (g 0 (by omega)) (g 1 (by omega)) (g 2 (by omega)) (g 3 (by omega)) (g 4 (by omega)) (g 5 (by omega)) (g 6 (by omega)) (g 7 (by omega))
  rw [leNat_bytes] at r
  exact r
/-- The lower word of an element is written. -/
theorem put_lo {w : World} {b : Nat} {l : List Nat} {k x o c v : Nat} (h : Fps w b l) (hk : l[k]? = some x) (ho : o = 16 * k) (hv : v < 18446744073709551616) :
    Calls Tryd.prog 146 #[.agg #[], .slice (some ⟨b, o, none⟩) 8 c, .int .u64 v] w fun e w' => e = .returned (.tuple #[]) ∧ Upd w w' b (l.set k (v + 18446744073709551616 * (x / 18446744073709551616))) := by
  have g : ∀ i, i < 8 → w.cell? ⟨b, o + i, none⟩ = some (byteV x i) := fun i hi => h.cell hk ho i (by omega)
  refine (Tryd.binary_LE_PutUint64 b o 8 c v hv _ _ _ _ _ _ _ _ w (Nat.le_refl 8) (g 0 (by omega)) (g 1 (by omega)) (g 2 (by omega)) (g 3 (by omega)) (g 4 (by omega)) (g 5 (by omega)) (g 6 (by omega)) (g 7 (by omega))
    (h.free _) (h.free _) (h.free _) (h.free _) (h.free _) (h.free _) (h.free _) (h.free _)).mono ?_
  rintro e w' ⟨he, rfl⟩
  exact ⟨he, Upd.ahead ((Below.refl _ _).alloc (Nat.le_refl _) _) (upd_low (h.alloc _) hk ho hv)⟩
/-- The higher word of an element is written. -/
theorem put_hi {w : World} {b : Nat} {l : List Nat} {k x o c v : Nat} (h : Fps w b l) (hk : l[k]? = some x) (ho : o = 16 * k + 8) (hv : v < 18446744073709551616) :
    Calls Tryd.prog 146 #[.agg #[], .slice (some ⟨b, o, none⟩) 8 c, .int .u64 v] w fun e w' => e = .returned (.tuple #[]) ∧ Upd w w' b (l.set k (x % 18446744073709551616 + 18446744073709551616 * v)) := by
  have g : ∀ i, i < 8 → w.cell? ⟨b, o + i, none⟩ = some (byteV x (8 + i)) := fun i hi => by
    have e : o + i = 16 * k + (8 + i) := by omega
    rw [e, h.cell hk rfl (8 + i) (by omega)]
  refine (Tryd.binary_LE_PutUint64 b o 8 c v hv _ _ _ _ _ _ _ _ w (Nat.le_refl 8) (g 0 (by omega)) (g 1 (by omega)) (g 2 (by omega)) (g 3 (by omega)) (g 4 (by omega)) (g 5 (by omega)) (g 6 (by omega)) (g 7 (by omega))
    (h.free _) (h.free _) (h.free _) (h.free _) (h.free _) (h.free _) (h.free _) (h.free _)).mono ?_
  rintro e w' ⟨he, rfl⟩
  exact ⟨he, Upd.ahead ((Below.refl _ _).alloc (Nat.le_refl _) _) (upd_high (h.alloc _) hk ho hv)⟩
/-- math/bits.Add64: the sum and the carry, as two numbers of which nothing is known but what they stand for. -/
theorem add64_ex (x y c : Nat) (hx : x < 18446744073709551616) (hy : y < 18446744073709551616) (hc : c ≤ 1) : ∃ s k : Nat, s + 18446744073709551616 * k = x + y + c ∧ s < 18446744073709551616 ∧ k ≤ 1 ∧
    ∀ w : World, (callFunc 145 #[.int .u64 x, .int .u64 y, .int .u64 c]).run Tryd.prog w = .ok (.value (.tuple #[.int .u64 s, .int .u64 k])) w := by
  refine ⟨(x + y + c) % 18446744073709551616, (x + y + c) / 18446744073709551616, by omega, by omega, by omega, fun w => ?_⟩
  rw [run_callFunc_extern Tryd.func145 (by kernel_rfl) (by kernel_rfl) (by kernel_rfl) (e := add64Entry) (by kernel_rfl), run_add64 x y c (by omega) (by omega) (by omega) (by omega)]
  simp only [Result.andThen]
  congr 5 <;> omega
/-- math/bits.Sub64. -/
theorem sub64_ex (x y c : Nat) (hx : x < 18446744073709551616) (hy : y < 18446744073709551616) (hc : c ≤ 1) : ∃ s k : Nat, s + y + c = 18446744073709551616 * k + x ∧ s < 18446744073709551616 ∧ k ≤ 1 ∧
    ∀ w : World, (callFunc 147 #[.int .u64 x, .int .u64 y, .int .u64 c]).run Tryd.prog w = .ok (.value (.tuple #[.int .u64 s, .int .u64 k])) w := by
  refine ⟨(x + 18446744073709551616 - y - c) % 18446744073709551616, if x < y + c then 1 else 0, by split <;> omega, by omega, by split <;> omega, fun w => ?_⟩
  rw [run_callFunc_extern Tryd.func147 (by kernel_rfl) (by kernel_rfl) (by kernel_rfl) (e := sub64Entry) (by kernel_rfl), run_sub64 x y c hc]
  rfl
/-- The same, the operands spelled as the walk spells them. -/
theorem add64_as (X Y C : Int) (x y c : Nat) (eX : X = x) (eY : Y = y) (eC : C = c) (hx : x < 18446744073709551616) (hy : y < 18446744073709551616) (hc : c ≤ 1) : ∃ s k : Nat, s + 18446744073709551616 * k = x + y + c ∧ s < 18446744073709551616 ∧ k ≤ 1 ∧
    ∀ w : World, (callFunc 145 #[.int .u64 X, .int .u64 Y, .int .u64 C]).run Tryd.prog w = .ok (.value (.tuple #[.int .u64 s, .int .u64 k])) w := by
  subst eX eY eC; exact add64_ex x y c hx hy hc
theorem sub64_as (X Y C : Int) (x y c : Nat) (eX : X = x) (eY : Y = y) (eC : C = c) (hx : x < 18446744073709551616) (hy : y < 18446744073709551616) (hc : c ≤ 1) : ∃ s k : Nat, s + y + c = 18446744073709551616 * k + x ∧ s < 18446744073709551616 ∧ k ≤ 1 ∧
    ∀ w : World, (callFunc 147 #[.int .u64 X, .int .u64 Y, .int .u64 C]).run Tryd.prog w = .ok (.value (.tuple #[.int .u64 s, .int .u64 k])) w := by
  subst eX eY eC; exact sub64_ex x y c hx hy hc
end Go.Proofs.YtfkfljohhabldaaDoor
namespace Go.Proofs.YtfkfljohhabldaaDoor
open Go.RowKit Go.FourQ
set_option maxRecDepth 100000 in
set_option maxHeartbeats 1000000 in
theorem fpSubG {w : World} {b1 b2 b3 o1 o2 o3 k1 k2 k3 : Nat} {l1 l2 l3 : List Nat} {x y : Nat} (h1 : Fps w b1 l1) (h2 : Fps w b2 l2) (h3 : Fps w b3 l3)
    (e1 : o1 = 16 * k1) (e2 : o2 = 16 * k2) (e3 : o3 = 16 * k3) (i1 : k1 < l1.length) (i2 : l2[k2]? = some x) (i3 : l3[k3]? = some y) (hx : LowB x) (hy : LowB y) :
    Calls Tryd.prog 130 #[.pointer (some ⟨b1, o1, none⟩), .pointer (some ⟨b2, o2, none⟩), .pointer (some ⟨b3, o3, none⟩)] w fun e w' => e = .returned (.tuple #[]) ∧ Upd w w' b1 (l1.set k1 (subN x y)) := by
  have G : ∀ s0 k0 s1 k1' d1 h c0 k2' c1 k3' : Nat, _ := fun s0 k0 s1 k1' d1 h c0 k2' c1 k3' => @sub_words x y s0 k0 s1 k1' d1 h c0 k2' c1 k3' hx hy
  obtain ⟨x0, hx0⟩ : ∃ x0, x % 18446744073709551616 = x0 := ⟨_, rfl⟩
  obtain ⟨x1, hx1⟩ : ∃ x1, x / 18446744073709551616 = x1 := ⟨_, rfl⟩
  obtain ⟨y0, hy0⟩ : ∃ y0, y % 18446744073709551616 = y0 := ⟨_, rfl⟩
  obtain ⟨y1, hy1⟩ : ∃ y1, y / 18446744073709551616 = y1 := ⟨_, rfl⟩
  have hxh : x / 18446744073709551616 % 18446744073709551616 = x1 := by unfold LowB at hx; omega
  have hyh : y / 18446744073709551616 % 18446744073709551616 = y1 := by unfold LowB at hy; omega
  have x0b : x0 < 18446744073709551616 := by omega
  have x1b : x1 < 18446744073709551616 := by unfold LowB at hx; omega
  have y0b : y0 < 18446744073709551616 := by omega
  have y1b : y1 < 18446744073709551616 := by unfold LowB at hy; omega
  rw [hx0, hx1, hy0, hy1] at G
  obtain ⟨s0, k0, q0, r0, t0, a0⟩ := sub64_as x0 y0 0 x0 y0 0 rfl rfl rfl x0b y0b (by omega)
  obtain ⟨s1, k1', q1, r1, t1, a1⟩ := sub64_ex x1 y1 k0 x1b y1b t0
  obtain ⟨d1, h, q2, r2, t2, a2⟩ := add64_as s1 s1 0 s1 s1 0 rfl rfl rfl r1 r1 (by omega)
  obtain ⟨c0, k2', q3, r3, t3, a3⟩ := sub64_as s0 0 h s0 0 h rfl rfl rfl r0 (by omega) t2
  obtain ⟨c1, k3', q4, r4, t4, a4⟩ := sub64_as ((d1 : Int) / 2) 0 k2' (d1 / 2) 0 k2' (by omega) rfl rfl (by omega) (by omega) t3
  have hz : c0 + 18446744073709551616 * c1 = subN x y := G s0 k0 s1 k1' d1 h c0 k2' c1 k3' q0 r0 q1 r1 q2 r2 q3 r3 q4 r4
  have E1 := Lib.hid e1; have E2 := Lib.hid e2; have E3 := Lib.hid e3; have I1 := Lib.hid i1; have I2 := Lib.hid i2; have I3 := Lib.hid i3; have HZ := Lib.hid hz
  have X0 := Lib.hid hx0; have XH := Lib.hid hxh; have Y0 := Lib.hid hy0; have YH := Lib.hid hyh
  clear e1 e2 e3 i1 i2 i3 G hx hy hx0 hx1 hy0 hy1 hxh hyh q0 q1 q2 q3 q4 hz
  go_enter Tryd.func130, Tryd.ntmps130
  go_wp2_with fail
  go_still_tail 4, (by kernel_rfl)
  change wpList _ _ _ _ _ w.drew
  go_wp2_with fail
  refine (uint64_lo h2.drew I2.out E2.out X0.out).mono ?_
  rintro e w1 ⟨rfl, v1⟩
  have f11 := h1.drew.below v1 h1.lt; have f12 := h2.drew.below v1 h2.lt; have f13 := h3.drew.below v1 h3.lt
  go_wp2_with fail
  go_still_tail 4, (by kernel_rfl)
  change wpList _ _ _ _ _ w1.drew
  go_wp2_with fail
  refine (uint64_hi f12.drew I2.out (congrArg (· + 8) E2.out) XH.out).mono ?_
  rintro e w2 ⟨rfl, v2⟩
  have f21 := f11.drew.below v2 f11.lt; have f22 := f12.drew.below v2 f12.lt; have f23 := f13.drew.below v2 f13.lt
  go_wp2_with fail
  go_still_tail 4, (by kernel_rfl)
  change wpList _ _ _ _ _ w2.drew
  go_wp2_with fail
  refine (uint64_lo f23.drew I3.out E3.out Y0.out).mono ?_
  rintro e w3 ⟨rfl, v3⟩
  have f31 := f21.drew.below v3 f21.lt; have f33 := f23.drew.below v3 f23.lt
  go_wp2_with fail
  go_still_tail 4, (by kernel_rfl)
  change wpList _ _ _ _ _ w3.drew
  go_wp2_with fail
  refine (uint64_hi f33.drew I3.out (congrArg (· + 8) E3.out) YH.out).mono ?_
  rintro e w4 ⟨rfl, v4⟩
  have f41 := f31.drew.below v4 f31.lt
  have v4' : Below w.heap.size w w4 := nb_trans (nb_trans (nb_trans (nb_drew v1) (nb_drew v2)) (nb_drew v3)) (nb_drew v4)
  go_wp2_with fail
  go_still_tail 5, (by kernel_rfl)
  change wpList _ _ _ _ _ w4.drew
  go_wp2_with fail
  refine (put_lo f41.drew (List.getElem?_eq_getElem I1.out) E1.out r3).mono ?_
  rintro e w5 ⟨rfl, v5⟩
  go_wp2_with fail
  go_still_tail 5, (by kernel_rfl)
  change wpList _ _ _ _ _ w5.drew
  go_wp2_with fail
  refine (put_hi v5.blk.drew (List.getElem?_set_self I1.out) (congrArg (· + 8) E1.out) r4).mono ?_
  rintro e w6 ⟨rfl, v6⟩
  go_wp2_with fail
  go_end0
  refine ⟨rfl, ?_⟩
  have u := Upd.ahead v4' (v5.ofDrew.trans v6.ofDrew)
  rw [List.set_set, word_join r3, HZ.out] at u
  exact u
end Go.Proofs.YtfkfljohhabldaaDoor
namespace Go.Proofs.YtfkfljohhabldaaDoor
open Go.RowKit Go.FourQ
end Go.Proofs.YtfkfljohhabldaaDoor
namespace Go.Proofs.YtfkfljohhabldaaDoor
open Go.RowKit Go.FourQ
end Go.Proofs.YtfkfljohhabldaaDoor
namespace Go.Proofs.YtfkfljohhabldaaDoor
open Go.RowKit Go.FourQ
/-- The package's variable modulusP holds the prime. -/
def ModW (w : World) : Prop := ∃ T fr, w.heap[4]? = some (.cells (fpC pp) T fr)
theorem ModW.lt {w : World} (h : ModW w) : 4 < w.heap.size := by
  obtain ⟨T, fr, hT⟩ := h
  rcases Nat.lt_or_ge 4 w.heap.size with h' | h'
  · exact h'
  · simp [Array.getElem?_eq_none h'] at hT
theorem ModW.of_heap {w w' : World} (h : ModW w) (e : w'.heap[4]? = w.heap[4]?) : ModW w' := by
  obtain ⟨T, fr, hT⟩ := h
  exact ⟨T, fr, e.trans hT⟩
theorem ModW.nb {w w' : World} (h : ModW w) (v : Below w.heap.size w w') : ModW w' := h.of_heap (v.block _ h.lt)
theorem ModW.alloc {w : World} (h : ModW w) (o : Obj) : ModW (w.alloc o) := h.of_heap (Below.heap_alloc _ _ _ h.lt)
theorem ModW.upd {w w' : World} {b : Nat} {l : List Nat} (h : ModW w) (u : Upd w w' b l) (hb : 4 < b) : ModW w' := h.of_heap (u.other _ h.lt (Nat.ne_of_lt hb))
section
variable {w : World} {b1 b2 b3 o1 o2 o3 k1 k2 k3 : Nat} {l1 l2 l3 : List Nat} {x y : Nat}
set_option maxRecDepth 100000 in
set_option maxHeartbeats 400000 in
theorem fpModG (hm : ModW w) (h1 : Fps w b1 l1) (e1 : o1 = 16 * k1) (i1 : l1[k1]? = some x) (hx : LowB x) :
    Calls Tryd.prog 124 #[.pointer (some ⟨b1, o1, none⟩)] w fun e w' => e = .returned (.tuple #[]) ∧ Upd w w' b1 (l1.set k1 (x % pp)) := by
  obtain ⟨T, fr, hT⟩ := hm
  have HT := Lib.hid hT
  have E1 := Lib.hid e1; have I1 := Lib.hid i1; have HX := Lib.hid hx
  clear e1 i1 hx hT
  go_enter Tryd.func124, Tryd.ntmps124
  go_wp2_with (first | (refine wpList_load_row rfl 73 _ rfl 4 rfl T _ fr _ HT.out Tryd.underlying73 rfl (by kernel_rfl) ?_) | (refine wpList_store_row rfl 73 _ _ rfl _ (fpC pp) rfl rfl _ _ (heap_alloc_new _ _) (by kernel_rfl) rfl (all_fpC _) ?_; rw [setRow_alloc_new]) | fail)
  have n := Fps.new w [pp] (fpC pp) 73 _ rfl (fps_one pp).symm
  refine (fpSubG (h1.alloc _) (h1.alloc _) n E1.out E1.out (k3 := 0) rfl (List.getElem?_eq_some_iff.1 I1.out).1 I1.out rfl HX.out low_pp).mono ?_
  rintro e w' ⟨rfl, u⟩
  go_wp2_with fail
  go_end0
  rw [subN_pp HX.out] at u
  exact ⟨rfl, Upd.ahead ((Below.refl _ _).alloc (Nat.le_refl _) _) u⟩
end
end Go.Proofs.YtfkfljohhabldaaDoor
namespace Go.Proofs.YtfkfljohhabldaaDoor
open Go.RowKit Go.FourQ
theorem pp_digs : dgA (digs 8 pp) = #[.int .u64 65535, .int .u64 65535, .int .u64 65535, .int .u64 65535, .int .u64 65535, .int .u64 65535, .int .u64 65535, .int .u64 32767] := by rfl
theorem zero_digs : dgA (digs 8 0) = #[.int .u64 0, .int .u64 0, .int .u64 0, .int .u64 0, .int .u64 0, .int .u64 0, .int .u64 0, .int .u64 0] := by rfl
theorem zero_agg : Value.agg #[.int .u64 0, .int .u64 0, .int .u64 0, .int .u64 0, .int .u64 0, .int .u64 0, .int .u64 0, .int .u64 0] = .agg (dgA (digs 8 0)) := by rfl
theorem prime_c (w : World) : Calls Tryd.prog 65 #[] w fun e w' => e = .returned (.agg (dgA (digs 8 pp))) ∧ Below w.heap.size w w' := by
  rw [pp_digs]
  go_enter Tryd.func65, Tryd.ntmps65
  go_wp2
  refine bodyPost_ret_by (by simp [results, Tryd.results65, go_sem]) rfl ⟨rfl, ?_⟩
  exact (Below.refl _ _).alloc (Nat.le_refl _) _
theorem wrap_add48 {a b : Nat} (ha : a < 281474976710656) (hb : b < 281474976710656) : IntKind.u64.wrap ((a : Int) + (b : Int)) = ((a + b : Nat) : Int) := by rw [IntKind.wrap_u64]; omega
theorem fold_lt {T : Nat} (h : 0 < T / 170141183460469231731687303715884105728) : fold T + 1 < T := by unfold fold; omega
theorem chain8 (T : Nat) : ∃ t0 t1 t2 t3 t4 t5 t6 t7 c : Nat, digs 8 T = [t0, t1, t2, t3, t4, t5, t6, t7] ∧ T / 65536 ^ 8 = c ∧ t0 < 65536 ∧ t1 < 65536 ∧ t2 < 65536 ∧ t3 < 65536 ∧ t4 < 65536 ∧ t5 < 65536 ∧ t6 < 65536 ∧ t7 < 65536 ∧
    T = t0 + 65536 * t1 + 4294967296 * t2 + 281474976710656 * t3 + 18446744073709551616 * t4 + 1208925819614629174706176 * t5 + 79228162514264337593543950336 * t6 + 5192296858534827628530496329220096 * t7 + 340282366920938463463374607431768211456 * c := by
  refine ⟨_, _, _, _, _, _, _, _, _, rfl, rfl, ?_⟩
  simp only [Nat.div_div_eq_div_mul, Nat.reduceMul, Nat.reducePow]
  omega
theorem settle_fin {D : List Nat} {c : Nat} (hl : D.length = 8) (hD : ∀ d ∈ D, d < 281474976710656) (hc : c = Ck D 8) :
    ∃ l0 l7 : Nat, (Lk D 8)[0]? = some l0 ∧ (Lk D 8)[7]? = some l7 ∧ l0 < 65536 ∧ l7 < 65536 ∧ c < 17179869184 ∧ (∀ E : List Nat, E = ((Lk D 8).set 7 (l7 % 32768)).set 0 (l0 + (2 * c + l7 / 32768)) →
      E.length = 8 ∧ (∀ d ∈ E, d < 281474976710656) ∧ val E = fold (val D) ∧ 2 * c + l7 / 32768 = val D / 170141183460469231731687303715884105728 ∧
      (2 * c + l7 / 32768 = 0 → (∀ d ∈ E, d < 65536) ∧ val E < 170141183460469231731687303715884105728)) := by
  have ht : D.take 8 = D := List.take_of_length_le (by omega)
  have hd8 : D.drop 8 = [] := List.drop_of_length_le (by omega)
  have h7 : D[7]? = some (D[7]'(by omega)) := List.getElem?_eq_getElem _
  have hcb : c < 17179869184 := by
    have e := (LC_step h7).2
    have h1 := hD (D[7]'(by omega)) (List.getElem_mem _)
    have h2 := Ck_bound D 281474976710656 (by decide) hD 7 (by omega)
    rw [hc, ← e]
    omega
  unfold Ck at hc
  unfold Lk
  rw [ht] at hc ⊢
  rw [hd8, List.append_nil]
  generalize val D = T at *
  obtain ⟨t0, t1, t2, t3, t4, t5, t6, t7, c', hdg, hc', b0, b1, b2, b3, b4, b5, b6, b7, hT⟩ := chain8 T
  rw [hc'] at hc
  subst hc
  rw [hdg]
  refine ⟨t0, t7, rfl, rfl, b0, b7, hcb, ?_⟩
  rintro E rfl
  have q1 : T / 170141183460469231731687303715884105728 = 2 * c + t7 / 32768 := by clear hD hc' hdg; omega
  have q2 : T % 170141183460469231731687303715884105728 = t0 + 65536 * t1 + 4294967296 * t2 + 281474976710656 * t3 + 18446744073709551616 * t4 + 1208925819614629174706176 * t5 + 79228162514264337593543950336 * t6 + 5192296858534827628530496329220096 * (t7 % 32768) := by clear hD hc' hdg; omega
  have qv : val (([t0, t1, t2, t3, t4, t5, t6, t7].set 7 (t7 % 32768)).set 0 (t0 + (2 * c + t7 / 32768))) = fold T := by
    unfold fold
    rw [q1, q2]
    clear q1 q2 hT hdg hc' hD
    simp only [List.set, val]
    omega
  have qm : ∀ d, d ∈ ([t0, t1, t2, t3, t4, t5, t6, t7].set 7 (t7 % 32768)).set 0 (t0 + (2 * c + t7 / 32768)) → d = t0 + (2 * c + t7 / 32768) ∨ d < 65536 := by
    clear qv q1 q2 hT hdg hc' hD
    intro d hd
    simp only [List.set, List.mem_cons, List.not_mem_nil, or_false] at hd
    omega
  have qn : fold T = T % 170141183460469231731687303715884105728 + (2 * c + t7 / 32768) := by unfold fold; rw [q1]
  have ql : T % 170141183460469231731687303715884105728 < 170141183460469231731687303715884105728 := Nat.mod_lt _ (by decide)
  have qb : t0 + (2 * c + t7 / 32768) < 281474976710656 := by clear qv q1 q2 hT hdg hc' hD qm qn ql; omega
  clear hT hdg hc' hD q2
  refine ⟨by simp only [List.length_set, List.length_cons, List.length_nil], ?_, qv, q1.symm, fun h0 => ⟨?_, ?_⟩⟩
  · intro d hd
    rcases qm d hd with rfl | h
    · exact qb
    · exact Nat.lt_trans h (by decide)
  · intro d hd
    rcases qm d hd with rfl | h
    · rw [h0]; exact b0
    · exact h
  · rw [qv, qn, h0, Nat.add_zero]
    exact ql
set_option maxRecDepth 100000 in
set_option maxHeartbeats 4000000 in
theorem settle_c (w : World) (D0 : List Nat) (h8 : D0.length = 8) (hb : ∀ d ∈ D0, d < 281474976710656) :
    Calls Tryd.prog 46 #[.agg (dgA D0)] w fun e w' => e = .returned (.agg (dgA (digs 8 (val D0 % pp)))) ∧ Below w.heap.size w w' := by
  have H8 := Lib.hid h8; have HB := Lib.hid hb
  clear h8 hb
  obtain ⟨R, hR⟩ : ∃ R, val D0 % pp = R := ⟨_, rfl⟩
  rw [hR]
  have HR := Lib.hid hR
  clear hR
  go_enter Tryd.func46, Tryd.ntmps46
  go_wp2_with fail
  go_loopg [3] (val D0 + 1) (fun g c wr => ∃ (D : List Nat) (cc : Nat), c = .int .u64 cc ∧ Ds wr w.heap.size D ∧ Ds wr (w.heap.size + 1) (digs 8 0) ∧ Below w.heap.size w wr ∧ w.heap.size + 1 < wr.heap.size ∧ cc < 281474976710656 ∧
    Hid (D.length = 8 ∧ (∀ d ∈ D, d < 281474976710656) ∧ val D % pp = val D0 % pp ∧ (cc = 0 → (∀ d ∈ D, d < 65536) ∧ val D < 170141183460469231731687303715884105728) ∧ (cc ≠ 0 → val D < g)))
  case atStart =>
    refine ⟨D0, 1, rfl, (Ds.new _ D0 _ _ _ rfl rfl).alloc _, Ds.new _ (digs 8 0) _ _ _ (by simp) zero_digs.symm, ?_, by simp, by decide, H8.out, HB.out, rfl, fun h => absurd h (by decide), fun _ => Nat.lt_succ_self _⟩
    exact ((Below.refl _ _).alloc (Nat.le_refl _) _).alloc (by simp) _
  case round =>
    obtain ⟨D, cc, rfl, hd, hz, hbel, hsz, hcc, hh⟩ := hrel
    by_cases h0 : 0 < cc
    · have h0' : decide ((0 : Int) < (cc : Int)) = true := by simp; exact h0
      obtain ⟨T, hT⟩ := hd
      have HT := Lib.hid hT
      clear hT
      go_wp2_with (refine wpList_load_row rfl 26 _ rfl w.heap.size rfl T _ _ _ HT.out Tryd.underlying26 rfl (by rw [size_dgA, hh.out.1]; kernel_rfl) ?_)
      obtain ⟨wo, rfl⟩ : ∃ wo : World, wo = wr := ⟨_, rfl⟩
      have hlen := hh.out.1
      have hDb := hh.out.2.1
      have hd : Ds wo w.heap.size D := ⟨T, HT.out⟩
      have HL := Lib.hid hlen; have HDb := Lib.hid hDb
      clear hlen hDb HT
      go_loopw [3, 9] (fun c i wr => ∃ k cn : Nat, k ≤ 8 ∧ i = .int .i64 k ∧ c = .int .u64 cn ∧ Hid (cn = Ck D k) ∧ Ds wr w.heap.size (Lk D k) ∧ Ds wr (w.heap.size + 1) (digs 8 0) ∧ Below w.heap.size w wr ∧ w.heap.size + 1 < wr.heap.size) (fun _ i _ => 8 - (intOf i).toNat)
      case atStart => exact ⟨0, 0, by decide, rfl, rfl, (Ck_zero D).symm, by rw [Lk_zero]; exact hd, hz, hbel, hsz⟩
      case round =>
        obtain ⟨k, c, hk, rfl, rfl, hc, hd1, hz1, hbel1, hsz1⟩ := hrel
        by_cases hlt : k < 8
        · obtain ⟨d, hdk⟩ : ∃ d, D[k]? = some d := ⟨D[k]'(by rw [HL.out]; exact hlt), List.getElem?_eq_getElem _⟩
          have hdb := HDb.out d (List.mem_of_getElem? hdk)
          have hcb := Ck_bound D 281474976710656 (by decide) HDb.out k (by rw [HL.out]; exact hk)
          have hstep := LC_step hdk
          rw [← hc.out] at hcb hstep
          have hidx := fun wx => run_index_one (P := Tryd.prog) (k := .i64) Tryd.underlying26 Tryd.underlying24 rfl (by kernel_rfl) hlt (dgA_get hdk) wx
          have hcell := hd1.cell (i := k) (d := (Lk D k)[k]'(by rw [Lk_length D k (by rw [HL.out]; exact hk), HL.out]; exact hlt)) (List.getElem?_eq_getElem _)
          have hfree := hd1.free k
          generalize (Lk D k)[k]'_ = ov at hcell
          have HS := Lib.hid hstep; have HD1 := Lib.hid hd1
          clear hstep hdk hd1
          have hw := wrap_add48 hcb hdb
          obtain ⟨sm, hsm⟩ : ∃ sm, c + d = sm := ⟨_, rfl⟩
          rw [hsm] at hw
          obtain ⟨q, hq, hq'⟩ : ∃ q : Nat, sm / 65536 = q ∧ IntKind.u64.wrap ((sm : Int) / 65536) = (q : Int) := ⟨_, rfl, by rw [IntKind.wrap_u64]; omega⟩
          obtain ⟨r, hr, hr'⟩ : ∃ r : Nat, sm % 65536 = r ∧ (sm : Int) % 65536 = (r : Int) := ⟨_, rfl, by omega⟩
          have HQ := Lib.hid (And.intro hsm (And.intro hq hr))
          clear hcb hdb hsm hq hr
          go_wp2_with fail
          refine ⟨⟨k + 1, q, by omega, by go_num, rfl, ?_, ?_, hz1.setOther _ _ (by omega), hbel1.setCell (p := ⟨w.heap.size, k, none⟩) (Nat.le_refl _) _, by simpa using hsz1⟩, by simp [intOf]; omega⟩
          · have h2 := HS.out.2
            rw [HQ.out.1, HQ.out.2.1] at h2
            exact h2
          · have h1 := HS.out.1
            rw [HQ.out.1, HQ.out.2.2] at h1
            rw [← h1]
            exact HD1.out.set k r
        · have hk8 : k = 8 := by omega
          subst hk8
          have hl7 := Lk_length D 8 (by rw [HL.out]; exact Nat.le_refl _)
          rw [HL.out] at hl7
          obtain ⟨l0, l7, g0, g7, hl0, hl7', hcb, hfin⟩ := settle_fin HL.out HDb.out (c := c) hc.out
          obtain ⟨c2, hc2, hc2'⟩ : ∃ q : Nat, 2 * c = q ∧ IntKind.u64.wrap (2 * (c : Int)) = (q : Int) := ⟨_, rfl, by rw [IntKind.wrap_u64]; omega⟩
          obtain ⟨q7, hq7, hq7'⟩ : ∃ q : Nat, l7 / 32768 = q ∧ IntKind.u64.wrap ((l7 : Int) / 32768) = (q : Int) := ⟨_, rfl, by rw [IntKind.wrap_u64]; omega⟩
          obtain ⟨r7, hr7, hr7'⟩ : ∃ q : Nat, l7 % 32768 = q ∧ (l7 : Int) % 32768 = (q : Int) := ⟨_, rfl, by omega⟩
          obtain ⟨cn, hcn, hcn'⟩ : ∃ q : Nat, c2 + q7 = q ∧ IntKind.u64.wrap ((c2 : Int) + (q7 : Int)) = (q : Int) := ⟨_, rfl, by rw [IntKind.wrap_u64]; omega⟩
          obtain ⟨n0, hn0, hn0'⟩ : ∃ q : Nat, l0 + cn = q ∧ IntKind.u64.wrap ((l0 : Int) + (cn : Int)) = (q : Int) := ⟨_, rfl, by rw [IntKind.wrap_u64]; omega⟩
          have hcnb : cn < 281474976710656 := by omega
          have k7 := hd1.cell g7
          have k0 := hd1.cell g0
          have f7 := hd1.free 7
          have f0 := hd1.free 0
          have HN := Lib.hid (And.intro hcn (And.intro hq7 (And.intro hr7 (And.intro hn0 hc2))))
          have HC := Lib.hid hcnb
          have HF := Lib.hid hfin
          clear hcn hq7 hr7 hn0 hc2 hcnb hfin hl0 hl7' g0 g7 hcb
          go_wp2_with fail
          have hE := HF.out _ rfl
          have e1 : 2 * c + l7 / 32768 = cn := by rw [HN.out.2.2.2.2, HN.out.2.1]; exact HN.out.1
          rw [e1, HN.out.2.2.1, HN.out.2.2.2.1] at hE
          obtain ⟨E1, E2, E3, E4, E5⟩ := hE
          go_roundg (if cn = 0 then 0 else val (((Lk D 8).set 7 r7).set 0 n0) + 1)
          case measure =>
            have h1 := hh.out.2.2.2.2 (by omega)
            by_cases h2 : cn = 0
            · rw [if_pos h2]; omega
            · rw [if_neg h2, E3]
              have h3 := fold_lt (T := val D) (by rw [← E4]; omega)
              omega
          case rel =>
            refine ⟨_, cn, rfl, (hd1.set 7 r7).set 0 n0, (hz1.setOther _ _ (by omega)).setOther _ _ (by omega), (hbel1.setCell (p := ⟨w.heap.size, 7, none⟩) (Nat.le_refl _) _).setCell (p := ⟨w.heap.size, 0, none⟩) (Nat.le_refl _) _, by simpa using hsz1, HC.out, E1, E2, ?_, E5, fun hne => ?_⟩
            · rw [E3, fold_mod]; exact hh.out.2.2.1
            · rw [if_neg hne]; exact Nat.lt_succ_self _
    · have h00 : cc = 0 := by omega
      subst h00
      obtain ⟨hl, hDb, hmod, hz0, _⟩ := hh.out
      obtain ⟨hlt, hv⟩ := hz0 rfl
      have hDd : D = digs 8 (val D) := by have := digs_val D hlt; rw [hl] at this; exact this.symm
      generalize hV : val D = V at *
      subst hDd
      have hvm : val D0 % pp = if V = pp then 0 else V := by
        rw [← hmod]
        have hvp : V ≤ pp := by unfold pp; omega
        by_cases hpe : V = pp
        · rw [if_pos hpe, hpe]; exact Nat.mod_self pp
        · rw [if_neg hpe]; exact Nat.mod_eq_of_lt (by omega)
      rw [HR.out] at hvm
      have HV := Lib.hid hv
      have HVM := Lib.hid hvm
      clear hlt hmod hvm hz0 hDb hl hV hh hv
      obtain ⟨T, hT⟩ := hd
      have HT := Lib.hid hT
      have hd : Ds wr w.heap.size (digs 8 V) := ⟨T, hT⟩
      clear hT
      go_wp2_with fail
      refine wp_region_nb (by kernel_rfl) (by kernel_rfl) ?_
      refine q_load rfl 26 _ rfl w.heap.size rfl T _ _ _ (nb_heap HT.out) Tryd.underlying26 rfl (by rw [size_dgA, digs_length]; kernel_rfl) ?_
      refine q_call rfl 65 #[] (.agg (dgA (digs 8 pp))) (fun _ => by kernel_rfl) (nb_calls prime_c) ?_
      refine q_eql rfl 26 _ _ _ rfl _ _ (decide (V = pp)) rfl rfl (by kernel_rfl) (fun w' => eql_digs Tryd.underlying26 (by kernel_rfl) Tryd.underlying24 (by have := HV.out; omega) (by decide +kernel) w') ?_
      refine wpQuiet_nil ?_
      intro w1 hb1
      have hz1 := hz.nb hb1
      have hbel1 := hbel.trans (hb1.mono (by omega))
      obtain ⟨T1, hT1⟩ := hz1
      by_cases hpe : V = pp
      · have hR : R = 0 := by rw [HVM.out, if_pos hpe]
        subst hR
        clear hz hb1 hd
        have hdec : decide (V = pp) = true := by simpa using hpe
        rw [hdec]
        have HP := Lib.hid hpe
        clear hpe hdec
        have HT1 := Lib.hid hT1
        clear hT1
        go_wp2_with (refine wpList_store_row rfl 26 _ _ rfl _ (dgA (digs 8 0)) rfl zero_agg _ _ HT1.out (by kernel_rfl) rfl (all_dgA _) ?_)
        exact bodyPost_ret_by (results_ds rfl _ (w.heap.size + 1) (digs 8 0) _ rfl (setRow_ds (digs 8 0) ⟨T1, HT1.out⟩) Tryd.underlying26 rfl (by kernel_rfl)) rfl ⟨rfl, below_setRow hbel1 (by omega)⟩
      · have hR : R = V := by rw [HVM.out, if_neg hpe]
        subst hR
        have hd1 := hd.nb hb1
        clear hz hb1 hd
        have hdec : decide (R = pp) = false := by simpa using hpe
        rw [hdec]
        have HP := Lib.hid hpe
        clear hpe hdec
        have HT1 := Lib.hid hT1
        obtain ⟨T2, hT2⟩ := hd1
        have HT2 := Lib.hid hT2
        clear hT1 hT2
        go_wp2_with (first | (refine wpList_load_row rfl 26 _ rfl w.heap.size rfl T2 _ _ _ HT2.out Tryd.underlying26 rfl (by rw [size_dgA, digs_length]; kernel_rfl) ?_) | (refine wpList_store_row rfl 26 _ _ rfl _ (dgA (digs 8 R)) rfl rfl _ _ HT1.out (by rw [size_dgA, digs_length]; kernel_rfl) (by rw [size_dgA, size_dgA, digs_length, digs_length]) (all_dgA _) ?_))
        exact bodyPost_ret_by (results_ds rfl _ (w.heap.size + 1) (digs 8 R) _ rfl (setRow_ds _ ⟨T1, HT1.out⟩) Tryd.underlying26 rfl (by kernel_rfl)) rfl ⟨rfl, below_setRow hbel1 (by omega)⟩
end Go.Proofs.YtfkfljohhabldaaDoor
namespace Go.Proofs.YtfkfljohhabldaaDoor
open Go.RowKit Go.FourQ
theorem results_fps1 {P : Program} {w : World} {fn : Func} {p : Tmp} {ty : TypeId} (h : fn.results = #[.cell p ty]) (tmps : Array Value) (g : Nat) (x : Nat) (d : TypeDesc)
    (hp : tmps.getD p undef = .pointer (some ⟨g, 0, none⟩)) (hg : Fps w g [x])
    (hu : P.underlying ty = some d) (hd : (match d with | .struct _ | .array _ _ => true | _ => false) = true) (hi : (P.info? ty).map (·.size) = some 16) :
    (results fn tmps).run P w = .ok (.agg (fpC x)) w := by
  rw [← fps_one]
  exact results_fps h tmps g [x] d hp hg hu hd hi
set_option maxRecDepth 100000 in
set_option maxHeartbeats 4000000 in
theorem of_c (w : World) (x : Nat) (hx : x < 256 ^ 16) :
    Calls Tryd.prog 12 #[.agg (fpC x)] w fun e w' => e = .returned (.agg (dgA (digs 8 (x % pp)))) ∧ Below w.heap.size w w' := by
  have HX := Lib.hid hx
  clear hx
  go_enter Tryd.func12, Tryd.ntmps12
  go_wp2_with (refine wpList_load_row rfl 22 _ rfl w.heap.size rfl _ (fpC x) _ _ (hp3_0 _ _ _) Tryd.underlying22 rfl (by kernel_rfl) ?_)
  go_loopw [8] (fun i wr => ∃ k : Nat, k ≤ 16 ∧ i = .int .i64 k ∧ Ds wr (w.heap.size + 1) (digs 8 0) ∧ Ds wr (w.heap.size + 1 + 1) (digs 8 (x % 256 ^ k)) ∧ Below w.heap.size w wr ∧ w.heap.size + 1 + 1 < wr.heap.size) (fun i _ => 16 - (intOf i).toNat)
  case atStart =>
    refine ⟨0, by decide, rfl, ?_, ?_, ?_, by simp⟩
    · exact (Ds.new _ (digs 8 0) _ _ _ (by simp) zero_digs.symm).alloc _
    · rw [Nat.pow_zero, Nat.mod_one]; exact Ds.new _ (digs 8 0) _ _ _ (by simp) zero_digs.symm
    · exact (((Below.refl _ _).alloc (Nat.le_refl _) _).alloc (by simp) _).alloc (by simp; omega) _
  case round =>
    obtain ⟨k, hk, rfl, hz, hd, hbel, hsz⟩ := hrel
    by_cases hlt : k < 16
    · obtain ⟨s1, s2, s3, s4⟩ := of_step x k hlt
      have hget := digs_get 8 (x % 256 ^ k) (k / 2) (by omega)
      have hcell := hd.cell hget
      have hfree := hd.free (k / 2)
      have hidx := fun wx => run_index_one (P := Tryd.prog) (k := .i64) Tryd.underlying22 Tryd.underlying5 rfl (by kernel_rfl) hlt (fpC_get x k hlt) wx
      unfold byteV at hidx
      obtain ⟨d, hd'⟩ : ∃ d, x % 256 ^ k / 65536 ^ (k / 2) % 65536 = d := ⟨_, rfl⟩
      obtain ⟨b, hb', hbb⟩ : ∃ b, x / 256 ^ k % 256 = b ∧ b < 256 := ⟨_, rfl, Nat.mod_lt _ (by decide)⟩
      rw [hd', hb'] at s3 s4
      rw [hd'] at hcell s1
      rw [hb'] at hidx s2
      have HS := Lib.hid (And.intro s3 s4); have HD := Lib.hid hd
      clear s2 s3 s4 hd hget hd' hb'
      obtain ⟨i, hi⟩ : ∃ i, k / 2 = i := ⟨_, rfl⟩
      rw [hi] at hcell hfree HS
      have hi2 : i < 8 := by omega
      have hiq : (k : Int) / 2 = (i : Int) := by omega
      have hwi : IntKind.i64.wrap (i : Int) = (i : Int) := IntWalk.i64_in _ ⟨by omega, by omega⟩
      have hwb : IntKind.u64.wrap (b : Int) = (b : Int) := by rw [IntKind.wrap_u64]; omega
      have hi3 : (i : Int) < 8 := by omega
      have HI := Lib.hid hi
      rcases (by omega : k % 2 = 0 ∨ k % 2 = 1) with h2 | h2
      · rw [h2, Nat.pow_zero, Nat.mul_one] at HS
        have hir : (k : Int).tmod 2 = 0 := by rw [Int.tmod_eq_emod_of_nonneg (by omega)]; omega
        have h80 : IntKind.i64.wrap 0 = 0 := by rfl
        obtain ⟨n, hn⟩ : ∃ n, d + b = n := ⟨_, rfl⟩
        have hwn : IntKind.u64.wrap ((d : Int) + (b : Int)) = (n : Int) := by rw [IntKind.wrap_u64]; omega
        rw [hn] at HS
        have HB := Lib.hid hbb; have HN := Lib.hid hn
        clear hi h2 hbb s1 hn
        go_wp2_with fail
        go_still_tail 14, (by kernel_rfl)
        change wpList _ _ _ _ _ wr.drew
        go_wp2_with fail
        refine ⟨⟨k + 1, by omega, by go_num, ?_, ?_, ?_, ?_⟩, by simp [intOf]; omega⟩
        · exact hz.setOther (w := wr) i (.int .u64 (n : Int)) (by omega)
        · rw [← HS.out.2]; exact HD.out.set (w := wr) i n
        · exact (hbel.setCell (p := ⟨w.heap.size + 1 + 1, i, none⟩) (by simp; omega) _).drew
        · simpa using hsz
      · rw [h2, Nat.pow_one] at HS
        have hir : (k : Int).tmod 2 = 1 := by rw [Int.tmod_eq_emod_of_nonneg (by omega)]; omega
        have h80 : IntKind.i64.wrap 8 = 8 := by rfl
        obtain ⟨e, he⟩ : ∃ e, b * 256 = e := ⟨_, rfl⟩
        have hwe : IntKind.u64.wrap ((b : Int) * 256) = (e : Int) := by rw [IntKind.wrap_u64]; omega
        obtain ⟨n, hn⟩ : ∃ n, d + e = n := ⟨_, rfl⟩
        have hwn : IntKind.u64.wrap ((d : Int) + (e : Int)) = (n : Int) := by rw [IntKind.wrap_u64]; omega
        rw [he, hn] at HS
        have HB := Lib.hid hbb; have HN := Lib.hid (And.intro he hn)
        clear hi h2 hbb s1 hn he
        go_wp2_with fail
        go_still_tail 14, (by kernel_rfl)
        change wpList _ _ _ _ _ wr.drew
        go_wp2_with fail
        refine ⟨⟨k + 1, by omega, by go_num, ?_, ?_, ?_, ?_⟩, by simp [intOf]; omega⟩
        · exact hz.setOther (w := wr) i (.int .u64 (n : Int)) (by omega)
        · rw [← HS.out.2]; exact HD.out.set (w := wr) i n
        · exact (hbel.setCell (p := ⟨w.heap.size + 1 + 1, i, none⟩) (by simp; omega) _).drew
        · simpa using hsz
    · have hk16 : k = 16 := by omega
      subst hk16
      rw [Nat.mod_eq_of_lt HX.out] at hd
      obtain ⟨T, hT⟩ := hd
      have HT := Lib.hid hT
      clear hT
      obtain ⟨T1, hT1⟩ := hz
      have HT1 := Lib.hid hT1
      clear hT1
      have HV : val (digs 8 x) = x := by rw [val_digs]; exact Nat.mod_eq_of_lt (Nat.lt_of_lt_of_le HX.out (by decide +kernel))
      have C := settle_c wr (digs 8 x) (digs_length 8 x) (fun d h => Nat.lt_trans (digs_lt 8 x d h) (by decide))
      rw [HV] at C
      have HC := Lib.hid C
      clear C HV
      go_wp2_with (refine wpList_load_row rfl 26 _ rfl (w.heap.size + 1 + 1) rfl T _ _ _ HT.out Tryd.underlying26 rfl (by rw [size_dgA, digs_length]; kernel_rfl) ?_)
      refine HC.out.mono ?_
      rintro e w1 ⟨rfl, hb1⟩
      have HT2 := Lib.hid (nb_heap HT1.out w1 hb1)
      go_wp2_with (refine wpList_store_row rfl 26 _ _ rfl _ (dgA (digs 8 (x % pp))) rfl rfl _ _ HT2.out (by rw [size_dgA, digs_length]; kernel_rfl) (by rw [size_dgA, size_dgA, digs_length, digs_length]) (all_dgA _) ?_)
      exact bodyPost_ret_by (results_ds rfl _ (w.heap.size + 1) (digs 8 (x % pp)) _ rfl (setRow_ds _ ⟨T1, HT2.out⟩) Tryd.underlying26 rfl (by kernel_rfl)) rfl ⟨rfl, below_setRow (hbel.trans (hb1.mono (by omega))) (by omega)⟩
theorem byte_mod (n k i : Nat) : n % 256 ^ k / 256 ^ i % 256 = if i < k then n / 256 ^ i % 256 else 0 := by
  by_cases h : i < k
  · rw [if_pos h]
    have e : ∀ m : Nat, m / 256 ^ i % 256 = m % 256 ^ (i + 1) / 256 ^ i := fun m => by rw [Nat.pow_succ, Nat.mod_mul_right_div_self]
    rw [e, e, Nat.mod_mod_of_dvd _ (Nat.pow_dvd_pow 256 h)]
  · rw [if_neg h, Nat.div_eq_of_lt (Nat.lt_of_lt_of_le (Nat.mod_lt _ (Nat.pow_pos (by decide))) (Nat.pow_le_pow_right (by decide) (by omega)))]
theorem fps_byte (n k : Nat) (hk : k < 16) : (fps [n % 256 ^ k]).setIfInBounds k (byteV n k) = fps [n % 256 ^ (k + 1)] := by
  rw [fps_one, fps_one]
  apply Array.ext_getElem?
  intro j
  rcases Nat.lt_or_ge j 16 with hj | hj
  · by_cases hjk : j = k
    · subst hjk
      rw [Array.getElem?_setIfInBounds_self_of_lt (by rw [size_fpC]; exact hj), fpC_get _ _ hj]
      unfold byteV
      rw [byte_mod, if_pos (by omega)]
    · rw [Array.getElem?_setIfInBounds_ne (fun e => hjk e.symm), fpC_get _ _ hj, fpC_get _ _ hj]
      unfold byteV
      rw [byte_mod, byte_mod]
      by_cases h : j < k
      · rw [if_pos h, if_pos (by omega)]
      · rw [if_neg h, if_neg (by omega)]
  · rw [Array.getElem?_eq_none (by simp [size_fpC]; exact hj), Array.getElem?_eq_none (by simp [size_fpC]; exact hj)]
theorem setCell_fps {w : World} {b k : Nat} {l m : List Nat} {v : Value} (h : Fps w b l) (e : (fps l).setIfInBounds k v = fps m) : Fps (w.setCell ⟨b, k, none⟩ v) b m := by
  obtain ⟨T, hT⟩ := h
  exact ⟨T, by rw [heap_setCell_same w b k _ T _ hT, e]⟩
theorem zero_fps : fps [0] = #[.int .u8 0, .int .u8 0, .int .u8 0, .int .u8 0, .int .u8 0, .int .u8 0, .int .u8 0, .int .u8 0, .int .u8 0, .int .u8 0, .int .u8 0, .int .u8 0, .int .u8 0, .int .u8 0, .int .u8 0, .int .u8 0] := by rfl
theorem dig_byte (x k : Nat) : x / 65536 ^ (k / 2) % 65536 / 256 ^ (k % 2) % 256 = x / 256 ^ k % 256 := by
  have e : (256 : Nat) ^ k = 65536 ^ (k / 2) * 256 ^ (k % 2) := by
    rw [pow256, ← Nat.pow_add]
    congr 1
    omega
  rw [e, ← Nat.div_div_eq_div_mul]
  generalize x / 65536 ^ (k / 2) = d
  rcases (by omega : k % 2 = 0 ∨ k % 2 = 1) with h | h <;> rw [h] <;> omega
set_option maxRecDepth 100000 in
set_option maxHeartbeats 4000000 in
theorem bytes_c (w : World) (x : Nat) (hx : x < 256 ^ 16) :
    Calls Tryd.prog 45 #[.agg (dgA (digs 8 x))] w fun e w' => e = .returned (.agg (fpC x)) ∧ Below w.heap.size w w' := by
  have HX := Lib.hid hx
  clear hx
  go_enter Tryd.func45, Tryd.ntmps45
  go_wp2_with fail
  go_loopw [6] (fun i wr => ∃ k : Nat, k ≤ 16 ∧ i = .int .i64 k ∧ Ds wr w.heap.size (digs 8 x) ∧ Fps wr (w.heap.size + 1) [0] ∧ Fps wr (w.heap.size + 1 + 1) [x % 256 ^ k] ∧ Below w.heap.size w wr ∧ w.heap.size + 1 + 1 < wr.heap.size) (fun i _ => 16 - (intOf i).toNat)
  case atStart =>
    refine ⟨0, by decide, rfl, ?_, ?_, ?_, ?_, by simp⟩
    · exact ((Ds.new _ (digs 8 x) _ _ _ rfl rfl).alloc _).alloc _
    · exact (Fps.new _ [0] _ _ _ (by simp) zero_fps.symm).alloc _
    · rw [Nat.pow_zero, Nat.mod_one]; exact Fps.new _ [0] _ _ _ (by simp) zero_fps.symm
    · exact (((Below.refl _ _).alloc (Nat.le_refl _) _).alloc (by simp) _).alloc (by simp; omega) _
  case round =>
    obtain ⟨k, hk, rfl, hd, hz, ho, hbel, hsz⟩ := hrel
    by_cases hlt : k < 16
    · have hget := digs_get 8 x (k / 2) (by omega)
      have hcell := hd.cell hget
      have hdb := dig_byte x k
      obtain ⟨d, hd', hdlt⟩ : ∃ d, x / 65536 ^ (k / 2) % 65536 = d ∧ d < 65536 := ⟨_, rfl, Nat.mod_lt _ (by decide)⟩
      rw [hd'] at hcell hdb
      obtain ⟨i, hi⟩ : ∃ i, k / 2 = i := ⟨_, rfl⟩
      rw [hi] at hcell
      have hold := ho.cell (k := 0) rfl (o := 0) rfl k hlt
      rw [Nat.zero_add] at hold
      unfold byteV at hold
      generalize x % 256 ^ k / 256 ^ k % 256 = ob at hold
      have hfr := ho.free k
      have hi2 : i < 8 := by omega
      have hiq : (k : Int) / 2 = (i : Int) := by omega
      have hi3 : (i : Int) < 8 := by omega
      have HD := Lib.hid hd; have HO := Lib.hid ho
      have HST := Lib.hid (fps_byte x k hlt)
      rcases (by omega : k % 2 = 0 ∨ k % 2 = 1) with h2 | h2
      · rw [h2, Nat.pow_zero, Nat.div_one] at hdb
        have hir : (k : Int) % 2 = 0 := by omega
        obtain ⟨n, hn, hn'⟩ : ∃ n : Nat, d % 256 = n ∧ IntKind.u8.wrap (d : Int) = (n : Int) := ⟨_, rfl, by rw [IntKind.wrap_u8]; omega⟩
        have hbv : byteV x k = .int .u8 (n : Int) := by unfold byteV; rw [← hdb, hn]
        have HBV := Lib.hid hbv
        clear hd ho hi h2 hdb hn hget hd' hbv
        go_wp2_with fail
        refine ⟨⟨k + 1, by omega, by go_num, ?_, ?_, ?_, ?_, by simpa using hsz⟩, by simp [intOf]; omega⟩
        · exact HD.out.setOther _ _ (by omega)
        · exact hz.of_heap (heap_setCell_other _ _ _ _ (by simp))
        · exact setCell_fps HO.out (by rw [← HBV.out]; exact HST.out)
        · exact hbel.setCell (p := ⟨w.heap.size + 1 + 1, k, none⟩) (by simp; omega) _
      · rw [h2, Nat.pow_one] at hdb
        have hir : (k : Int) % 2 = 1 := by omega
        obtain ⟨n, hn, hn'⟩ : ∃ n : Nat, d / 256 % 256 = n ∧ IntKind.u8.wrap ((d : Int) / 256) = (n : Int) := ⟨_, rfl, by rw [IntKind.wrap_u8]; omega⟩
        have hbv : byteV x k = .int .u8 (n : Int) := by unfold byteV; rw [← hdb, hn]
        have HBV := Lib.hid hbv
        clear hd ho hi h2 hdb hn hget hd' hbv
        go_wp2_with fail
        refine ⟨⟨k + 1, by omega, by go_num, ?_, ?_, ?_, ?_, by simpa using hsz⟩, by simp [intOf]; omega⟩
        · exact HD.out.setOther _ _ (by omega)
        · exact hz.of_heap (heap_setCell_other _ _ _ _ (by simp))
        · exact setCell_fps HO.out (by rw [← HBV.out]; exact HST.out)
        · exact hbel.setCell (p := ⟨w.heap.size + 1 + 1, k, none⟩) (by simp; omega) _
    · have hk16 : k = 16 := by omega
      subst hk16
      rw [Nat.mod_eq_of_lt HX.out] at ho
      obtain ⟨T, hT⟩ := ho
      have HT := Lib.hid hT
      obtain ⟨T1, hT1⟩ := hz
      have HT1 := Lib.hid hT1
      clear hT1 hT
      go_wp2_with (first | (refine wpList_load_row rfl 22 _ rfl (w.heap.size + 1 + 1) rfl T (fps [x]) _ _ HT.out Tryd.underlying22 rfl (by rw [size_fps]; kernel_rfl) ?_) | (refine wpList_store_row rfl 22 _ _ rfl _ (fps [x]) rfl rfl _ _ HT1.out (by rw [size_fps]; kernel_rfl) (by rw [size_fps, size_fps]; rfl) (by rw [fps_one]; exact all_fpC _) ?_))
      exact bodyPost_ret_by (results_fps1 rfl _ (w.heap.size + 1) x _ rfl (setRow_fps [x] ⟨T1, HT1.out⟩) Tryd.underlying22 rfl (by kernel_rfl)) rfl ⟨rfl, below_setRow hbel (by omega)⟩
end Go.Proofs.YtfkfljohhabldaaDoor
namespace Go.FourQ
open Go.RowKit
section
variable {P : Program} {ops : Array Oper} {rest : List Oper} {o : Oper} {a : Act} {w : World} {Q : Exit → Act → World → Prop}
theorem addr_add (b o j : Nat) : (⟨b, o, none⟩ : Addr).add j = ⟨b, o + j, none⟩ := by unfold Addr.add; split <;> simp_all
theorem run_loadVar_at (w : World) (b off : Nat) (ty : TypeId) (cs : Array Value) (d : TypeDesc) (hc : ∀ j v, cs[j]? = some v → w.cell? ⟨b, off + j, none⟩ = some v)
    (hu : P.underlying ty = some d) (hd : (match d with | .struct _ | .array _ _ => true | _ => false) = true) (hi : (P.info? ty).map (·.size) = some cs.size) :
    (loadVar ty ⟨b, off, none⟩).run P w = .ok (.agg cs) w := by
  have hl : (loadCells ⟨b, off, none⟩ cs.toList.length).run P w = .ok cs.toList.toArray w :=
    run_loadCells_list (P := P) w ⟨b, off, none⟩ cs.toList (fun j v hv => by
      rw [addr_add]
      exact hc j v (by simpa using hv))
  cases hq : P.info? ty with
  | none => simp [hq] at hi
  | some i =>
    have hs : i.size = cs.size := by simpa [hq] using hi
    have hagg : (isAgg ty).run P w = .ok true w := by
      unfold isAgg
      rw [Sem.run_bind, run_underlying hu w]
      cases d <;> simp_all
    simp only [Array.length_toList, Array.toArray_toList] at hl
    simp [loadVar, Sem.run_bind, hagg, sizeOf, typeInfo, hq, hs, hl]
theorem fps_getElem {l : List Nat} {j : Nat} {v : Value} (h : (fps l)[j]? = some v) : ∃ x, l[j / 16]? = some x ∧ v = byteV x (j % 16) := by
  have hj : j < 16 * l.length := by
    rcases Nat.lt_or_ge j (16 * l.length) with h' | h'
    · exact h'
    · rw [Array.getElem?_eq_none (by rw [size_fps]; exact h')] at h; simp at h
  have hk : l[j / 16]? = some (l[j / 16]'(by omega)) := List.getElem?_eq_getElem _
  have e : j = 16 * (j / 16) + j % 16 := by omega
  refine ⟨_, hk, ?_⟩
  rw [e, fps_get l _ _ _ hk (by omega)] at h
  exact (Option.some.inj h).symm
/-- The cells of some elements of a block. -/
theorem Fps.cells {b : Nat} {l m : List Nat} (h : Fps w b l) {k off : Nat} (ho : off = 16 * k) (hm : ∀ i x, m[i]? = some x → l[k + i]? = some x) :
    ∀ j v, (fps m)[j]? = some v → w.cell? ⟨b, off + j, none⟩ = some v := fun j v hj => by
  obtain ⟨x, hx, rfl⟩ := fps_getElem hj
  have := h.cell (hm _ _ hx) (o := 16 * (k + j / 16)) rfl (j % 16) (Nat.mod_lt _ (by decide))
  have e : off + j = 16 * (k + j / 16) + j % 16 := by omega
  rw [e]
  exact this
end
end Go.FourQ
namespace Go.Proofs.YtfkfljohhabldaaDoor
open Go.RowKit Go.FourQ
end Go.Proofs.YtfkfljohhabldaaDoor
namespace Go.FourQ
open Go.RowKit
section
variable {P : Program} {md : Region.Mode} {ops : Array Oper} {Q : Exit → Act → World → Prop} {S : World → Prop}
/-- A plan: (true, i): number i is taken first; (false, i): number i alone may come up. -/
def planOk (md : Region.Mode) (ops : Array Oper) : Array Bool → List (Bool × Nat) → Bool
  | listed, [] => (Region.ready md ops listed).isEmpty
  | listed, (true, i) :: r => Region.free md ops listed i && (Region.ready md ops listed).contains i && planOk md ops (listed.setIfInBounds i true) r
  | listed, (false, i) :: r => Region.ready md ops listed == [i] && planOk md ops (listed.setIfInBounds i true) r
def wpPlan (P : Program) (ops : Array Oper) (Q : Exit → Act → World → Prop) (S : World → Prop) : List (Bool × Nat) → Act → World → Prop
  | [], a, w => Q .normal a w
  | (true, i) :: r, a, w => ∃ o v, ops[i]? = some o ∧ YieldsIf P ops S o v a ∧ wpPlan P ops Q S r (a.put o.dst v) w
  | (false, i) :: r, a, w => wpOp P ops Q i (fun a' w' => S w' ∧ wpPlan P ops Q S r a' w') a w
theorem wpAnyH_of_plan (hs : Region.noSelect ops = true) (hQ : ∀ c a (d : Option Tmp) v w, Q (.panic c) (Act.put a d v) w → Q (.panic c) a w) : ∀ (r : List (Bool × Nat)) (fuel : Nat) (listed : Array Bool) (a : Act) (w : World),
    r.length ≤ fuel → planOk md ops listed r = true → S w → wpPlan P ops Q S r a w → wpAnyH P md ops Q S fuel listed a w
  | [], fuel, listed, a, w, _, hp, _, h => wpAnyH_done (by simpa [planOk] using hp) h fuel
  | (true, i) :: r, 0, _, _, _, hl, _, _, _ => absurd hl (by simp)
  | (false, i) :: r, 0, _, _, _, hl, _, _, _ => absurd hl (by simp)
  | (true, i) :: r, fuel + 1, listed, a, w, hl, hp, hS, h => by
    simp only [planOk, Bool.and_eq_true] at hp
    obtain ⟨o, v, ho, hy, hr⟩ := h
    exact wpAnyH_take ho hs hp.1.1 hp.1.2 (fun c a w => hQ c a o.dst v w) hy hS (wpAnyH_of_plan hs hQ r fuel _ _ _ (by simpa using hl) hp.2 hS hr)
  | (false, i) :: r, fuel + 1, listed, a, w, hl, hp, hS, h => by
    simp only [planOk, Bool.and_eq_true, beq_iff_eq] at hp
    refine wpAnyH_all hp.1 (by simp) (fun j hj => ?_)
    obtain rfl : j = i := by simpa using hj
    exact wpOp_mono (fun a' w' h' => ⟨h'.1, wpAnyH_of_plan hs hQ r fuel _ _ _ (by simpa using hl) hp.2 h'.1 h'.2⟩) h
/-- The region, by a plan; S: what was there when it began is as it was. -/
theorem wp_region_plan {id : Nat} {l : List Oper} {a : Act} {w : World} (r : List (Bool × Nat)) (hm : P.follows .mixedOrders = true) (hs : Region.noSelect l.toArray = true)
    (hQ : ∀ c a (d : Option Tmp) v w, Q (.panic c) (Act.put a d v) w → Q (.panic c) a w)
    (hl : Nat.ble r.length l.toArray.size = true) (hp : planOk .any l.toArray (Array.replicate l.toArray.size false) r = true)
    (h : wpPlan P l.toArray Q (fun w' => Below w.heap.size w w') r a w.drew) : (Code.region id l.toArray true).wp P Q a w :=
  wp_region_held (S := fun w' => Below w.heap.size w w') hm (wpAnyH_of_plan hs hQ r _ _ _ _ (Nat.le_of_ble_eq_true hl) hp ((Below.refl _ _).drew) h)
variable {a : Act} {w : World} {o : Oper} {i : Nat} {r : List (Bool × Nat)}
theorem pl_pure (ho : ops[i]? = some o) (hw : Region.wanted o (yielded ops a.tmps) = true) (v : Value) (hrun : ∀ w', (execOp a.eval o).run P w' = .ok (.value v) w')
    (h : wpPlan P ops Q S r (a.put o.dst v) w) : wpPlan P ops Q S ((true, i) :: r) a w := ⟨o, v, ho, .inl ⟨hw, fun w' _ => hrun w'⟩, h⟩
theorem pl_load (ho : ops[i]? = some o) (hw : Region.wanted o (yielded ops a.tmps) = true) (ty : TypeId) (x : Operand) (hop : o.op = .load ty x) (b off : Nat) (hx : a.eval x = .pointer (some ⟨b, off, none⟩)) (cs : Array Value) (d : TypeDesc)
    (hc : ∀ w', S w' → ∀ j v, cs[j]? = some v → w'.cell? ⟨b, off + j, none⟩ = some v)
    (hu : P.underlying ty = some d) (hd : (match d with | .struct _ | .array _ _ => true | _ => false) = true) (hi : (P.info? ty).map (·.size) = some cs.size)
    (h : wpPlan P ops Q S r (a.put o.dst (.agg cs)) w) : wpPlan P ops Q S ((true, i) :: r) a w := by
  refine ⟨o, .agg cs, ho, .inl ⟨hw, fun w' hS => ?_⟩, h⟩
  unfold execOp
  simp only [hop, hx, Instr.loadAt, Instr.sureAddr, Sem.run_bind, Sem.run_pure, Result.andThen_ok, run_loadVar_at w' b off ty cs d (hc w' hS) hu hd hi]
theorem pl_eql (ho : ops[i]? = some o) (hw : Region.wanted o (yielded ops a.tmps) = true) (ty ty' : TypeId) (x y : Operand) (hop : o.op = .binOp .eql ty x y ty') (xs ys : Array Value) (b : Bool) (hx : a.eval x = .agg xs) (hy : a.eval y = .agg ys)
    (hm : P.eqGuardType P.depth ty = false) (hb : ∀ w', (binOp .eql ty (.agg xs) (.agg ys)).run P w' = .ok (.bool b) w')
    (h : wpPlan P ops Q S r (a.put o.dst (.bool b)) w) : wpPlan P ops Q S ((true, i) :: r) a w := by
  refine pl_pure ho hw (.bool b) (fun w' => ?_) h
  unfold execOp
  simp only [hop, hx, hy, Sem.run_bind, run_eqGuard_agg w' .eql ty x y xs ys hm, Result.andThen_ok, hb w', Sem.run_pure]
/-- A call of a Go function. -/
theorem pl_call (ho : ops[i]? = some o) (hw : Region.wanted o (yielded ops a.tmps) = true) (f : FuncId) (args : Array Value) (v : Value) (hrun : ∀ w', (execOp a.eval o).run P w' = .ok (.enter f args) w')
    (hc : Calls P f args w fun e w' => e = .returned v ∧ Below w.heap.size w w')
    (h : ∀ w', Below w.heap.size w w' → S w' ∧ wpPlan P ops Q S r (a.put o.dst v) w') : wpPlan P ops Q S ((false, i) :: r) a w := by
  show wpOp P ops Q i _ a w
  unfold wpOp
  simp only [ho, hw, if_true]
  refine .inl ?_
  unfold Oper.wp
  rw [hrun w]
  refine hc.mono ?_
  rintro e w' ⟨rfl, hb⟩
  exact h w' hb
/-- An operation that makes memory. -/
theorem pl_make (ho : ops[i]? = some o) (hw : Region.wanted o (yielded ops a.tmps) = true) (v : Value) (w' : World) (hrun : (execOp a.eval o).run P w = .ok (.value v) w')
    (h : S w' ∧ wpPlan P ops Q S r (a.put o.dst v) w') : wpPlan P ops Q S ((false, i) :: r) a w := by
  show wpOp P ops Q i _ a w
  unfold wpOp
  simp only [ho, hw, if_true]
  refine .inl ?_
  unfold Oper.wp
  rw [hrun]
  exact h
/-- The operations of a region of a code. -/
def regOf (id : Nat) : Code → Option (Array Oper)
  | .region j ops _ => if j == id then some ops else none
  | .seq x y | .cond _ x y | .rangeFunc _ _ x y => (regOf id x).or (regOf id y)
  | .block _ c | .loop c | .scope c => regOf id c
  | _ => none
def opsAt (f : Func) (id : Nat) : Array Oper := ((f.body.bind (regOf id)).getD #[])
/-- 'wpPlan', that nobody unfolds: the elaborator looks into the goal behind each step, and what it sees there it would reckon out. -/
structure PlanG (P : Program) (ops : Array Oper) (Q : Exit → Act → World → Prop) (S : World → Prop) (r : List (Bool × Nat)) (a : Act) (w : World) : Prop where
  out : wpPlan P ops Q S r a w
theorem wp_region_at {id : Nat} {l : List Oper} (ops : Array Oper) (r : List (Bool × Nat)) (he : l.toArray = ops) (hm : P.follows .mixedOrders = true) (hs : Region.noSelect ops = true)
    (hQ : ∀ c a (d : Option Tmp) v w, Q (.panic c) (Act.put a d v) w → Q (.panic c) a w)
    (hl : Nat.ble r.length ops.size = true) (hp : planOk .any ops (Array.replicate ops.size false) r = true)
    (h : PlanG P ops Q (fun w' => Below w.heap.size w w') r a w.drew) : (Code.region id l.toArray true).wp P Q a w := by
  subst he
  exact wp_region_plan r hm hs hQ hl hp h.out
def opN (ops : Array Oper) (i : Nat) : Oper := ops[i]?.getD default
def wantN (ops : Array Oper) (i : Nat) (a : Act) : Option Bool := ops[i]?.map fun o => Region.wanted o (yielded ops a.tmps)
theorem wantN_some {b : Bool} (h : wantN ops i a = some b) : ops[i]? = some (opN ops i) ∧ Region.wanted (opN ops i) (yielded ops a.tmps) = b := by
  unfold wantN opN at *
  cases hq : ops[i]? with
  | none => rw [hq] at h; cases h
  | some o => rw [hq] at h; exact ⟨rfl, by simpa using h⟩
variable {d : Option Tmp} {v : Value}
theorem k_pure (hw : wantN ops i a = some true) (hd : (opN ops i).dst = d) (hrun : ∀ w', (execOp a.eval (opN ops i)).run P w' = .ok (.value v) w')
    (h : PlanG P ops Q S r (a.put d v) w) : PlanG P ops Q S ((true, i) :: r) a w := by
  subst hd
  exact ⟨pl_pure (wantN_some hw).1 (wantN_some hw).2 v hrun h.out⟩
theorem k_load (hw : wantN ops i a = some true) (hd : (opN ops i).dst = d) {ty : TypeId} {x : Operand} (hop : (opN ops i).op = .load ty x) {b off : Nat} (hx : a.eval x = .pointer (some ⟨b, off, none⟩)) {cs : Array Value}
    (hc : ∀ w', S w' → ∀ j v, cs[j]? = some v → w'.cell? ⟨b, off + j, none⟩ = some v) {t : TypeDesc}
    (hu : P.underlying ty = some t) (ht : (match t with | .struct _ | .array _ _ => true | _ => false) = true) (hi : (P.info? ty).map (·.size) = some cs.size)
    (h : PlanG P ops Q S r (a.put d (.agg cs)) w) : PlanG P ops Q S ((true, i) :: r) a w := by
  subst hd
  exact ⟨pl_load (wantN_some hw).1 (wantN_some hw).2 ty x hop b off hx cs t hc hu ht hi h.out⟩
theorem k_eql (hw : wantN ops i a = some true) (hd : (opN ops i).dst = d) {ty ty' : TypeId} {x y : Operand} (hop : (opN ops i).op = .binOp .eql ty x y ty') {xs ys : Array Value} {b : Bool} (hx : a.eval x = .agg xs) (hy : a.eval y = .agg ys)
    (hm : P.eqGuardType P.depth ty = false) (hb : ∀ w', (binOp .eql ty (.agg xs) (.agg ys)).run P w' = .ok (.bool b) w')
    (h : PlanG P ops Q S r (a.put d (.bool b)) w) : PlanG P ops Q S ((true, i) :: r) a w := by
  subst hd
  exact ⟨pl_eql (wantN_some hw).1 (wantN_some hw).2 ty ty' x y hop xs ys b hx hy hm hb h.out⟩
theorem k_call (hw : wantN ops i a = some true) (hd : (opN ops i).dst = d) {f : FuncId} {args : Array Value} (hrun : ∀ w', (execOp a.eval (opN ops i)).run P w' = .ok (.enter f args) w')
    (hc : Calls P f args w fun e w' => e = .returned v ∧ Below w.heap.size w w')
    (h : ∀ w', Below w.heap.size w w' → S w' ∧ PlanG P ops Q S r (a.put d v) w') : PlanG P ops Q S ((false, i) :: r) a w := by
  subst hd
  exact ⟨pl_call (wantN_some hw).1 (wantN_some hw).2 f args v hrun hc fun w' hb => ⟨(h w' hb).1, (h w' hb).2.out⟩⟩
theorem k_make (hw : wantN ops i a = some true) (hd : (opN ops i).dst = d) {w' : World} (hrun : (execOp a.eval (opN ops i)).run P w = .ok (.value v) w') (hS : S w')
    (h : ∀ x, x = w' → S x → PlanG P ops Q S r (a.put d v) x) : PlanG P ops Q S ((false, i) :: r) a w := by
  subst hd
  exact ⟨pl_make (wantN_some hw).1 (wantN_some hw).2 v w' hrun ⟨hS, (h w' rfl hS).out⟩⟩
theorem k_end (h : Q .normal a w) : PlanG P ops Q S [] a w := ⟨h⟩
end
end Go.FourQ
namespace Go.Proofs.YtfkfljohhabldaaDoor
open Go.RowKit Go.FourQ
section
variable {w : World} {b1 b2 o1 o2 k1 k2 : Nat} {l1 l2 : List Nat} {x y : Nat}
theorem fpMod (hm : ModW w) (h1 : Fps w b1 l1) (e1 : o1 = 16 * k1) (i1 : l1[k1]? = some x) (hx : LowB x) :
    Calls Tryd.prog 96 #[.pointer (some ⟨b1, o1, none⟩)] w fun e w' => e = .returned (.tuple #[]) ∧ Upd w w' b1 (l1.set k1 (x % pp)) := by
  have HC := Lib.hid (fpModG hm h1 e1 i1 hx)
  clear hm h1 e1 i1 hx
  go_enter Tryd.func96, Tryd.ntmps96
  go_wp2_with fail
  refine HC.out.mono ?_
  rintro e w' ⟨rfl, u⟩
  go_wp2_with fail
  go_end0
  exact ⟨rfl, u⟩
end
end Go.Proofs.YtfkfljohhabldaaDoor
namespace Go.Proofs.YtfkfljohhabldaaDoor
open Go.RowKit Go.FourQ
end Go.Proofs.YtfkfljohhabldaaDoor
namespace Go.Proofs.YtfkfljohhabldaaDoor
open Go.RowKit Go.FourQ
end Go.Proofs.YtfkfljohhabldaaDoor
namespace Go.FourQ
open Go.RowKit
theorem nb_alloc {w w' : World} (h : Below w.heap.size w w') (o : Obj) : Below w.heap.size w (w'.alloc o) := h.trans ((Below.refl _ _).alloc h.size o)
theorem all1 {p : Nat → Prop} {a : Nat} (ha : p a) : ∀ x ∈ [a], p x := by simp [ha]
end Go.FourQ
namespace Go.Proofs.YtfkfljohhabldaaDoor
open Go.RowKit Go.FourQ
theorem low_mod' (x : Nat) : LowB (x % pp) := Nat.lt_trans (Nat.mod_lt _ (by decide +kernel)) (by decide +kernel)
end Go.Proofs.YtfkfljohhabldaaDoor
namespace Go.FourQ
open Go.RowKit
section
variable {P : Program} {md : Region.Mode} {ops : Array Oper} {Q : Exit → Act → World → Prop} {S : World → Prop}
theorem wpOps_of_plan : ∀ (r : List (Bool × Nat)) (a : Act) (w : World), S w → wpPlan P ops Q S r a w → wpOps P ops Q (r.map (·.2)) a w
  | [], _, _, _, h => h
  | (true, i) :: r, a, w, hS, ⟨o, v, ho, hy, h⟩ => by
    rw [List.map_cons, wpOps_cons]
    exact hy.wpOp ho hS (wpOps_of_plan r _ _ hS h)
  | (false, i) :: r, a, w, hS, h => by
    rw [List.map_cons, wpOps_cons]
    exact wpOp_mono (fun a' w' h' => wpOps_of_plan r a' w' h'.1 h'.2) h
/-- A region that draws its order, by a plan; S: what holds throughout. -/
theorem wp_region_atS {id : Nat} {l : List Oper} {a : Act} {w : World} (ops : Array Oper) (r : List (Bool × Nat)) (S : World → Prop) (he : l.toArray = ops) (hm : P.follows .mixedOrders = true) (hs : Region.noSelect ops = true)
    (hQ : ∀ c a (d : Option Tmp) v w, Q (.panic c) (Act.put a d v) w → Q (.panic c) a w)
    (hl : Nat.ble r.length ops.size = true) (hp : planOk .any ops (Array.replicate ops.size false) r = true) (hS : S w.drew)
    (h : PlanG P ops Q S r a w.drew) : (Code.region id l.toArray true).wp P Q a w := by
  subst he
  exact wp_region_held (S := S) hm (wpAnyH_of_plan hs hQ r _ _ _ _ (Nat.le_of_ble_eq_true hl) hp hS h.out)
variable {a : Act} {w : World} {r : List (Bool × Nat)} {i : Nat} {d : Option Tmp} {v : Value}
/-- A store of a whole row. -/
theorem k_store (hw : wantN ops i a = some true) (hd : (opN ops i).dst = d) {ty : TypeId} {x y : Operand} (hop : (opN ops i).op = .store ty x y) {g : Nat} {cells : Array Value} (hx : a.eval x = .pointer (some ⟨g, 0, none⟩)) (hy : a.eval y = .agg cells)
    {t : TypeId} {old : Array Value} (hg : w.heap[g]? = some (.cells old t (0, 0))) (hi : (P.info? ty).map (·.size) = some cells.size)
    (hold : old.size = cells.size) (h1 : cells.all (·.oneCell') = true)
    (h : S (w.setRow g cells) ∧ PlanG P ops Q S r (a.put d undef) (w.setRow g cells)) : PlanG P ops Q S ((false, i) :: r) a w := by
  subst hd
  refine ⟨?_⟩
  show wpOp P ops Q i _ a w
  have hw' := wantN_some hw
  unfold wpOp
  simp only [hw'.1, hw'.2, if_true]
  exact .inl (wp_store_row ty x y hop g cells hx hy t old hg hi hold h1 ⟨h.1, h.2.out⟩)
/-- A whole row is read. -/
theorem k_row (hw : wantN ops i a = some true) (hd : (opN ops i).dst = d) {ty : TypeId} {x : Operand} (hop : (opN ops i).op = .load ty x) {b : Nat} (hx : a.eval x = .pointer (some ⟨b, 0, none⟩)) {cs : Array Value}
    (hc : ∀ w', S w' → ∃ T, w'.heap[b]? = some (.cells cs T (0, 0))) {t : TypeDesc}
    (hu : P.underlying ty = some t) (ht : (match t with | .struct _ | .array _ _ => true | _ => false) = true) (hi : (P.info? ty).map (·.size) = some cs.size)
    (h : PlanG P ops Q S r (a.put d (.agg cs)) w) : PlanG P ops Q S ((true, i) :: r) a w :=
  k_load hw hd hop hx (fun w' hs j v hj => by obtain ⟨T, hT⟩ := hc w' hs; rw [cell_of_row w' _ _ _ T (0, 0) hT, Nat.zero_add]; exact hj) hu ht hi h
end
/-- What was there at w0 is as it was; these rows hold these cells; those hold so many. -/
structure Kept (w0 : World) (bs : List (Nat × Array Value)) (ns : List (Nat × Nat)) (w' : World) : Prop where
  nb : Below w0.heap.size w0 w'
  row : ∀ p ∈ bs, ∃ T, w'.heap[p.1]? = some (.cells p.2 T (0, 0))
  room : ∀ p ∈ ns, ∃ T old, old.size = p.2 ∧ w'.heap[p.1]? = some (.cells old T (0, 0))
theorem lt_of_heap {w : World} {k : Nat} {o : Obj} (h : w.heap[k]? = some o) : k < w.heap.size := by
  rcases Nat.lt_or_ge k w.heap.size with h' | h'
  · exact h'
  · rw [Array.getElem?_eq_none h'] at h; cases h
theorem Kept.go {w0 w1 w2 : World} {bs : List (Nat × Array Value)} {ns : List (Nat × Nat)} (h : Kept w0 bs ns w1) (v : Below w1.heap.size w1 w2) : Kept w0 bs ns w2 where
  nb := nb_trans h.nb v
  row := fun p hp => by obtain ⟨T, hT⟩ := h.row p hp; exact ⟨T, (v.block _ (lt_of_heap hT)).trans hT⟩
  room := fun p hp => by obtain ⟨T, old, ho, hT⟩ := h.room p hp; exact ⟨T, old, ho, (v.block _ (lt_of_heap hT)).trans hT⟩
theorem Kept.at {w0 w1 : World} {bs : List (Nat × Array Value)} {ns : List (Nat × Nat)} (h : Kept w0 bs ns w1) (i : Nat) {b : Nat} {cs : Array Value} (hi : bs[i]? = some (b, cs)) : ∃ T, w1.heap[b]? = some (.cells cs T (0, 0)) :=
  h.row (b, cs) (List.mem_of_getElem? hi)
theorem Kept.put {w0 w1 : World} {bs : List (Nat × Array Value)} {g n : Nat} (h : Kept w0 bs [(g, n)] w1) {cs : Array Value} (hn : cs.size = n) (hg : w0.heap.size ≤ g) (hb : ∀ p ∈ bs, p.1 ≠ g) : Kept w0 bs [(g, n)] (w1.setRow g cs) where
  nb := below_setRow h.nb hg
  row := fun p hp => by obtain ⟨T, hT⟩ := h.row p hp; exact ⟨T, (setRow_other _ _ _ _ (hb p hp)).trans hT⟩
  room := fun p hp => by
    obtain ⟨T, old, _, hT⟩ := h.room p hp
    obtain rfl : p = (g, n) := by simpa using hp
    exact ⟨T, cs, hn, setRow_heap _ _ _ _ _ _ hT⟩
end Go.FourQ
namespace Go.FourQ
open Go.RowKit
theorem fpC_all1 (x : Nat) : ∀ v ∈ (fpC x).toList, v.oneCell' = true := fun v hv => Array.all_eq_true'.1 (all_fpC x) v (Array.mem_toList_iff.1 hv)
/-- 'copy' of sixteen bytes. -/
theorem run_copy16 {P : Program} (w : World) {dT ty e : TypeId} {b2 o2 dc sc : Nat} {a : Addr} {k2 x : Nat} {l2 : List Nat} (hu : P.underlying dT = some (.slice e)) (hs : (P.info? e).map (·.size) = some 1)
    (h2 : Fps w b2 l2) (e2 : o2 = 16 * k2) (i2 : k2 < l2.length) (hsrc : ∀ j v, (fpC x).toList[j]? = some v → w.cell? (a.add j) = some v) :
    ∃ w', (Builtin.copy_ #[dT, dT] ty #[.slice (some ⟨b2, o2, none⟩) 16 dc, .slice (some a) 16 sc]).run P w = .ok (goInt 16) w' ∧ Upd w w' b2 (l2.set k2 x) := by
  refine ⟨w.setCells b2 o2 (fpC x).toList, ?_, ?_⟩
  · refine (run_copy_cells w dT dT ty e b2 o2 16 dc a 16 sc (fpC x).toList hu hs rfl hsrc (fun j hj => ?_) (fun j _ => h2.free _) (fpC_all1 x))
    rw [h2.cell_any i2 e2 j hj]; rfl
  · exact upd_setCells h2 (s := 0) (z := x) _ i2 (by omega) (Nat.le_refl 16) (fun i _ hi => by
      have hi : i < 16 := by rw [Nat.zero_add] at hi; exact hi
      rw [Nat.sub_zero, Array.getElem?_toList, fpC_get _ _ hi]) (fun i hi h => absurd ⟨Nat.zero_le _, by rw [Nat.zero_add]; exact hi⟩ h)
end Go.FourQ
namespace Go.FourQ
/-- A commutative ring. -/
structure CR (K : Type) where
  zero : K
  one : K
  add : K → K → K
  mul : K → K → K
  neg : K → K
  add_comm : ∀ a b, add a b = add b a
  add_assoc : ∀ a b c, add (add a b) c = add a (add b c)
  add_zero : ∀ a, add a zero = a
  add_neg : ∀ a, add a (neg a) = zero
  mul_comm : ∀ a b, mul a b = mul b a
  mul_assoc : ∀ a b c, mul (mul a b) c = mul a (mul b c)
  mul_one : ∀ a, mul a one = a
  mul_add : ∀ a b c, mul a (add b c) = add (mul a b) (mul a c)
namespace CR
variable {K : Type} (R : CR K)
theorem zero_add (a : K) : R.add R.zero a = a := by rw [R.add_comm, R.add_zero]
theorem one_mul (a : K) : R.mul R.one a = a := by rw [R.mul_comm, R.mul_one]
theorem add_mul (a b c : K) : R.mul (R.add a b) c = R.add (R.mul a c) (R.mul b c) := by rw [R.mul_comm, R.mul_add, R.mul_comm c a, R.mul_comm c b]
theorem neg_add (a : K) : R.add (R.neg a) a = R.zero := by rw [R.add_comm, R.add_neg]
theorem add_left_cancel {a b c : K} (h : R.add a b = R.add a c) : b = c := by
  have := congrArg (R.add (R.neg a)) h
  rwa [← R.add_assoc, ← R.add_assoc, R.neg_add, R.zero_add, R.zero_add] at this
theorem mul_zero (a : K) : R.mul a R.zero = R.zero := by
  refine R.add_left_cancel (a := R.mul a R.zero) ?_
  rw [← R.mul_add, R.add_zero, R.add_zero]
theorem zero_mul (a : K) : R.mul R.zero a = R.zero := by rw [R.mul_comm, R.mul_zero]
theorem eq_neg {a b : K} (h : R.add a b = R.zero) : b = R.neg a := R.add_left_cancel (h.trans (R.add_neg a).symm)
theorem neg_neg (a : K) : R.neg (R.neg a) = a := (R.eq_neg (R.neg_add a)).symm
theorem neg_zero : R.neg R.zero = R.zero := (R.eq_neg (R.add_zero R.zero)).symm
theorem neg_mul (a b : K) : R.mul (R.neg a) b = R.neg (R.mul a b) := R.eq_neg (by rw [← R.add_mul, R.add_neg, R.zero_mul])
theorem mul_neg (a b : K) : R.mul a (R.neg b) = R.neg (R.mul a b) := by rw [R.mul_comm, R.neg_mul, R.mul_comm]
theorem add_add_add_comm (a b c d : K) : R.add (R.add a b) (R.add c d) = R.add (R.add a c) (R.add b d) := by
  rw [R.add_assoc, R.add_assoc, ← R.add_assoc b, R.add_comm b c, R.add_assoc c]
theorem neg_add_rev (a b : K) : R.neg (R.add a b) = R.add (R.neg a) (R.neg b) :=
  (R.eq_neg (by rw [R.add_add_add_comm, R.add_neg, R.add_neg, R.add_zero])).symm
theorem eq_of_sub {a b : K} (h : R.add a (R.neg b) = R.zero) : a = b := by
  rw [R.add_comm] at h
  rw [R.eq_neg h, R.neg_neg]
def nat : Nat → K
  | 0 => R.zero
  | n + 1 => R.add (nat n) R.one
theorem nat_add (a b : Nat) : R.nat (a + b) = R.add (R.nat a) (R.nat b) := by
  induction b with
  | zero => rw [Nat.add_zero, nat, R.add_zero]
  | succ b ih => rw [← Nat.add_assoc, nat, ih, nat, R.add_assoc]
theorem nat_mul (a b : Nat) : R.nat (a * b) = R.mul (R.nat a) (R.nat b) := by
  induction b with
  | zero => rw [Nat.mul_zero, nat, R.mul_zero]
  | succ b ih => rw [Nat.mul_succ, R.nat_add, ih, nat, R.mul_add, R.mul_one]
def int : Int → K
  | .ofNat n => R.nat n
  | .negSucc n => R.neg (R.nat (n + 1))
theorem int_sub (a b : Nat) : R.int ((a : Int) - (b : Int)) = R.add (R.nat a) (R.neg (R.nat b)) := by
  rcases Nat.le_total b a with h | h
  · obtain ⟨c, rfl⟩ := Nat.exists_eq_add_of_le h
    rw [show ((b + c : Nat) : Int) - (b : Int) = (c : Int) by omega, R.nat_add, R.add_comm (R.nat b), R.add_assoc, R.add_neg, R.add_zero]
    rfl
  · obtain ⟨c, rfl⟩ := Nat.exists_eq_add_of_le h
    rw [show (a : Int) - ((a + c : Nat) : Int) = -(c : Int) by omega, R.nat_add, R.neg_add_rev, ← R.add_assoc, R.add_neg, R.zero_add]
    cases c with
    | zero => exact R.neg_zero.symm
    | succ c => rfl
theorem int_as (a : Int) : ∃ m n : Nat, a = (m : Int) - (n : Int) ∧ R.int a = R.add (R.nat m) (R.neg (R.nat n)) := by
  obtain ⟨m, n, h⟩ : ∃ m n : Nat, a = (m : Int) - (n : Int) := ⟨a.toNat, (-a).toNat, by omega⟩
  exact ⟨m, n, h, by rw [h, R.int_sub]⟩
theorem int_add (a b : Int) : R.int (a + b) = R.add (R.int a) (R.int b) := by
  obtain ⟨m, n, rfl, h1⟩ := R.int_as a
  obtain ⟨k, l, rfl, h2⟩ := R.int_as b
  rw [show (m : Int) - n + ((k : Int) - l) = ((m + k : Nat) : Int) - ((n + l : Nat) : Int) by omega, R.int_sub, h1, h2, R.nat_add, R.nat_add, R.neg_add_rev, R.add_add_add_comm]
theorem int_neg (a : Int) : R.int (-a) = R.neg (R.int a) := by
  obtain ⟨m, n, rfl, h1⟩ := R.int_as a
  rw [show -((m : Int) - n) = (n : Int) - (m : Int) by omega, R.int_sub, h1, R.neg_add_rev, R.neg_neg, R.add_comm]
theorem int_mul (a b : Int) : R.int (a * b) = R.mul (R.int a) (R.int b) := by
  obtain ⟨m, n, rfl, h1⟩ := R.int_as a
  obtain ⟨k, l, rfl, h2⟩ := R.int_as b
  have e : ((m : Int) - n) * ((k : Int) - l) = ((m * k + n * l : Nat) : Int) - ((m * l + n * k : Nat) : Int) := by
    simp only [Int.sub_mul, Int.mul_sub, Int.natCast_add, Int.natCast_mul]; omega
  rw [e, R.int_sub, h1, h2, R.nat_add, R.nat_add, R.nat_mul, R.nat_mul, R.nat_mul, R.nat_mul, R.mul_add, R.add_mul, R.add_mul, R.neg_add_rev, R.mul_neg, R.mul_neg, R.neg_mul, R.neg_mul, R.neg_neg]
  rw [R.add_assoc, R.add_assoc]
  congr 1
  rw [R.add_comm (R.neg (R.mul (R.nat n) (R.nat k))), R.add_comm (R.neg (R.mul (R.nat m) (R.nat l))), R.add_assoc, R.add_comm (R.neg (R.mul (R.nat m) (R.nat l)))]
  exact (R.add_assoc _ _ _).symm
theorem int_zero : R.int 0 = R.zero := rfl
theorem int_one : R.int 1 = R.one := R.zero_add R.one
def pow (a : K) : Nat → K
  | 0 => R.one
  | n + 1 => R.mul (pow a n) a
theorem pow_add (a : K) (m n : Nat) : R.pow a (m + n) = R.mul (R.pow a m) (R.pow a n) := by
  induction n with
  | zero => rw [Nat.add_zero, pow, R.mul_one]
  | succ n ih => rw [← Nat.add_assoc, pow, ih, pow, R.mul_assoc]
theorem mul_mul_mul_comm (a b c d : K) : R.mul (R.mul a b) (R.mul c d) = R.mul (R.mul a c) (R.mul b d) := by
  rw [R.mul_assoc, R.mul_assoc, ← R.mul_assoc b, R.mul_comm b c, R.mul_assoc c]
theorem mul_pow (a b : K) (n : Nat) : R.pow (R.mul a b) n = R.mul (R.pow a n) (R.pow b n) := by
  induction n with
  | zero => rw [pow, pow, pow, R.mul_one]
  | succ n ih => rw [pow, ih, pow, pow, R.mul_mul_mul_comm]
theorem pow_mul (a : K) (m n : Nat) : R.pow (R.pow a m) n = R.pow a (m * n) := by
  induction n with
  | zero => rfl
  | succ n ih =>
    show R.mul (R.pow (R.pow a m) n) (R.pow a m) = _
    rw [ih, ← R.pow_add, Nat.mul_succ]
theorem one_pow (n : Nat) : R.pow R.one n = R.one := by
  induction n with
  | zero => rfl
  | succ n ih => rw [pow, ih, R.mul_one]
end CR
/-- An expression. -/
inductive Ex where
  | v (i : Nat)
  | n (k : Int)
  | add (a b : Ex)
  | mul (a b : Ex)
  | neg (a : Ex)
  | sub (a b : Ex)
abbrev Mono := List Nat
abbrev Poly := List (Int × Mono)
/-- 0: the same; 1: the first is greater; 2: the second. -/
def cmpM : Mono → Mono → Nat
  | [], [] => 0
  | [], _ :: _ => 2
  | _ :: _, [] => 1
  | a :: l, b :: m => if Nat.beq a b then cmpM l m else if Nat.ble a b then 2 else 1
def mulM : Mono → Mono → Mono
  | [], m => m
  | l, [] => l
  | a :: l, b :: m => Nat.add a b :: mulM l m
def addP : Nat → Poly → Poly → Poly
  | 0, p, q => p ++ q
  | _ + 1, [], q => q
  | _ + 1, p, [] => p
  | f + 1, (c, m) :: p, (d, k) :: q =>
    match cmpM m k with
    | 0 => if c + d = 0 then addP f p q else (c + d, m) :: addP f p q
    | 1 => (c, m) :: addP f p ((d, k) :: q)
    | _ => (d, k) :: addP f ((c, m) :: p) q
def scaleP (c : Int) (m : Mono) : Poly → Poly
  | [] => []
  | (d, k) :: q => (c * d, mulM m k) :: scaleP c m q
def mulP : Poly → Poly → Poly
  | [], _ => []
  | (c, m) :: p, q => addP 100000 (scaleP c m q) (mulP p q)
def negP : Poly → Poly
  | [] => []
  | (c, m) :: p => (-c, m) :: negP p
def varM : Nat → Mono
  | 0 => [1]
  | i + 1 => 0 :: varM i
def Ex.norm : Ex → Poly
  | .v i => [(1, varM i)]
  | .n k => if k = 0 then [] else [(k, [])]
  | .add a b => addP 100000 a.norm b.norm
  | .mul a b => mulP a.norm b.norm
  | .neg a => negP a.norm
  | .sub a b => addP 100000 a.norm (negP b.norm)
section
variable {K : Type} (R : CR K) (ρ : Nat → K)
def Ex.den : Ex → K
  | .v i => ρ i
  | .n k => R.int k
  | .add a b => R.add a.den b.den
  | .mul a b => R.mul a.den b.den
  | .neg a => R.neg a.den
  | .sub a b => R.add a.den (R.neg b.den)
def denM : Nat → Mono → K
  | _, [] => R.one
  | i, a :: l => R.mul (R.pow (ρ i) a) (denM (i + 1) l)
def denP : Poly → K
  | [] => R.zero
  | (c, m) :: p => R.add (R.mul (R.int c) (denM R ρ 0 m)) (denP p)
theorem cmpM_eq : ∀ (l m : Mono), cmpM l m = 0 → l = m
  | [], [], _ => rfl
  | [], _ :: _, h => by simp [cmpM] at h
  | _ :: _, [], h => by simp [cmpM] at h
  | a :: l, b :: m, h => by
    unfold cmpM at h
    cases hab : Nat.beq a b with
    | true => rw [hab, if_pos rfl] at h; rw [Nat.eq_of_beq_eq_true hab, cmpM_eq l m h]
    | false =>
      rw [hab, if_neg (by decide)] at h
      split at h <;> cases h
theorem den_append (p q : Poly) : denP R ρ (p ++ q) = R.add (denP R ρ p) (denP R ρ q) := by
  induction p with
  | nil => exact (R.zero_add _).symm
  | cons t p ih => obtain ⟨c, m⟩ := t; rw [List.cons_append, denP, ih, denP, R.add_assoc]
theorem den_addP : ∀ (f : Nat) (p q : Poly), denP R ρ (addP f p q) = R.add (denP R ρ p) (denP R ρ q)
  | 0, p, q => den_append R ρ p q
  | f + 1, [], q => (R.zero_add _).symm
  | f + 1, (c, m) :: p, [] => (R.add_zero _).symm
  | f + 1, (c, m) :: p, (d, k) :: q => by
    unfold addP
    split
    · rename_i h
      obtain rfl := cmpM_eq m k h
      have e : R.add (denP R ρ ((c, m) :: p)) (denP R ρ ((d, m) :: q)) = R.add (R.mul (R.int (c + d)) (denM R ρ 0 m)) (R.add (denP R ρ p) (denP R ρ q)) := by
        rw [denP, denP, R.add_add_add_comm, ← R.add_mul, R.int_add]
      split
      · rename_i h0
        rw [e, h0, R.int_zero, R.zero_mul, R.zero_add, den_addP f p q]
      · rw [e, denP, den_addP f p q]
    · show R.add (R.mul (R.int c) (denM R ρ 0 m)) (denP R ρ (addP f p ((d, k) :: q))) = R.add (R.add (R.mul (R.int c) (denM R ρ 0 m)) (denP R ρ p)) (denP R ρ ((d, k) :: q))
      rw [den_addP f p, R.add_assoc]
    · show R.add (R.mul (R.int d) (denM R ρ 0 k)) (denP R ρ (addP f ((c, m) :: p) q)) = R.add (denP R ρ ((c, m) :: p)) (R.add (R.mul (R.int d) (denM R ρ 0 k)) (denP R ρ q))
      rw [den_addP f _ q, ← R.add_assoc, ← R.add_assoc, R.add_comm (R.mul (R.int d) _)]
theorem den_mulM : ∀ (l m : Mono) (i : Nat), denM R ρ i (mulM l m) = R.mul (denM R ρ i l) (denM R ρ i m)
  | [], m, i => by rw [mulM, denM, R.one_mul]
  | a :: l, [], i => by rw [mulM, denM, denM, R.mul_one]; simp
  | a :: l, b :: m, i => by
    rw [mulM, denM, den_mulM l m, denM, denM, R.mul_mul_mul_comm, ← R.pow_add]; rfl
theorem den_scaleP (c : Int) (m : Mono) : ∀ q : Poly, denP R ρ (scaleP c m q) = R.mul (R.mul (R.int c) (denM R ρ 0 m)) (denP R ρ q)
  | [] => (R.mul_zero _).symm
  | (d, k) :: q => by rw [scaleP, denP, den_scaleP c m q, denP, R.mul_add, R.int_mul, den_mulM, R.mul_mul_mul_comm]
theorem den_mulP : ∀ p q : Poly, denP R ρ (mulP p q) = R.mul (denP R ρ p) (denP R ρ q)
  | [], q => (R.zero_mul _).symm
  | (c, m) :: p, q => by rw [mulP, den_addP, den_scaleP, den_mulP p q, denP, R.add_mul]
theorem den_negP : ∀ p : Poly, denP R ρ (negP p) = R.neg (denP R ρ p)
  | [] => R.neg_zero.symm
  | (c, m) :: p => by rw [negP, denP, den_negP p, denP, R.neg_add_rev, R.int_neg, R.neg_mul]
theorem den_varM : ∀ (i j : Nat), denM R ρ j (varM i) = ρ (j + i)
  | 0, j => by rw [varM, denM, denM, R.mul_one, CR.pow, CR.pow, R.one_mul]; rfl
  | i + 1, j => by rw [varM, denM, den_varM i (j + 1), CR.pow, R.one_mul, Nat.add_assoc, Nat.add_comm 1 i]
theorem den_norm : ∀ e : Ex, denP R ρ e.norm = e.den R ρ
  | .v i => by rw [Ex.norm, denP, denP, den_varM, R.int_one, R.one_mul, R.add_zero, Nat.zero_add, Ex.den]
  | .n k => by
    unfold Ex.norm
    split
    · rename_i h; subst h; rfl
    · rw [denP, denP, denM, R.mul_one, R.add_zero, Ex.den]
  | .add a b => by rw [Ex.norm, den_addP, den_norm a, den_norm b, Ex.den]
  | .mul a b => by rw [Ex.norm, den_mulP, den_norm a, den_norm b, Ex.den]
  | .neg a => by rw [Ex.norm, den_negP, den_norm a, Ex.den]
  | .sub a b => by rw [Ex.norm, den_addP, den_negP, den_norm a, den_norm b, Ex.den]
/-- Two expressions with one normal form are the same. -/
theorem ring_eq (a b : Ex) (h : (Ex.sub a b).norm = []) : a.den R ρ = b.den R ρ := by
  have := den_norm R ρ (Ex.sub a b)
  rw [h] at this
  exact R.eq_of_sub this.symm
end
end Go.FourQ
namespace Go.FourQ
theorem pp_pos : 0 < pp := by decide +kernel
theorem one_lt_pp : 1 < pp := by decide +kernel
structure Zp where
  val : Nat
  lt : val < pp
theorem Zp.ext {a b : Zp} (h : a.val = b.val) : a = b := by
  obtain ⟨x, hx⟩ := a
  obtain ⟨y, hy⟩ := b
  obtain rfl : x = y := h
  rfl
instance : DecidableEq Zp := fun a b => if h : a.val = b.val then isTrue (Zp.ext h) else isFalse fun e => h (congrArg Zp.val e)
/-- The element that a number stands for. -/
def zp (n : Nat) : Zp := ⟨n % pp, Nat.mod_lt _ pp_pos⟩
instance : Add Zp := ⟨fun a b => zp (a.val + b.val)⟩
instance : Mul Zp := ⟨fun a b => zp (a.val * b.val)⟩
instance : Neg Zp := ⟨fun a => zp (pp - a.val)⟩
instance : Sub Zp := ⟨fun a b => a + -b⟩
namespace Zp
protected def zero : Zp := zp 0
protected def one : Zp := zp 1
end Zp
instance : OfNat Zp 0 := ⟨Zp.zero⟩
instance : OfNat Zp 1 := ⟨Zp.one⟩
theorem zp_val (a : Zp) : zp a.val = a := Zp.ext (Nat.mod_eq_of_lt a.lt)
theorem val_zp (n : Nat) : (zp n).val = n % pp := rfl
theorem zp_eq {a b : Nat} (h : a % pp = b % pp) : zp a = zp b := Zp.ext h
theorem zp_mod (a : Nat) : zp (a % pp) = zp a := zp_eq (Nat.mod_mod _ _)
theorem zp_add (a b : Nat) : zp (a + b) = zp a + zp b := zp_eq (by rw [val_zp, val_zp, ← Nat.add_mod])
theorem zp_mul (a b : Nat) : zp (a * b) = zp a * zp b := zp_eq (by rw [val_zp, val_zp, ← Nat.mul_mod])
theorem zp_zero : zp 0 = 0 := rfl
theorem zp_one : zp 1 = 1 := rfl
theorem val_zero : (0 : Zp).val = 0 := rfl
theorem val_one : (1 : Zp).val = 1 := Nat.mod_eq_of_lt one_lt_pp
theorem one_ne_zero : (1 : Zp) ≠ 0 := fun h => by have := congrArg Zp.val h; rw [val_one, val_zero] at this; cases this
theorem zadd_comm (a b : Zp) : a + b = b + a := by show zp _ = zp _; rw [Nat.add_comm]
theorem zadd_assoc (a b c : Zp) : a + b + c = a + (b + c) := by
  rw [← zp_val a, ← zp_val b, ← zp_val c, ← zp_add, ← zp_add, ← zp_add, ← zp_add, Nat.add_assoc]
theorem zadd_zero (a : Zp) : a + 0 = a := by rw [← zp_val a, ← zp_zero, ← zp_add, Nat.add_zero]
theorem zadd_neg (a : Zp) : a + -a = 0 := by
  exact zp_eq (by show (a.val + (pp - a.val) % pp) % pp = 0 % pp; rw [Nat.add_mod_mod, Nat.add_sub_cancel' (Nat.le_of_lt a.lt), Nat.mod_self, Nat.zero_mod])
theorem zmul_comm (a b : Zp) : a * b = b * a := by show zp _ = zp _; rw [Nat.mul_comm]
theorem zmul_assoc (a b c : Zp) : a * b * c = a * (b * c) := by
  rw [← zp_val a, ← zp_val b, ← zp_val c, ← zp_mul, ← zp_mul, ← zp_mul, ← zp_mul, Nat.mul_assoc]
theorem zmul_one (a : Zp) : a * 1 = a := by rw [← zp_val a, ← zp_one, ← zp_mul, Nat.mul_one]
theorem zmul_add (a b c : Zp) : a * (b + c) = a * b + a * c := by
  rw [← zp_val a, ← zp_val b, ← zp_val c, ← zp_add, ← zp_mul, ← zp_mul, ← zp_mul, ← zp_add, Nat.mul_add]
/-- The field, as a ring. -/
def zpR : CR Zp := {
  zero := 0
  one := 1
  add := fun a b => a + b
  mul := fun a b => a * b
  neg := fun a => -a
  add_comm := zadd_comm
  add_assoc := zadd_assoc
  add_zero := zadd_zero
  add_neg := zadd_neg
  mul_comm := zmul_comm
  mul_assoc := zmul_assoc
  mul_one := zmul_one
  mul_add := zmul_add }
theorem zmul_zero (a : Zp) : a * 0 = 0 := zpR.mul_zero a
theorem zone_mul (a : Zp) : 1 * a = a := zpR.one_mul a
theorem zzero_add (a : Zp) : 0 + a = a := zpR.zero_add a
theorem zneg_zero : -(0 : Zp) = 0 := zpR.neg_zero
theorem zneg_neg (a : Zp) : - -a = a := zpR.neg_neg a
theorem zneg_mul (a b : Zp) : -a * b = -(a * b) := zpR.neg_mul a b
/-- Powers. -/
def Zp.pow (a : Zp) (n : Nat) : Zp := zpR.pow a n
theorem zp_pow (a n : Nat) : zp (a ^ n) = (zp a).pow n := by
  induction n with
  | zero => rfl
  | succ n ih => rw [Nat.pow_succ, zp_mul, ih]; rfl
theorem zpow_add (a : Zp) (m n : Nat) : a.pow (m + n) = a.pow m * a.pow n := zpR.pow_add a m n
theorem zpow_mul (a : Zp) (m n : Nat) : (a.pow m).pow n = a.pow (m * n) := zpR.pow_mul a m n
theorem zmul_pow (a b : Zp) (n : Nat) : (a * b).pow n = a.pow n * b.pow n := zpR.mul_pow a b n
theorem zone_pow (n : Nat) : (1 : Zp).pow n = 1 := zpR.one_pow n
theorem zpow_one (a : Zp) : a.pow 1 = a := zone_mul a
theorem zval_ne {a : Zp} (h : a ≠ 0) : a.val ≠ 0 := fun e => h (Zp.ext e)
theorem not_dvd {a : Zp} (h : a ≠ 0) : ¬ pp ∣ a.val := fun hd => by
  have := Nat.le_of_dvd (Nat.pos_of_ne_zero (zval_ne h)) hd
  have := a.lt
  omega
theorem zfermat {a : Zp} (h : a ≠ 0) : a.pow (pp - 1) = 1 := by
  have := fermat prim_pp (not_dvd h)
  have e := zp_pow a.val (pp - 1)
  rw [zp_val] at e
  rw [← e]
  exact zp_eq (this.trans (Nat.mod_eq_of_lt one_lt_pp).symm)
/-- The inverse; of 0 it is 0. -/
def Zp.inv (a : Zp) : Zp := a.pow (pp - 2)
theorem zmul_inv {a : Zp} (h : a ≠ 0) : a * a.inv = 1 := by
  have e : pp - 1 = (pp - 2) + 1 := by decide +kernel
  have := zfermat h
  rw [e, zpow_add, zpow_one, zmul_comm] at this
  exact this
theorem zmul_cancel {a b c : Zp} (h : a ≠ 0) (e : a * b = a * c) : b = c := by
  have := congrArg (fun t => a.inv * t) e
  simp only [← zmul_assoc, zmul_comm a.inv a, zmul_inv h, zone_mul] at this
  exact this
theorem zmul_ne {a b : Zp} (ha : a ≠ 0) (hb : b ≠ 0) : a * b ≠ 0 := fun e => hb (zmul_cancel ha (e.trans (zmul_zero a).symm))
theorem zmul_eq_zero {a b : Zp} (h : a * b = 0) : a = 0 ∨ b = 0 := by
  by_cases ha : a = 0
  · exact .inl ha
  · exact .inr (zmul_cancel ha (h.trans (zmul_zero a).symm))
theorem zero_pow {n : Nat} (h : 0 < n) : (0 : Zp).pow n = 0 := by
  obtain ⟨m, rfl⟩ : ∃ m, n = m + 1 := ⟨n - 1, by omega⟩
  exact zmul_zero _
/-- Half of 1. -/
def half : Zp := zp 85070591730234615865843651857942052864
theorem half_add : half + half = 1 := by decide +kernel
theorem two_half (a : Zp) : a * half + a * half = a := by rw [← zmul_add, half_add, zmul_one]
end Go.FourQ
namespace Go.FourQ
open Go.RowKit
/-- Block b holds these elements and nothing else. -/
def FpsZ (w : World) (b : Nat) (L : List Zp) : Prop := ∃ l, Fps w b l ∧ l.map zp = L ∧ ∀ v ∈ l, LowB v
/-- w' is w, but that block b holds other elements; there may be new blocks. -/
structure UpdZ (w w' : World) (b : Nat) (L : List Zp) : Prop where
  os : w'.os = w.os
  tape : w'.tape = w.tape
  output : w'.output = w.output
  size : w.heap.size ≤ w'.heap.size
  blk : FpsZ w' b L
  other : ∀ k, k < w.heap.size → k ≠ b → w'.heap[k]? = w.heap[k]?
theorem FpsZ.lt {w : World} {c : Nat} {m : List Zp} (h : FpsZ w c m) : c < w.heap.size := by
  obtain ⟨l, h, _⟩ := h; exact h.lt
theorem FpsZ.of_heap {w w' : World} {c : Nat} {m : List Zp} (h : FpsZ w c m) (e : w'.heap[c]? = w.heap[c]?) : FpsZ w' c m := by
  obtain ⟨l, h, r⟩ := h; exact ⟨l, h.of_heap e, r⟩
theorem FpsZ.alloc {w : World} {c : Nat} {m : List Zp} (h : FpsZ w c m) (o : Obj) : FpsZ (w.alloc o) c m := by
  obtain ⟨l, h, r⟩ := h; exact ⟨l, h.alloc o, r⟩
theorem FpsZ.nb {w w' : World} {c : Nat} {m : List Zp} (h : FpsZ w c m) (v : Below w.heap.size w w') : FpsZ w' c m := h.of_heap (v.block c h.lt)
theorem UpdZ.keep {w w' : World} {b c : Nat} {l m : List Zp} (u : UpdZ w w' b l) (h : FpsZ w c m) (hc : c ≠ b) : FpsZ w' c m := h.of_heap (u.other c h.lt hc)
theorem UpdZ.below {B : Nat} {w w' : World} {b : Nat} {l : List Zp} (u : UpdZ w w' b l) (hb : B ≤ b) (hB : B ≤ w.heap.size) : Below B w w' :=
  ⟨u.os, u.tape, u.output, u.size, fun k hk => u.other k (by omega) (by omega)⟩
theorem UpdZ.trans {w w' w'' : World} {b : Nat} {l m : List Zp} (u : UpdZ w w' b l) (v : UpdZ w' w'' b m) : UpdZ w w'' b m :=
  ⟨v.os.trans u.os, v.tape.trans u.tape, v.output.trans u.output, Nat.le_trans u.size v.size, v.blk,
    fun k hk hb => (v.other k (Nat.lt_of_lt_of_le hk u.size) hb).trans (u.other k hk hb)⟩
theorem UpdZ.ahead {w w' w'' : World} {b : Nat} {l : List Zp} (v : Below w.heap.size w w') (u : UpdZ w' w'' b l) : UpdZ w w'' b l :=
  ⟨u.os.trans v.os, u.tape.trans v.tape, u.output.trans v.output, Nat.le_trans v.size u.size, u.blk,
    fun k hk hb => (u.other k (Nat.lt_of_lt_of_le hk v.size) hb).trans (v.block k hk)⟩
theorem FpsZ.get {w : World} {b k : Nat} {L : List Zp} {x : Zp} (h : FpsZ w b L) (hk : L[k]? = some x) : ∃ l v, Fps w b l ∧ l.map zp = L ∧ (∀ v ∈ l, LowB v) ∧ l[k]? = some v ∧ zp v = x ∧ LowB v := by
  obtain ⟨l, h, e, hl⟩ := h
  subst e
  rw [List.getElem?_map] at hk
  obtain ⟨v, hv, rfl⟩ := Option.map_eq_some_iff.1 hk
  exact ⟨l, v, h, rfl, hl, hv, rfl, hl v (List.mem_of_getElem? hv)⟩
theorem UpdZ.of {w w' : World} {b k v : Nat} {l : List Nat} {L : List Zp} {z : Zp} (u : Upd w w' b (l.set k v)) (e : l.map zp = L) (hl : ∀ v ∈ l, LowB v) (hv : LowB v) (hz : zp v = z) : UpdZ w w' b (L.set k z) :=
  ⟨u.os, u.tape, u.output, u.size, ⟨_, u.blk, by rw [List.map_set, e, hz], fun q hq => by
    rcases List.mem_or_eq_of_mem_set hq with h | h
    · exact hl q h
    · rw [h]; exact hv⟩, u.other⟩
theorem set_self {L : List Zp} {k : Nat} {x : Zp} (h : L[k]? = some x) : L.set k x = L := by
  refine List.ext_getElem? fun i => ?_
  by_cases hi : i = k
  · subst hi; rw [List.getElem?_set_self (List.getElem?_eq_some_iff.1 h).1, h]
  · rw [List.getElem?_set_ne (Ne.symm hi)]
/-- The same elements, some bytes made the least. -/
theorem UpdZ.ofMod {w w' : World} {b k v : Nat} {l : List Nat} {L : List Zp} (u : Upd w w' b (l.set k (v % pp))) (e : l.map zp = L) (hl : ∀ v ∈ l, LowB v) (hk : l[k]? = some v) : UpdZ w w' b L := by
  have := UpdZ.of u e hl (low_mod v) (zp_mod v)
  rwa [set_self (by rw [← e, List.getElem?_map, hk]; rfl)] at this
/-- A new block of elements. -/
theorem FpsZ.ofFps {w : World} {b : Nat} {l : List Nat} (h : Fps w b l) (hl : ∀ v ∈ l, LowB v) : FpsZ w b (l.map zp) := ⟨l, h, rfl, hl⟩
end Go.FourQ
namespace Go.Proofs.YtfkfljohhabldaaDoor
open Go.RowKit Go.FourQ
end Go.Proofs.YtfkfljohhabldaaDoor
namespace Go.FourQ
open Go.RowKit
/-- At this place stands this element. -/
def At (w : World) (b o : Nat) (x : Zp) : Prop := ∃ L k, FpsZ w b L ∧ o = 16 * k ∧ L[k]? = some x
theorem FpsZ.atK {w : World} {b o k : Nat} {L : List Zp} {x : Zp} (h : FpsZ w b L) (ho : o = 16 * k) (hk : L[k]? = some x) : At w b o x := ⟨L, k, h, ho, hk⟩
theorem At.lt {w : World} {b o : Nat} {x : Zp} (h : At w b o x) : b < w.heap.size := by obtain ⟨L, k, h, _⟩ := h; exact h.lt
theorem At.below {w w' : World} {b o n : Nat} {x : Zp} (h : At w b o x) (v : Below n w w') (hb : b < n) : At w' b o x := by
  obtain ⟨L, k, h, r⟩ := h; exact ⟨L, k, h.of_heap (v.block _ hb), r⟩
theorem At.upd {w w' : World} {b c o : Nat} {x : Zp} {L : List Zp} (h : At w b o x) (u : UpdZ w w' c L) (hb : b ≠ c) : At w' b o x := by
  obtain ⟨M, k, h, r⟩ := h; exact ⟨M, k, u.keep h hb, r⟩
/-- From block n on, one element each; what was there is as it was. -/
structure Boxes (n : Nat) (w : World) (zs : List Zp) (wr : World) : Prop where
  nb : Below n w wr
  size : n ≤ wr.heap.size
  blk : ∀ i z, zs[i]? = some z → FpsZ wr (n + i) [z]
theorem Boxes.at {n : Nat} {w wr : World} {zs : List Zp} (h : Boxes n w zs wr) (i : Nat) {p : Nat} {z : Zp} (hp : p = n + i) (hi : zs[i]? = some z) : At wr p 0 z :=
  hp ▸ (h.blk i z hi).atK (k := 0) rfl rfl
theorem Boxes.upd {n : Nat} {w wr w' : World} {zs : List Zp} {i : Nat} {z y : Zp} (h : Boxes n w zs wr) (u : UpdZ wr w' (n + i) ([y].set 0 z)) : Boxes n w (zs.set i z) w' where
  nb := h.nb.trans (u.below (by omega) h.size)
  size := Nat.le_trans h.size u.size
  blk := fun j x hj => by
    by_cases hji : j = i
    · subst hji
      have hl : j < (zs.set j z).length := (List.getElem?_eq_some_iff.1 hj).1
      rw [List.length_set] at hl
      rw [List.getElem?_set_self hl] at hj
      obtain rfl : z = x := by simpa using hj
      exact u.blk
    · rw [List.getElem?_set_ne (Ne.symm hji)] at hj
      exact u.keep (h.blk j x hj) (by omega)
/-- Some element changed its bytes alone. -/
theorem Boxes.same {n : Nat} {w wr w' : World} {zs : List Zp} {i : Nat} {z : Zp} (h : Boxes n w zs wr) (hi : zs[i]? = some z) (u : UpdZ wr w' (n + i) [z]) : Boxes n w zs w' where
  nb := h.nb.trans (u.below (by omega) h.size)
  size := Nat.le_trans h.size u.size
  blk := fun j x hj => by
    by_cases hji : j = i
    · subst hji
      obtain rfl : z = x := Option.some.inj (hi.symm.trans hj)
      exact u.blk
    · exact u.keep (h.blk j x hj) (by omega)
theorem Boxes.go {n : Nat} {w wr w' : World} {zs : List Zp} (h : Boxes n w zs wr) (v : Below wr.heap.size wr w') : Boxes n w zs w' where
  nb := h.nb.trans (v.mono h.size)
  size := Nat.le_trans h.size v.size
  blk := fun j x hj => (h.blk j x hj).nb v
/-- One new block more. -/
theorem Boxes.new {n : Nat} {w wr : World} {zs : List Zp} (h : Boxes n w zs wr) (hn : wr.heap.size = n + zs.length) {T : TypeId} {c : Array Value} {x : Nat} {z : Zp} (hc : c = fps [x]) (hx : LowB x) (hz : zp x = z) : Boxes n w (zs ++ [z]) (wr.alloc (.cells c T)) where
  nb := h.nb.alloc h.size _
  size := by simp only [World.size_alloc]; exact Nat.le_succ_of_le h.size
  blk := fun j y hj => by
    rcases Nat.lt_or_ge j zs.length with hl | hl
    · rw [List.getElem?_append_left hl] at hj
      exact (h.blk j y hj).alloc _
    · rw [List.getElem?_append_right hl] at hj
      obtain ⟨hj0, rfl⟩ : j - zs.length = 0 ∧ z = y := by
        rcases Nat.eq_zero_or_pos (j - zs.length) with h0 | h0
        · rw [h0] at hj; exact ⟨h0, by simpa using hj⟩
        · rw [List.getElem?_eq_none (by simp only [List.length_cons, List.length_nil]; omega)] at hj; cases hj
      obtain rfl : j = zs.length := by omega
      have := FpsZ.ofFps (Fps.new wr [x] c T (n + zs.length) hn.symm hc) (fun v hv => by rw [show v = x by simpa using hv]; exact hx)
      rw [← hz]; exact this
theorem Boxes.start (w : World) : Boxes w.heap.size w [] w := ⟨Below.refl _ _, Nat.le_refl _, fun _ _ h => by simp at h⟩
end Go.FourQ
namespace Go.Proofs.YtfkfljohhabldaaDoor
open Go.RowKit Go.FourQ
end Go.Proofs.YtfkfljohhabldaaDoor
namespace Go.FourQ
theorem low_zero : LowB 0 := by show 0 < 2 ^ 127; decide +kernel
end Go.FourQ
namespace Go.Proofs.YtfkfljohhabldaaDoor
open Go.RowKit Go.FourQ
end Go.Proofs.YtfkfljohhabldaaDoor
namespace Go.FourQ
open Go.RowKit
/-- A tree of orders. -/
inductive PT where
  | done
  | nil
  | take (i : Nat) (t : PT)
  | fork (i : Nat) (t m : PT)
def PT.heads : PT → List Nat
  | .fork i _ m => i :: m.heads
  | _ => []
section
variable {P : Program} {md : Region.Mode} {ops : Array Oper} {Q : Exit → Act → World → Prop} {S : World → Prop}
def PT.ok (md : Region.Mode) (ops : Array Oper) : Bool → Array Bool → PT → Bool
  | true, listed, .done => (Region.ready md ops listed).isEmpty
  | false, _, .done => false
  | top, _, .nil => !top
  | top, listed, .take i t => top && Region.free md ops listed i && (Region.ready md ops listed).contains i && PT.ok md ops true (listed.setIfInBounds i true) t
  | top, listed, .fork i t m => (!top || Region.ready md ops listed == i :: m.heads) && PT.ok md ops true (listed.setIfInBounds i true) t && PT.ok md ops false listed m
def wpTree (P : Program) (ops : Array Oper) (Q : Exit → Act → World → Prop) (S : World → Prop) : PT → Act → World → Prop
  | .done, a, w => Q .normal a w
  | .nil, _, _ => True
  | .take i t, a, w => ∃ o v, ops[i]? = some o ∧ YieldsIf P ops S o v a ∧ wpTree P ops Q S t (a.put o.dst v) w
  | .fork i t m, a, w => wpOp P ops Q i (fun a' w' => S w' ∧ wpTree P ops Q S t a' w') a w ∧ wpTree P ops Q S m a w
def PT.depth : PT → Nat
  | .take _ t => t.depth + 1
  | .fork _ t m => max (t.depth + 1) m.depth
  | _ => 0
/-- 'wpTree', that nobody unfolds. -/
structure TreeG (P : Program) (ops : Array Oper) (Q : Exit → Act → World → Prop) (S : World → Prop) (t : PT) (a : Act) (w : World) : Prop where
  out : wpTree P ops Q S t a w
variable {a : Act} {w : World} {t m : PT} {i : Nat} {d : Option Tmp} {v : Value}
end
end Go.FourQ
namespace Go.FourQ
open Go.RowKit
section
variable {P : Program} {ops : Array Oper} {Q : Exit → Act → World → Prop} {S : World → Prop} {a : Act} {w : World} {r : List (Bool × Nat)} {i : Nat} {d : Option Tmp}
theorem k_put (hw : wantN ops i a = some true) (hd : (opN ops i).dst = d) {ty : TypeId} {x y : Operand} (hop : (opN ops i).op = .store ty x y) {g : Nat} {cells : Array Value} (hx : a.eval x = .pointer (some ⟨g, 0, none⟩)) (hy : a.eval y = .agg cells)
    {t : TypeId} {old : Array Value} (hg : w.heap[g]? = some (.cells old t (0, 0))) (hi : (P.info? ty).map (·.size) = some cells.size)
    (hold : old.size = cells.size) (h1 : cells.all (·.oneCell') = true) (hS : S (w.setRow g cells))
    (h : ∀ x, x = w.setRow g cells → S x → PlanG P ops Q S r (a.put d undef) x) : PlanG P ops Q S ((false, i) :: r) a w :=
  k_store hw hd hop hx hy hg hi hold h1 ⟨hS, h _ rfl hS⟩
end
end Go.FourQ
namespace Go.FourQ
open Go.RowKit
theorem byte_inj {x y : Nat} (hx : x < 256 ^ 16) (hy : y < 256 ^ 16) (h : ∀ i, i < 16 → byteV x i = byteV y i) : x = y := by
  have e := mod_ext 256 x y 16 (fun i hi => by
    have h1 := h i hi
    unfold byteV at h1
    have h2 : ((x / 256 ^ i % 256 : Nat) : Int) = ((y / 256 ^ i % 256 : Nat) : Int) := by injection h1
    omega)
  rwa [Nat.mod_eq_of_lt hx, Nat.mod_eq_of_lt hy] at e
theorem low16' {x : Nat} (h : LowB x) : x < 256 ^ 16 := Nat.lt_trans h (by decide +kernel)
theorem FpsZ.uniq {w : World} {b k : Nat} {L M : List Zp} {x : Zp} (h : FpsZ w b L) (g : FpsZ w b M) (hk : L[k]? = some x) : M[k]? = some x := by
  obtain ⟨l, hl, el, al⟩ := h
  obtain ⟨m, hm, em, am⟩ := g
  subst el em
  have hs := congrArg Array.size (hl.inj hm)
  rw [size_fps, size_fps] at hs
  rw [List.getElem?_map] at hk
  obtain ⟨u, hu, rfl⟩ := Option.map_eq_some_iff.1 hk
  have hkl : k < m.length := by have := (List.getElem?_eq_some_iff.1 hu).1; omega
  have hv := List.getElem?_eq_getElem hkl
  rw [List.getElem?_map, hv]
  have e : u = m[k] := byte_inj (low16' (al u (List.mem_of_getElem? hu))) (low16' (am _ (List.getElem_mem hkl))) (fun i hi => by
    have h1 := hl.cell hu rfl i hi
    rw [hm.cell hv rfl i hi] at h1
    exact (Option.some.inj h1).symm)
  rw [e]; rfl
/-- A writing beside a place leaves it. -/
theorem At.set {w w' : World} {b b1 o o1 k1 : Nat} {L1 : List Zp} {z x : Zp} (h : At w b o x) (f : FpsZ w b1 L1) (e1 : o1 = 16 * k1) (u : UpdZ w w' b1 (L1.set k1 z)) (hd : b ≠ b1 ∨ o ≠ o1) : At w' b o x := by
  by_cases hb : b = b1
  · subst hb
    obtain ⟨L, k, g, e, hk⟩ := h
    have hx := g.uniq f hk
    refine ⟨_, k, u.blk, e, ?_⟩
    rw [List.getElem?_set_ne (by omega)]; exact hx
  · exact h.upd u hb
/-- What was written. -/
theorem UpdZ.at {w w' : World} {b o k : Nat} {L : List Zp} {z : Zp} (u : UpdZ w w' b (L.set k z)) (hk : k < L.length) (ho : o = 16 * k) : At w' b o z :=
  ⟨_, k, u.blk, ho, List.getElem?_set_self hk⟩
/-- A pair at a place. -/
structure AtQ (w : World) (b o : Nat) (x y : Zp) : Prop where
  fst : At w b o x
  snd : At w b (o + 16) y
theorem AtQ.below {w w' : World} {b o n : Nat} {x y : Zp} (h : AtQ w b o x y) (v : Below n w w') (hb : b < n) : AtQ w' b o x y := ⟨h.fst.below v hb, h.snd.below v hb⟩
theorem AtQ.upd {w w' : World} {b c o : Nat} {x y : Zp} {L : List Zp} (h : AtQ w b o x y) (u : UpdZ w w' c L) (hb : b ≠ c) : AtQ w' b o x y := ⟨h.fst.upd u hb, h.snd.upd u hb⟩
theorem AtQ.nb {w w' : World} {b o : Nat} {x y : Zp} (h : AtQ w b o x y) (v : Below w.heap.size w w') : AtQ w' b o x y := h.below v h.fst.lt
theorem At.nb {w w' : World} {b o : Nat} {x : Zp} (h : At w b o x) (v : Below w.heap.size w w') : At w' b o x := h.below v h.lt
section
variable {P : Program} {ops : Array Oper} {Q : Exit → Act → World → Prop} {S : World → Prop} {a : Act} {w : World} {r : List (Bool × Nat)} {i : Nat} {d : Option Tmp}
/-- A call, whatever it leaves. -/
theorem k_callR (hw : wantN ops i a = some true) (hd : (opN ops i).dst = d) {f : FuncId} {args : Array Value} (hrun : ∀ w', (execOp a.eval (opN ops i)).run P w' = .ok (.enter f args) w') {R : Ending → World → Prop}
    (hc : Calls P f args w R) (h : ∀ e w', R e w' → ∃ v, e = .returned v ∧ S w' ∧ PlanG P ops Q S r (a.put d v) w') : PlanG P ops Q S ((false, i) :: r) a w := by
  subst hd
  refine ⟨?_⟩
  show wpOp P ops Q i _ a w
  have hw' := wantN_some hw
  unfold wpOp
  simp only [hw'.1, hw'.2, if_true]
  refine .inl ?_
  unfold Oper.wp
  rw [hrun w]
  refine hc.mono ?_
  intro e w' hR
  obtain ⟨v, rfl, hS, h'⟩ := h e w' hR
  exact ⟨hS, h'.out⟩
end
end Go.FourQ
namespace Go.Proofs.YtfkfljohhabldaaDoor
open Go.RowKit Go.FourQ
end Go.Proofs.YtfkfljohhabldaaDoor
namespace Go.FourQ
end Go.FourQ
namespace Go.Proofs.YtfkfljohhabldaaDoor
open Go.RowKit Go.FourQ
end Go.Proofs.YtfkfljohhabldaaDoor
namespace Go.FourQ
end Go.FourQ
namespace Go.Proofs.YtfkfljohhabldaaDoor
open Go.RowKit Go.FourQ
end Go.Proofs.YtfkfljohhabldaaDoor
namespace Go.Proofs.YtfkfljohhabldaaDoor
open Go.RowKit Go.FourQ
theorem is_plan_1 : planOk .any (opsAt Tryd.f11 1) (Array.replicate (opsAt Tryd.f11 1).size false) ((true, 0) :: (true, 1) :: (false, 2) :: (true, 3) :: (true, 4) :: []) = true := by kernel_rfl
set_option maxRecDepth 100000 in
set_option maxHeartbeats 2000000 in
theorem is_c {w : World} {x y : Nat} (hx : x < 256 ^ 16) (hy : y < 256 ^ 16) :
    Calls Tryd.prog 11 #[.agg (fpC x), .agg (dgA (digs 8 y))] w fun e w' => e = .returned (.bool (decide (x = y))) ∧ Below w.heap.size w w' := by
  go_enter Tryd.func11, Tryd.ntmps11
  go_upto_region 1 with (fail)
  have hB : Below w.heap.size w ((w.alloc (.cells (fpC x) 22)).alloc (.cells (dgA (digs 8 y)) 26)) := nb_alloc (nb_alloc (Below.refl _ _) _) _
  have F0 : ((w.alloc (.cells (fpC x) 22)).alloc (.cells (dgA (digs 8 y)) 26)).heap[w.heap.size]? = some (.cells (fpC x) 22 (0, 0)) := hp2_0 (w := w) (.cells (fpC x) 22) (.cells (dgA (digs 8 y)) 26)
  have F1 : ((w.alloc (.cells (fpC x) 22)).alloc (.cells (dgA (digs 8 y)) 26)).heap[w.heap.size + 1]? = some (.cells (dgA (digs 8 y)) 26 (0, 0)) := hp2_1 (w := w) (.cells (fpC x) 22) (.cells (dgA (digs 8 y)) 26)
  obtain ⟨W0, hW⟩ : ∃ W0 : World, W0 = ((w.alloc (.cells (fpC x) 22)).alloc (.cells (dgA (digs 8 y)) 26)) := ⟨_, rfl⟩
  rw [← hW] at hB F0 F1 ⊢
  clear hW
  replace F0 := Lib.hid F0
  replace F1 := Lib.hid F1
  refine wp_region_at (opsAt Tryd.f11 1) ((true, 0) :: (true, 1) :: (false, 2) :: (true, 3) :: (true, 4) :: []) (by kernel_rfl) rfl (by kernel_rfl) (fun _ _ d _ _ h => by cases d <;> exact h) (by kernel_rfl) is_plan_1 ?_
  have hS1 : Below W0.heap.size W0 W0.drew := (Below.refl _ _).drew
  refine k_row (by kernel_rfl) (d := (some 5)) (by kernel_rfl) (ty := 22) (x := (.tmp 2)) (by kernel_rfl) (b := w.heap.size) (by kernel_rfl) (cs := (fpC x)) (fun w' hs => ⟨_, nb_heap F0.out w' hs⟩) Tryd.underlying22 rfl (by kernel_rfl) ?_
  refine k_row (by kernel_rfl) (d := (some 6)) (by kernel_rfl) (ty := 26) (x := (.tmp 3)) (by kernel_rfl) (b := w.heap.size + 1) (by kernel_rfl) (cs := (dgA (digs 8 y))) (fun w' hs => ⟨_, nb_heap F1.out w' hs⟩) Tryd.underlying26 rfl (by kernel_rfl) ?_
  refine k_call (by kernel_rfl) (d := (some 7)) (by kernel_rfl) (f := 45) (args := #[.agg (dgA (digs 8 y))]) (v := .agg (fpC y)) (fun _ => by kernel_rfl) (bytes_c _ _ hy) (fun w2 hb2 => ⟨nb_trans hS1 hb2, ?_⟩)
  have hS2 := nb_trans hS1 hb2
  refine k_eql (by kernel_rfl) (d := (some 8)) (by kernel_rfl) (ty := 22) (ty' := 22) (x := (.tmp 5)) (y := (.tmp 7)) (by kernel_rfl) (xs := (fpC x)) (ys := (fpC y)) (b := (decide (x = y))) (by kernel_rfl) (by kernel_rfl) (by kernel_rfl) (fun w' => eql_fpC Tryd.underlying22 (by kernel_rfl) Tryd.underlying5 hx hy w') ?_
  refine k_pure (by kernel_rfl) (d := (some 4)) (by kernel_rfl) (v := .bool (decide (x = y))) (fun _ => by kernel_rfl) ?_
  refine k_end ?_
  go_simp
  have hB1 := nb_trans hB hS2
  have F0_1 := Lib.hid (nb_heap F0.out _ hS2)
  have F1_1 := Lib.hid (nb_heap F1.out _ hS2)
  go_wp2_with fail
  exact bodyPost_ret_by (by kernel_rfl) (by kernel_rfl) ⟨rfl, hB1⟩
end Go.Proofs.YtfkfljohhabldaaDoor
namespace Go.FourQ
open Go.RowKit
section
variable {P : Program} {md : Region.Mode} {ops : Array Oper} {Q : Exit → Act → World → Prop} {S : World → Prop}
theorem wp_seq_atS {id : Nat} {l : List Oper} {a : Act} {w : World} (ops : Array Oper) (r : List (Bool × Nat)) (S : World → Prop) (he : l.toArray = ops) (hl : r.map (·.2) = List.range ops.size) (hS : S w)
    (h : PlanG P ops Q S r a w) : (Code.region id l.toArray false).wp P Q a w := by
  subst he
  refine wp_region ?_
  rw [← hl]
  exact wpOps_of_plan r a w hS h.out
variable {a : Act} {w : World} {r : List (Bool × Nat)} {i : Nat} {d : Option Tmp} {v : Value}
end
/-- What holds at the head of a function: its rows. -/
theorem Kept.one {w w' : World} {bs : List (Nat × Array Value)} {g n : Nat} (nb : Below w.heap.size w w') (row : ∀ p ∈ bs, ∃ T, w'.heap[p.1]? = some (.cells p.2 T (0, 0))) {T : TypeId} {old : Array Value} (ho : old.size = n) (hg : w'.heap[g]? = some (.cells old T (0, 0))) : Kept w bs [(g, n)] w' where
  nb := nb
  row := row
  room := fun p hp => by
    obtain rfl : p = (g, n) := by simpa using hp
    exact ⟨T, old, ho, hg⟩
theorem Kept.drew {w w' : World} {bs : List (Nat × Array Value)} {ns : List (Nat × Nat)} (h : Kept w bs ns w') : Kept w bs ns w'.drew where
  nb := h.nb.drew
  row := h.row
  room := h.room
theorem Kept.zero {w w' : World} {bs : List (Nat × Array Value)} (nb : Below w.heap.size w w') (row : ∀ p ∈ bs, ∃ T, w'.heap[p.1]? = some (.cells p.2 T (0, 0))) : Kept w bs [] w' where
  nb := nb
  row := row
  room := fun _ hp => by simp at hp
theorem rowsC {w' : World} {bs : List (Nat × Array Value)} {b : Nat} {c : Array Value} (h : ∃ T, w'.heap[b]? = some (.cells c T (0, 0))) (r : ∀ p ∈ bs, ∃ T, w'.heap[p.1]? = some (.cells p.2 T (0, 0))) : ∀ p ∈ (b, c) :: bs, ∃ T, w'.heap[p.1]? = some (.cells p.2 T (0, 0)) := fun p hp => by
  rcases List.mem_cons.1 hp with rfl | hp
  · exact h
  · exact r p hp
theorem rows0 {w' : World} : ∀ p ∈ ([] : List (Nat × Array Value)), ∃ T, w'.heap[p.1]? = some (.cells p.2 T (0, 0)) := fun _ hp => by simp at hp
theorem neC {bs : List (Nat × Array Value)} {b g : Nat} {c : Array Value} (h : b ≠ g) (r : ∀ p ∈ bs, p.1 ≠ g) : ∀ p ∈ (b, c) :: bs, p.1 ≠ g := fun p hp => by
  rcases List.mem_cons.1 hp with rfl | hp
  · exact h
  · exact r p hp
theorem ne0 {g : Nat} : ∀ p ∈ ([] : List (Nat × Array Value)), p.1 ≠ g := fun _ hp => by simp at hp
end Go.FourQ
namespace Go.Proofs.YtfkfljohhabldaaDoor
open Go.RowKit Go.FourQ
end Go.Proofs.YtfkfljohhabldaaDoor
namespace Go.FourQ
theorem UpdZ.ofDrew {w w' : World} {b : Nat} {L : List Zp} (u : UpdZ w.drew w' b L) : UpdZ w w' b L := ⟨u.os, u.tape, u.output, u.size, u.blk, u.other⟩
theorem At.drew {w : World} {b o : Nat} {x : Zp} (h : At w b o x) : At w.drew b o x := h
theorem FpsZ.drew {w : World} {b : Nat} {L : List Zp} (h : FpsZ w b L) : FpsZ w.drew b L := h
theorem Boxes.drew {n : Nat} {w wr : World} {zs : List Zp} (h : Boxes n w zs wr) : Boxes n w zs wr.drew := ⟨h.nb.drew, h.size, h.blk⟩
end Go.FourQ
namespace Go.Proofs.YtfkfljohhabldaaDoor
open Go.RowKit Go.FourQ
section
variable {w : World} {b1 b2 b3 o1 o2 o3 k1 : Nat} {L1 : List Zp} {x0 x1 y0 y1 z0 z1 : Zp}
theorem ModW.drew {w : World} (h : ModW w) : ModW w.drew := h
end
end Go.Proofs.YtfkfljohhabldaaDoor
namespace Go.FourQ
open Go.RowKit
/-- One of the rows is written. -/
theorem Kept.puti {w0 w1 : World} {bs : List (Nat × Array Value)} {ns : List (Nat × Nat)} (h : Kept w0 bs ns w1) {g n : Nat} {cs : Array Value} (hn : cs.size = n) (hg : w0.heap.size ≤ g) (hb : ∀ p ∈ bs, p.1 ≠ g) (hns : ∀ p ∈ ns, p.1 = g → p.2 = n) : Kept w0 bs ns (w1.setRow g cs) where
  nb := below_setRow h.nb hg
  row := fun p hp => by obtain ⟨T, hT⟩ := h.row p hp; exact ⟨T, (setRow_other _ _ _ _ (hb p hp)).trans hT⟩
  room := fun p hp => by
    obtain ⟨T, old, ho, hT⟩ := h.room p hp
    by_cases e : p.1 = g
    · have h2 := hns p hp e
      rw [e] at hT ⊢
      exact ⟨T, cs, by rw [hn, h2], setRow_heap _ _ _ _ _ _ hT⟩
    · exact ⟨T, old, ho, (setRow_other _ _ _ _ e).trans hT⟩
theorem Kept.mks {w0 w1 : World} {bs : List (Nat × Array Value)} {ns : List (Nat × Nat)} (nb : Below w0.heap.size w0 w1) (row : ∀ p ∈ bs, ∃ T, w1.heap[p.1]? = some (.cells p.2 T (0, 0))) (room : ∀ p ∈ ns, ∃ T old, old.size = p.2 ∧ w1.heap[p.1]? = some (.cells old T (0, 0))) : Kept w0 bs ns w1 := ⟨nb, row, room⟩
theorem rooms0 {w' : World} : ∀ p ∈ ([] : List (Nat × Nat)), ∃ T old, old.size = p.2 ∧ w'.heap[p.1]? = some (.cells old T (0, 0)) := fun _ hp => by simp at hp
theorem roomsC {w' : World} {ns : List (Nat × Nat)} {g n : Nat} {T : TypeId} {old : Array Value} (ho : old.size = n) (hg : w'.heap[g]? = some (.cells old T (0, 0))) (r : ∀ p ∈ ns, ∃ T old, old.size = p.2 ∧ w'.heap[p.1]? = some (.cells old T (0, 0))) :
    ∀ p ∈ (g, n) :: ns, ∃ T old, old.size = p.2 ∧ w'.heap[p.1]? = some (.cells old T (0, 0)) := fun p hp => by
  rcases List.mem_cons.1 hp with rfl | hp
  · exact ⟨T, old, ho, hg⟩
  · exact r p hp
/-- What holds of the world alone is handed on. -/
theorem wp_gen {P : Program} {c : Code} {Q : Exit → Act → World → Prop} {a : Act} {w : World} (φ : World → Prop) (h : φ w) (k : ∀ w', φ w' → c.wp P Q a w') : c.wp P Q a w := k w h
theorem row_as {w : World} {b : Nat} {C D : Array Value} {T : TypeId} (h : w.heap[b]? = some (.cells C T (0, 0))) (e : C = D) : ∃ T, w.heap[b]? = some (.cells D T (0, 0)) := ⟨T, e ▸ h⟩
theorem ns0 {g n : Nat} : ∀ p ∈ ([] : List (Nat × Nat)), p.1 = g → p.2 = n := fun _ hp => by simp at hp
theorem nsE {g n : Nat} {ns : List (Nat × Nat)} (r : ∀ p ∈ ns, p.1 = g → p.2 = n) : ∀ p ∈ (g, n) :: ns, p.1 = g → p.2 = n := fun p hp e => by
  rcases List.mem_cons.1 hp with rfl | hp
  · rfl
  · exact r p hp e
end Go.FourQ
namespace Go.FourQ
open Go.RowKit
/-- From this place on there are the sixteen bytes of a number. -/
def C16 (w : World) (b o x : Nat) : Prop := ∀ j, j < 16 → w.cell? ⟨b, o + j, none⟩ = some (byteV x j)
theorem Fps.c16 {w : World} {b o k x : Nat} {l : List Nat} (h : Fps w b l) (ho : o = 16 * k) (hk : l[k]? = some x) : C16 w b o x := fun j hj => h.cell hk ho j hj
theorem C16.src {w : World} {b o x : Nat} (h : C16 w b o x) : ∀ j v, (fpC x).toList[j]? = some v → w.cell? ((⟨b, o, none⟩ : Addr).add j) = some v := fun j v hj => by
  have hl : j < 16 := by
    have := (List.getElem?_eq_some_iff.1 hj).1
    rwa [Array.length_toList, size_fpC] at this
  rw [Array.getElem?_toList, fpC_get _ _ hl] at hj
  rw [Addr.add_lit, h j hl, hj]
theorem C16.of_heap {w w' : World} {b o x : Nat} (h : C16 w b o x) (e : w'.heap[b]? = w.heap[b]?) : C16 w' b o x := fun j hj => by
  rw [← h j hj]; unfold World.cell?; rw [e]
theorem run_appendOp {P : Program} {ρ : Operand → Value} {o : Oper} {w w' : World} {x y : Operand} {dT sT : TypeId} {u v r : Value} (ho : o.op = .call { callee := .builtin .append, args := #[x, y], argTypes := #[dT, sT] })
    (hx : ρ x = u) (hy : ρ y = v) (h : (Builtin.append_ #[dT, sT] o.type #[u, v]).run P w = .ok r w') : (execOp ρ o).run P w = .ok (.value r) w' := by
  unfold execOp
  simp [ho, resolve, invoke, builtin, hx, hy, h, Result.andThen]
theorem C16.alloc {w : World} {b o x : Nat} (h : C16 w b o x) (ob : Obj) : C16 (w.alloc ob) b o x := fun j hj => Lib.cell?_alloc_some _ (h j hj)
theorem C16.newRow {w : World} {x : Nat} {t : Array Value} {T : TypeId} : C16 (w.alloc (.cells ((fpC x) ++ t) T)) w.heap.size 0 x := fun j hj => by
  rw [cell_of_row _ _ _ _ _ _ (heap_alloc_new _ _), Nat.zero_add, Array.getElem?_append_left (by rw [size_fpC]; exact hj), fpC_get _ _ hj]
theorem res_cell_tmp {P : Program} {fn : Func} {p q : Tmp} {ty : TypeId} (h : fn.results = #[.cell p ty, .tmp q]) (tmps : Array Value) (w : World) (g : Nat) (t : TypeId) (cs : Array Value) (fr : Nat × Nat) (d : TypeDesc) (v : Value)
    (hp : tmps.getD p undef = .pointer (some ⟨g, 0, none⟩)) (hq : tmps.getD q undef = v) (hg : w.heap[g]? = some (.cells cs t fr))
    (hu : P.underlying ty = some d) (hd : (match d with | .struct _ | .array _ _ => true | _ => false) = true) (hi : (P.info? ty).map (·.size) = some cs.size) :
    (results fn tmps).run P w = .ok (.tuple #[.agg cs, v]) w := by
  have hp' : tmps[p]?.getD undef = .pointer (some ⟨g, 0, none⟩) := by simpa using hp
  have hq' : tmps[q]?.getD undef = v := by simpa using hq
  simp [results, h, hp', hq', asAddr, run_loadVar_row w g t ty cs fr d hg hu hd hi]
theorem Fps.ofC16 {w : World} {b y : Nat} {z : Zp} (h : FpsZ w b [z]) (hc : C16 w b 0 y) : Fps w b [y] := by
  obtain ⟨l, ⟨T, hT⟩, hm, _⟩ := h
  match l, hm with
  | [v], _ =>
    refine ⟨T, hT.trans ?_⟩
    rw [show fps [v] = fps [y] from fps_ext rfl fun k p q hp hq i hi => ?_]
    match k, hp, hq with
    | 0, hp, hq =>
      obtain rfl : v = p := by simpa using hp
      obtain rfl : y = q := by simpa using hq
      have h1 := hc i hi
      have h2 := (show Fps w b [v] from ⟨T, hT⟩).cell (k := 0) rfl (o := 0) rfl i hi
      rw [h2] at h1
      exact Option.some.inj h1
end Go.FourQ
namespace Go.Proofs.YtfkfljohhabldaaDoor
open Go.RowKit Go.FourQ
section
variable {w : World} {b1 b2 o1 o2 k1 k2 c2 x : Nat} {L1 : List Zp} {l2 : List Nat} {z : Zp}
theorem zModV (hm : ModW w) (h1 : FpsZ w b1 L1) (e1 : o1 = 16 * k1) (i1 : L1[k1]? = some z) :
    Calls Tryd.prog 96 #[.pointer (some ⟨b1, o1, none⟩)] w fun e w' => e = .returned (.tuple #[]) ∧ UpdZ w w' b1 L1 ∧ C16 w' b1 o1 z.val := by
  obtain ⟨l2, u, f2, m2, n2, g2, q2, r2⟩ := h1.get i1
  subst q2
  exact (fpMod hm f2 e1 g2 r2).mono fun _ _ h => ⟨h.1, UpdZ.ofMod h.2 m2 n2 g2, h.2.blk.c16 e1 (List.getElem?_set_self (List.getElem?_eq_some_iff.1 g2).1)⟩
set_option maxRecDepth 100000 in
set_option maxHeartbeats 1000000 in
theorem fpToBytes (hm : ModW w) (h1 : FpsZ w b1 L1) (e1 : o1 = 16 * k1) (i1 : L1[k1]? = some z) (h2 : Fps w b2 l2) (e2 : o2 = 16 * k2) (i2 : k2 < l2.length) (hne : b1 ≠ b2) :
    Calls Tryd.prog 74 #[.pointer (some ⟨b1, o1, none⟩), .slice (some ⟨b2, o2, none⟩) 16 c2] w fun e w' => e = .returned (.tuple #[]) ∧ ∃ wm, UpdZ w wm b1 L1 ∧ Upd wm w' b2 (l2.set k2 z.val) := by
  have HC := Lib.hid (zModV hm h1 e1 i1)
  have E2 := Lib.hid e2; have I2 := Lib.hid i2; have H2 := Lib.hid h2; have HN := Lib.hid hne
  clear hm h1 e1 i1 h2 e2 i2 hne
  go_enter Tryd.func74, Tryd.ntmps74
  go_wp2_with fail
  refine HC.out.mono ?_
  rintro e w' ⟨rfl, u, hc⟩
  clear HC
  have HU := Lib.hid u; have HCC := Lib.hid hc
  clear u hc
  go_wp2_with fail
  obtain ⟨w2, hr, hu⟩ := run_copy16 (P := Tryd.prog) w' (dc := c2) (sc := 16) (ty := 3) Tryd.underlying28 (by kernel_rfl) (H2.out.of_heap (HU.out.other _ H2.out.lt (Ne.symm HN.out))) E2.out I2.out HCC.out.src
  rw [hr]
  have HU2 := Lib.hid hu
  clear hr hu
  go_wp2_with fail
  go_end0
  exact ⟨rfl, w', HU.out, HU2.out⟩
set_option maxRecDepth 100000 in
set_option maxHeartbeats 1000000 in
theorem fpFromBytes (hm : ModW w) (hg : 5 ≤ b1) (h1 : FpsZ w b1 L1) (e1 : o1 = 16 * k1) (i1 : k1 < L1.length) (hc : C16 w b2 o2 x) (hx : LowB x) :
    Calls Tryd.prog 75 #[.pointer (some ⟨b1, o1, none⟩), .slice (some ⟨b2, o2, none⟩) 16 c2] w fun e w' => e = .returned (.bool true) ∧ UpdZ w w' b1 (L1.set k1 (zp x)) ∧ C16 w' b1 o1 (x % pp) := by
  have hb : ∃ n : Nat, n < 128 ∧ w.cell? ⟨b2, o2 + 15, none⟩ = some (.int .u8 n) := ⟨x / 256 ^ 15 % 256, by
    have : x < 2 ^ 127 := hx
    omega, hc 15 (by decide)⟩
  obtain ⟨n, hn, hcell⟩ := hb
  obtain ⟨l, f1, m1, n1⟩ := h1
  have HM := Lib.hid hm; have HG := Lib.hid hg; have H1 := Lib.hid f1; have E1 := Lib.hid e1; have I1 := Lib.hid (show k1 < l.length by rwa [← m1, List.length_map] at i1); have M1 := Lib.hid m1; have N1 := Lib.hid n1; have HC := Lib.hid hc; have HX := Lib.hid hx
  clear hm hg f1 e1 i1 m1 n1 hc hx
  go_enter Tryd.func75, Tryd.ntmps75
  go_wp2_with fail
  obtain ⟨w2, hr, hu⟩ := run_copy16 (P := Tryd.prog) w (dc := 16) (sc := c2) (ty := 3) Tryd.underlying28 (by kernel_rfl) H1.out E1.out I1.out HC.out.src
  rw [hr]
  have HU := Lib.hid (UpdZ.of hu M1.out N1.out HX.out rfl)
  have CM := Lib.hid (zModV ((HM.out).upd hu HG.out) HU.out.blk E1.out (List.getElem?_set_self (by rw [← M1.out, List.length_map]; exact I1.out)))
  clear hr hu hcell
  go_wp2_with fail
  refine CM.out.mono ?_
  rintro e w3 ⟨rfl, u, hc⟩
  have HV := Lib.hid u; have HCC := Lib.hid hc
  clear u hc CM
  go_wp2_with fail
  go_ret
  exact ⟨rfl, HU.out.trans HV.out, HCC.out⟩
theorem run_clone16 {ty : TypeId} (hc : C16 w b2 o2 x) (p : Nat) : ∃ c w2, (Builtin.append_ #[28, 28] ty #[.slice (some ⟨p, 0, none⟩) 0 0, .slice (some ⟨b2, o2, none⟩) 16 c2]).run Tryd.prog w = .ok (.slice (some ⟨w.heap.size, 0, none⟩) 16 c) w2 ∧ C16 w2 w.heap.size 0 x ∧ Below w.heap.size w w2 := by
  refine ⟨_, _, run_append_grow (w := w) 28 ty 5 Tryd.t5 (.int .u8 0) Tryd.underlying28 (by kernel_rfl) (by kernel_rfl) ⟨p, 0, none⟩ 0 0 [] (by kernel_rfl) (by intro j v hj; simp at hj) ⟨b2, o2, none⟩ 16 c2 (fpC x).toList (by kernel_rfl) hc.src (by decide) (by decide) (by decide +kernel), ?_, (Below.refl _ _).drew.alloc (Nat.le_refl _) _⟩
  have e : (([] : List Value).toArray ++ (fpC x).toList.toArray : Array Value) = fpC x := by rw [Array.toArray_toList]; simp
  rw [e]
  exact C16.newRow (w := w.drew)
set_option maxRecDepth 100000 in
set_option maxHeartbeats 1000000 in
theorem cloneB (hc : C16 w b2 o2 x) :
    Calls Tryd.prog 49 #[.slice (some ⟨b2, o2, none⟩) 16 c2] w fun e w' => ∃ p c, e = .returned (.slice (some ⟨p, 0, none⟩) 16 c) ∧ C16 w' p 0 x ∧ Below w.heap.size w w' := by
  have HC := Lib.hid hc
  clear hc
  have q22 : ∀ (w : World) (a : Option Addr) (n c n' c' : Nat), (binOp .eql 28 (.slice a n c) (.slice none n' c')).run Tryd.prog w = .ok (.bool a.isNone) w := fun w a n c n' c' => Lib.run_eql_slice_nil w _ _ a n c n' c' Tryd.underlying28
  go_enter Tryd.func49, Tryd.ntmps49
  go_upto_region 3 with (fail)
  refine wp_seq_atS (opsAt Tryd.f49 3) ((false, 0) :: (true, 1) :: (false, 2) :: (true, 3) :: []) (fun _ => True) (by kernel_rfl) (by kernel_rfl) trivial ?_
  refine k_make (by kernel_rfl) (d := (some 5)) (by kernel_rfl) (v := .slice (some ⟨w.heap.size, 0, none⟩) 0 0) (w' := w.alloc (.cells #[] 5)) (by kernel_rfl) trivial ?_
  intro w1 hw1 _
  refine k_pure (by kernel_rfl) (d := (some 6)) (by kernel_rfl) (v := .slice (some ⟨b2, o2, none⟩) 16 c2) (fun _ => by kernel_rfl) ?_
  have hc1 : C16 w1 b2 o2 x := hw1 ▸ HC.out.alloc _
  obtain ⟨c, w2, hr, hc2, hb2⟩ := run_clone16 (c2 := c2) hc1 w.heap.size (ty := 28)
  refine k_make (by kernel_rfl) (d := (some 7)) (by kernel_rfl) (v := .slice (some ⟨w1.heap.size, 0, none⟩) 16 c) (w' := w2) (run_appendOp (x := .tmp 5) (y := .tmp 6) (by kernel_rfl) (by kernel_rfl) (by kernel_rfl) hr) trivial ?_
  intro w3 hw3 _
  subst hw3
  refine k_pure (by kernel_rfl) (d := (some 2)) (by kernel_rfl) (v := .slice (some ⟨w1.heap.size, 0, none⟩) 16 c) (fun _ => by kernel_rfl) ?_
  have hb : Below w.heap.size w w3 := nb_trans (hw1 ▸ (Below.refl _ _).alloc (Nat.le_refl _) _) hb2
  generalize w1.heap.size = p at *
  have HF := Lib.hid (show C16 w3 p 0 x ∧ Below w.heap.size w w3 from ⟨hc2, hb⟩)
  clear hw1 hc1 hr hc2 hb2 hb q22
  refine k_end ?_
  go_simp
  go_wp2_with fail
  exact bodyPost_ret_by (by kernel_rfl) (by kernel_rfl) ⟨p, c, rfl, HF.out⟩
set_option maxRecDepth 100000 in
set_option maxHeartbeats 1000000 in
theorem zzFromBytes (hm : ModW w) (hg : 5 ≤ w.heap.size) (hc : C16 w b2 o2 x) (hx : LowB x) :
    Calls Tryd.prog 48 #[.slice (some ⟨b2, o2, none⟩) 16 c2] w fun e w' => e = .returned (.tuple #[.agg (fpC (x % pp)), .bool true]) ∧ Below w.heap.size w w' := by
  have HM := Lib.hid hm; have HG := Lib.hid hg; have HC := Lib.hid hc; have HX := Lib.hid hx
  clear hm hg hc hx
  go_enter Tryd.func48, Tryd.ntmps48
  go_upto_region 1 with (fail)
  refine wp_gen (fun WW => ModW WW ∧ FpsZ WW w.heap.size [0] ∧ C16 WW b2 o2 x ∧ Below w.heap.size w WW) ⟨HM.out.alloc _, ⟨[0], Fps.new _ _ _ _ _ rfl (by kernel_rfl), rfl, all1 low_zero⟩, HC.out.alloc _, (Below.refl _ _).alloc (Nat.le_refl _) _⟩ ?_
  rintro W0 ⟨m0, f0, c0, n0⟩
  have HF := Lib.hid (fpFromBytes (c2 := c2) m0 HG.out f0 (k1 := 0) rfl (by decide) c0 HX.out); have HN := Lib.hid n0
  clear m0 f0 c0 n0
  go_wp2_with fail
  refine HF.out.mono ?_
  rintro e w' ⟨rfl, u, hc⟩
  obtain ⟨TR, hR⟩ := Fps.ofC16 u.blk hc
  rw [fps_one] at hR
  have HU := Lib.hid u
  clear u hc
  go_wp2_with fail
  exact bodyPost_ret_by (res_cell_tmp (p := 2) (q := 3) rfl _ _ w.heap.size _ (fpC (x % pp)) _ _ (.bool true) rfl rfl hR Tryd.underlying73 rfl (by kernel_rfl)) rfl ⟨rfl, HN.out.trans (HU.out.below (Nat.le_refl _) HN.out.size)⟩
set_option maxRecDepth 100000 in
set_option maxHeartbeats 1000000 in
theorem zzToBytes (hm : ModW w) (hg : 5 ≤ w.heap.size) (hx : LowB x) :
    Calls Tryd.prog 47 #[.agg (fpC x), .int .i64 16] w fun e w' => ∃ p, e = .returned (.slice (some ⟨p, 0, none⟩) 16 16) ∧ Fps w' p [x % pp] ∧ Below w.heap.size w w' := by
  have HM := Lib.hid hm; have HG := Lib.hid hg; have HX := Lib.hid hx
  clear hm hg hx
  go_enter Tryd.func47, Tryd.ntmps47
  go_upto_region 2 with (fail)
  rw [run_makeSlice (w := w.alloc (.cells (fpC x) 73)) 28 5 Tryd.t5 (.int .u8 0) Tryd.underlying28 (by kernel_rfl) (by kernel_rfl) .i64 .i64 16 16 (by decide) (by decide) (by decide +kernel) (by decide +kernel) (by decide)]
  go_upto_region 2 with (fail)
  refine wp_gen (fun WW => ModW WW ∧ FpsZ WW w.heap.size [zp x] ∧ Fps WW (w.heap.size + 1) [0] ∧ Below w.heap.size w WW) ⟨(HM.out.alloc _).alloc _, ⟨[x], (Fps.new _ _ _ _ _ rfl (fps_one x).symm).alloc _, rfl, all1 HX.out⟩, Fps.new _ _ _ _ _ (by simp) (by kernel_rfl), ((Below.refl _ _).alloc (Nat.le_refl _) _).alloc (by simp) _⟩ ?_
  rintro W0 ⟨m0, f0, c0, n0⟩
  have HF := Lib.hid (fpToBytes (c2 := 16) m0 f0 (k1 := 0) rfl rfl c0 (k2 := 0) rfl (by decide) (by omega)); have HN := Lib.hid n0
  clear m0 f0 c0 n0
  go_wp2_with fail
  refine HF.out.mono ?_
  rintro e w' ⟨rfl, wm, u1, u2⟩
  have hf : Fps w' (w.heap.size + 1) [x % pp] := u2.blk
  have hb : Below w.heap.size w w' := (HN.out.trans (u1.below (Nat.le_refl _) HN.out.size)).trans (u2.below (Nat.le_succ _) (Nat.le_trans HN.out.size u1.size))
  have HB := Lib.hid hb; have HP := Lib.hid hf
  clear u1 u2 hf hb HF
  go_wp2_with fail
  exact bodyPost_ret_by (by kernel_rfl) (by kernel_rfl) ⟨_, rfl, HP.out, HB.out⟩
end
end Go.Proofs.YtfkfljohhabldaaDoor
namespace Go.Proofs.YtfkfljohhabldaaDoor
open Go.RowKit Go.FourQ
set_option maxRecDepth 100000 in
set_option maxHeartbeats 1000000 in
theorem implBytes {w : World} {x : Nat} (hm : ModW w) (hg : 5 ≤ w.heap.size) (hx : LowB x) :
    Calls Tryd.prog 13 #[.agg (fpC x), .int .i64 16] w fun e w' => ∃ p, e = .returned (.slice (some ⟨p, 0, none⟩) 16 16) ∧ Fps w' p [x % pp] ∧ Below w.heap.size w w' := by
  go_enter Tryd.func13, Tryd.ntmps13
  go_upto_region 1 with (fail)
  refine wp_gen (fun WW => Kept w [(w.heap.size, (fpC x))] [] WW) (Kept.zero (nb_alloc (Below.refl _ _) _) (rowsC (row_as (hp1_0 (w := w) _) (by kernel_rfl)) rows0)) ?_
  intro W0 K0
  have K1 : Kept w [(w.heap.size, (fpC x))] [] W0 := Kept.mks K0.nb (rowsC (K0.at 0 rfl) rows0) rooms0
  refine wp_seq_atS (opsAt Tryd.f13 1) ((true, 0) :: (true, 1) :: (true, 2) :: (true, 3) :: (true, 4) :: (true, 5) :: []) (Kept w [(w.heap.size, (fpC x))] []) (by kernel_rfl) (by kernel_rfl) K1 ?_
  refine k_pure (by kernel_rfl) (d := (some 5)) (by kernel_rfl) (v := .int .i64 16) (fun _ => by kernel_rfl) ?_
  refine k_pure (by kernel_rfl) (d := (some 6)) (by kernel_rfl) (v := .bool false) (fun _ => by kernel_rfl) ?_
  refine k_pure (by kernel_rfl) (d := (some 7)) (by kernel_rfl) (v := .bool false) (fun _ => by kernel_rfl) ?_
  refine k_pure (by kernel_rfl) (d := (some 8)) (by kernel_rfl) (v := .int .i64 16) (fun _ => by kernel_rfl) ?_
  refine k_pure (by kernel_rfl) (d := (some 9)) (by kernel_rfl) (v := .bool false) (fun _ => by kernel_rfl) ?_
  refine k_pure (by kernel_rfl) (d := (some 10)) (by kernel_rfl) (v := .bool false) (fun _ => by kernel_rfl) ?_
  have K2 : Kept w [(w.heap.size, (fpC x))] [] W0 := Kept.zero K1.nb (rowsC (K1.at 0 rfl) rows0)
  refine k_end ?_
  go_simp
  go_upto_region 3 with (fail)
  have K3 : Kept w [(w.heap.size, (fpC x))] [] W0 := Kept.mks K2.nb (rowsC (K2.at 0 rfl) rows0) rooms0
  refine wp_seq_atS (opsAt Tryd.f13 3) ((true, 0) :: (true, 1) :: (false, 2) :: (true, 3) :: []) (Kept w [(w.heap.size, (fpC x))] []) (by kernel_rfl) (by kernel_rfl) K3 ?_
  refine k_row (by kernel_rfl) (d := (some 11)) (by kernel_rfl) (ty := 22) (x := (.tmp 2)) (by kernel_rfl) (b := w.heap.size) (by kernel_rfl) (cs := (fpC x)) (fun _ hs => hs.at 0 rfl) Tryd.underlying22 rfl (by kernel_rfl) ?_
  refine k_pure (by kernel_rfl) (d := (some 12)) (by kernel_rfl) (v := .int .i64 16) (fun _ => by kernel_rfl) ?_
  refine k_callR (by kernel_rfl) (d := (some 13)) (by kernel_rfl) (f := 47) (args := #[.agg (fpC x), .int .i64 16]) (fun _ => by kernel_rfl) (zzToBytes (hm.nb K3.nb) (Nat.le_trans hg K3.nb.size) hx) (fun _ w4 ⟨p4, he4, hf4, hb4⟩ => ⟨_, he4, K3.go hb4, ?_⟩)
  have K4 := K3.go hb4
  have L4 := hb4.size
  refine k_pure (by kernel_rfl) (d := (some 4)) (by kernel_rfl) (v := .slice (some ⟨p4, 0, none⟩) 16 16) (fun _ => by kernel_rfl) ?_
  have K5 : Kept w [(w.heap.size, (fpC x))] [] w4 := Kept.zero K4.nb (rowsC (K4.at 0 rfl) rows0)
  have HFF := Lib.hid hf4
  clear hf4
  refine k_end ?_
  go_simp
  go_wp2_with fail
  exact bodyPost_ret_by (by kernel_rfl) (by kernel_rfl) ⟨_, rfl, HFF.out, K5.nb⟩
theorem C16.nb {w w' : World} {b o x : Nat} (h : C16 w b o x) (v : Below w.heap.size w w') : C16 w' b o x := h.of_heap (v.block b (Classical.byContradiction fun hn => by
  have := h 0 (by decide)
  unfold World.cell? at this
  simp only at this
  rw [Array.getElem?_eq_none (Nat.le_of_not_lt hn)] at this
  simp at this))
set_option maxRecDepth 100000 in
set_option maxHeartbeats 1000000 in
theorem implOf {w : World} {b2 o2 cc x : Nat} (hm : ModW w) (hg : 5 ≤ w.heap.size) (hc : C16 w b2 o2 x) (hx : LowB x) :
    Calls Tryd.prog 14 #[.slice (some ⟨b2, o2, none⟩) 16 cc] w fun e w' => e = .returned (.tuple #[.agg (fpC (x % pp)), .bool true]) ∧ Below w.heap.size w w' := by
  go_enter Tryd.func14, Tryd.ntmps14
  go_upto_region 1 with (fail)
  refine wp_gen (fun WW => Kept w [(w.heap.size, (fpC 0))] [] WW) (Kept.zero (nb_alloc (Below.refl _ _) _) (rowsC (row_as (hp1_0 (w := w) _) (by kernel_rfl)) rows0)) ?_
  intro W0 K0
  have K1 : Kept w [(w.heap.size, (fpC 0))] [] W0 := Kept.mks K0.nb (rowsC (K0.at 0 rfl) rows0) rooms0
  refine wp_seq_atS (opsAt Tryd.f14 1) ((true, 0) :: (false, 1) :: (false, 2) :: (true, 3) :: (true, 4) :: (true, 5) :: (false, 6) :: (false, 7) :: (true, 8) :: []) (Kept w [(w.heap.size, (fpC 0))] []) (by kernel_rfl) (by kernel_rfl) K1 ?_
  refine k_pure (by kernel_rfl) (d := (some 7)) (by kernel_rfl) (v := .slice (some ⟨b2, o2, none⟩) 16 cc) (fun _ => by kernel_rfl) ?_
  refine k_callR (by kernel_rfl) (d := (some 8)) (by kernel_rfl) (f := 49) (args := #[.slice (some ⟨b2, o2, none⟩) 16 cc]) (fun _ => by kernel_rfl) (cloneB (c2 := cc) (C16.nb hc K1.nb)) (fun _ w2 ⟨p2, c2, he2, hc2, hb2⟩ => ⟨_, he2, K1.go hb2, ?_⟩)
  have K2 := K1.go hb2
  have L2 := hb2.size
  refine k_call (by kernel_rfl) (d := (some 9)) (by kernel_rfl) (f := 48) (args := #[.slice (some ⟨p2, 0, none⟩) 16 c2]) (v := .tuple #[.agg (fpC (x % pp)), .bool true]) (fun _ => by kernel_rfl) (zzFromBytes (c2 := c2) (hm.nb K2.nb) (Nat.le_trans hg K2.nb.size) hc2 hx) (fun w3 hb3 => ⟨K2.go hb3, ?_⟩)
  have K3 := K2.go hb3
  have L3 := hb3.size
  refine k_pure (by kernel_rfl) (d := (some 6)) (by kernel_rfl) (v := .tuple #[.agg (fpC (x % pp)), .bool true]) (fun _ => by kernel_rfl) ?_
  refine k_pure (by kernel_rfl) (d := (some 10)) (by kernel_rfl) (v := .agg (fpC (x % pp))) (fun _ => by kernel_rfl) ?_
  refine k_pure (by kernel_rfl) (d := (some 11)) (by kernel_rfl) (v := .bool true) (fun _ => by kernel_rfl) ?_
  refine k_make (by kernel_rfl) (d := (some 4)) (by kernel_rfl) (v := .pointer (some ⟨w3.heap.size, 0, none⟩)) (w' := w3.alloc (.cells (fpC 0) 73)) (by kernel_rfl) (K3.go ((Below.refl _ _).alloc (Nat.le_refl _) _)) ?_
  intro w4 hw4 K4
  have G4_n : w4.heap[w3.heap.size]? = some (.cells (fpC 0) 73 (0, 0)) := hw4 ▸ heap_alloc_new _ _
  have S4 : w3.heap.size < w4.heap.size := lt_of_heap G4_n
  have R4_0 : w.heap.size < w3.heap.size := (by obtain ⟨T, h⟩ := K3.at 0 rfl; exact lt_of_heap h)
  have Z4 : w.heap.size ≤ w3.heap.size := K3.nb.size
  clear hw4
  refine k_put (by kernel_rfl) (d := none) (by kernel_rfl) (ty := 73) (x := (.tmp 4)) (y := (.tmp 10)) (by kernel_rfl) (g := w3.heap.size) (cells := (fpC (x % pp))) (by kernel_rfl) (by kernel_rfl) G4_n (by kernel_rfl) (by kernel_rfl) (all_fpC _) (K4.puti (n := 16) (by kernel_rfl) (by omega) (neC (by omega) ne0) ns0) ?_
  intro w5 hw5 K5
  have G5_s : w5.heap[w3.heap.size]? = some (.cells (fpC (x % pp)) _ (0, 0)) := hw5 ▸ setRow_heap _ _ _ _ _ _ G4_n
  have L5 : w4.heap.size ≤ w5.heap.size := by rw [hw5]; exact Nat.le_of_eq (size_setRow _ _ _).symm
  clear hw5
  refine k_pure (by kernel_rfl) (d := (some 5)) (by kernel_rfl) (v := .bool true) (fun _ => by kernel_rfl) ?_
  have K6 : Kept w [(w.heap.size, (fpC 0)), (w3.heap.size, (fpC (x % pp)))] [] w5 := Kept.zero K5.nb (rowsC (K5.at 0 rfl) (rowsC ⟨_, G5_s⟩ rows0))
  clear G5_s G4_n
  refine k_end ?_
  go_simp
  go_upto_region 2 with (fail)
  have O0K7 := K6.at 0 rfl
  obtain ⟨T0K7, O0K7⟩ := O0K7
  have K7 : Kept w [(w3.heap.size, (fpC (x % pp)))] [(w.heap.size, 16)] w5 := Kept.mks K6.nb (rowsC (K6.at 1 rfl) rows0) (roomsC (by kernel_rfl) O0K7 rooms0)
  refine wp_seq_atS (opsAt Tryd.f14 2) ((true, 0) :: (true, 1) :: (false, 2) :: (true, 3) :: []) (Kept w [(w3.heap.size, (fpC (x % pp)))] [(w.heap.size, 16)]) (by kernel_rfl) (by kernel_rfl) K7 ?_
  refine k_row (by kernel_rfl) (d := (some 12)) (by kernel_rfl) (ty := 73) (x := (.tmp 4)) (by kernel_rfl) (b := w3.heap.size) (by kernel_rfl) (cs := (fpC (x % pp))) (fun _ hs => hs.at 0 rfl) Tryd.underlying73 rfl (by kernel_rfl) ?_
  refine k_pure (by kernel_rfl) (d := (some 13)) (by kernel_rfl) (v := .bool true) (fun _ => by kernel_rfl) ?_
  refine k_put (by kernel_rfl) (d := none) (by kernel_rfl) (ty := 22) (x := (.tmp 2)) (y := (.tmp 12)) (by kernel_rfl) (g := w.heap.size) (cells := (fpC (x % pp))) (by kernel_rfl) (by kernel_rfl) O0K7 (by kernel_rfl) (by kernel_rfl) (all_fpC _) (K7.puti (n := 16) (by kernel_rfl) (by omega) (neC (by omega) ne0) (nsE ns0)) ?_
  intro w8 hw8 K8
  have G8_s : w8.heap[w.heap.size]? = some (.cells (fpC (x % pp)) _ (0, 0)) := hw8 ▸ setRow_heap _ _ _ _ _ _ O0K7
  have L8 : w5.heap.size ≤ w8.heap.size := by rw [hw8]; exact Nat.le_of_eq (size_setRow _ _ _).symm
  clear hw8
  refine k_pure (by kernel_rfl) (d := (some 3)) (by kernel_rfl) (v := .bool true) (fun _ => by kernel_rfl) ?_
  have K9 : Kept w [(w.heap.size, (fpC (x % pp))), (w3.heap.size, (fpC (x % pp)))] [] w8 := Kept.zero K8.nb (rowsC ⟨_, G8_s⟩ (rowsC (K8.at 0 rfl) rows0))
  clear O0K7 G8_s
  refine k_end ?_
  go_simp
  go_wp2_with fail
  obtain ⟨TR, hR⟩ := K9.at 0 rfl
  exact bodyPost_ret_by (res_cell_tmp (p := 2) (q := 3) rfl _ _ (w.heap.size) _ (fpC (x % pp)) _ _ (.bool true) rfl rfl hR Tryd.underlying22 rfl (by kernel_rfl)) rfl ⟨rfl, K9.nb⟩
end Go.Proofs.YtfkfljohhabldaaDoor
namespace Go.FourQ
open Go.ChangeShapes Go.WideShapes Go.ChangeAt Go.RowKit
section
variable {H : Type} {enc : TypeId × Value → H} {P : Program}
def rowed (P : Program) (ts : List TypeId) : Bool := ts.all fun t => P.readableRec t && decide (t < P.types.size)
theorem trodAll_nb (hl : laidOutB P = true) {W W' : World} (hb : Below W.heap.size W W') :
    ∀ {ts : List TypeId} {vs : List Value} {ds : List (DataW H)} {ps : List MemPlace}, rowed P ts = true → (∀ x ∈ ps, x.block < W.heap.size) → DataW.TrodAll enc P W 0 (fun _ => true) true ts vs ds ps →
      DataW.TrodAll enc P W' 0 (fun b => decide (b < W.heap.size)) true ts vs ds ps
  | [], [], [], _, _, _, h => h
  | [], [], _ :: _, _, _, _, h => h.elim
  | [], _ :: _, _, _, _, _, h => h.elim
  | _ :: _, [], _, _, _, _, h => h.elim
  | _ :: _, _ :: _, [], _, _, _, h => h.elim
  | t :: ts, v :: vs, d :: ds, ps, hr, hlt, h => by
    obtain ⟨p, q, h1, h2, e⟩ := h
    simp only [rowed, List.all_cons, Bool.and_eq_true, decide_eq_true_eq] at hr
    exact ⟨p, q, Below.trod hl hr.1.1 hr.1.2 h1 hb (fun x hx => hlt x (by rw [e]; simp [hx])),
      trodAll_nb hl hb (by simpa [rowed] using hr.2) (fun x hx => hlt x (by rw [e]; simp [hx])) h2, e⟩
theorem post_true {f : Func} {s : ChangeSpec} {apart : Bool} {W W' : World} {args : Array Value} {ds gs : List (DataW H)} {before : List MemPlace} {tb : TypeId}
    (hl : laidOutB P = true) (hv : varsRowed P s.vars = true) (hp : rowed P f.params.toList = true) (hrt : f.resultTypes = #[tb]) (htb : P.underlying tb = some .bool)
    (hW : DataW.Whole enc P f.params.toList s.vars apart W args.toList ds gs before)
    (hs : s.fn H (ds ++ gs) = { results := [.lit (.bool true)], args := ds, vars := gs }) (hb : Below W.heap.size W W') :
    s.post enc P f apart true false false W args (.bool true) W' := by
  have hW' := hW
  have hlt := hW.lt
  obtain ⟨p, q, hA, hV, rfl, hfz, hnd⟩ := hW
  refine ⟨ds, gs, p ++ q, [], p, q, hW', ?_, ?_, ?_, hb.frame _, fun h => by cases h⟩
  · rw [hs, hrt]; exact trodAll_mk1 (shut_bool htb true)
  · rw [hs]; exact trodAll_nb hl hb hp (fun x hx => hlt x (by simp [hx])) hA
  · rw [hs]; exact Below.trodVars hl hb hv hV
end
def ofBytes : List Nat → Nat
  | [] => 0
  | b :: l => b + 256 * ofBytes l
theorem ofBytes_lt : ∀ (l : List Nat), (∀ b ∈ l, b < 256) → ofBytes l < 256 ^ l.length
  | [], _ => by simp [ofBytes]
  | b :: l, h => by
    have h1 := ofBytes_lt l fun c hc => h c (by simp [hc])
    have h2 := h b (by simp)
    simp only [ofBytes, List.length_cons, Nat.pow_succ]
    omega
theorem ofBytes_get : ∀ (l : List Nat), (∀ b ∈ l, b < 256) → ∀ i, i < l.length → ofBytes l / 256 ^ i % 256 = l.getD i 0
  | [], _, i, h => by simp at h
  | b :: l, hl, 0, _ => by
    have h2 := hl b (by simp)
    simp only [ofBytes, Nat.pow_zero, Nat.div_one, List.getD_cons_zero]
    omega
  | b :: l, hl, i + 1, h => by
    have h2 := hl b (by simp)
    have e : ofBytes (b :: l) / 256 ^ (i + 1) = ofBytes l / 256 ^ i := by
      rw [Nat.pow_succ', ← Nat.div_div_eq_div_mul]
      congr 1
      simp only [ofBytes]
      omega
    rw [e, List.getD_cons_succ]
    exact ofBytes_get l (fun c hc => hl c (by simp [hc])) i (by simpa using h)
theorem bytes_fpC (cs : List Value) (hlen : cs.length = 16) (h : ∀ i, i < 16 → ∃ n : Int, cs[i]? = some (.int .u8 n) ∧ (Lit.int .u8 n).wf = true) : ∃ x, x < 256 ^ 16 ∧ cs = (fpC x).toList := by
  let f : Value → Nat := fun v => match v with | .int .u8 n => n.toNat | _ => 0
  have hb : ∀ i, i < 16 → cs[i]? = some (.int .u8 (((cs.map f).getD i 0 : Nat) : Int)) ∧ (cs.map f).getD i 0 < 256 := fun i hi => by
    obtain ⟨n, hn, hw⟩ := h i hi
    have hw := bounds_u8 hw
    have e : (cs.map f).getD i 0 = n.toNat := by
      rw [List.getD, List.getElem?_map, hn]; rfl
    rw [e]
    refine ⟨?_, by omega⟩
    rw [hn]
    congr 2
    omega
  have hlt : ∀ b ∈ cs.map f, b < 256 := fun b hm => by
    obtain ⟨i, hi, rfl⟩ := List.getElem_of_mem hm
    have := (hb i (by simpa [hlen] using hi)).2
    rwa [List.getD_eq_getElem?_getD, List.getElem?_eq_getElem hi] at this
  refine ⟨ofBytes (cs.map f), ?_, ?_⟩
  · have := ofBytes_lt _ hlt
    rwa [List.length_map, hlen] at this
  · refine List.ext_getElem? fun i => ?_
    rcases Nat.lt_or_ge i 16 with hi | hi
    · rw [(hb i hi).1, Array.getElem?_toList, fpC_get _ _ hi, byteV, ofBytes_get _ hlt i (by simpa [hlen] using hi)]
    · rw [List.getElem?_eq_none (by omega), List.getElem?_eq_none (by simpa [size_fpC] using hi)]
section
variable {H : Type} {enc : TypeId × Value → H} {P : Program} {w : World}
theorem trod_fp {base : Nat} {spare : Nat → Bool} {held : Bool} {fuel : Nat} {t e : TypeId} {cs : List Value} {x : DataW H × List MemPlace} (ht : P.underlying t = some (.array 16 e)) (he : P.underlying e = some (.int .u8)) (c : P.cellsOf e = 1) (ct : P.cellsOf t = 16)
    (h : DataW.trod enc P w base spare held fuel t cs = some x) : ∃ y, y < 256 ^ 16 ∧ cs = (fpC y).toList := by
  obtain ⟨xs, m, _, _, hl, hxl, hel⟩ := DataW.trod_array ht h
  rw [ct] at hl
  refine bytes_fpC cs hl fun i hi => ?_
  have hE := hel i hi
  rw [c, Nat.mul_one, List.getElem?_eq_getElem (by omega)] at hE
  obtain ⟨n, e1, _, hw⟩ := DataW.trod_int he hE
  refine ⟨n, ?_, hw⟩
  have h0 : ((cs.drop i).take 1)[0]? = some (.int .u8 n) := by rw [e1]; rfl
  simpa using h0
/-- An argument of sixteen bytes. -/
theorem open_fp {r : Reach} {b0 base : Nat} {spare : Nat → Bool} {held : Bool} {t e : TypeId} {v : Value} {d : DataW H} {p : List MemPlace} (ht : P.underlying t = some (.array 16 e)) (he : P.underlying e = some (.int .u8)) (c : P.cellsOf e = 1) (ct : P.cellsOf t = 16)
    (hv : Value.okWide P w r b0 t v) (h : DataW.Trod enc P w base spare held t v d p) : ∃ y, y < 256 ^ 16 ∧ v = .agg (fpC y) := by
  simp only [Value.okWide, ht] at hv
  obtain ⟨cs, rfl, _, _⟩ := hv
  obtain ⟨fuel, hf⟩ := h
  obtain ⟨y, hy, e⟩ := trod_fp ht he c ct hf
  refine ⟨y, hy, ?_⟩
  have : cs.toList = (fpC y).toList := e
  rw [show cs = fpC y from by cases cs; cases hq : fpC y; simp_all]
end
end Go.FourQ
namespace Go.Proofs.YtfkfljohhabldaaDoor
open Go.RowKit Go.FourQ Go.ChangeAt
theorem own : ownKnob Tryd.prog.godebug = none := by kernel_rfl
theorem gMod : Tryd.prog.globalNamed "loop.example/pub-g03039/pub/circl/fourq.modulusP" = some 4 := by kernel_rfl
theorem gModType : (Tryd.prog.globals[4]?).map (·.type) = some 73 := by kernel_rfl
theorem cellsFp : Tryd.prog.cellsOf 73 = 16 := by kernel_rfl
theorem cellsU8 : Tryd.prog.cellsOf 5 = 1 := by kernel_rfl
theorem cellsA16 : Tryd.prog.cellsOf 22 = 16 := by kernel_rfl
theorem laidOut : laidOutB Tryd.prog = true := by kernel_rfl
theorem modW_of {W : World} {rest : List (String × DataW Unit)} (h : laidMet Tryd.prog (("loop.example/pub-g03039/pub/circl/fourq.modulusP", Rows.laid_loop_example_pub_g03039_pub_circl_fourq_modulusP) :: rest) W) : ModW W := by
  have t : Lib.TabIs Tryd.prog W "loop.example/pub-g03039/pub/circl/fourq.modulusP" .u8 [255, 255, 255, 255, 255, 255, 255, 255, 255, 255, 255, 255, 255, 255, 255, 127] :=
    Lib.tabIs_of_head gMod gModType Tryd.underlying73 Tryd.underlying5 cellsU8 cellsFp h
  unfold Lib.TabIs World.var? at t
  rw [gMod] at t
  simp only [Option.bind_some] at t
  split at t
  · rename_i cs T fr hc
    have e : cs = fpC pp := (Option.some.inj t).trans (by kernel_rfl)
    exact ⟨T, fr, by rw [hc, e]⟩
  · cases t
end Go.Proofs.YtfkfljohhabldaaDoor
namespace Go.Proofs.YtfkfljohhabldaaDoor
open Go.RowKit Go.FourQ
end Go.Proofs.YtfkfljohhabldaaDoor
namespace Go.FourQ
open Go.RowKit
theorem all2L {a b : Nat} (ha : LowB a) (hb : LowB b) : ∀ v ∈ [a, b], LowB v := fun v hv => by
  simp only [List.mem_cons, List.not_mem_nil, or_false] at hv
  rcases hv with rfl | rfl
  · exact ha
  · exact hb
theorem FpsZ.pair {w : World} {b : Nat} {x y : Zp} (h : FpsZ w b [x, y]) : AtQ w b 0 x y := ⟨h.atK (k := 0) rfl rfl, h.atK (k := 1) rfl rfl⟩
theorem FpsZ.two {w : World} {b u v : Nat} (h : Fps w b [u, v]) (hu : LowB u) (hv : LowB v) : FpsZ w b [zp u, zp v] := FpsZ.ofFps h (all2L hu hv)
end Go.FourQ
namespace Go.Proofs.YtfkfljohhabldaaDoor
open Go.RowKit Go.FourQ
end Go.Proofs.YtfkfljohhabldaaDoor
namespace Go.FourQ
open Go.RowKit
end Go.FourQ
namespace Go.Proofs.YtfkfljohhabldaaDoor
open Go.RowKit Go.FourQ
end Go.Proofs.YtfkfljohhabldaaDoor
namespace Go.FourQ
end Go.FourQ
namespace Go.Proofs.YtfkfljohhabldaaDoor
open Go.RowKit Go.FourQ
end Go.Proofs.YtfkfljohhabldaaDoor
namespace Go.FourQ
open Go.RowKit
/-- wr is w, but that these blocks hold these elements; there may be new blocks. -/
structure Sto (w : World) (s : List (Nat × List Zp)) (wr : World) : Prop where
  os : wr.os = w.os
  tape : wr.tape = w.tape
  output : wr.output = w.output
  size : w.heap.size ≤ wr.heap.size
  blk : ∀ (i b : Nat) (L : List Zp), s[i]? = some (b, L) → FpsZ wr b L
  ne : ∀ (i j b c : Nat) (L M : List Zp), s[i]? = some (b, L) → s[j]? = some (c, M) → i ≠ j → b ≠ c
  other : ∀ k, k < w.heap.size → (∀ p ∈ s, p.1 ≠ k) → wr.heap[k]? = w.heap[k]?
variable {w wr w' : World} {s : List (Nat × List Zp)} {i b : Nat} {L M : List Zp}
theorem Sto.one (h : FpsZ w b L) : Sto w [(b, L)] w where
  os := rfl
  tape := rfl
  output := rfl
  size := Nat.le_refl _
  blk := fun i c M hi => by
    rcases i with _ | i
    · obtain ⟨rfl, rfl⟩ : b = c ∧ L = M := by simpa using hi
      exact h
    · simp at hi
  ne := fun i j c d M N hi hj hij => by
    rcases i with _ | i
    · rcases j with _ | j
      · exact absurd rfl hij
      · simp at hj
    · simp at hi
  other := fun _ _ _ => rfl
theorem Sto.zero (w : World) : Sto w [] w where
  os := rfl
  tape := rfl
  output := rfl
  size := Nat.le_refl _
  blk := fun i c M hi => by simp at hi
  ne := fun i j c d M N hi => by simp at hi
  other := fun _ _ _ => rfl
theorem Sto.at (h : Sto w s wr) (i k : Nat) {o : Nat} {x : Zp} (hi : s[i]? = some (b, L)) (hk : L[k]? = some x) (ho : o = 16 * k) : At wr b o x := (h.blk i b L hi).atK ho hk
/-- A block is written. -/
theorem Sto.upd (h : Sto w s wr) (hi : s[i]? = some (b, L)) (u : UpdZ wr w' b M) : Sto w (s.set i (b, M)) w' where
  os := u.os.trans h.os
  tape := u.tape.trans h.tape
  output := u.output.trans h.output
  size := Nat.le_trans h.size u.size
  blk := fun j c N hj => by
    have hl := (List.getElem?_eq_some_iff.1 hi).1
    by_cases hji : j = i
    · subst hji
      rw [List.getElem?_set_self hl] at hj
      obtain ⟨rfl, rfl⟩ : b = c ∧ M = N := by simpa using hj
      exact u.blk
    · rw [List.getElem?_set_ne (Ne.symm hji)] at hj
      exact u.keep (h.blk j c N hj) (h.ne j i c b N L hj hi hji)
  ne := fun j k c d N O hj hk hjk => by
    have key : ∀ (m e : Nat) (Q : List Zp), (s.set i (b, M))[m]? = some (e, Q) → ∃ Q', s[m]? = some (e, Q') := fun m e Q hm => by
      have hl := (List.getElem?_eq_some_iff.1 hi).1
      by_cases hmi : m = i
      · subst hmi
        rw [List.getElem?_set_self hl] at hm
        obtain ⟨rfl, rfl⟩ : b = e ∧ M = Q := by simpa using hm
        exact ⟨L, hi⟩
      · rw [List.getElem?_set_ne (Ne.symm hmi)] at hm
        exact ⟨Q, hm⟩
    obtain ⟨N', hj'⟩ := key j c N hj
    obtain ⟨O', hk'⟩ := key k d O hk
    exact h.ne j k c d N' O' hj' hk' hjk
  other := fun k hk hp => by
    have hl := (List.getElem?_eq_some_iff.1 hi).1
    have hkb : k ≠ b := fun e => hp (b, M) (List.mem_of_getElem? (List.getElem?_set_self hl)) e.symm
    refine (u.other k (Nat.lt_of_lt_of_le hk h.size) hkb).trans (h.other k hk fun p hm => ?_)
    obtain ⟨m, hm'⟩ := List.getElem?_of_mem hm
    by_cases hmi : m = i
    · subst hmi
      obtain rfl : (b, L) = p := Option.some.inj (hi.symm.trans hm')
      exact Ne.symm hkb
    · exact hp p (List.mem_of_getElem? (by rw [List.getElem?_set_ne (Ne.symm hmi)]; exact hm'))
/-- New memory of others. -/
theorem Sto.go (h : Sto w s wr) (v : Below wr.heap.size wr w') : Sto w s w' where
  os := v.os.trans h.os
  tape := v.tape.trans h.tape
  output := v.output.trans h.output
  size := Nat.le_trans h.size v.size
  blk := fun j c N hj => (h.blk j c N hj).nb v
  ne := h.ne
  other := fun k hk hp => (v.block k (Nat.lt_of_lt_of_le hk h.size)).trans (h.other k hk hp)
theorem Sto.drew (h : Sto w s wr) : Sto w s wr.drew := h.go (Below.refl _ _).drew
/-- A new block. -/
theorem Sto.new (h : Sto w s wr) {c : Array Value} {T : TypeId} {l : List Nat} (hb : b = wr.heap.size) (hc : c = fps l) (hl : ∀ v ∈ l, LowB v) (hL : l.map zp = L) : Sto w (s ++ [(b, L)]) (wr.alloc (.cells c T)) where
  os := h.os
  tape := h.tape
  output := h.output
  size := Nat.le_trans h.size (by simp)
  blk := fun j d N hj => by
    rcases Nat.lt_or_ge j s.length with hl' | hl'
    · rw [List.getElem?_append_left hl'] at hj
      exact (h.blk j d N hj).alloc _
    · rw [List.getElem?_append_right hl'] at hj
      obtain ⟨h0, rfl, rfl⟩ : j - s.length = 0 ∧ b = d ∧ L = N := by
        rcases Nat.eq_zero_or_pos (j - s.length) with h0 | h0
        · rw [h0] at hj; exact ⟨h0, by simpa using hj⟩
        · rw [List.getElem?_eq_none (by simp only [List.length_cons, List.length_nil]; omega)] at hj; cases hj
      rw [← hL]
      exact FpsZ.ofFps (Fps.new wr l c T b hb hc) hl
  ne := fun j k d e N O hj hk hjk => by
    have old : ∀ (m f : Nat) (Q : List Zp), m < s.length → (s ++ [(b, L)])[m]? = some (f, Q) → s[m]? = some (f, Q) ∧ f < wr.heap.size := fun m f Q hm hq => by
      rw [List.getElem?_append_left hm] at hq
      exact ⟨hq, (h.blk m f Q hq).lt⟩
    have new : ∀ (m f : Nat) (Q : List Zp), ¬ m < s.length → (s ++ [(b, L)])[m]? = some (f, Q) → m = s.length ∧ f = wr.heap.size := fun m f Q hm hq => by
      rw [List.getElem?_append_right (by omega)] at hq
      rcases Nat.eq_zero_or_pos (m - s.length) with h0 | h0
      · rw [h0] at hq
        obtain ⟨rfl, rfl⟩ : b = f ∧ L = Q := by simpa using hq
        exact ⟨by omega, hb⟩
      · rw [List.getElem?_eq_none (by simp only [List.length_cons, List.length_nil]; omega)] at hq; cases hq
    by_cases hj' : j < s.length
    · obtain ⟨qj, lj⟩ := old j d N hj' hj
      by_cases hk' : k < s.length
      · exact h.ne j k d e N O qj (old k e O hk' hk).1 hjk
      · have := (new k e O hk' hk).2; omega
    · have nj := new j d N hj' hj
      by_cases hk' : k < s.length
      · have := (old k e O hk' hk).2; omega
      · have := (new k e O hk' hk).1; omega
  other := fun k hk hp => (Below.heap_alloc _ _ _ (Nat.lt_of_lt_of_le hk h.size)).trans (h.other k hk fun p hm => hp p (List.mem_append_left _ hm))
end Go.FourQ
namespace Go.Proofs.YtfkfljohhabldaaDoor
open Go.RowKit Go.FourQ
end Go.Proofs.YtfkfljohhabldaaDoor
namespace Go.FourQ
open Go.RowKit
end Go.FourQ
namespace Go.Proofs.YtfkfljohhabldaaDoor
open Go.RowKit Go.FourQ
end Go.Proofs.YtfkfljohhabldaaDoor
namespace Go.FourQ
open Go.RowKit
end Go.FourQ
namespace Go.Proofs.YtfkfljohhabldaaDoor
open Go.RowKit Go.FourQ
end Go.Proofs.YtfkfljohhabldaaDoor
namespace Go.FourQ
theorem neg_one_pow (j : Nat) : (-(1 : Zp)).pow (2 * j + 1) = -1 := by
  have h2 : (-(1 : Zp)).pow 2 = 1 := by decide +kernel
  rw [zpow_add, ← zpow_mul, h2, zone_pow, zpow_one, zone_mul]
theorem zneg_pow (a : Zp) (j : Nat) : (-a).pow (2 * j + 1) = -(a.pow (2 * j + 1)) := by
  have : -a = -1 * a := by rw [zneg_mul, zone_mul]
  rw [this, zmul_pow, neg_one_pow, zneg_mul, zone_mul]
/-- -1 is no square: a sum of two squares is 0 just where both are. -/
theorem sum_sq {x y : Zp} (h : x * x + y * y = 0) : x = 0 ∧ y = 0 := by
  have hx : x * x = -(y * y) := by
    have := zpR.eq_neg (a := y * y) (b := x * x) (by show y * y + x * x = 0; rw [zadd_comm]; exact h)
    exact this
  by_cases hy : y = 0
  · subst hy
    rw [zmul_zero, zneg_zero] at hx
    exact ⟨(zmul_eq_zero hx).elim id id, rfl⟩
  · exfalso
    have hx0 : x ≠ 0 := fun e => by
      subst e
      rw [zmul_zero] at hx
      have : y * y = 0 := by rw [← zneg_neg (y * y), ← hx, zneg_zero]
      exact zmul_ne hy hy this
    have e := congrArg (fun t : Zp => t.pow (2 * 42535295865117307932921825928971026431 + 1)) hx
    replace e : (x * x).pow (2 * 42535295865117307932921825928971026431 + 1) = (-(y * y)).pow (2 * 42535295865117307932921825928971026431 + 1) := e
    have sq : ∀ t : Zp, t * t = t.pow 2 := fun t => by rw [show 2 = 1 + 1 from rfl, zpow_add, zpow_one]
    rw [zneg_pow, sq, sq, zpow_mul, zpow_mul, show 2 * (2 * 42535295865117307932921825928971026431 + 1) = pp - 1 by decide +kernel, zfermat hx0, zfermat hy] at e
    exact absurd e (by decide +kernel)
theorem inv_pair {x y : Zp} (h : x * x + y * y ≠ 0) :
    x * (x * (x * x + y * y).inv) - y * (y * -(x * x + y * y).inv) = 1 ∧ x * (y * -(x * x + y * y).inv) + y * (x * (x * x + y * y).inv) = 0 := by
  have hi := zmul_inv h
  generalize (x * x + y * y).inv = t at *
  constructor
  · rw [← hi]
    exact ring_eq zpR (fun i => [x, y, t].getD i 0) (.sub (.mul (.v 0) (.mul (.v 0) (.v 2))) (.mul (.v 1) (.mul (.v 1) (.neg (.v 2))))) (.mul (.add (.mul (.v 0) (.v 0)) (.mul (.v 1) (.v 1))) (.v 2)) (by kernel_rfl)
  · exact ring_eq zpR (fun i => [x, y, t].getD i 0) (.add (.mul (.v 0) (.mul (.v 1) (.neg (.v 2)))) (.mul (.v 1) (.mul (.v 0) (.v 2)))) (.n 0) (by kernel_rfl)
end Go.FourQ
namespace Go.FourQ
theorem qz_assoc_0 (a0 a1 b0 b1 c0 c1 : Zp) : ((((a0 * b0) - (a1 * b1)) * c0) - (((a0 * b1) + (a1 * b0)) * c1)) = ((a0 * ((b0 * c0) - (b1 * c1))) - (a1 * ((b0 * c1) + (b1 * c0)))) := ring_eq zpR (fun i => [a0, a1, b0, b1, c0, c1].getD i 0) (.sub (.mul (.sub (.mul (.v 0) (.v 2)) (.mul (.v 1) (.v 3))) (.v 4)) (.mul (.add (.mul (.v 0) (.v 3)) (.mul (.v 1) (.v 2))) (.v 5))) (.sub (.mul (.v 0) (.sub (.mul (.v 2) (.v 4)) (.mul (.v 3) (.v 5)))) (.mul (.v 1) (.add (.mul (.v 2) (.v 5)) (.mul (.v 3) (.v 4))))) (by kernel_rfl)
theorem qz_assoc_1 (a0 a1 b0 b1 c0 c1 : Zp) : ((((a0 * b0) - (a1 * b1)) * c1) + (((a0 * b1) + (a1 * b0)) * c0)) = ((a0 * ((b0 * c1) + (b1 * c0))) + (a1 * ((b0 * c0) - (b1 * c1)))) := ring_eq zpR (fun i => [a0, a1, b0, b1, c0, c1].getD i 0) (.add (.mul (.sub (.mul (.v 0) (.v 2)) (.mul (.v 1) (.v 3))) (.v 5)) (.mul (.add (.mul (.v 0) (.v 3)) (.mul (.v 1) (.v 2))) (.v 4))) (.add (.mul (.v 0) (.add (.mul (.v 2) (.v 5)) (.mul (.v 3) (.v 4)))) (.mul (.v 1) (.sub (.mul (.v 2) (.v 4)) (.mul (.v 3) (.v 5))))) (by kernel_rfl)
theorem qz_comm_0 (a0 a1 b0 b1 : Zp) : ((a0 * b0) - (a1 * b1)) = ((b0 * a0) - (b1 * a1)) := ring_eq zpR (fun i => [a0, a1, b0, b1].getD i 0) (.sub (.mul (.v 0) (.v 2)) (.mul (.v 1) (.v 3))) (.sub (.mul (.v 2) (.v 0)) (.mul (.v 3) (.v 1))) (by kernel_rfl)
theorem qz_comm_1 (a0 a1 b0 b1 : Zp) : ((a0 * b1) + (a1 * b0)) = ((b0 * a1) + (b1 * a0)) := ring_eq zpR (fun i => [a0, a1, b0, b1].getD i 0) (.add (.mul (.v 0) (.v 3)) (.mul (.v 1) (.v 2))) (.add (.mul (.v 2) (.v 1)) (.mul (.v 3) (.v 0))) (by kernel_rfl)
theorem qz_dist_0 (a0 a1 b0 b1 c0 c1 : Zp) : ((a0 * (b0 + c0)) - (a1 * (b1 + c1))) = (((a0 * b0) - (a1 * b1)) + ((a0 * c0) - (a1 * c1))) := ring_eq zpR (fun i => [a0, a1, b0, b1, c0, c1].getD i 0) (.sub (.mul (.v 0) (.add (.v 2) (.v 4))) (.mul (.v 1) (.add (.v 3) (.v 5)))) (.add (.sub (.mul (.v 0) (.v 2)) (.mul (.v 1) (.v 3))) (.sub (.mul (.v 0) (.v 4)) (.mul (.v 1) (.v 5)))) (by kernel_rfl)
theorem qz_dist_1 (a0 a1 b0 b1 c0 c1 : Zp) : ((a0 * (b1 + c1)) + (a1 * (b0 + c0))) = (((a0 * b1) + (a1 * b0)) + ((a0 * c1) + (a1 * c0))) := ring_eq zpR (fun i => [a0, a1, b0, b1, c0, c1].getD i 0) (.add (.mul (.v 0) (.add (.v 3) (.v 5))) (.mul (.v 1) (.add (.v 2) (.v 4)))) (.add (.add (.mul (.v 0) (.v 3)) (.mul (.v 1) (.v 2))) (.add (.mul (.v 0) (.v 5)) (.mul (.v 1) (.v 4)))) (by kernel_rfl)
theorem qz_norm (a0 a1 b0 b1 : Zp) : ((((a0 * b0) - (a1 * b1)) * ((a0 * b0) - (a1 * b1))) + (((a0 * b1) + (a1 * b0)) * ((a0 * b1) + (a1 * b0)))) = (((a0 * a0) + (a1 * a1)) * ((b0 * b0) + (b1 * b1))) := ring_eq zpR (fun i => [a0, a1, b0, b1].getD i 0) (.add (.mul (.sub (.mul (.v 0) (.v 2)) (.mul (.v 1) (.v 3))) (.sub (.mul (.v 0) (.v 2)) (.mul (.v 1) (.v 3)))) (.mul (.add (.mul (.v 0) (.v 3)) (.mul (.v 1) (.v 2))) (.add (.mul (.v 0) (.v 3)) (.mul (.v 1) (.v 2))))) (.mul (.add (.mul (.v 0) (.v 0)) (.mul (.v 1) (.v 1))) (.add (.mul (.v 2) (.v 2)) (.mul (.v 3) (.v 3)))) (by kernel_rfl)
structure Zq where
  re : Zp
  im : Zp
theorem Zq.ext {a b : Zq} (h : a.re = b.re) (g : a.im = b.im) : a = b := by
  obtain ⟨x, y⟩ := a
  obtain ⟨u, v⟩ := b
  obtain rfl : x = u := h
  obtain rfl : y = v := g
  rfl
instance : DecidableEq Zq := fun a b => if h : a.re = b.re ∧ a.im = b.im then isTrue (Zq.ext h.1 h.2) else isFalse fun e => h ⟨congrArg Zq.re e, congrArg Zq.im e⟩
instance : Add Zq := ⟨fun a b => ⟨a.re + b.re, a.im + b.im⟩⟩
instance : Mul Zq := ⟨fun a b => ⟨a.re * b.re - a.im * b.im, a.re * b.im + a.im * b.re⟩⟩
instance : Neg Zq := ⟨fun a => ⟨-a.re, -a.im⟩⟩
instance : Sub Zq := ⟨fun a b => a + -b⟩
namespace Zq
protected def zero : Zq := ⟨0, 0⟩
protected def one : Zq := ⟨1, 0⟩
end Zq
instance : OfNat Zq 0 := ⟨Zq.zero⟩
instance : OfNat Zq 1 := ⟨Zq.one⟩
/-- The square field, as a ring. -/
def zqR : CR Zq := {
  zero := 0
  one := 1
  add := fun a b => a + b
  mul := fun a b => a * b
  neg := fun a => -a
  add_comm := fun a b => Zq.ext (zadd_comm _ _) (zadd_comm _ _)
  add_assoc := fun a b c => Zq.ext (zadd_assoc _ _ _) (zadd_assoc _ _ _)
  add_zero := fun a => Zq.ext (zadd_zero _) (zadd_zero _)
  add_neg := fun a => Zq.ext (zadd_neg _) (zadd_neg _)
  mul_comm := fun a b => Zq.ext (qz_comm_0 _ _ _ _) (qz_comm_1 _ _ _ _)
  mul_assoc := fun a b c => Zq.ext (qz_assoc_0 _ _ _ _ _ _) (qz_assoc_1 _ _ _ _ _ _)
  mul_one := fun a => Zq.ext
    (by show a.re * 1 + -(a.im * 0) = a.re; rw [zmul_one, zmul_zero, zneg_zero, zadd_zero])
    (by show a.re * 0 + a.im * 1 = a.im; rw [zmul_one, zmul_zero, zzero_add])
  mul_add := fun a b c => Zq.ext (qz_dist_0 _ _ _ _ _ _) (qz_dist_1 _ _ _ _ _ _) }
theorem qadd_comm (a b : Zq) : a + b = b + a := zqR.add_comm a b
theorem qadd_assoc (a b c : Zq) : a + b + c = a + (b + c) := zqR.add_assoc a b c
theorem qadd_zero (a : Zq) : a + 0 = a := zqR.add_zero a
theorem qadd_neg (a : Zq) : a + -a = 0 := zqR.add_neg a
theorem qmul_comm (a b : Zq) : a * b = b * a := zqR.mul_comm a b
theorem qmul_assoc (a b c : Zq) : a * b * c = a * (b * c) := zqR.mul_assoc a b c
theorem qmul_one (a : Zq) : a * 1 = a := zqR.mul_one a
theorem qone_mul (a : Zq) : 1 * a = a := zqR.one_mul a
theorem qmul_zero (a : Zq) : a * 0 = 0 := zqR.mul_zero a
theorem qzero_mul (a : Zq) : 0 * a = 0 := zqR.zero_mul a
theorem qneg_mul (a b : Zq) : -a * b = -(a * b) := zqR.neg_mul a b
theorem qmul_neg (a b : Zq) : a * -b = -(a * b) := zqR.mul_neg a b
theorem qneg_neg (a : Zq) : - -a = a := zqR.neg_neg a
theorem qneg_zero : -(0 : Zq) = 0 := zqR.neg_zero
theorem qeq_of_sub {a b : Zq} (h : a - b = 0) : a = b := zqR.eq_of_sub h
theorem qsub_self (a : Zq) : a - a = 0 := qadd_neg a
theorem qone_ne_zero : (1 : Zq) ≠ 0 := fun h => one_ne_zero (congrArg Zq.re h)
/-- The norm. -/
def Zq.norm (a : Zq) : Zp := a.re * a.re + a.im * a.im
theorem norm_mul (a b : Zq) : (a * b).norm = a.norm * b.norm := qz_norm _ _ _ _
theorem norm_zero {a : Zq} (h : a.norm = 0) : a = 0 := Zq.ext (sum_sq h).1 (sum_sq h).2
theorem norm_ne {a : Zq} (h : a ≠ 0) : a.norm ≠ 0 := fun e => h (norm_zero e)
/-- The inverse; of 0 it is 0. -/
def Zq.inv (a : Zq) : Zq := ⟨a.re * a.norm.inv, a.im * -a.norm.inv⟩
theorem qmul_inv {a : Zq} (h : a ≠ 0) : a * a.inv = 1 := Zq.ext (inv_pair (norm_ne h)).1 (inv_pair (norm_ne h)).2
theorem qmul_cancel {a b c : Zq} (h : a ≠ 0) (e : a * b = a * c) : b = c := by
  have := congrArg (fun t => a.inv * t) e
  simp only [← qmul_assoc, qmul_comm a.inv a, qmul_inv h, qone_mul] at this
  exact this
theorem qmul_ne {a b : Zq} (ha : a ≠ 0) (hb : b ≠ 0) : a * b ≠ 0 := fun e => hb (qmul_cancel ha (e.trans (qmul_zero a).symm))
theorem q_mul_of {a c : Zq} (h : a ≠ 0) : a * (c * a.inv) = c := by
  rw [qmul_comm c, ← qmul_assoc, qmul_inv h, qone_mul]
/-- An element whose norm is no square has no root. -/
theorem q_nonsq {a : Zq} {E : Nat} (hE : 2 * E = pp - 1) (h0 : 0 < E) (h : a.norm.pow E = -1) (s : Zq) : s * s ≠ a := fun e => by
  subst e
  rw [norm_mul] at h
  by_cases hs : s.norm = 0
  · rw [hs, zmul_zero, zero_pow h0] at h
    exact absurd h (by decide +kernel)
  · rw [show ∀ t : Zp, t * t = t.pow 2 from fun t => by rw [show 2 = 1 + 1 from rfl, zpow_add, zpow_one], zpow_mul, hE, zfermat hs] at h
    exact absurd h (by decide +kernel)
/-- Powers, reckoned. -/
theorem zp_pwm (f n e : Nat) (h : e < 2 ^ f) : (zp n).pow e = zp (pwm pp f n e) := by
  rw [pwm_eq pp f n e h, ← zp_pow, zp_mod]
end Go.FourQ
namespace Go.FourQ
/-- The constant d. -/
def dd : Zq := ⟨zp 4205857648805777768770, zp 125317048443780598345676279555970305165⟩
/-- A root of -1. -/
def ii : Zq := ⟨0, 1⟩
theorem ii_sq : ii * ii = -1 := by decide +kernel
theorem dd_norm : dd.norm = zp (4205857648805777768770 * 4205857648805777768770 + 125317048443780598345676279555970305165 * 125317048443780598345676279555970305165) := by decide +kernel
theorem dd_nonsq (s : Zq) : s * s ≠ dd := q_nonsq (E := 85070591730234615865843651857942052863) (by decide +kernel) (by decide) (by rw [dd_norm, zp_pwm 126 _ _ (by decide +kernel)]; decide +kernel) s
theorem two_ne {a : Zq} (h : a + a = 0) : a = 0 := by
  have h1 : a.re + a.re = 0 := congrArg Zq.re h
  have h2 : a.im + a.im = 0 := congrArg Zq.im h
  have key : ∀ t : Zp, t + t = 0 → t = 0 := fun t ht => by rw [← two_half t, ← zmul_comm half, ← zmul_add, ht, zmul_zero]
  exact Zq.ext (key _ h1) (key _ h2)
/-- These coordinates are a point's. -/
def OnC (x y : Zq) : Prop := y * y - x * x = 1 + dd * (x * x * (y * y))
section
variable (x1 y1 x2 y2 x3 y3 : Zq)
def cv : Nat → Zq := fun i => [x1, y1, x2, y2, x3, y3, dd].getD i 0
/-- The curve's equation at the variables i, j, as an expression. -/
def eqx (i j : Nat) : Ex := .sub (.sub (.mul (.v j) (.v j)) (.mul (.v i) (.v i))) (.add (.n 1) (.mul (.v 6) (.mul (.mul (.v i) (.v i)) (.mul (.v j) (.v j)))))
end
theorem eqx_zero (ρ : Nat → Zq) (i j : Nat) (hd : ρ 6 = dd) (h : OnC (ρ i) (ρ j)) : (eqx i j).den zqR ρ = 0 := by
  show ρ j * ρ j - ρ i * ρ i - (zqR.int 1 + ρ 6 * (ρ i * ρ i * (ρ j * ρ j))) = 0
  rw [hd, show zqR.int 1 = 1 from zqR.int_one]
  have h' : ρ j * ρ j - ρ i * ρ i = 1 + dd * (ρ i * ρ i * (ρ j * ρ j)) := h
  rw [h', qsub_self]
/-- An expression that lies in the ideal of three equations. -/
theorem ideal3 (ρ : Nat → Zq) (l r q1 q2 q3 e1 e2 e3 : Ex) (h1 : e1.den zqR ρ = 0) (h2 : e2.den zqR ρ = 0) (h3 : e3.den zqR ρ = 0)
    (h : (Ex.sub (.sub l r) (.add (.mul q1 e1) (.add (.mul q2 e2) (.mul q3 e3)))).norm = []) : l.den zqR ρ = r.den zqR ρ := by
  have e := ring_eq zqR ρ (.sub l r) (.add (.mul q1 e1) (.add (.mul q2 e2) (.mul q3 e3))) h
  refine zqR.eq_of_sub ?_
  refine Eq.trans (b := (Ex.sub l r).den zqR ρ) rfl (e.trans ?_)
  show q1.den zqR ρ * e1.den zqR ρ + (q2.den zqR ρ * e2.den zqR ρ + q3.den zqR ρ * e3.den zqR ρ) = 0
  rw [h1, h2, h3, qmul_zero, qmul_zero, qmul_zero, qadd_zero, qadd_zero]
/-- The step of completeness. -/
theorem compl_step {x1 y1 x2 y2 t j : Zq} (hj : j * j = -1) (ht : t = dd * (x1 * x2 * (y1 * y2))) (h1 : t * t = 1) (c1 : OnC x1 y1) (c2 : OnC x2 y2) :
    (j * x1 + t * y1) * (j * x1 + t * y1) = dd * ((x1 * y1 * (j * x2 + y2)) * (x1 * y1 * (j * x2 + y2))) := by
  have k1 : (j * x1 + t * y1) * (j * x1 + t * y1) = j * j * (x1 * x1) + t * t * (y1 * y1) + (j * (x1 * y1) * t + j * (x1 * y1) * t) :=
    ring_eq zqR (fun i => [x1, y1, t, j].getD i 0) (.mul (.add (.mul (.v 3) (.v 0)) (.mul (.v 2) (.v 1))) (.add (.mul (.v 3) (.v 0)) (.mul (.v 2) (.v 1)))) (.add (.add (.mul (.mul (.v 3) (.v 3)) (.mul (.v 0) (.v 0))) (.mul (.mul (.v 2) (.v 2)) (.mul (.v 1) (.v 1)))) (.add (.mul (.mul (.v 3) (.mul (.v 0) (.v 1))) (.v 2)) (.mul (.mul (.v 3) (.mul (.v 0) (.v 1))) (.v 2)))) (by kernel_rfl)
  have k2 : dd * ((x1 * y1 * (j * x2 + y2)) * (x1 * y1 * (j * x2 + y2))) = dd * (x1 * x1 * (y1 * y1)) * (j * j * (x2 * x2) + y2 * y2) + (j * (x1 * y1) * (dd * (x1 * x2 * (y1 * y2))) + j * (x1 * y1) * (dd * (x1 * x2 * (y1 * y2)))) :=
    ring_eq zqR (fun i => [x1, y1, x2, y2, j, dd].getD i 0) (.mul (.v 5) (.mul (.mul (.mul (.v 0) (.v 1)) (.add (.mul (.v 4) (.v 2)) (.v 3))) (.mul (.mul (.v 0) (.v 1)) (.add (.mul (.v 4) (.v 2)) (.v 3))))) (.add (.mul (.mul (.v 5) (.mul (.mul (.v 0) (.v 0)) (.mul (.v 1) (.v 1)))) (.add (.mul (.mul (.v 4) (.v 4)) (.mul (.v 2) (.v 2))) (.mul (.v 3) (.v 3)))) (.add (.mul (.mul (.v 4) (.mul (.v 0) (.v 1))) (.mul (.v 5) (.mul (.mul (.v 0) (.v 2)) (.mul (.v 1) (.v 3))))) (.mul (.mul (.v 4) (.mul (.v 0) (.v 1))) (.mul (.v 5) (.mul (.mul (.v 0) (.v 2)) (.mul (.v 1) (.v 3))))))) (by kernel_rfl)
  have k3 : -1 * (x2 * x2) + y2 * y2 = 1 + dd * (x2 * x2 * (y2 * y2)) := by
    rw [← c2, qneg_mul, qone_mul, qadd_comm]; rfl
  have k4 : dd * (x1 * x1 * (y1 * y1)) * (1 + dd * (x2 * x2 * (y2 * y2))) = dd * (x1 * x1 * (y1 * y1)) + dd * (x1 * x2 * (y1 * y2)) * (dd * (x1 * x2 * (y1 * y2))) :=
    ring_eq zqR (fun i => [x1, y1, x2, y2, dd].getD i 0) (.mul (.mul (.v 4) (.mul (.mul (.v 0) (.v 0)) (.mul (.v 1) (.v 1)))) (.add (.n 1) (.mul (.v 4) (.mul (.mul (.v 2) (.v 2)) (.mul (.v 3) (.v 3)))))) (.add (.mul (.v 4) (.mul (.mul (.v 0) (.v 0)) (.mul (.v 1) (.v 1)))) (.mul (.mul (.v 4) (.mul (.mul (.v 0) (.v 2)) (.mul (.v 1) (.v 3)))) (.mul (.v 4) (.mul (.mul (.v 0) (.v 2)) (.mul (.v 1) (.v 3)))))) (by kernel_rfl)
  have k5 : -1 * (x1 * x1) + 1 * (y1 * y1) = dd * (x1 * x1 * (y1 * y1)) + 1 := by
    rw [qadd_comm (dd * _), ← c1, qneg_mul, qone_mul, qone_mul, qadd_comm]; rfl
  rw [k1, k2, hj, h1, k3, k4, ← ht, h1, k5]
theorem compl_ne {x1 y1 x2 y2 t : Zq} (ht : t = dd * (x1 * x2 * (y1 * y2))) (h1 : t * t = 1) (c1 : OnC x1 y1) (c2 : OnC x2 y2) : False := by
  have ht0 : t ≠ 0 := fun e => by rw [e, qmul_zero] at h1; exact qone_ne_zero h1.symm
  have hn : x1 * x2 * (y1 * y2) ≠ 0 := fun e => ht0 (by rw [ht, e, qmul_zero])
  have hx1 : x1 ≠ 0 := fun e => hn (by rw [e, qzero_mul, qzero_mul])
  have hy1 : y1 ≠ 0 := fun e => hn (by rw [e, qzero_mul, qmul_zero])
  have hy2 : y2 ≠ 0 := fun e => hn (by rw [e, qmul_zero, qmul_zero])
  have go : ∀ j : Zq, j * j = -1 → j * x2 + y2 ≠ 0 → False := fun j hj hne => by
    have e := compl_step hj ht h1 c1 c2
    have hm : x1 * y1 * (j * x2 + y2) ≠ 0 := qmul_ne (qmul_ne hx1 hy1) hne
    generalize x1 * y1 * (j * x2 + y2) = m at e hm
    generalize j * x1 + t * y1 = u at e
    refine dd_nonsq (u * m.inv) ?_
    have hi := qmul_inv hm
    have k : u * m.inv * (u * m.inv) = u * u * (m.inv * m.inv) := zqR.mul_mul_mul_comm u m.inv u m.inv
    have k' : dd * (m * m) * (m.inv * m.inv) = dd * ((m * m.inv) * (m * m.inv)) := by
      rw [qmul_assoc]; congr 1; exact zqR.mul_mul_mul_comm m m m.inv m.inv
    rw [k, e, k', hi, qmul_one, qmul_one]
  by_cases ha : ii * x2 + y2 = 0
  · by_cases hb : -ii * x2 + y2 = 0
    · refine hy2 (two_ne ?_)
      have : (ii * x2 + y2) + (-ii * x2 + y2) = y2 + y2 := by
        rw [qneg_mul, qadd_comm (-(ii * x2)), qadd_assoc, qadd_comm, qadd_assoc, qadd_assoc, qadd_comm (-(ii * x2)), qadd_neg, qadd_zero]
      rw [← this, ha, hb, qadd_zero]
    · exact go (-ii) (by rw [qneg_mul, qmul_neg, qneg_neg, ii_sq]) hb
  · exact go ii ii_sq ha
/-- The sum is complete. -/
theorem compl {x1 y1 x2 y2 : Zq} (c1 : OnC x1 y1) (c2 : OnC x2 y2) : 1 + dd * (x1 * x2 * (y1 * y2)) ≠ 0 ∧ 1 - dd * (x1 * x2 * (y1 * y2)) ≠ 0 := by
  constructor
  · intro e
    have ht : dd * (x1 * x2 * (y1 * y2)) = -1 := zqR.eq_neg e
    exact compl_ne rfl (by rw [ht, qneg_mul, qmul_neg, qneg_neg, qmul_one]) c1 c2
  · intro e
    have ht : dd * (x1 * x2 * (y1 * y2)) = 1 := (qeq_of_sub e).symm
    exact compl_ne rfl (by rw [ht, qmul_one]) c1 c2
/-- A point. -/
structure Pt where
  x : Zq
  y : Zq
  on : OnC x y
theorem Pt.ext {p q : Pt} (h : p.x = q.x) (g : p.y = q.y) : p = q := by
  obtain ⟨a, b, _⟩ := p
  obtain ⟨c, e, _⟩ := q
  obtain rfl : a = c := h
  obtain rfl : b = e := g
  rfl
instance : DecidableEq Pt := fun a b => if h : a.x = b.x ∧ a.y = b.y then isTrue (Pt.ext h.1 h.2) else isFalse fun e => h ⟨congrArg Pt.x e, congrArg Pt.y e⟩
/-- Numerators and divisors of a sum. -/
def nX (x1 y1 x2 y2 : Zq) : Zq := x1 * y2 + y1 * x2
def nY (x1 y1 x2 y2 : Zq) : Zq := y1 * y2 + x1 * x2
def nP (x1 y1 x2 y2 : Zq) : Zq := 1 + dd * (x1 * x2 * (y1 * y2))
def nM (x1 y1 x2 y2 : Zq) : Zq := 1 - dd * (x1 * x2 * (y1 * y2))
theorem sum_on {x1 y1 x2 y2 : Zq} (c1 : OnC x1 y1) (c2 : OnC x2 y2) : OnC (nX x1 y1 x2 y2 * (nP x1 y1 x2 y2).inv) (nY x1 y1 x2 y2 * (nM x1 y1 x2 y2).inv) := by
  obtain ⟨hp, hm⟩ := compl c1 c2
  have key : nY x1 y1 x2 y2 * nY x1 y1 x2 y2 * (nP x1 y1 x2 y2 * nP x1 y1 x2 y2) - nX x1 y1 x2 y2 * nX x1 y1 x2 y2 * (nM x1 y1 x2 y2 * nM x1 y1 x2 y2) = nP x1 y1 x2 y2 * nP x1 y1 x2 y2 * (nM x1 y1 x2 y2 * nM x1 y1 x2 y2) + dd * (nX x1 y1 x2 y2 * nX x1 y1 x2 y2 * (nY x1 y1 x2 y2 * nY x1 y1 x2 y2)) :=
    ideal3 (cv x1 y1 x2 y2 0 0) (.sub (.mul (.mul (.add (.mul (.v 1) (.v 3)) (.mul (.v 0) (.v 2))) (.add (.mul (.v 1) (.v 3)) (.mul (.v 0) (.v 2)))) (.mul (.add (.n 1) (.mul (.v 6) (.mul (.mul (.v 0) (.v 2)) (.mul (.v 1) (.v 3))))) (.add (.n 1) (.mul (.v 6) (.mul (.mul (.v 0) (.v 2)) (.mul (.v 1) (.v 3))))))) (.mul (.mul (.add (.mul (.v 0) (.v 3)) (.mul (.v 1) (.v 2))) (.add (.mul (.v 0) (.v 3)) (.mul (.v 1) (.v 2)))) (.mul (.sub (.n 1) (.mul (.v 6) (.mul (.mul (.v 0) (.v 2)) (.mul (.v 1) (.v 3))))) (.sub (.n 1) (.mul (.v 6) (.mul (.mul (.v 0) (.v 2)) (.mul (.v 1) (.v 3)))))))) (.add (.mul (.mul (.add (.n 1) (.mul (.v 6) (.mul (.mul (.v 0) (.v 2)) (.mul (.v 1) (.v 3))))) (.add (.n 1) (.mul (.v 6) (.mul (.mul (.v 0) (.v 2)) (.mul (.v 1) (.v 3)))))) (.mul (.sub (.n 1) (.mul (.v 6) (.mul (.mul (.v 0) (.v 2)) (.mul (.v 1) (.v 3))))) (.sub (.n 1) (.mul (.v 6) (.mul (.mul (.v 0) (.v 2)) (.mul (.v 1) (.v 3))))))) (.mul (.v 6) (.mul (.mul (.add (.mul (.v 0) (.v 3)) (.mul (.v 1) (.v 2))) (.add (.mul (.v 0) (.v 3)) (.mul (.v 1) (.v 2)))) (.mul (.add (.mul (.v 1) (.v 3)) (.mul (.v 0) (.v 2))) (.add (.mul (.v 1) (.v 3)) (.mul (.v 0) (.v 2)))))))
      (.add (.add (.add (.add (.add (.add (.add (.add (.add (.add (.add (.add (.add (.add (.mul (.mul (.mul (.mul (.mul (.mul (.mul (.mul (.mul (.mul (.mul (.mul (.mul (.mul (.v 0) (.v 0)) (.v 1)) (.v 1)) (.v 2)) (.v 2)) (.v 2)) (.v 2)) (.v 3)) (.v 3)) (.v 3)) (.v 3)) (.v 6)) (.v 6)) (.v 6)) (.neg (.mul (.mul (.mul (.mul (.mul (.mul (.mul (.mul (.mul (.mul (.mul (.v 0) (.v 0)) (.v 2)) (.v 2)) (.v 2)) (.v 2)) (.v 3)) (.v 3)) (.v 3)) (.v 3)) (.v 6)) (.v 6)))) (.neg (.mul (.mul (.mul (.mul (.mul (.mul (.mul (.mul (.v 0) (.v 0)) (.v 2)) (.v 2)) (.v 2)) (.v 2)) (.v 3)) (.v 3)) (.v 6)))) (.mul (.mul (.mul (.mul (.mul (.mul (.mul (.mul (.v 0) (.v 0)) (.v 2)) (.v 2)) (.v 3)) (.v 3)) (.v 3)) (.v 3)) (.v 6))) (.mul (.mul (.mul (.mul (.mul (.mul (.mul (.mul (.mul (.mul (.mul (.v 1) (.v 1)) (.v 2)) (.v 2)) (.v 2)) (.v 2)) (.v 3)) (.v 3)) (.v 3)) (.v 3)) (.v 6)) (.v 6))) (.mul (.mul (.mul (.mul (.mul (.mul (.mul (.mul (.v 1) (.v 1)) (.v 2)) (.v 2)) (.v 2)) (.v 2)) (.v 3)) (.v 3)) (.v 6))) (.neg (.mul (.mul (.mul (.mul (.mul (.mul (.mul (.mul (.v 1) (.v 1)) (.v 2)) (.v 2)) (.v 3)) (.v 3)) (.v 3)) (.v 3)) (.v 6)))) (.neg (.mul (.mul (.mul (.mul (.mul (.mul (.mul (.mul (.mul (.v 2) (.v 2)) (.v 2)) (.v 2)) (.v 3)) (.v 3)) (.v 3)) (.v 3)) (.v 6)) (.v 6)))) (.mul (.n (-2)) (.mul (.mul (.mul (.mul (.mul (.mul (.mul (.mul (.v 2) (.v 2)) (.v 2)) (.v 2)) (.v 3)) (.v 3)) (.v 3)) (.v 3)) (.v 6)))) (.mul (.n (-2)) (.mul (.mul (.mul (.mul (.mul (.v 2) (.v 2)) (.v 2)) (.v 2)) (.v 3)) (.v 3)))) (.mul (.mul (.mul (.v 2) (.v 2)) (.v 2)) (.v 2))) (.mul (.n 2) (.mul (.mul (.mul (.mul (.mul (.v 2) (.v 2)) (.v 3)) (.v 3)) (.v 3)) (.v 3)))) (.mul (.n (-2)) (.mul (.mul (.mul (.mul (.v 2) (.v 2)) (.v 3)) (.v 3)) (.v 6)))) (.mul (.n (-4)) (.mul (.mul (.mul (.v 2) (.v 2)) (.v 3)) (.v 3)))) (.mul (.mul (.mul (.v 3) (.v 3)) (.v 3)) (.v 3))) (.add (.add (.add (.add (.add (.add (.add (.add (.add (.add (.add (.add (.add (.add (.mul (.mul (.mul (.mul (.mul (.mul (.mul (.mul (.v 0) (.v 0)) (.v 0)) (.v 0)) (.v 2)) (.v 2)) (.v 3)) (.v 3)) (.v 6)) (.mul (.n 2) (.mul (.mul (.mul (.mul (.mul (.mul (.v 0) (.v 0)) (.v 2)) (.v 2)) (.v 3)) (.v 3)) (.v 6)))) (.mul (.n 2) (.mul (.mul (.mul (.mul (.mul (.v 0) (.v 0)) (.v 2)) (.v 2)) (.v 3)) (.v 3)))) (.neg (.mul (.mul (.mul (.v 0) (.v 0)) (.v 2)) (.v 2)))) (.mul (.mul (.mul (.v 0) (.v 0)) (.v 3)) (.v 3))) (.mul (.mul (.mul (.mul (.mul (.mul (.mul (.mul (.v 1) (.v 1)) (.v 1)) (.v 1)) (.v 2)) (.v 2)) (.v 3)) (.v 3)) (.v 6))) (.mul (.n (-2)) (.mul (.mul (.mul (.mul (.mul (.mul (.v 1) (.v 1)) (.v 2)) (.v 2)) (.v 3)) (.v 3)) (.v 6)))) (.mul (.n (-2)) (.mul (.mul (.mul (.mul (.mul (.v 1) (.v 1)) (.v 2)) (.v 2)) (.v 3)) (.v 3)))) (.mul (.mul (.mul (.v 1) (.v 1)) (.v 2)) (.v 2))) (.neg (.mul (.mul (.mul (.v 1) (.v 1)) (.v 3)) (.v 3)))) (.mul (.mul (.mul (.mul (.v 2) (.v 2)) (.v 3)) (.v 3)) (.v 6))) (.mul (.n 2) (.mul (.mul (.mul (.v 2) (.v 2)) (.v 3)) (.v 3)))) (.neg (.mul (.v 2) (.v 2)))) (.mul (.v 3) (.v 3))) (.n 1)) (.n 0) (eqx 0 1) (eqx 2 3) (.n 0) (eqx_zero _ 0 1 rfl c1) (eqx_zero _ 2 3 rfl c2) rfl (by kernel_rfl)
  have hp' : nP x1 y1 x2 y2 ≠ 0 := hp
  have hm' : nM x1 y1 x2 y2 ≠ 0 := hm
  have ip := qmul_inv hp'
  have im := qmul_inv hm'
  generalize nX x1 y1 x2 y2 = X at *
  generalize nY x1 y1 x2 y2 = Y at *
  generalize nP x1 y1 x2 y2 = P at *
  generalize nM x1 y1 x2 y2 = M at *
  have hpp : P * P * (M * M) ≠ 0 := qmul_ne (qmul_ne hp' hp') (qmul_ne hm' hm')
  refine qmul_cancel hpp ?_
  generalize P.inv = p at *
  generalize M.inv = m at *
  have g1 : P * P * (M * M) * (Y * m * (Y * m) - X * p * (X * p)) = Y * Y * (P * P) * (M * m * (M * m)) - X * X * (M * M) * (P * p * (P * p)) :=
    ring_eq zqR (fun i => [X, Y, P, M, p, m].getD i 0) (.mul (.mul (.mul (.v 2) (.v 2)) (.mul (.v 3) (.v 3))) (.sub (.mul (.mul (.v 1) (.v 5)) (.mul (.v 1) (.v 5))) (.mul (.mul (.v 0) (.v 4)) (.mul (.v 0) (.v 4))))) (.sub (.mul (.mul (.mul (.v 1) (.v 1)) (.mul (.v 2) (.v 2))) (.mul (.mul (.v 3) (.v 5)) (.mul (.v 3) (.v 5)))) (.mul (.mul (.mul (.v 0) (.v 0)) (.mul (.v 3) (.v 3))) (.mul (.mul (.v 2) (.v 4)) (.mul (.v 2) (.v 4))))) (by kernel_rfl)
  have g2 : P * P * (M * M) * (1 + dd * (X * p * (X * p) * (Y * m * (Y * m)))) = P * P * (M * M) + dd * (X * X * (Y * Y)) * (P * p * (P * p) * (M * m * (M * m))) :=
    ring_eq zqR (fun i => [X, Y, P, M, p, m, dd].getD i 0) (.mul (.mul (.mul (.v 2) (.v 2)) (.mul (.v 3) (.v 3))) (.add (.n 1) (.mul (.v 6) (.mul (.mul (.mul (.v 0) (.v 4)) (.mul (.v 0) (.v 4))) (.mul (.mul (.v 1) (.v 5)) (.mul (.v 1) (.v 5))))))) (.add (.mul (.mul (.v 2) (.v 2)) (.mul (.v 3) (.v 3))) (.mul (.mul (.v 6) (.mul (.mul (.v 0) (.v 0)) (.mul (.v 1) (.v 1)))) (.mul (.mul (.mul (.v 2) (.v 4)) (.mul (.v 2) (.v 4))) (.mul (.mul (.v 3) (.v 5)) (.mul (.v 3) (.v 5)))))) (by kernel_rfl)
  rw [g1, g2, ip, im, qmul_one, qmul_one, qmul_one, qmul_one, qmul_one, key]
instance : Add Pt := ⟨fun p q => ⟨_, _, sum_on p.on q.on⟩⟩
theorem add_x (p q : Pt) : (p + q).x = nX p.x p.y q.x q.y * (nP p.x p.y q.x q.y).inv := rfl
theorem add_y (p q : Pt) : (p + q).y = nY p.x p.y q.x q.y * (nM p.x p.y q.x q.y).inv := rfl
theorem nP_ne (p q : Pt) : nP p.x p.y q.x q.y ≠ 0 := (compl p.on q.on).1
theorem nM_ne (p q : Pt) : nM p.x p.y q.x q.y ≠ 0 := (compl p.on q.on).2
theorem mul_add_x (p q : Pt) : nP p.x p.y q.x q.y * (p + q).x = nX p.x p.y q.x q.y := q_mul_of (nP_ne p q)
theorem mul_add_y (p q : Pt) : nM p.x p.y q.x q.y * (p + q).y = nY p.x p.y q.x q.y := q_mul_of (nM_ne p q)
/-- A sum is told by its coordinates' products with the divisors. -/
theorem add_ext {p q r : Pt} (hx : nP p.x p.y q.x q.y * r.x = nX p.x p.y q.x q.y) (hy : nM p.x p.y q.x q.y * r.y = nY p.x p.y q.x q.y) : p + q = r :=
  Pt.ext (qmul_cancel (nP_ne p q) ((mul_add_x p q).trans hx.symm)) (qmul_cancel (nM_ne p q) ((mul_add_y p q).trans hy.symm))
theorem pt_comm (p q : Pt) : p + q = q + p := by
  refine Pt.ext ?_ ?_
  · rw [add_x, add_x]
    unfold nX nP
    rw [qmul_comm p.x q.y, qmul_comm p.y q.x, qadd_comm, qmul_comm p.x q.x, qmul_comm p.y q.y]
  · rw [add_y, add_y]
    unfold nY nM
    rw [qmul_comm p.x q.x, qmul_comm p.y q.y]
theorem on_zero : OnC 0 1 := by
  show (1 : Zq) * 1 - 0 * 0 = 1 + dd * (0 * 0 * (1 * 1))
  rw [qzero_mul, qzero_mul, qmul_zero, qmul_one]
  show (1 : Zq) + -0 = _
  rw [qneg_zero]
/-- The point that adds nothing. -/
def Pt.zero : Pt := ⟨0, 1, on_zero⟩
theorem pt_add_zero (p : Pt) : p + Pt.zero = p := by
  refine add_ext ?_ ?_
  · show (1 + dd * (p.x * 0 * (p.y * 1))) * p.x = p.x * 1 + p.y * 0
    rw [qmul_zero, qmul_zero, qzero_mul, qmul_zero, qadd_zero, qmul_one, qone_mul, qadd_zero]
  · show (1 + -(dd * (p.x * 0 * (p.y * 1)))) * p.y = p.y * 1 + p.x * 0
    rw [qmul_zero, qzero_mul, qmul_zero, qneg_zero, qadd_zero, qmul_one, qone_mul, qadd_zero]
theorem pt_zero_add (p : Pt) : Pt.zero + p = p := by rw [pt_comm, pt_add_zero]
theorem on_neg {x y : Zq} (h : OnC x y) : OnC (-x) y := by
  unfold OnC at *
  rw [qneg_mul, qmul_neg, qneg_neg, h]
/-- The opposite. -/
def Pt.neg (p : Pt) : Pt := ⟨-p.x, p.y, on_neg p.on⟩
theorem pt_add_neg (p : Pt) : p + p.neg = Pt.zero := by
  refine add_ext ?_ ?_
  · show _ * (0 : Zq) = p.x * p.y + p.y * -p.x
    rw [qmul_zero, qmul_neg, qmul_comm p.y, qadd_neg]
  · show (1 + -(dd * (p.x * -p.x * (p.y * p.y)))) * 1 = p.y * p.y + p.x * -p.x
    rw [qmul_one, qmul_neg, qneg_mul, qmul_neg, qneg_neg]
    exact p.on.symm
def ax_l : Ex := (.mul (.add (.mul (.mul (.add (.mul (.v 0) (.v 3)) (.mul (.v 1) (.v 2))) (.sub (.n 1) (.mul (.v 6) (.mul (.mul (.v 0) (.v 2)) (.mul (.v 1) (.v 3)))))) (.v 5)) (.mul (.mul (.add (.mul (.v 1) (.v 3)) (.mul (.v 0) (.v 2))) (.add (.n 1) (.mul (.v 6) (.mul (.mul (.v 0) (.v 2)) (.mul (.v 1) (.v 3)))))) (.v 4))) (.add (.mul (.add (.n 1) (.mul (.v 6) (.mul (.mul (.v 2) (.v 4)) (.mul (.v 3) (.v 5))))) (.sub (.n 1) (.mul (.v 6) (.mul (.mul (.v 2) (.v 4)) (.mul (.v 3) (.v 5)))))) (.mul (.v 6) (.mul (.mul (.v 0) (.add (.mul (.v 2) (.v 5)) (.mul (.v 3) (.v 4)))) (.mul (.v 1) (.add (.mul (.v 3) (.v 5)) (.mul (.v 2) (.v 4))))))))
def ax_r : Ex := (.mul (.add (.mul (.v 0) (.mul (.add (.mul (.v 3) (.v 5)) (.mul (.v 2) (.v 4))) (.add (.n 1) (.mul (.v 6) (.mul (.mul (.v 2) (.v 4)) (.mul (.v 3) (.v 5))))))) (.mul (.v 1) (.mul (.add (.mul (.v 2) (.v 5)) (.mul (.v 3) (.v 4))) (.sub (.n 1) (.mul (.v 6) (.mul (.mul (.v 2) (.v 4)) (.mul (.v 3) (.v 5)))))))) (.add (.mul (.add (.n 1) (.mul (.v 6) (.mul (.mul (.v 0) (.v 2)) (.mul (.v 1) (.v 3))))) (.sub (.n 1) (.mul (.v 6) (.mul (.mul (.v 0) (.v 2)) (.mul (.v 1) (.v 3)))))) (.mul (.v 6) (.mul (.mul (.add (.mul (.v 0) (.v 3)) (.mul (.v 1) (.v 2))) (.v 4)) (.mul (.add (.mul (.v 1) (.v 3)) (.mul (.v 0) (.v 2))) (.v 5))))))
def ax_1 : Ex := (.add (.add (.add (.add (.add (.add (.add (.add (.add (.add (.add (.add (.add (.add (.add (.neg (.mul (.mul (.mul (.mul (.mul (.mul (.mul (.mul (.mul (.mul (.mul (.mul (.v 0) (.v 2)) (.v 2)) (.v 2)) (.v 2)) (.v 3)) (.v 3)) (.v 3)) (.v 4)) (.v 4)) (.v 5)) (.v 6)) (.v 6))) (.neg (.mul (.mul (.mul (.mul (.mul (.mul (.mul (.mul (.mul (.v 0) (.v 2)) (.v 2)) (.v 2)) (.v 2)) (.v 3)) (.v 4)) (.v 4)) (.v 5)) (.v 6)))) (.neg (.mul (.mul (.mul (.mul (.mul (.mul (.mul (.mul (.mul (.mul (.mul (.mul (.v 0) (.v 2)) (.v 2)) (.v 2)) (.v 3)) (.v 3)) (.v 3)) (.v 3)) (.v 4)) (.v 5)) (.v 5)) (.v 6)) (.v 6)))) (.neg (.mul (.mul (.mul (.mul (.mul (.mul (.mul (.mul (.mul (.v 0) (.v 2)) (.v 2)) (.v 2)) (.v 3)) (.v 3)) (.v 4)) (.v 4)) (.v 4)) (.v 6)))) (.neg (.mul (.mul (.mul (.mul (.mul (.mul (.mul (.v 0) (.v 2)) (.v 2)) (.v 2)) (.v 3)) (.v 3)) (.v 4)) (.v 6)))) (.mul (.mul (.mul (.mul (.mul (.mul (.mul (.mul (.mul (.v 0) (.v 2)) (.v 2)) (.v 3)) (.v 3)) (.v 3)) (.v 5)) (.v 5)) (.v 5)) (.v 6))) (.neg (.mul (.mul (.mul (.mul (.mul (.mul (.mul (.v 0) (.v 2)) (.v 2)) (.v 3)) (.v 3)) (.v 3)) (.v 5)) (.v 6)))) (.mul (.mul (.mul (.mul (.mul (.mul (.mul (.mul (.mul (.v 0) (.v 2)) (.v 3)) (.v 3)) (.v 3)) (.v 3)) (.v 4)) (.v 5)) (.v 5)) (.v 6))) (.mul (.mul (.mul (.mul (.mul (.mul (.mul (.mul (.mul (.mul (.mul (.mul (.v 1) (.v 2)) (.v 2)) (.v 2)) (.v 2)) (.v 3)) (.v 3)) (.v 3)) (.v 4)) (.v 5)) (.v 5)) (.v 6)) (.v 6))) (.mul (.mul (.mul (.mul (.mul (.mul (.mul (.mul (.mul (.v 1) (.v 2)) (.v 2)) (.v 2)) (.v 2)) (.v 3)) (.v 4)) (.v 5)) (.v 5)) (.v 6))) (.mul (.mul (.mul (.mul (.mul (.mul (.mul (.mul (.mul (.mul (.mul (.mul (.v 1) (.v 2)) (.v 2)) (.v 2)) (.v 3)) (.v 3)) (.v 3)) (.v 3)) (.v 4)) (.v 4)) (.v 5)) (.v 6)) (.v 6))) (.mul (.mul (.mul (.mul (.mul (.mul (.mul (.mul (.mul (.v 1) (.v 2)) (.v 2)) (.v 2)) (.v 3)) (.v 3)) (.v 5)) (.v 5)) (.v 5)) (.v 6))) (.neg (.mul (.mul (.mul (.mul (.mul (.mul (.mul (.v 1) (.v 2)) (.v 2)) (.v 2)) (.v 3)) (.v 3)) (.v 5)) (.v 6)))) (.neg (.mul (.mul (.mul (.mul (.mul (.mul (.mul (.mul (.mul (.v 1) (.v 2)) (.v 2)) (.v 3)) (.v 3)) (.v 3)) (.v 4)) (.v 4)) (.v 4)) (.v 6)))) (.neg (.mul (.mul (.mul (.mul (.mul (.mul (.mul (.v 1) (.v 2)) (.v 2)) (.v 3)) (.v 3)) (.v 3)) (.v 4)) (.v 6)))) (.neg (.mul (.mul (.mul (.mul (.mul (.mul (.mul (.mul (.mul (.v 1) (.v 2)) (.v 3)) (.v 3)) (.v 3)) (.v 3)) (.v 4)) (.v 4)) (.v 5)) (.v 6))))
def ax_2 : Ex := (.add (.add (.add (.add (.add (.add (.add (.add (.add (.add (.add (.add (.add (.add (.add (.add (.add (.add (.add (.add (.add (.add (.add (.add (.add (.add (.add (.add (.add (.add (.add (.add (.add (.add (.add (.add (.add (.add (.add (.add (.add (.add (.add (.add (.add (.add (.add (.add (.add (.add (.add (.add (.add (.add (.add (.add (.add (.add (.add (.add (.add (.add (.add (.mul (.mul (.mul (.mul (.mul (.mul (.mul (.mul (.mul (.v 0) (.v 0)) (.v 0)) (.v 2)) (.v 2)) (.v 3)) (.v 4)) (.v 4)) (.v 5)) (.v 6)) (.mul (.mul (.mul (.mul (.mul (.mul (.mul (.mul (.mul (.v 0) (.v 0)) (.v 0)) (.v 2)) (.v 3)) (.v 3)) (.v 4)) (.v 5)) (.v 5)) (.v 6))) (.mul (.mul (.mul (.mul (.mul (.mul (.mul (.mul (.mul (.v 0) (.v 0)) (.v 0)) (.v 2)) (.v 4)) (.v 4)) (.v 4)) (.v 5)) (.v 5)) (.v 6))) (.mul (.mul (.mul (.mul (.mul (.mul (.v 0) (.v 0)) (.v 0)) (.v 2)) (.v 4)) (.v 4)) (.v 4))) (.neg (.mul (.mul (.mul (.mul (.mul (.mul (.v 0) (.v 0)) (.v 0)) (.v 2)) (.v 4)) (.v 5)) (.v 5)))) (.mul (.mul (.mul (.mul (.v 0) (.v 0)) (.v 0)) (.v 2)) (.v 4))) (.mul (.mul (.mul (.mul (.mul (.mul (.mul (.mul (.mul (.v 0) (.v 0)) (.v 0)) (.v 3)) (.v 4)) (.v 4)) (.v 5)) (.v 5)) (.v 5)) (.v 6))) (.mul (.mul (.mul (.mul (.mul (.mul (.v 0) (.v 0)) (.v 0)) (.v 3)) (.v 4)) (.v 4)) (.v 5))) (.neg (.mul (.mul (.mul (.mul (.mul (.mul (.v 0) (.v 0)) (.v 0)) (.v 3)) (.v 5)) (.v 5)) (.v 5)))) (.mul (.mul (.mul (.mul (.v 0) (.v 0)) (.v 0)) (.v 3)) (.v 5))) (.mul (.mul (.mul (.mul (.mul (.mul (.mul (.mul (.mul (.mul (.mul (.mul (.v 0) (.v 0)) (.v 1)) (.v 2)) (.v 2)) (.v 3)) (.v 4)) (.v 4)) (.v 4)) (.v 5)) (.v 5)) (.v 6)) (.v 6))) (.neg (.mul (.mul (.mul (.mul (.mul (.mul (.mul (.mul (.mul (.v 0) (.v 0)) (.v 1)) (.v 2)) (.v 2)) (.v 3)) (.v 4)) (.v 5)) (.v 5)) (.v 6)))) (.neg (.mul (.mul (.mul (.mul (.mul (.mul (.mul (.mul (.mul (.mul (.mul (.mul (.v 0) (.v 0)) (.v 1)) (.v 2)) (.v 3)) (.v 3)) (.v 4)) (.v 4)) (.v 5)) (.v 5)) (.v 5)) (.v 6)) (.v 6)))) (.neg (.mul (.mul (.mul (.mul (.mul (.mul (.mul (.mul (.mul (.v 0) (.v 0)) (.v 1)) (.v 2)) (.v 3)) (.v 3)) (.v 4)) (.v 4)) (.v 5)) (.v 6)))) (.mul (.mul (.mul (.mul (.mul (.mul (.mul (.mul (.mul (.v 0) (.v 0)) (.v 1)) (.v 2)) (.v 4)) (.v 4)) (.v 5)) (.v 5)) (.v 5)) (.v 6))) (.mul (.mul (.mul (.mul (.mul (.mul (.v 0) (.v 0)) (.v 1)) (.v 2)) (.v 4)) (.v 4)) (.v 5))) (.neg (.mul (.mul (.mul (.mul (.mul (.mul (.v 0) (.v 0)) (.v 1)) (.v 2)) (.v 5)) (.v 5)) (.v 5)))) (.mul (.mul (.mul (.mul (.v 0) (.v 0)) (.v 1)) (.v 2)) (.v 5))) (.mul (.mul (.mul (.mul (.mul (.mul (.mul (.mul (.mul (.v 0) (.v 0)) (.v 1)) (.v 3)) (.v 4)) (.v 4)) (.v 4)) (.v 5)) (.v 5)) (.v 6))) (.mul (.mul (.mul (.mul (.mul (.mul (.v 0) (.v 0)) (.v 1)) (.v 3)) (.v 4)) (.v 4)) (.v 4))) (.neg (.mul (.mul (.mul (.mul (.mul (.mul (.v 0) (.v 0)) (.v 1)) (.v 3)) (.v 4)) (.v 5)) (.v 5)))) (.mul (.mul (.mul (.mul (.v 0) (.v 0)) (.v 1)) (.v 3)) (.v 4))) (.neg (.mul (.mul (.mul (.mul (.mul (.mul (.mul (.mul (.mul (.mul (.mul (.mul (.v 0) (.v 1)) (.v 1)) (.v 2)) (.v 2)) (.v 3)) (.v 4)) (.v 4)) (.v 5)) (.v 5)) (.v 5)) (.v 6)) (.v 6)))) (.neg (.mul (.mul (.mul (.mul (.mul (.mul (.mul (.mul (.mul (.v 0) (.v 1)) (.v 1)) (.v 2)) (.v 2)) (.v 3)) (.v 4)) (.v 4)) (.v 5)) (.v 6)))) (.mul (.mul (.mul (.mul (.mul (.mul (.mul (.mul (.mul (.mul (.mul (.mul (.v 0) (.v 1)) (.v 1)) (.v 2)) (.v 3)) (.v 3)) (.v 4)) (.v 4)) (.v 4)) (.v 5)) (.v 5)) (.v 6)) (.v 6))) (.neg (.mul (.mul (.mul (.mul (.mul (.mul (.mul (.mul (.mul (.v 0) (.v 1)) (.v 1)) (.v 2)) (.v 3)) (.v 3)) (.v 4)) (.v 5)) (.v 5)) (.v 6)))) (.neg (.mul (.mul (.mul (.mul (.mul (.mul (.mul (.mul (.mul (.v 0) (.v 1)) (.v 1)) (.v 2)) (.v 4)) (.v 4)) (.v 4)) (.v 5)) (.v 5)) (.v 6)))) (.neg (.mul (.mul (.mul (.mul (.mul (.mul (.v 0) (.v 1)) (.v 1)) (.v 2)) (.v 4)) (.v 4)) (.v 4)))) (.mul (.mul (.mul (.mul (.mul (.mul (.v 0) (.v 1)) (.v 1)) (.v 2)) (.v 4)) (.v 5)) (.v 5))) (.neg (.mul (.mul (.mul (.mul (.v 0) (.v 1)) (.v 1)) (.v 2)) (.v 4)))) (.neg (.mul (.mul (.mul (.mul (.mul (.mul (.mul (.mul (.mul (.v 0) (.v 1)) (.v 1)) (.v 3)) (.v 4)) (.v 4)) (.v 5)) (.v 5)) (.v 5)) (.v 6)))) (.neg (.mul (.mul (.mul (.mul (.mul (.mul (.v 0) (.v 1)) (.v 1)) (.v 3)) (.v 4)) (.v 4)) (.v 5)))) (.mul (.mul (.mul (.mul (.mul (.mul (.v 0) (.v 1)) (.v 1)) (.v 3)) (.v 5)) (.v 5)) (.v 5))) (.neg (.mul (.mul (.mul (.mul (.v 0) (.v 1)) (.v 1)) (.v 3)) (.v 5)))) (.mul (.mul (.mul (.mul (.mul (.mul (.mul (.v 0) (.v 2)) (.v 2)) (.v 3)) (.v 4)) (.v 4)) (.v 5)) (.v 6))) (.mul (.mul (.mul (.mul (.mul (.mul (.mul (.v 0) (.v 2)) (.v 3)) (.v 3)) (.v 4)) (.v 5)) (.v 5)) (.v 6))) (.mul (.mul (.mul (.mul (.mul (.mul (.mul (.v 0) (.v 2)) (.v 4)) (.v 4)) (.v 4)) (.v 5)) (.v 5)) (.v 6))) (.mul (.mul (.mul (.mul (.v 0) (.v 2)) (.v 4)) (.v 4)) (.v 4))) (.neg (.mul (.mul (.mul (.mul (.v 0) (.v 2)) (.v 4)) (.v 5)) (.v 5)))) (.mul (.mul (.v 0) (.v 2)) (.v 4))) (.mul (.mul (.mul (.mul (.mul (.mul (.mul (.v 0) (.v 3)) (.v 4)) (.v 4)) (.v 5)) (.v 5)) (.v 5)) (.v 6))) (.mul (.mul (.mul (.mul (.v 0) (.v 3)) (.v 4)) (.v 4)) (.v 5))) (.neg (.mul (.mul (.mul (.mul (.v 0) (.v 3)) (.v 5)) (.v 5)) (.v 5)))) (.mul (.mul (.v 0) (.v 3)) (.v 5))) (.mul (.mul (.mul (.mul (.mul (.mul (.mul (.mul (.mul (.v 1) (.v 1)) (.v 1)) (.v 2)) (.v 2)) (.v 3)) (.v 4)) (.v 5)) (.v 5)) (.v 6))) (.mul (.mul (.mul (.mul (.mul (.mul (.mul (.mul (.mul (.v 1) (.v 1)) (.v 1)) (.v 2)) (.v 3)) (.v 3)) (.v 4)) (.v 4)) (.v 5)) (.v 6))) (.neg (.mul (.mul (.mul (.mul (.mul (.mul (.mul (.mul (.mul (.v 1) (.v 1)) (.v 1)) (.v 2)) (.v 4)) (.v 4)) (.v 5)) (.v 5)) (.v 5)) (.v 6)))) (.neg (.mul (.mul (.mul (.mul (.mul (.mul (.v 1) (.v 1)) (.v 1)) (.v 2)) (.v 4)) (.v 4)) (.v 5)))) (.mul (.mul (.mul (.mul (.mul (.mul (.v 1) (.v 1)) (.v 1)) (.v 2)) (.v 5)) (.v 5)) (.v 5))) (.neg (.mul (.mul (.mul (.mul (.v 1) (.v 1)) (.v 1)) (.v 2)) (.v 5)))) (.neg (.mul (.mul (.mul (.mul (.mul (.mul (.mul (.mul (.mul (.v 1) (.v 1)) (.v 1)) (.v 3)) (.v 4)) (.v 4)) (.v 4)) (.v 5)) (.v 5)) (.v 6)))) (.neg (.mul (.mul (.mul (.mul (.mul (.mul (.v 1) (.v 1)) (.v 1)) (.v 3)) (.v 4)) (.v 4)) (.v 4)))) (.mul (.mul (.mul (.mul (.mul (.mul (.v 1) (.v 1)) (.v 1)) (.v 3)) (.v 4)) (.v 5)) (.v 5))) (.neg (.mul (.mul (.mul (.mul (.v 1) (.v 1)) (.v 1)) (.v 3)) (.v 4)))) (.neg (.mul (.mul (.mul (.mul (.mul (.mul (.mul (.v 1) (.v 2)) (.v 2)) (.v 3)) (.v 4)) (.v 5)) (.v 5)) (.v 6)))) (.neg (.mul (.mul (.mul (.mul (.mul (.mul (.mul (.v 1) (.v 2)) (.v 3)) (.v 3)) (.v 4)) (.v 4)) (.v 5)) (.v 6)))) (.mul (.mul (.mul (.mul (.mul (.mul (.mul (.v 1) (.v 2)) (.v 4)) (.v 4)) (.v 5)) (.v 5)) (.v 5)) (.v 6))) (.mul (.mul (.mul (.mul (.v 1) (.v 2)) (.v 4)) (.v 4)) (.v 5))) (.neg (.mul (.mul (.mul (.mul (.v 1) (.v 2)) (.v 5)) (.v 5)) (.v 5)))) (.mul (.mul (.v 1) (.v 2)) (.v 5))) (.mul (.mul (.mul (.mul (.mul (.mul (.mul (.v 1) (.v 3)) (.v 4)) (.v 4)) (.v 4)) (.v 5)) (.v 5)) (.v 6))) (.mul (.mul (.mul (.mul (.v 1) (.v 3)) (.v 4)) (.v 4)) (.v 4))) (.neg (.mul (.mul (.mul (.mul (.v 1) (.v 3)) (.v 4)) (.v 5)) (.v 5)))) (.mul (.mul (.v 1) (.v 3)) (.v 4)))
def ax_3 : Ex := (.add (.add (.add (.add (.add (.add (.add (.add (.add (.add (.add (.add (.add (.add (.add (.add (.add (.add (.add (.add (.add (.add (.add (.add (.add (.add (.add (.add (.add (.add (.add (.add (.add (.add (.add (.add (.add (.add (.add (.neg (.mul (.mul (.mul (.mul (.mul (.mul (.v 0) (.v 0)) (.v 0)) (.v 2)) (.v 2)) (.v 2)) (.v 4))) (.neg (.mul (.mul (.mul (.mul (.mul (.mul (.v 0) (.v 0)) (.v 0)) (.v 2)) (.v 2)) (.v 3)) (.v 5)))) (.mul (.mul (.mul (.mul (.mul (.mul (.v 0) (.v 0)) (.v 0)) (.v 2)) (.v 3)) (.v 3)) (.v 4))) (.neg (.mul (.mul (.mul (.mul (.v 0) (.v 0)) (.v 0)) (.v 2)) (.v 4)))) (.mul (.mul (.mul (.mul (.mul (.mul (.v 0) (.v 0)) (.v 0)) (.v 3)) (.v 3)) (.v 3)) (.v 5))) (.neg (.mul (.mul (.mul (.mul (.v 0) (.v 0)) (.v 0)) (.v 3)) (.v 5)))) (.neg (.mul (.mul (.mul (.mul (.mul (.mul (.v 0) (.v 0)) (.v 1)) (.v 2)) (.v 2)) (.v 2)) (.v 5)))) (.neg (.mul (.mul (.mul (.mul (.mul (.mul (.mul (.v 0) (.v 0)) (.v 1)) (.v 2)) (.v 2)) (.v 3)) (.v 4)) (.v 6)))) (.neg (.mul (.mul (.mul (.mul (.mul (.mul (.v 0) (.v 0)) (.v 1)) (.v 2)) (.v 2)) (.v 3)) (.v 4)))) (.mul (.mul (.mul (.mul (.mul (.mul (.mul (.v 0) (.v 0)) (.v 1)) (.v 2)) (.v 3)) (.v 3)) (.v 5)) (.v 6))) (.mul (.mul (.mul (.mul (.mul (.mul (.v 0) (.v 0)) (.v 1)) (.v 2)) (.v 3)) (.v 3)) (.v 5))) (.neg (.mul (.mul (.mul (.mul (.v 0) (.v 0)) (.v 1)) (.v 2)) (.v 5)))) (.mul (.mul (.mul (.mul (.mul (.mul (.v 0) (.v 0)) (.v 1)) (.v 3)) (.v 3)) (.v 3)) (.v 4))) (.neg (.mul (.mul (.mul (.mul (.v 0) (.v 0)) (.v 1)) (.v 3)) (.v 4)))) (.mul (.mul (.mul (.mul (.mul (.mul (.v 0) (.v 1)) (.v 1)) (.v 2)) (.v 2)) (.v 2)) (.v 4))) (.mul (.mul (.mul (.mul (.mul (.mul (.mul (.v 0) (.v 1)) (.v 1)) (.v 2)) (.v 2)) (.v 3)) (.v 5)) (.v 6))) (.mul (.mul (.mul (.mul (.mul (.mul (.v 0) (.v 1)) (.v 1)) (.v 2)) (.v 2)) (.v 3)) (.v 5))) (.neg (.mul (.mul (.mul (.mul (.mul (.mul (.mul (.v 0) (.v 1)) (.v 1)) (.v 2)) (.v 3)) (.v 3)) (.v 4)) (.v 6)))) (.neg (.mul (.mul (.mul (.mul (.mul (.mul (.v 0) (.v 1)) (.v 1)) (.v 2)) (.v 3)) (.v 3)) (.v 4)))) (.mul (.mul (.mul (.mul (.v 0) (.v 1)) (.v 1)) (.v 2)) (.v 4))) (.neg (.mul (.mul (.mul (.mul (.mul (.mul (.v 0) (.v 1)) (.v 1)) (.v 3)) (.v 3)) (.v 3)) (.v 5)))) (.mul (.mul (.mul (.mul (.v 0) (.v 1)) (.v 1)) (.v 3)) (.v 5))) (.neg (.mul (.mul (.mul (.mul (.v 0) (.v 2)) (.v 2)) (.v 2)) (.v 4)))) (.neg (.mul (.mul (.mul (.mul (.v 0) (.v 2)) (.v 2)) (.v 3)) (.v 5)))) (.mul (.mul (.mul (.mul (.v 0) (.v 2)) (.v 3)) (.v 3)) (.v 4))) (.neg (.mul (.mul (.v 0) (.v 2)) (.v 4)))) (.mul (.mul (.mul (.mul (.v 0) (.v 3)) (.v 3)) (.v 3)) (.v 5))) (.neg (.mul (.mul (.v 0) (.v 3)) (.v 5)))) (.mul (.mul (.mul (.mul (.mul (.mul (.v 1) (.v 1)) (.v 1)) (.v 2)) (.v 2)) (.v 2)) (.v 5))) (.mul (.mul (.mul (.mul (.mul (.mul (.v 1) (.v 1)) (.v 1)) (.v 2)) (.v 2)) (.v 3)) (.v 4))) (.neg (.mul (.mul (.mul (.mul (.mul (.mul (.v 1) (.v 1)) (.v 1)) (.v 2)) (.v 3)) (.v 3)) (.v 5)))) (.mul (.mul (.mul (.mul (.v 1) (.v 1)) (.v 1)) (.v 2)) (.v 5))) (.neg (.mul (.mul (.mul (.mul (.mul (.mul (.v 1) (.v 1)) (.v 1)) (.v 3)) (.v 3)) (.v 3)) (.v 4)))) (.mul (.mul (.mul (.mul (.v 1) (.v 1)) (.v 1)) (.v 3)) (.v 4))) (.neg (.mul (.mul (.mul (.mul (.v 1) (.v 2)) (.v 2)) (.v 2)) (.v 5)))) (.neg (.mul (.mul (.mul (.mul (.v 1) (.v 2)) (.v 2)) (.v 3)) (.v 4)))) (.mul (.mul (.mul (.mul (.v 1) (.v 2)) (.v 3)) (.v 3)) (.v 5))) (.neg (.mul (.mul (.v 1) (.v 2)) (.v 5)))) (.mul (.mul (.mul (.mul (.v 1) (.v 3)) (.v 3)) (.v 3)) (.v 4))) (.neg (.mul (.mul (.v 1) (.v 3)) (.v 4))))
theorem ax_norm : (Ex.sub (.sub ax_l ax_r) (.add (.mul ax_1 (eqx 0 1)) (.add (.mul ax_2 (eqx 2 3)) (.mul ax_3 (eqx 4 5))))).norm = [] := by kernel_rfl
def ay_l : Ex := (.mul (.add (.mul (.mul (.add (.mul (.v 1) (.v 3)) (.mul (.v 0) (.v 2))) (.add (.n 1) (.mul (.v 6) (.mul (.mul (.v 0) (.v 2)) (.mul (.v 1) (.v 3)))))) (.v 5)) (.mul (.mul (.add (.mul (.v 0) (.v 3)) (.mul (.v 1) (.v 2))) (.sub (.n 1) (.mul (.v 6) (.mul (.mul (.v 0) (.v 2)) (.mul (.v 1) (.v 3)))))) (.v 4))) (.sub (.mul (.add (.n 1) (.mul (.v 6) (.mul (.mul (.v 2) (.v 4)) (.mul (.v 3) (.v 5))))) (.sub (.n 1) (.mul (.v 6) (.mul (.mul (.v 2) (.v 4)) (.mul (.v 3) (.v 5)))))) (.mul (.v 6) (.mul (.mul (.v 0) (.add (.mul (.v 2) (.v 5)) (.mul (.v 3) (.v 4)))) (.mul (.v 1) (.add (.mul (.v 3) (.v 5)) (.mul (.v 2) (.v 4))))))))
def ay_r : Ex := (.mul (.add (.mul (.v 1) (.mul (.add (.mul (.v 3) (.v 5)) (.mul (.v 2) (.v 4))) (.add (.n 1) (.mul (.v 6) (.mul (.mul (.v 2) (.v 4)) (.mul (.v 3) (.v 5))))))) (.mul (.v 0) (.mul (.add (.mul (.v 2) (.v 5)) (.mul (.v 3) (.v 4))) (.sub (.n 1) (.mul (.v 6) (.mul (.mul (.v 2) (.v 4)) (.mul (.v 3) (.v 5)))))))) (.sub (.mul (.add (.n 1) (.mul (.v 6) (.mul (.mul (.v 0) (.v 2)) (.mul (.v 1) (.v 3))))) (.sub (.n 1) (.mul (.v 6) (.mul (.mul (.v 0) (.v 2)) (.mul (.v 1) (.v 3)))))) (.mul (.v 6) (.mul (.mul (.add (.mul (.v 0) (.v 3)) (.mul (.v 1) (.v 2))) (.v 4)) (.mul (.add (.mul (.v 1) (.v 3)) (.mul (.v 0) (.v 2))) (.v 5))))))
def ay_1 : Ex := (.add (.add (.add (.add (.add (.add (.add (.add (.add (.add (.add (.add (.add (.add (.add (.mul (.mul (.mul (.mul (.mul (.mul (.mul (.mul (.mul (.mul (.mul (.mul (.v 0) (.v 2)) (.v 2)) (.v 2)) (.v 2)) (.v 3)) (.v 3)) (.v 3)) (.v 4)) (.v 5)) (.v 5)) (.v 6)) (.v 6)) (.mul (.mul (.mul (.mul (.mul (.mul (.mul (.mul (.mul (.v 0) (.v 2)) (.v 2)) (.v 2)) (.v 2)) (.v 3)) (.v 4)) (.v 5)) (.v 5)) (.v 6))) (.mul (.mul (.mul (.mul (.mul (.mul (.mul (.mul (.mul (.mul (.mul (.mul (.v 0) (.v 2)) (.v 2)) (.v 2)) (.v 3)) (.v 3)) (.v 3)) (.v 3)) (.v 4)) (.v 4)) (.v 5)) (.v 6)) (.v 6))) (.mul (.mul (.mul (.mul (.mul (.mul (.mul (.mul (.mul (.v 0) (.v 2)) (.v 2)) (.v 2)) (.v 3)) (.v 3)) (.v 5)) (.v 5)) (.v 5)) (.v 6))) (.neg (.mul (.mul (.mul (.mul (.mul (.mul (.mul (.v 0) (.v 2)) (.v 2)) (.v 2)) (.v 3)) (.v 3)) (.v 5)) (.v 6)))) (.neg (.mul (.mul (.mul (.mul (.mul (.mul (.mul (.mul (.mul (.v 0) (.v 2)) (.v 2)) (.v 3)) (.v 3)) (.v 3)) (.v 4)) (.v 4)) (.v 4)) (.v 6)))) (.neg (.mul (.mul (.mul (.mul (.mul (.mul (.mul (.v 0) (.v 2)) (.v 2)) (.v 3)) (.v 3)) (.v 3)) (.v 4)) (.v 6)))) (.neg (.mul (.mul (.mul (.mul (.mul (.mul (.mul (.mul (.mul (.v 0) (.v 2)) (.v 3)) (.v 3)) (.v 3)) (.v 3)) (.v 4)) (.v 4)) (.v 5)) (.v 6)))) (.neg (.mul (.mul (.mul (.mul (.mul (.mul (.mul (.mul (.mul (.mul (.mul (.mul (.v 1) (.v 2)) (.v 2)) (.v 2)) (.v 2)) (.v 3)) (.v 3)) (.v 3)) (.v 4)) (.v 4)) (.v 5)) (.v 6)) (.v 6)))) (.neg (.mul (.mul (.mul (.mul (.mul (.mul (.mul (.mul (.mul (.v 1) (.v 2)) (.v 2)) (.v 2)) (.v 2)) (.v 3)) (.v 4)) (.v 4)) (.v 5)) (.v 6)))) (.neg (.mul (.mul (.mul (.mul (.mul (.mul (.mul (.mul (.mul (.mul (.mul (.mul (.v 1) (.v 2)) (.v 2)) (.v 2)) (.v 3)) (.v 3)) (.v 3)) (.v 3)) (.v 4)) (.v 5)) (.v 5)) (.v 6)) (.v 6)))) (.neg (.mul (.mul (.mul (.mul (.mul (.mul (.mul (.mul (.mul (.v 1) (.v 2)) (.v 2)) (.v 2)) (.v 3)) (.v 3)) (.v 4)) (.v 4)) (.v 4)) (.v 6)))) (.neg (.mul (.mul (.mul (.mul (.mul (.mul (.mul (.v 1) (.v 2)) (.v 2)) (.v 2)) (.v 3)) (.v 3)) (.v 4)) (.v 6)))) (.mul (.mul (.mul (.mul (.mul (.mul (.mul (.mul (.mul (.v 1) (.v 2)) (.v 2)) (.v 3)) (.v 3)) (.v 3)) (.v 5)) (.v 5)) (.v 5)) (.v 6))) (.neg (.mul (.mul (.mul (.mul (.mul (.mul (.mul (.v 1) (.v 2)) (.v 2)) (.v 3)) (.v 3)) (.v 3)) (.v 5)) (.v 6)))) (.mul (.mul (.mul (.mul (.mul (.mul (.mul (.mul (.mul (.v 1) (.v 2)) (.v 3)) (.v 3)) (.v 3)) (.v 3)) (.v 4)) (.v 5)) (.v 5)) (.v 6)))
def ay_2 : Ex := (.add (.add (.add (.add (.add (.add (.add (.add (.add (.add (.add (.add (.add (.add (.add (.add (.add (.add (.add (.add (.add (.add (.add (.add (.add (.add (.add (.add (.add (.add (.add (.add (.add (.add (.add (.add (.add (.add (.add (.add (.add (.add (.add (.add (.add (.add (.add (.add (.add (.add (.add (.add (.add (.add (.add (.add (.add (.add (.add (.add (.add (.add (.add (.neg (.mul (.mul (.mul (.mul (.mul (.mul (.mul (.mul (.mul (.v 0) (.v 0)) (.v 0)) (.v 2)) (.v 2)) (.v 3)) (.v 4)) (.v 5)) (.v 5)) (.v 6))) (.neg (.mul (.mul (.mul (.mul (.mul (.mul (.mul (.mul (.mul (.v 0) (.v 0)) (.v 0)) (.v 2)) (.v 3)) (.v 3)) (.v 4)) (.v 4)) (.v 5)) (.v 6)))) (.mul (.mul (.mul (.mul (.mul (.mul (.mul (.mul (.mul (.v 0) (.v 0)) (.v 0)) (.v 2)) (.v 4)) (.v 4)) (.v 5)) (.v 5)) (.v 5)) (.v 6))) (.mul (.mul (.mul (.mul (.mul (.mul (.v 0) (.v 0)) (.v 0)) (.v 2)) (.v 4)) (.v 4)) (.v 5))) (.neg (.mul (.mul (.mul (.mul (.mul (.mul (.v 0) (.v 0)) (.v 0)) (.v 2)) (.v 5)) (.v 5)) (.v 5)))) (.mul (.mul (.mul (.mul (.v 0) (.v 0)) (.v 0)) (.v 2)) (.v 5))) (.mul (.mul (.mul (.mul (.mul (.mul (.mul (.mul (.mul (.v 0) (.v 0)) (.v 0)) (.v 3)) (.v 4)) (.v 4)) (.v 4)) (.v 5)) (.v 5)) (.v 6))) (.mul (.mul (.mul (.mul (.mul (.mul (.v 0) (.v 0)) (.v 0)) (.v 3)) (.v 4)) (.v 4)) (.v 4))) (.neg (.mul (.mul (.mul (.mul (.mul (.mul (.v 0) (.v 0)) (.v 0)) (.v 3)) (.v 4)) (.v 5)) (.v 5)))) (.mul (.mul (.mul (.mul (.v 0) (.v 0)) (.v 0)) (.v 3)) (.v 4))) (.mul (.mul (.mul (.mul (.mul (.mul (.mul (.mul (.mul (.mul (.mul (.mul (.v 0) (.v 0)) (.v 1)) (.v 2)) (.v 2)) (.v 3)) (.v 4)) (.v 4)) (.v 5)) (.v 5)) (.v 5)) (.v 6)) (.v 6))) (.mul (.mul (.mul (.mul (.mul (.mul (.mul (.mul (.mul (.v 0) (.v 0)) (.v 1)) (.v 2)) (.v 2)) (.v 3)) (.v 4)) (.v 4)) (.v 5)) (.v 6))) (.neg (.mul (.mul (.mul (.mul (.mul (.mul (.mul (.mul (.mul (.mul (.mul (.mul (.v 0) (.v 0)) (.v 1)) (.v 2)) (.v 3)) (.v 3)) (.v 4)) (.v 4)) (.v 4)) (.v 5)) (.v 5)) (.v 6)) (.v 6)))) (.mul (.mul (.mul (.mul (.mul (.mul (.mul (.mul (.mul (.v 0) (.v 0)) (.v 1)) (.v 2)) (.v 3)) (.v 3)) (.v 4)) (.v 5)) (.v 5)) (.v 6))) (.mul (.mul (.mul (.mul (.mul (.mul (.mul (.mul (.mul (.v 0) (.v 0)) (.v 1)) (.v 2)) (.v 4)) (.v 4)) (.v 4)) (.v 5)) (.v 5)) (.v 6))) (.mul (.mul (.mul (.mul (.mul (.mul (.v 0) (.v 0)) (.v 1)) (.v 2)) (.v 4)) (.v 4)) (.v 4))) (.neg (.mul (.mul (.mul (.mul (.mul (.mul (.v 0) (.v 0)) (.v 1)) (.v 2)) (.v 4)) (.v 5)) (.v 5)))) (.mul (.mul (.mul (.mul (.v 0) (.v 0)) (.v 1)) (.v 2)) (.v 4))) (.mul (.mul (.mul (.mul (.mul (.mul (.mul (.mul (.mul (.v 0) (.v 0)) (.v 1)) (.v 3)) (.v 4)) (.v 4)) (.v 5)) (.v 5)) (.v 5)) (.v 6))) (.mul (.mul (.mul (.mul (.mul (.mul (.v 0) (.v 0)) (.v 1)) (.v 3)) (.v 4)) (.v 4)) (.v 5))) (.neg (.mul (.mul (.mul (.mul (.mul (.mul (.v 0) (.v 0)) (.v 1)) (.v 3)) (.v 5)) (.v 5)) (.v 5)))) (.mul (.mul (.mul (.mul (.v 0) (.v 0)) (.v 1)) (.v 3)) (.v 5))) (.neg (.mul (.mul (.mul (.mul (.mul (.mul (.mul (.mul (.mul (.mul (.mul (.mul (.v 0) (.v 1)) (.v 1)) (.v 2)) (.v 2)) (.v 3)) (.v 4)) (.v 4)) (.v 4)) (.v 5)) (.v 5)) (.v 6)) (.v 6)))) (.mul (.mul (.mul (.mul (.mul (.mul (.mul (.mul (.mul (.v 0) (.v 1)) (.v 1)) (.v 2)) (.v 2)) (.v 3)) (.v 4)) (.v 5)) (.v 5)) (.v 6))) (.mul (.mul (.mul (.mul (.mul (.mul (.mul (.mul (.mul (.mul (.mul (.mul (.v 0) (.v 1)) (.v 1)) (.v 2)) (.v 3)) (.v 3)) (.v 4)) (.v 4)) (.v 5)) (.v 5)) (.v 5)) (.v 6)) (.v 6))) (.mul (.mul (.mul (.mul (.mul (.mul (.mul (.mul (.mul (.v 0) (.v 1)) (.v 1)) (.v 2)) (.v 3)) (.v 3)) (.v 4)) (.v 4)) (.v 5)) (.v 6))) (.neg (.mul (.mul (.mul (.mul (.mul (.mul (.mul (.mul (.mul (.v 0) (.v 1)) (.v 1)) (.v 2)) (.v 4)) (.v 4)) (.v 5)) (.v 5)) (.v 5)) (.v 6)))) (.neg (.mul (.mul (.mul (.mul (.mul (.mul (.v 0) (.v 1)) (.v 1)) (.v 2)) (.v 4)) (.v 4)) (.v 5)))) (.mul (.mul (.mul (.mul (.mul (.mul (.v 0) (.v 1)) (.v 1)) (.v 2)) (.v 5)) (.v 5)) (.v 5))) (.neg (.mul (.mul (.mul (.mul (.v 0) (.v 1)) (.v 1)) (.v 2)) (.v 5)))) (.neg (.mul (.mul (.mul (.mul (.mul (.mul (.mul (.mul (.mul (.v 0) (.v 1)) (.v 1)) (.v 3)) (.v 4)) (.v 4)) (.v 4)) (.v 5)) (.v 5)) (.v 6)))) (.neg (.mul (.mul (.mul (.mul (.mul (.mul (.v 0) (.v 1)) (.v 1)) (.v 3)) (.v 4)) (.v 4)) (.v 4)))) (.mul (.mul (.mul (.mul (.mul (.mul (.v 0) (.v 1)) (.v 1)) (.v 3)) (.v 4)) (.v 5)) (.v 5))) (.neg (.mul (.mul (.mul (.mul (.v 0) (.v 1)) (.v 1)) (.v 3)) (.v 4)))) (.neg (.mul (.mul (.mul (.mul (.mul (.mul (.mul (.v 0) (.v 2)) (.v 2)) (.v 3)) (.v 4)) (.v 5)) (.v 5)) (.v 6)))) (.neg (.mul (.mul (.mul (.mul (.mul (.mul (.mul (.v 0) (.v 2)) (.v 3)) (.v 3)) (.v 4)) (.v 4)) (.v 5)) (.v 6)))) (.mul (.mul (.mul (.mul (.mul (.mul (.mul (.v 0) (.v 2)) (.v 4)) (.v 4)) (.v 5)) (.v 5)) (.v 5)) (.v 6))) (.mul (.mul (.mul (.mul (.v 0) (.v 2)) (.v 4)) (.v 4)) (.v 5))) (.neg (.mul (.mul (.mul (.mul (.v 0) (.v 2)) (.v 5)) (.v 5)) (.v 5)))) (.mul (.mul (.v 0) (.v 2)) (.v 5))) (.mul (.mul (.mul (.mul (.mul (.mul (.mul (.v 0) (.v 3)) (.v 4)) (.v 4)) (.v 4)) (.v 5)) (.v 5)) (.v 6))) (.mul (.mul (.mul (.mul (.v 0) (.v 3)) (.v 4)) (.v 4)) (.v 4))) (.neg (.mul (.mul (.mul (.mul (.v 0) (.v 3)) (.v 4)) (.v 5)) (.v 5)))) (.mul (.mul (.v 0) (.v 3)) (.v 4))) (.neg (.mul (.mul (.mul (.mul (.mul (.mul (.mul (.mul (.mul (.v 1) (.v 1)) (.v 1)) (.v 2)) (.v 2)) (.v 3)) (.v 4)) (.v 4)) (.v 5)) (.v 6)))) (.neg (.mul (.mul (.mul (.mul (.mul (.mul (.mul (.mul (.mul (.v 1) (.v 1)) (.v 1)) (.v 2)) (.v 3)) (.v 3)) (.v 4)) (.v 5)) (.v 5)) (.v 6)))) (.neg (.mul (.mul (.mul (.mul (.mul (.mul (.mul (.mul (.mul (.v 1) (.v 1)) (.v 1)) (.v 2)) (.v 4)) (.v 4)) (.v 4)) (.v 5)) (.v 5)) (.v 6)))) (.neg (.mul (.mul (.mul (.mul (.mul (.mul (.v 1) (.v 1)) (.v 1)) (.v 2)) (.v 4)) (.v 4)) (.v 4)))) (.mul (.mul (.mul (.mul (.mul (.mul (.v 1) (.v 1)) (.v 1)) (.v 2)) (.v 4)) (.v 5)) (.v 5))) (.neg (.mul (.mul (.mul (.mul (.v 1) (.v 1)) (.v 1)) (.v 2)) (.v 4)))) (.neg (.mul (.mul (.mul (.mul (.mul (.mul (.mul (.mul (.mul (.v 1) (.v 1)) (.v 1)) (.v 3)) (.v 4)) (.v 4)) (.v 5)) (.v 5)) (.v 5)) (.v 6)))) (.neg (.mul (.mul (.mul (.mul (.mul (.mul (.v 1) (.v 1)) (.v 1)) (.v 3)) (.v 4)) (.v 4)) (.v 5)))) (.mul (.mul (.mul (.mul (.mul (.mul (.v 1) (.v 1)) (.v 1)) (.v 3)) (.v 5)) (.v 5)) (.v 5))) (.neg (.mul (.mul (.mul (.mul (.v 1) (.v 1)) (.v 1)) (.v 3)) (.v 5)))) (.mul (.mul (.mul (.mul (.mul (.mul (.mul (.v 1) (.v 2)) (.v 2)) (.v 3)) (.v 4)) (.v 4)) (.v 5)) (.v 6))) (.mul (.mul (.mul (.mul (.mul (.mul (.mul (.v 1) (.v 2)) (.v 3)) (.v 3)) (.v 4)) (.v 5)) (.v 5)) (.v 6))) (.mul (.mul (.mul (.mul (.mul (.mul (.mul (.v 1) (.v 2)) (.v 4)) (.v 4)) (.v 4)) (.v 5)) (.v 5)) (.v 6))) (.mul (.mul (.mul (.mul (.v 1) (.v 2)) (.v 4)) (.v 4)) (.v 4))) (.neg (.mul (.mul (.mul (.mul (.v 1) (.v 2)) (.v 4)) (.v 5)) (.v 5)))) (.mul (.mul (.v 1) (.v 2)) (.v 4))) (.mul (.mul (.mul (.mul (.mul (.mul (.mul (.v 1) (.v 3)) (.v 4)) (.v 4)) (.v 5)) (.v 5)) (.v 5)) (.v 6))) (.mul (.mul (.mul (.mul (.v 1) (.v 3)) (.v 4)) (.v 4)) (.v 5))) (.neg (.mul (.mul (.mul (.mul (.v 1) (.v 3)) (.v 5)) (.v 5)) (.v 5)))) (.mul (.mul (.v 1) (.v 3)) (.v 5)))
def ay_3 : Ex := (.add (.add (.add (.add (.add (.add (.add (.add (.add (.add (.add (.add (.add (.add (.add (.add (.add (.add (.add (.add (.add (.add (.add (.add (.add (.add (.add (.add (.add (.add (.add (.add (.add (.add (.add (.add (.add (.add (.add (.neg (.mul (.mul (.mul (.mul (.mul (.mul (.v 0) (.v 0)) (.v 0)) (.v 2)) (.v 2)) (.v 2)) (.v 5))) (.neg (.mul (.mul (.mul (.mul (.mul (.mul (.v 0) (.v 0)) (.v 0)) (.v 2)) (.v 2)) (.v 3)) (.v 4)))) (.mul (.mul (.mul (.mul (.mul (.mul (.v 0) (.v 0)) (.v 0)) (.v 2)) (.v 3)) (.v 3)) (.v 5))) (.neg (.mul (.mul (.mul (.mul (.v 0) (.v 0)) (.v 0)) (.v 2)) (.v 5)))) (.mul (.mul (.mul (.mul (.mul (.mul (.v 0) (.v 0)) (.v 0)) (.v 3)) (.v 3)) (.v 3)) (.v 4))) (.neg (.mul (.mul (.mul (.mul (.v 0) (.v 0)) (.v 0)) (.v 3)) (.v 4)))) (.neg (.mul (.mul (.mul (.mul (.mul (.mul (.v 0) (.v 0)) (.v 1)) (.v 2)) (.v 2)) (.v 2)) (.v 4)))) (.neg (.mul (.mul (.mul (.mul (.mul (.mul (.mul (.v 0) (.v 0)) (.v 1)) (.v 2)) (.v 2)) (.v 3)) (.v 5)) (.v 6)))) (.neg (.mul (.mul (.mul (.mul (.mul (.mul (.v 0) (.v 0)) (.v 1)) (.v 2)) (.v 2)) (.v 3)) (.v 5)))) (.mul (.mul (.mul (.mul (.mul (.mul (.mul (.v 0) (.v 0)) (.v 1)) (.v 2)) (.v 3)) (.v 3)) (.v 4)) (.v 6))) (.mul (.mul (.mul (.mul (.mul (.mul (.v 0) (.v 0)) (.v 1)) (.v 2)) (.v 3)) (.v 3)) (.v 4))) (.neg (.mul (.mul (.mul (.mul (.v 0) (.v 0)) (.v 1)) (.v 2)) (.v 4)))) (.mul (.mul (.mul (.mul (.mul (.mul (.v 0) (.v 0)) (.v 1)) (.v 3)) (.v 3)) (.v 3)) (.v 5))) (.neg (.mul (.mul (.mul (.mul (.v 0) (.v 0)) (.v 1)) (.v 3)) (.v 5)))) (.mul (.mul (.mul (.mul (.mul (.mul (.v 0) (.v 1)) (.v 1)) (.v 2)) (.v 2)) (.v 2)) (.v 5))) (.mul (.mul (.mul (.mul (.mul (.mul (.mul (.v 0) (.v 1)) (.v 1)) (.v 2)) (.v 2)) (.v 3)) (.v 4)) (.v 6))) (.mul (.mul (.mul (.mul (.mul (.mul (.v 0) (.v 1)) (.v 1)) (.v 2)) (.v 2)) (.v 3)) (.v 4))) (.neg (.mul (.mul (.mul (.mul (.mul (.mul (.mul (.v 0) (.v 1)) (.v 1)) (.v 2)) (.v 3)) (.v 3)) (.v 5)) (.v 6)))) (.neg (.mul (.mul (.mul (.mul (.mul (.mul (.v 0) (.v 1)) (.v 1)) (.v 2)) (.v 3)) (.v 3)) (.v 5)))) (.mul (.mul (.mul (.mul (.v 0) (.v 1)) (.v 1)) (.v 2)) (.v 5))) (.neg (.mul (.mul (.mul (.mul (.mul (.mul (.v 0) (.v 1)) (.v 1)) (.v 3)) (.v 3)) (.v 3)) (.v 4)))) (.mul (.mul (.mul (.mul (.v 0) (.v 1)) (.v 1)) (.v 3)) (.v 4))) (.neg (.mul (.mul (.mul (.mul (.v 0) (.v 2)) (.v 2)) (.v 2)) (.v 5)))) (.neg (.mul (.mul (.mul (.mul (.v 0) (.v 2)) (.v 2)) (.v 3)) (.v 4)))) (.mul (.mul (.mul (.mul (.v 0) (.v 2)) (.v 3)) (.v 3)) (.v 5))) (.neg (.mul (.mul (.v 0) (.v 2)) (.v 5)))) (.mul (.mul (.mul (.mul (.v 0) (.v 3)) (.v 3)) (.v 3)) (.v 4))) (.neg (.mul (.mul (.v 0) (.v 3)) (.v 4)))) (.mul (.mul (.mul (.mul (.mul (.mul (.v 1) (.v 1)) (.v 1)) (.v 2)) (.v 2)) (.v 2)) (.v 4))) (.mul (.mul (.mul (.mul (.mul (.mul (.v 1) (.v 1)) (.v 1)) (.v 2)) (.v 2)) (.v 3)) (.v 5))) (.neg (.mul (.mul (.mul (.mul (.mul (.mul (.v 1) (.v 1)) (.v 1)) (.v 2)) (.v 3)) (.v 3)) (.v 4)))) (.mul (.mul (.mul (.mul (.v 1) (.v 1)) (.v 1)) (.v 2)) (.v 4))) (.neg (.mul (.mul (.mul (.mul (.mul (.mul (.v 1) (.v 1)) (.v 1)) (.v 3)) (.v 3)) (.v 3)) (.v 5)))) (.mul (.mul (.mul (.mul (.v 1) (.v 1)) (.v 1)) (.v 3)) (.v 5))) (.neg (.mul (.mul (.mul (.mul (.v 1) (.v 2)) (.v 2)) (.v 2)) (.v 4)))) (.neg (.mul (.mul (.mul (.mul (.v 1) (.v 2)) (.v 2)) (.v 3)) (.v 5)))) (.mul (.mul (.mul (.mul (.v 1) (.v 2)) (.v 3)) (.v 3)) (.v 4))) (.neg (.mul (.mul (.v 1) (.v 2)) (.v 4)))) (.mul (.mul (.mul (.mul (.v 1) (.v 3)) (.v 3)) (.v 3)) (.v 5))) (.neg (.mul (.mul (.v 1) (.v 3)) (.v 5))))
theorem ay_norm : (Ex.sub (.sub ay_l ay_r) (.add (.mul ay_1 (eqx 0 1)) (.add (.mul ay_2 (eqx 2 3)) (.mul ay_3 (eqx 4 5))))).norm = [] := by kernel_rfl
theorem as_1 (P M a b x3 y3 : Zq) : ((P * M) * ((a * y3) + (b * x3))) = ((((P * a) * M) * y3) + (((M * b) * P) * x3)) := ring_eq zqR (fun i => [P, M, a, b, x3, y3].getD i 0) (.mul (.mul (.v 0) (.v 1)) (.add (.mul (.v 2) (.v 5)) (.mul (.v 3) (.v 4)))) (.add (.mul (.mul (.mul (.v 0) (.v 2)) (.v 1)) (.v 5)) (.mul (.mul (.mul (.v 1) (.v 3)) (.v 0)) (.v 4))) (by kernel_rfl)
theorem as_2 (C D c e px py d : Zq) : ((C * D) * (1 + (d * ((px * c) * (py * e))))) = ((C * D) + (d * ((px * (C * c)) * (py * (D * e))))) := ring_eq zqR (fun i => [C, D, c, e, px, py, d].getD i 0) (.mul (.mul (.v 0) (.v 1)) (.add (.n 1) (.mul (.v 6) (.mul (.mul (.v 4) (.v 2)) (.mul (.v 5) (.v 3)))))) (.add (.mul (.v 0) (.v 1)) (.mul (.v 6) (.mul (.mul (.v 4) (.mul (.v 0) (.v 2))) (.mul (.v 5) (.mul (.v 1) (.v 3)))))) (by kernel_rfl)
theorem as_3 (C D c e px py : Zq) : ((C * D) * ((px * e) + (py * c))) = ((px * ((D * e) * C)) + (py * ((C * c) * D))) := ring_eq zqR (fun i => [C, D, c, e, px, py].getD i 0) (.mul (.mul (.v 0) (.v 1)) (.add (.mul (.v 4) (.v 3)) (.mul (.v 5) (.v 2)))) (.add (.mul (.v 4) (.mul (.mul (.v 1) (.v 3)) (.v 0))) (.mul (.v 5) (.mul (.mul (.v 0) (.v 2)) (.v 1)))) (by kernel_rfl)
theorem as_4 (P M a b x3 y3 d : Zq) : ((P * M) * (1 + (d * ((a * x3) * (b * y3))))) = ((P * M) + (d * (((P * a) * x3) * ((M * b) * y3)))) := ring_eq zqR (fun i => [P, M, a, b, x3, y3, d].getD i 0) (.mul (.mul (.v 0) (.v 1)) (.add (.n 1) (.mul (.v 6) (.mul (.mul (.v 2) (.v 4)) (.mul (.v 3) (.v 5)))))) (.add (.mul (.v 0) (.v 1)) (.mul (.v 6) (.mul (.mul (.mul (.v 0) (.v 2)) (.v 4)) (.mul (.mul (.v 1) (.v 3)) (.v 5))))) (by kernel_rfl)
theorem as_5 (P M a b x3 y3 : Zq) : ((P * M) * ((b * y3) + (a * x3))) = ((((M * b) * P) * y3) + (((P * a) * M) * x3)) := ring_eq zqR (fun i => [P, M, a, b, x3, y3].getD i 0) (.mul (.mul (.v 0) (.v 1)) (.add (.mul (.v 3) (.v 5)) (.mul (.v 2) (.v 4)))) (.add (.mul (.mul (.mul (.v 1) (.v 3)) (.v 0)) (.v 5)) (.mul (.mul (.mul (.v 0) (.v 2)) (.v 1)) (.v 4))) (by kernel_rfl)
theorem as_6 (C D c e px py d : Zq) : ((C * D) * (1 - (d * ((px * c) * (py * e))))) = ((C * D) - (d * ((px * (C * c)) * (py * (D * e))))) := ring_eq zqR (fun i => [C, D, c, e, px, py, d].getD i 0) (.mul (.mul (.v 0) (.v 1)) (.sub (.n 1) (.mul (.v 6) (.mul (.mul (.v 4) (.v 2)) (.mul (.v 5) (.v 3)))))) (.sub (.mul (.v 0) (.v 1)) (.mul (.v 6) (.mul (.mul (.v 4) (.mul (.v 0) (.v 2))) (.mul (.v 5) (.mul (.v 1) (.v 3)))))) (by kernel_rfl)
theorem as_7 (C D c e px py : Zq) : ((C * D) * ((py * e) + (px * c))) = ((py * ((D * e) * C)) + (px * ((C * c) * D))) := ring_eq zqR (fun i => [C, D, c, e, px, py].getD i 0) (.mul (.mul (.v 0) (.v 1)) (.add (.mul (.v 5) (.v 3)) (.mul (.v 4) (.v 2)))) (.add (.mul (.v 5) (.mul (.mul (.v 1) (.v 3)) (.v 0))) (.mul (.v 4) (.mul (.mul (.v 0) (.v 2)) (.v 1)))) (by kernel_rfl)
theorem as_8 (P M a b x3 y3 d : Zq) : ((P * M) * (1 - (d * ((a * x3) * (b * y3))))) = ((P * M) - (d * (((P * a) * x3) * ((M * b) * y3)))) := ring_eq zqR (fun i => [P, M, a, b, x3, y3, d].getD i 0) (.mul (.mul (.v 0) (.v 1)) (.sub (.n 1) (.mul (.v 6) (.mul (.mul (.v 2) (.v 4)) (.mul (.v 3) (.v 5)))))) (.sub (.mul (.v 0) (.v 1)) (.mul (.v 6) (.mul (.mul (.mul (.v 0) (.v 2)) (.v 4)) (.mul (.mul (.v 1) (.v 3)) (.v 5))))) (by kernel_rfl)
theorem as_9 (K H L S : Zq) : ((K * H) * (L * S)) = ((K * L) * (H * S)) := ring_eq zqR (fun i => [K, H, L, S].getD i 0) (.mul (.mul (.v 0) (.v 1)) (.mul (.v 2) (.v 3))) (.mul (.mul (.v 0) (.v 2)) (.mul (.v 1) (.v 3))) (by kernel_rfl)
theorem as_10 (M S l : Zq) : ((M * S) * l) = ((M * l) * S) := ring_eq zqR (fun i => [M, S, l].getD i 0) (.mul (.mul (.v 0) (.v 1)) (.v 2)) (.mul (.mul (.v 0) (.v 2)) (.v 1)) (by kernel_rfl)
theorem as_11 (M S l : Zq) : ((M * S) * l) = ((S * l) * M) := ring_eq zqR (fun i => [M, S, l].getD i 0) (.mul (.mul (.v 0) (.v 1)) (.v 2)) (.mul (.mul (.v 1) (.v 2)) (.v 0)) (by kernel_rfl)
theorem cross {K H L S R T Lx Sx Rx Tx : Zq} (hK : K ≠ 0) (hH : H ≠ 0) (hL : K * L = Lx) (hS : H * S = Sx) (hR : H * R = Rx) (hT : K * T = Tx) (h : Lx * Sx = Rx * Tx) : L * S = R * T := by
  refine qmul_cancel (a := K * H) (qmul_ne hK hH) ?_
  rw [as_9 K H L S, qmul_comm R T, as_9 K H T R, hL, hS, hR, hT, h, qmul_comm]
theorem quot_eq {M S l r L R : Zq} (hM : M ≠ 0) (hS : S ≠ 0) (hl : M * l = L) (hr : S * r = R) (h : L * S = R * M) : l = r := by
  refine qmul_cancel (a := M * S) (qmul_ne hM hS) ?_
  rw [as_10 M S l, as_11 M S r, hl, hr, h]
theorem pt_assoc (p q r : Pt) : p + q + r = p + (q + r) := by
  have hP := nP_ne p q; have hM := nM_ne p q; have hC := nP_ne q r; have hD := nM_ne q r
  have x12 := mul_add_x p q; have y12 := mul_add_y p q; have x23 := mul_add_x q r; have y23 := mul_add_y q r
  have kx : ax_l.den zqR (cv p.x p.y q.x q.y r.x r.y) = ax_r.den zqR (cv p.x p.y q.x q.y r.x r.y) := ideal3 _ ax_l ax_r ax_1 ax_2 ax_3 _ _ _ (eqx_zero _ 0 1 rfl p.on) (eqx_zero _ 2 3 rfl q.on) (eqx_zero _ 4 5 rfl r.on) ax_norm
  have ky : ay_l.den zqR (cv p.x p.y q.x q.y r.x r.y) = ay_r.den zqR (cv p.x p.y q.x q.y r.x r.y) := ideal3 _ ay_l ay_r ay_1 ay_2 ay_3 _ _ _ (eqx_zero _ 0 1 rfl p.on) (eqx_zero _ 2 3 rfl q.on) (eqx_zero _ 4 5 rfl r.on) ay_norm
  replace kx : (nX p.x p.y q.x q.y * nM p.x p.y q.x q.y * r.y + nY p.x p.y q.x q.y * nP p.x p.y q.x q.y * r.x) * (nP q.x q.y r.x r.y * nM q.x q.y r.x r.y + dd * (p.x * nX q.x q.y r.x r.y * (p.y * nY q.x q.y r.x r.y))) = (p.x * (nY q.x q.y r.x r.y * nP q.x q.y r.x r.y) + p.y * (nX q.x q.y r.x r.y * nM q.x q.y r.x r.y)) * (nP p.x p.y q.x q.y * nM p.x p.y q.x q.y + dd * (nX p.x p.y q.x q.y * r.x * (nY p.x p.y q.x q.y * r.y))) := kx
  replace ky : (nY p.x p.y q.x q.y * nP p.x p.y q.x q.y * r.y + nX p.x p.y q.x q.y * nM p.x p.y q.x q.y * r.x) * (nP q.x q.y r.x r.y * nM q.x q.y r.x r.y - dd * (p.x * nX q.x q.y r.x r.y * (p.y * nY q.x q.y r.x r.y))) = (p.y * (nY q.x q.y r.x r.y * nP q.x q.y r.x r.y) + p.x * (nX q.x q.y r.x r.y * nM q.x q.y r.x r.y)) * (nP p.x p.y q.x q.y * nM p.x p.y q.x q.y - dd * (nX p.x p.y q.x q.y * r.x * (nY p.x p.y q.x q.y * r.y))) := ky
  have hK := qmul_ne hP hM; have hH := qmul_ne hC hD
  refine Pt.ext (quot_eq (nP_ne (p + q) r) (nP_ne p (q + r)) (mul_add_x (p + q) r) (mul_add_x p (q + r)) ?_) (quot_eq (nM_ne (p + q) r) (nM_ne p (q + r)) (mul_add_y (p + q) r) (mul_add_y p (q + r)) ?_)
  · refine cross hK hH ((as_1 _ _ _ _ _ _).trans ?_) ((as_2 _ _ _ _ _ _ _).trans ?_) ((as_3 _ _ _ _ _ _).trans ?_) ((as_4 _ _ _ _ _ _ _).trans ?_) kx
    · rw [x12, y12]
    · rw [x23, y23]
    · rw [x23, y23]
    · rw [x12, y12]
  · refine cross hK hH ((as_5 _ _ _ _ _ _).trans ?_) ((as_6 _ _ _ _ _ _ _).trans ?_) ((as_7 _ _ _ _ _ _).trans ?_) ((as_8 _ _ _ _ _ _ _).trans ?_) ky
    · rw [x12, y12]
    · rw [x23, y23]
    · rw [x23, y23]
    · rw [x12, y12]
end Go.FourQ
namespace Go.FourQ
/-- These five elements stand for a point: X : Y : Z with T = Ta Tb. -/
structure Rep1 (p : Pt) (X Y Z Ta Tb : Zq) : Prop where
  z : Z ≠ 0
  x : X = p.x * Z
  y : Y = p.y * Z
  t : Ta * Tb = p.x * p.y * Z
/-- These four elements stand for a point: y + x, y - x, 2 d x y, 2 (each times Z). -/
structure Rep2 (p : Pt) (A B D W : Zq) : Prop where
  rep : ∃ Z : Zq, Z ≠ 0 ∧ A = (p.y + p.x) * Z ∧ B = (p.y - p.x) * Z ∧ D = dd * (p.x * p.y * Z) + dd * (p.x * p.y * Z) ∧ W = Z + Z
/-- X : Y : Z. -/
structure Rep3 (p : Pt) (X Y Z : Zq) : Prop where
  z : Z ≠ 0
  x : X = p.x * Z
  y : Y = p.y * Z
def Pt.mul : Nat → Pt → Pt
  | 0, _ => Pt.zero
  | n + 1, p => Pt.mul n p + p
theorem pt_add4 (a b c e : Pt) : a + b + (c + e) = a + c + (b + e) := by
  rw [pt_assoc, pt_assoc, ← pt_assoc b, pt_comm b c, pt_assoc c]
theorem neg_of {p q : Pt} (h : p + q = Pt.zero) : q = p.neg := by
  have := congrArg (fun t => p.neg + t) h
  simp only [← pt_assoc, pt_comm p.neg p, pt_add_neg, pt_zero_add, pt_add_zero] at this
  exact this
theorem neg_add (p q : Pt) : (p + q).neg = p.neg + q.neg := (neg_of (by rw [pt_add4, pt_add_neg, pt_add_neg, pt_add_zero])).symm
end Go.FourQ
namespace Go.FourQ
open Go.RowKit
/-- At this place stands this element. -/
structure AtZ (w : World) (b o : Nat) (z : Zq) : Prop where
  q : AtQ w b o z.re z.im
  al : ∃ k, o = 32 * k
theorem AtZ.drew {w : World} {b o : Nat} {z : Zq} (h : AtZ w b o z) : AtZ w.drew b o z := ⟨⟨h.q.fst, h.q.snd⟩, h.al⟩
theorem AtZ.below {w w' : World} {b o n : Nat} {z : Zq} (h : AtZ w b o z) (v : Below n w w') (hb : b < n) : AtZ w' b o z := ⟨h.q.below v hb, h.al⟩
theorem AtZ.nb {w w' : World} {b o : Nat} {z : Zq} (h : AtZ w b o z) (v : Below w.heap.size w w') : AtZ w' b o z := ⟨h.q.nb v, h.al⟩
section
variable {w wr w' : World} {s : List (Nat × List Zp)} {i b : Nat} {L M : List Zq}
/-- Two blocks of before. -/
theorem Sto.two {c : Nat} {l m : List Zp} (h1 : FpsZ w b l) (h2 : FpsZ w c m) (hne : b ≠ c) : Sto w [(b, l), (c, m)] w where
  os := rfl
  tape := rfl
  output := rfl
  size := Nat.le_refl _
  blk := fun i d N hi => by
    rcases i with _ | _ | i
    · obtain ⟨rfl, rfl⟩ : b = d ∧ l = N := by simpa using hi
      exact h1
    · obtain ⟨rfl, rfl⟩ : c = d ∧ m = N := by simpa using hi
      exact h2
    · simp at hi
  ne := fun i j d e N O hi hj hij => by
    rcases i with _ | _ | i
    · rcases j with _ | _ | j
      · exact absurd rfl hij
      · obtain ⟨rfl, rfl⟩ : b = d ∧ l = N := by simpa using hi
        obtain ⟨rfl, rfl⟩ : c = e ∧ m = O := by simpa using hj
        exact hne
      · simp at hj
    · rcases j with _ | _ | j
      · obtain ⟨rfl, rfl⟩ : c = d ∧ m = N := by simpa using hi
        obtain ⟨rfl, rfl⟩ : b = e ∧ l = O := by simpa using hj
        exact Ne.symm hne
      · exact absurd rfl hij
      · simp at hj
    · simp at hi
  other := fun _ _ _ => rfl
/-- All blocks that are written are new. -/
theorem Sto.below (h : Sto w s wr) (ht : ∀ p ∈ s, w.heap.size ≤ p.1) : Below w.heap.size w wr :=
  ⟨h.os, h.tape, h.output, h.size, fun k hk => h.other k hk fun p hp e => by have := ht p hp; omega⟩
/-- A variable of the package. -/
def GV (w : World) (c : Nat) (cs : Array Value) : Prop := ∃ T, w.heap[c]? = some (.cells cs T (0, 0))
theorem GV.lt {c : Nat} {cs : Array Value} (h : GV w c cs) : c < w.heap.size := by obtain ⟨T, hT⟩ := h; exact lt_of_heap hT
theorem GV.of_heap {c : Nat} {cs : Array Value} (h : GV w c cs) (e : w'.heap[c]? = w.heap[c]?) : GV w' c cs := by obtain ⟨T, hT⟩ := h; exact ⟨T, e.trans hT⟩
theorem GV.nb {c : Nat} {cs : Array Value} (h : GV w c cs) (v : Below w.heap.size w w') : GV w' c cs := h.of_heap (v.block _ h.lt)
theorem GV.alloc {c : Nat} {cs : Array Value} (h : GV w c cs) (o : Obj) : GV (w.alloc o) c cs := h.of_heap (Below.heap_alloc _ _ _ h.lt)
theorem GV.fps {c : Nat} {l : List Nat} (h : GV w c (fps l)) : Fps w c l := h
theorem k2 {o k : Nat} (h : o = 32 * k) : o = 16 * (2 * k) := by omega
end
end Go.FourQ
namespace Go.Proofs.YtfkfljohhabldaaDoor
open Go.RowKit Go.FourQ
end Go.Proofs.YtfkfljohhabldaaDoor
namespace Go.FourQ
open Go.RowKit
end Go.FourQ
namespace Go.Proofs.YtfkfljohhabldaaDoor
open Go.RowKit Go.FourQ
end Go.Proofs.YtfkfljohhabldaaDoor
namespace Go.FourQ
open Go.RowKit
/-- From this place on stand these elements. -/
def AtL (w : World) (b o : Nat) (L : List Zq) : Prop := ∀ k x, L[k]? = some x → AtZ w b (o + 32 * k) x
theorem AtL.get {w : World} {b o : Nat} {L : List Zq} (h : AtL w b o L) (k : Nat) {x : Zq} (hk : L[k]? = some x) : AtZ w b (o + 32 * k) x := h k x hk
theorem AtL.nb {w w' : World} {b o : Nat} {L : List Zq} (h : AtL w b o L) (v : Below w.heap.size w w') : AtL w' b o L := fun k x hk => (h k x hk).nb v
theorem AtL.lt {w : World} {b o : Nat} {x : Zq} {L : List Zq} (h : AtL w b o (x :: L)) : b < w.heap.size := (h 0 x rfl).q.fst.lt
end Go.FourQ
namespace Go.Proofs.YtfkfljohhabldaaDoor
open Go.RowKit Go.FourQ
end Go.Proofs.YtfkfljohhabldaaDoor
namespace Go.FourQ
open Go.RowKit
end Go.FourQ
namespace Go.Proofs.YtfkfljohhabldaaDoor
open Go.RowKit Go.FourQ
end Go.Proofs.YtfkfljohhabldaaDoor
namespace Go.FourQ
end Go.FourQ
namespace Go.Proofs.YtfkfljohhabldaaDoor
open Go.RowKit Go.FourQ
end Go.Proofs.YtfkfljohhabldaaDoor
namespace Go.FourQ
open Go.RowKit Go.ChangeAt
end Go.FourQ
namespace Go.FourQ
open Go.ChangeShapes Go.WideShapes Go.RowKit Go.ChangeAt
end Go.FourQ
namespace Go.Proofs.YtfkfljohhabldaaDoor
open Go.RowKit Go.FourQ
end Go.Proofs.YtfkfljohhabldaaDoor
namespace Go.FourQ
open Go.RowKit
end Go.FourQ
namespace Go.Proofs.YtfkfljohhabldaaDoor
open Go.RowKit Go.FourQ
end Go.Proofs.YtfkfljohhabldaaDoor
namespace Go.Proofs.YtfkfljohhabldaaDoor
open Go.RowKit Go.FourQ
end Go.Proofs.YtfkfljohhabldaaDoor
namespace Go.Proofs.YtfkfljohhabldaaDoor
open Go.ChangeShapes Go.WideShapes Go.RowKit Go.FourQ Go.ChangeAt
def holdIn (w : World) (g : Nat) (v : Array Value) : World :=
  { w with heap := w.heap.modify g fun
      | .cells _ t frozen => .cells v t frozen
      | o => o }
end Go.Proofs.YtfkfljohhabldaaDoor
