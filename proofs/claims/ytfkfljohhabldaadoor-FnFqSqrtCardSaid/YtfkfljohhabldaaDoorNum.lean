/- Plain number theory: Fermat's little theorem, and that 2^127 - 1 is prime (by Pocklington's criterion). No condition. -/
namespace Go.FourQ

/-- A prime number. -/
def Prim (r : Nat) : Prop := 2 ≤ r ∧ ∀ d, d ∣ r → d = 1 ∨ d = r

theorem Prim.coprime {r a : Nat} (h : Prim r) (ha : ¬ r ∣ a) : Nat.Coprime r a := by
  rcases h.2 (Nat.gcd r a) (Nat.gcd_dvd_left r a) with h1 | h1
  · exact h1
  · exact absurd (h1 ▸ Nat.gcd_dvd_right r a) ha

theorem Prim.dvd_mul {r a b : Nat} (h : Prim r) (hd : r ∣ a * b) : r ∣ a ∨ r ∣ b := by
  by_cases ha : r ∣ a
  · exact .inl ha
  · exact .inr ((h.coprime ha).dvd_of_dvd_mul_left hd)

/-- A list without repetitions that lies in another one of no greater length is a rearrangement of it. -/
theorem perm_of_sub {α : Type} [DecidableEq α] : ∀ (l m : List α), l.Nodup → (∀ x ∈ l, x ∈ m) → m.length ≤ l.length → l.Perm m
  | [], m, _, _, hl => by
    have : m = [] := List.eq_nil_of_length_eq_zero (by simpa using hl)
    subst this; exact List.Perm.refl _
  | a :: l, m, hn, hs, hl => by
    have ha : a ∈ m := hs a (by simp)
    rw [List.nodup_cons] at hn
    have ih := perm_of_sub l (m.erase a) hn.2 (fun x hx => by
      have hne : x ≠ a := fun e => hn.1 (by rw [← e]; exact hx)
      exact (List.mem_erase_of_ne hne).2 (hs x (by simp [hx]))) (by
      rw [List.length_erase_of_mem ha]
      simp at hl
      omega)
    exact (ih.cons a).trans (List.perm_cons_erase ha).symm

/-- The product of a list of numbers. -/
def prodN : List Nat → Nat
  | [] => 1
  | x :: l => x * prodN l

theorem prodN_perm {l m : List Nat} (h : l.Perm m) : prodN l = prodN m := by
  induction h with
  | nil => rfl
  | cons x _ ih => simp [prodN, ih]
  | swap x y l => simp [prodN, Nat.mul_left_comm]
  | trans _ _ ih1 ih2 => exact ih1.trans ih2

theorem prodN_map_mod (a r : Nat) : ∀ l : List Nat, prodN (l.map fun x => a * x % r) % r = a ^ l.length * prodN l % r
  | [] => by simp [prodN]
  | x :: l => by
    have ih := prodN_map_mod a r l
    simp only [List.map_cons, prodN, List.length_cons]
    rw [Nat.mul_mod, ih, ← Nat.mul_mod, Nat.mul_mod, Nat.mod_mod, ← Nat.mul_mod]
    congr 1
    rw [Nat.pow_succ]
    simp [Nat.mul_assoc, Nat.mul_left_comm, Nat.mul_comm]

theorem prodN_coprime {r : Nat} (h : Prim r) : ∀ l : List Nat, (∀ x ∈ l, ¬ r ∣ x) → ¬ r ∣ prodN l
  | [], _ => fun hd => by
    have := Nat.le_of_dvd (by simp [prodN]) hd
    have := h.1
    simp [prodN] at *
    omega
  | x :: l, hl => fun hd => by
    rcases h.dvd_mul hd with h1 | h1
    · exact hl x (by simp) h1
    · exact prodN_coprime h l (fun y hy => hl y (by simp [hy])) h1

theorem dvd_sub_of_mod {r a b : Nat} (h : a % r = b % r) (hab : b ≤ a) : r ∣ a - b := by
  have e1 := Nat.div_add_mod a r
  have e2 := Nat.div_add_mod b r
  refine ⟨a / r - b / r, ?_⟩
  rw [Nat.mul_sub]
  omega

theorem mod_cancel {r a x y : Nat} (h : Nat.Coprime r a) (he : a * x % r = a * y % r) : x % r = y % r := by
  rcases Nat.le_total y x with hl | hl
  · have h1 : r ∣ a * x - a * y := dvd_sub_of_mod he (Nat.mul_le_mul_left a hl)
    rw [← Nat.mul_sub] at h1
    obtain ⟨k, hk⟩ := h.dvd_of_dvd_mul_left h1
    have : x = y + r * k := by omega
    rw [this, Nat.add_mul_mod_self_left]
  · have h1 : r ∣ a * y - a * x := dvd_sub_of_mod he.symm (Nat.mul_le_mul_left a hl)
    rw [← Nat.mul_sub] at h1
    obtain ⟨k, hk⟩ := h.dvd_of_dvd_mul_left h1
    have : y = x + r * k := by omega
    rw [this, Nat.add_mul_mod_self_left]

theorem map_nodup {α β : Type} (f : α → β) : ∀ l : List α, l.Nodup → (∀ x ∈ l, ∀ y ∈ l, f x = f y → x = y) → (l.map f).Nodup
  | [], _, _ => by simp
  | a :: l, hn, hf => by
    rw [List.nodup_cons] at hn
    rw [List.map_cons, List.nodup_cons]
    refine ⟨fun hm => ?_, map_nodup f l hn.2 fun x hx y hy => hf x (by simp [hx]) y (by simp [hy])⟩
    obtain ⟨b, hb, he⟩ := List.mem_map.1 hm
    have := hf b (by simp [hb]) a (by simp) he
    exact hn.1 (this ▸ hb)

theorem range_nodup : ∀ n, (List.range n).Nodup
  | 0 => by simp
  | n + 1 => by
    rw [List.range_succ, List.nodup_append]
    refine ⟨range_nodup n, by simp, ?_⟩
    intro a ha b hb
    simp at ha hb
    omega

/-- Fermat's little theorem. -/
theorem fermat {r a : Nat} (h : Prim r) (ha : ¬ r ∣ a) : a ^ (r - 1) % r = 1 := by
  have h2 := h.1
  have hmem : ∀ x, x ∈ (List.range (r - 1)).map (· + 1) ↔ 1 ≤ x ∧ x < r := by
    intro x
    simp only [List.mem_map, List.mem_range]
    constructor
    · rintro ⟨y, hy, rfl⟩; omega
    · intro hx; exact ⟨x - 1, by omega, by omega⟩
  have hnd : ((List.range (r - 1)).map (· + 1)).Nodup := map_nodup _ _ (range_nodup _) (by intro x _ y _ e; omega)
  have hlen : ((List.range (r - 1)).map (· + 1)).length = r - 1 := by simp
  generalize (List.range (r - 1)).map (· + 1) = l at hmem hnd hlen
  have hnot : ∀ x ∈ l, ¬ r ∣ x := fun x hx hd => by
    have h1 := (hmem x).1 hx
    have := Nat.le_of_dvd (by omega) hd
    omega
  have hinj : ∀ x ∈ l, ∀ y ∈ l, a * x % r = a * y % r → x = y := by
    intro x hx y hy e
    have h3 := mod_cancel (h.coprime ha) e
    have h4 := (hmem x).1 hx
    have h5 := (hmem y).1 hy
    rwa [Nat.mod_eq_of_lt h4.2, Nat.mod_eq_of_lt h5.2] at h3
  have hperm : (l.map fun x => a * x % r).Perm l := perm_of_sub _ _ (map_nodup _ _ hnd hinj) (by
    intro x hx
    obtain ⟨y, hy, rfl⟩ := List.mem_map.1 hx
    rw [hmem]
    refine ⟨?_, Nat.mod_lt _ (by omega)⟩
    rcases Nat.eq_zero_or_pos (a * y % r) with h0 | h0
    · rcases h.dvd_mul (Nat.dvd_of_mod_eq_zero h0) with h6 | h6
      · exact absurd h6 ha
      · exact absurd h6 (hnot y hy)
    · exact h0) (by simp)
  have he := prodN_map_mod a r l
  rw [prodN_perm hperm, hlen] at he
  have hc := h.coprime (prodN_coprime h l hnot)
  have h7 : prodN l * 1 % r = prodN l * a ^ (r - 1) % r := by rw [Nat.mul_one, he, Nat.mul_comm]
  have h8 := mod_cancel hc h7
  rw [← h8, Nat.mod_eq_of_lt (by omega)]

/-! ### Powers, reckoned -/

/-- a to the power of e modulo m, e below 2^f. -/
def pwm (m : Nat) : Nat → Nat → Nat → Nat
  | 0, _, _ => 1 % m
  | f + 1, a, e => if e % 2 = 1 then pwm m f (a * a % m) (e / 2) * a % m else pwm m f (a * a % m) (e / 2)

theorem pow_mod_left (a m e : Nat) : (a % m) ^ e % m = a ^ e % m := by rw [← Nat.pow_mod]

theorem pwm_eq (m : Nat) : ∀ f a e, e < 2 ^ f → pwm m f a e = a ^ e % m
  | 0, a, e, h => by
    have : e = 0 := by simpa using h
    subst this; rfl
  | f + 1, a, e, h => by
    have ih := pwm_eq m f (a * a % m) (e / 2) (by rw [Nat.pow_succ] at h; omega)
    have e1 : (a * a % m) ^ (e / 2) % m = a ^ (2 * (e / 2)) % m := by
      rw [pow_mod_left, ← Nat.pow_two, ← Nat.pow_mul]
    unfold pwm
    split
    · rename_i ho
      rw [ih, e1, Nat.mul_mod, Nat.mod_mod, ← Nat.mul_mod, ← Nat.pow_succ]
      congr 2
      omega
    · rename_i ho
      rw [ih, e1]
      congr 2
      omega

/-! ### Pocklington -/

theorem pow_gcd {r a : Nat} : ∀ (m n : Nat), a ^ m % r = 1 % r → a ^ n % r = 1 % r → a ^ (Nat.gcd m n) % r = 1 % r := by
  intro m n
  induction m, n using Nat.gcd.induction with
  | H0 n => intro _ h; simpa using h
  | H1 m n hm ih =>
    intro h1 h2
    rw [Nat.gcd_rec]
    refine ih ?_ h1
    have e := Nat.div_add_mod n m
    have h3 : a ^ n % r = a ^ (n % m) % r := by
      conv => lhs; rw [← e]
      rw [Nat.pow_add, Nat.pow_mul, Nat.mul_mod, Nat.pow_mod, h1, ← Nat.pow_mod, Nat.one_pow, ← Nat.mul_mod, Nat.one_mul]
    rw [← h3]; exact h2

/-- A number without a divisor up to its root is prime. -/
theorem prim_of_trial {n k : Nat} (h2 : 2 ≤ n) (hk : n < k * k) (h : ∀ d, 2 ≤ d → d < k → n % d ≠ 0) : Prim n := by
  refine ⟨h2, fun d hd => ?_⟩
  obtain ⟨e, he⟩ := hd
  have hd0 : d ≠ 0 := fun h0 => by subst h0; simp at he; omega
  have he0 : e ≠ 0 := fun h0 => by subst h0; simp at he; omega
  by_cases h1 : d = 1
  · exact .inl h1
  by_cases h3 : e = 1
  · subst h3; simp at he; exact .inr he.symm
  exfalso
  rcases Nat.lt_or_ge d k with hl | hl
  · exact h d (by omega) hl (by rw [he]; exact Nat.mul_mod_right d e)
  · rcases Nat.lt_or_ge e k with hl' | hl'
    · exact h e (by omega) hl' (by rw [he]; exact Nat.mul_mod_left d e)
    · have := Nat.mul_le_mul hl hl'
      omega

def trial (n k : Nat) : Bool := (List.range k).all fun d => decide (d < 2) || decide (n % d ≠ 0)

theorem prim_of_trialB {n k : Nat} (h2 : 2 ≤ n) (hk : n < k * k) (h : trial n k = true) : Prim n := by
  refine prim_of_trial h2 hk fun d h3 h4 => ?_
  unfold trial at h
  rw [List.all_eq_true] at h
  have := h d (by simpa using h4)
  simp at this
  rcases this with h5 | h5
  · omega
  · exact h5

/-- Each number but 1 has a prime divisor; one that is not prime has one whose square it is not below. -/
theorem exists_prim : ∀ n, 2 ≤ n → ∃ r, Prim r ∧ r ∣ n := by
  intro n
  induction n using Nat.strongRecOn with
  | ind n ih =>
    intro h2
    by_cases hp : Prim n
    · exact ⟨n, hp, Nat.dvd_refl n⟩
    · have : ∃ d, d ∣ n ∧ d ≠ 1 ∧ d ≠ n := by
        refine Classical.byContradiction fun hne => hp ⟨h2, fun d hd => ?_⟩
        by_cases h1 : d = 1
        · exact .inl h1
        · refine .inr (Classical.byContradiction fun h3 => hne ⟨d, hd, h1, h3⟩)
      obtain ⟨d, hd, h1, h3⟩ := this
      have hle := Nat.le_of_dvd (by omega) hd
      have hd0 : d ≠ 0 := fun h0 => by subst h0; have := Nat.eq_zero_of_zero_dvd hd; omega
      obtain ⟨r, hr, hrd⟩ := ih d (by omega) (by omega)
      exact ⟨r, hr, Nat.dvd_trans hrd hd⟩

theorem exists_small_prim {n : Nat} (h2 : 2 ≤ n) (hp : ¬ Prim n) : ∃ r, Prim r ∧ r ∣ n ∧ r * r ≤ n := by
  have : ∃ d, d ∣ n ∧ d ≠ 1 ∧ d ≠ n := by
    refine Classical.byContradiction fun hne => hp ⟨h2, fun d hd => ?_⟩
    by_cases h1 : d = 1
    · exact .inl h1
    · refine .inr (Classical.byContradiction fun h3 => hne ⟨d, hd, h1, h3⟩)
  obtain ⟨d, ⟨e, he⟩, h1, h3⟩ := this
  have hd0 : d ≠ 0 := fun h0 => by subst h0; simp at he; omega
  have he0 : e ≠ 0 := fun h0 => by subst h0; simp at he; omega
  have he1 : e ≠ 1 := fun h0 => by subst h0; simp at he; omega
  rcases Nat.le_total d e with hl | hl
  · obtain ⟨r, hr, hrd⟩ := exists_prim d (by omega)
    have h5 := Nat.le_of_dvd (by omega) hrd
    exact ⟨r, hr, Nat.dvd_trans hrd ⟨e, he⟩, by rw [he]; exact Nat.le_trans (Nat.mul_le_mul h5 h5) (Nat.mul_le_mul_left d hl)⟩
  · obtain ⟨r, hr, hrd⟩ := exists_prim e (by omega)
    have h5 := Nat.le_of_dvd (by omega) hrd
    exact ⟨r, hr, Nat.dvd_trans hrd ⟨d, by rw [he, Nat.mul_comm]⟩, by rw [he]; exact Nat.le_trans (Nat.mul_le_mul h5 h5) (Nat.mul_le_mul_right e hl)⟩

/-- One step of Pocklington's criterion: a prime divisor q of n - 1 divides r - 1 for each prime divisor r of n. -/
theorem pock_step {n a q m r u v : Nat} (hr : Prim r) (hrn : r ∣ n) (hn : n - 1 = q * m) (hq : Prim q)
    (h1 : a ^ (n - 1) % n = 1) (hn2 : 2 ≤ n) (hb : u * (a ^ m % n) = v * n + u + 1) : q ∣ r - 1 := by
  refine Classical.byContradiction fun hqr => ?_
  have hr2 := hr.1
  have e1 : a ^ (n - 1) % r = 1 % r := by
    rw [← Nat.mod_mod_of_dvd _ hrn, h1]
  have hra : ¬ r ∣ a := fun hd => by
    have h0 : a ^ (n - 1) % r = 0 := by
      rw [Nat.pow_mod, Nat.mod_eq_zero_of_dvd hd, Nat.zero_pow (by omega)]
      exact Nat.zero_mod r
    rw [h0, Nat.mod_eq_of_lt (by omega)] at e1
    omega
  have e2 : a ^ (r - 1) % r = 1 % r := by rw [fermat hr hra, Nat.mod_eq_of_lt (by omega)]
  have e3 := pow_gcd (n - 1) (r - 1) e1 e2
  have hg : ¬ q ∣ Nat.gcd (n - 1) (r - 1) := fun hd => hqr (Nat.dvd_trans hd (Nat.gcd_dvd_right _ _))
  have hgm : Nat.gcd (n - 1) (r - 1) ∣ m := by
    have h5 : Nat.gcd (n - 1) (r - 1) ∣ q * m := hn ▸ Nat.gcd_dvd_left _ _
    exact (hq.coprime hg).symm.dvd_of_dvd_mul_left h5
  obtain ⟨k, hk⟩ := hgm
  have e4 : a ^ m % r = 1 % r := by
    rw [hk, Nat.pow_mul, Nat.pow_mod, e3, ← Nat.pow_mod, Nat.one_pow]
  have e5 : a ^ m % n % r = 1 % r := by rw [Nat.mod_mod_of_dvd _ hrn]; exact e4
  have e6 : (u * (a ^ m % n)) % r = u % r := by
    rw [Nat.mul_mod, e5, ← Nat.mul_mod, Nat.mul_one]
  rw [hb] at e6
  obtain ⟨c, hc⟩ := hrn
  have e7 : (v * n + u + 1) % r = (u + 1) % r := by
    rw [hc, Nat.add_assoc, Nat.mul_left_comm, Nat.mul_add_mod]
  rw [e7] at e6
  have h9 : r ∣ (u + 1) - u := dvd_sub_of_mod e6 (by omega)
  have : (u + 1) - u = 1 := by omega
  rw [this] at h9
  have := Nat.le_of_dvd (by omega) h9
  omega

theorem prim_coprime {a b : Nat} (ha : Prim a) (hb : Prim b) (h : a ≠ b) : Nat.Coprime a b :=
  ha.coprime fun hd => by
    rcases hb.2 a hd with h1 | h1
    · have := ha.1; omega
    · exact h h1


/-- The prime 2^127 - 1. -/
def pp : Nat := 170141183460469231731687303715884105727

theorem pp_eq : pp = 2 ^ 127 - 1 := by decide +kernel

theorem prim_127 : Prim 127 := prim_of_trialB (k := 12) (by decide) (by decide) (by decide +kernel)
theorem prim_337 : Prim 337 := prim_of_trialB (k := 19) (by decide) (by decide) (by decide +kernel)
theorem prim_5419 : Prim 5419 := prim_of_trialB (k := 74) (by decide) (by decide) (by decide +kernel)
theorem prim_92737 : Prim 92737 := prim_of_trialB (k := 305) (by decide) (by decide) (by decide +kernel)
theorem prim_649657 : Prim 649657 := prim_of_trialB (k := 807) (by decide) (by decide) (by decide +kernel)

theorem pock_step' {n a q m r u v f : Nat} (hr : Prim r) (hrn : r ∣ n) (hn : n - 1 = q * m) (hq : Prim q)
    (hf : n - 1 < 2 ^ f) (h1 : pwm n f a (n - 1) = 1) (hn2 : 2 ≤ n) (hf' : m < 2 ^ f) (hb : u * pwm n f a m = v * n + u + 1) : q ∣ r - 1 := by
  rw [pwm_eq n f a _ hf] at h1
  rw [pwm_eq n f a _ hf'] at hb
  exact pock_step hr hrn hn hq h1 hn2 hb

theorem pw_one : pwm pp 127 3 (pp - 1) = 1 := by decide +kernel

theorem step_127 {r : Nat} (hr : Prim r) (hrn : r ∣ pp) : 127 ∣ r - 1 :=
  pock_step' (a := 3) (m := 1339694357956450643556592942644756738) (u := 5488341524916963360354409925121738817) (v := 39932940307458654281467970) (f := 127) hr hrn (by decide +kernel) prim_127 (by decide +kernel) pw_one (by decide +kernel) (by decide +kernel) (by decide +kernel)

theorem step_337 {r : Nat} (hr : Prim r) (hrn : r ∣ pp) : 337 ∣ r - 1 :=
  pock_step' (a := 3) (m := 504869980594864189114799120818647198) (u := 110103390783158745583792917372794424523) (v := 62033704596840948153927590324938010284) (f := 127) hr hrn (by decide +kernel) prim_337 (by decide +kernel) pw_one (by decide +kernel) (by decide +kernel) (by decide +kernel)

theorem step_5419 {r : Nat} (hr : Prim r) (hrn : r ∣ pp) : 5419 ∣ r - 1 :=
  pock_step' (a := 3) (m := 31397155095122574595255084649544954) (u := 98952394820600442919124564921781805327) (v := 15525926174423174310316065923586973392) (f := 127) hr hrn (by decide +kernel) prim_5419 (by decide +kernel) pw_one (by decide +kernel) (by decide +kernel) (by decide +kernel)

theorem step_92737 {r : Nat} (hr : Prim r) (hrn : r ∣ pp) : 92737 ∣ r - 1 :=
  pock_step' (a := 3) (m := 1834663440271620084019186556777598) (u := 141899323343967763829894105985566179829) (v := 125560792352922500195915453413722127026) (f := 127) hr hrn (by decide +kernel) prim_92737 (by decide +kernel) pw_one (by decide +kernel) (by decide +kernel) (by decide +kernel)

theorem step_649657 {r : Nat} (hr : Prim r) (hrn : r ∣ pp) : 649657 ∣ r - 1 :=
  pock_step' (a := 3) (m := 261893866240907481535159790036718) (u := 58521024311718766171606481931475363244) (v := 18369621317045171229242846163547228725) (f := 127) hr hrn (by decide +kernel) prim_649657 (by decide +kernel) pw_one (by decide +kernel) (by decide +kernel) (by decide +kernel)

theorem mul_dvd_num {a b c n : Nat} (hc : Nat.gcd a b = 1) (he : a * b = c) (ha : a ∣ n) (hb : b ∣ n) : c ∣ n :=
  he ▸ Nat.Coprime.mul_dvd_of_dvd_of_dvd hc ha hb

theorem big_square {r k n : Nat} (h : k ≤ r) (hk : n < k * k) (hr : r * r ≤ n) : False := by
  have := Nat.mul_le_mul h h
  exact absurd (Nat.lt_of_lt_of_le hk (Nat.le_trans this hr)) (Nat.lt_irrefl n)

/-- 2^127 - 1 is prime. -/
theorem prim_pp : Prim pp := by
  refine Classical.byContradiction fun hp => ?_
  obtain ⟨r, hr, hrn, hle⟩ := exists_small_prim (by decide +kernel : 2 ≤ pp) hp
  have h0 : 0 < r - 1 := Nat.sub_pos_of_lt hr.1
  have h1 := step_127 hr hrn
  have h2 := step_337 hr hrn
  have h3 := step_5419 hr hrn
  have h4 := step_92737 hr hrn
  have h5 := step_649657 hr hrn
  have c2 : 42799 ∣ r - 1 := mul_dvd_num (by decide +kernel) (by decide +kernel) h1 h2
  have c3 : 231927781 ∣ r - 1 := mul_dvd_num (by decide +kernel) (by decide +kernel) c2 h3
  have c4 : 21508286626597 ∣ r - 1 := mul_dvd_num (by decide +kernel) (by decide +kernel) c3 h4
  have c5 : 13973008964975127229 ∣ r - 1 := mul_dvd_num (by decide +kernel) (by decide +kernel) c4 h5
  exact big_square (Nat.le_trans (Nat.le_of_dvd h0 c5) (Nat.sub_le r 1)) (by decide +kernel) hle

end Go.FourQ
