/- SHA-256 in plain words, over the model's own operations on 32 bits: the schedule as a growing list, the rounds, blocks. -/
import Derived.Laws.Entries
import Derived.Laws.BitsLemmas
namespace Go.Sha
def wA (a b : Int) : Int := IntKind.u32.wrap (a + b)
def wX (a b : Int) : Int := bits .xor .u32 a b
def wN (a b : Int) : Int := bits .and .u32 a b
def wO (a b : Int) : Int := bits .or .u32 a b
def wC (a : Int) : Int := bits .xor .u32 4294967295 a
def wL (a : Int) (n : Nat) : Int := IntKind.u32.wrap (a * 2 ^ n)
def wR (a : Int) (n : Nat) : Int := a / 2 ^ n
def ror (a : Int) (n : Nat) : Int := wO (wR a n) (wL a (32 - n))
def w8 (a : Int) : Int := IntKind.u32.wrap a
theorem wO_comm (a b : Int) : wO a b = wO b a := by unfold wO; simp only [bits, BitVec.or_comm]
theorem wA_assoc (a b c : Int) : wA (wA a b) c = wA a (wA b c) := by unfold wA; simp only [IntKind.wrap_u32]; omega
/-- Word n of a block's bytes. -/
def word (B : List Int) (n : Nat) : Int := wO (wO (wO (wL (w8 (B.getD (4 * n) 0)) 24) (wL (w8 (B.getD (4 * n + 1) 0)) 16)) (wL (w8 (B.getD (4 * n + 2) 0)) 8)) (w8 (B.getD (4 * n + 3) 0))
def sg0 (x : Int) : Int := wX (wX (ror x 7) (ror x 18)) (wR x 3)
def sg1 (x : Int) : Int := wX (wX (ror x 17) (ror x 19)) (wR x 10)
def nxt (B l : List Int) (t : Nat) : Int := if t < 16 then word B t else wA (wA (wA (sg1 (l.getD (t - 2) 0)) (l.getD (t - 7) 0)) (sg0 (l.getD (t - 15) 0))) (l.getD (t - 16) 0)
def sched (B : List Int) : Nat → List Int
  | 0 => []
  | t + 1 => sched B t ++ [nxt B (sched B t) t]
def wd (B : List Int) (t : Nat) : Int := nxt B (sched B t) t
theorem sched_length (B : List Int) (t : Nat) : (sched B t).length = t := by
  induction t with
  | zero => rfl
  | succ t ih => rw [sched, List.length_append, ih]; rfl
theorem sched_get (B : List Int) {t n : Nat} (h : t < n) : (sched B n)[t]? = some (wd B t) := by
  induction n with
  | zero => omega
  | succ n ih =>
    rw [sched]
    by_cases e : t < n
    · rw [List.getElem?_append_left (by rw [sched_length]; exact e)]; exact ih e
    · obtain rfl : t = n := by omega
      rw [List.getElem?_append_right (by rw [sched_length]; exact Nat.le_refl _), sched_length, Nat.sub_self]; rfl
/-- The schedule's cells when t words of it are there. -/
def wl (B : List Int) (t : Nat) : List Int := sched B t ++ List.replicate (64 - t) 0
theorem wl_length (B : List Int) {t : Nat} (h : t ≤ 64) : (wl B t).length = 64 := by unfold wl; rw [List.length_append, sched_length, List.length_replicate]; omega
theorem wl_get (B : List Int) {t n : Nat} (h : t < n) : (wl B n)[t]? = some (wd B t) := by
  unfold wl
  rw [List.getElem?_append_left (by rw [sched_length]; exact h), sched_get B h]
theorem wl_zero (B : List Int) : wl B 0 = List.replicate 64 0 := rfl
theorem wl_set (B : List Int) {t : Nat} (h : t < 64) : (wl B t).set t (wd B t) = wl B (t + 1) := by
  unfold wl
  rw [List.set_append_right _ _ (by rw [sched_length]; exact Nat.le_refl _), sched_length, Nat.sub_self, show 64 - t = (64 - (t + 1)) + 1 by omega, List.replicate_succ, List.set_cons_zero, sched, List.append_assoc]; rfl
theorem wd_lo (B : List Int) {t : Nat} (h : t < 16) : wd B t = word B t := by unfold wd nxt; rw [if_pos h]
theorem wd_hi (B : List Int) {t : Nat} (h : 16 ≤ t) : wd B t = wA (wA (wA (sg1 (wd B (t - 2))) (wd B (t - 7))) (sg0 (wd B (t - 15)))) (wd B (t - 16)) := by
  have g : ∀ j, j < t → (sched B t).getD j 0 = wd B j := fun j hj => by rw [List.getD_eq_getElem?_getD, sched_get B hj]; rfl
  conv => lhs; unfold wd nxt
  rw [if_neg (by omega), g _ (by omega), g _ (by omega), g _ (by omega), g _ (by omega)]
/-- The constants. -/
def kc : List Int := [0x428a2f98, 0x71374491, 0xb5c0fbcf, 0xe9b5dba5, 0x3956c25b, 0x59f111f1, 0x923f82a4, 0xab1c5ed5, 0xd807aa98, 0x12835b01, 0x243185be, 0x550c7dc3, 0x72be5d74, 0x80deb1fe, 0x9bdc06a7, 0xc19bf174, 0xe49b69c1, 0xefbe4786, 0x0fc19dc6, 0x240ca1cc, 0x2de92c6f, 0x4a7484aa, 0x5cb0a9dc, 0x76f988da, 0x983e5152, 0xa831c66d, 0xb00327c8, 0xbf597fc7, 0xc6e00bf3, 0xd5a79147, 0x06ca6351, 0x14292967, 0x27b70a85, 0x2e1b2138, 0x4d2c6dfc, 0x53380d13, 0x650a7354, 0x766a0abb, 0x81c2c92e, 0x92722c85, 0xa2bfe8a1, 0xa81a664b, 0xc24b8b70, 0xc76c51a3, 0xd192e819, 0xd6990624, 0xf40e3585, 0x106aa070, 0x19a4c116, 0x1e376c08, 0x2748774c, 0x34b0bcb5, 0x391c0cb3, 0x4ed8aa4a, 0x5b9cca4f, 0x682e6ff3, 0x748f82ee, 0x78a5636f, 0x84c87814, 0x8cc70208, 0x90befffa, 0xa4506ceb, 0xbef9a3f7, 0xc67178f2]
def kk (t : Nat) : Int := kc.getD t 0
theorem kc_get {t : Nat} (h : t < 64) : kc[t]? = some (kk t) := by
  unfold kk
  rw [List.getD_eq_getElem?_getD, List.getElem?_eq_getElem (show t < kc.length from h)]; rfl
/-- Eight words. -/
structure St where
  a : Int
  b : Int
  c : Int
  d : Int
  e : Int
  f : Int
  g : Int
  h : Int
def St.list (s : St) : List Int := [s.a, s.b, s.c, s.d, s.e, s.f, s.g, s.h]
def S1 (x : Int) : Int := wX (wX (ror x 6) (ror x 11)) (ror x 25)
def S0 (x : Int) : Int := wX (wX (ror x 2) (ror x 13)) (ror x 22)
def ch (e f g : Int) : Int := wX (wN e f) (wN (wC e) g)
def maj (a b c : Int) : Int := wX (wX (wN a b) (wN a c)) (wN b c)
def t1 (s : St) (k w : Int) : Int := wA (wA (wA (wA s.h (S1 s.e)) (ch s.e s.f s.g)) k) w
def t2 (s : St) : Int := wA (S0 s.a) (maj s.a s.b s.c)
def rnd (s : St) (k w : Int) : St := ⟨wA (t1 s k w) (t2 s), s.a, s.b, s.c, wA s.d (t1 s k w), s.e, s.f, s.g⟩
theorem rnd_a (s : St) (k w : Int) : wA (wA (t1 s k w) (S0 s.a)) (maj s.a s.b s.c) = wA (t1 s k w) (t2 s) := wA_assoc _ _ _
def rs (B : List Int) (s : St) : Nat → St
  | 0 => s
  | t + 1 => rnd (rs B s t) (kk t) (wd B t)
def sum8 (s v : St) : St := ⟨wA s.a v.a, wA s.b v.b, wA s.c v.c, wA s.d v.d, wA s.e v.e, wA s.f v.f, wA s.g v.g, wA s.h v.h⟩
/-- A block is taken in. -/
def comp (s : St) (B : List Int) : St := sum8 s (rs B s 64)
def blk (l : List Int) (k : Nat) : List Int := (l.drop (64 * k)).take 64
/-- The first k blocks are taken in. -/
def cs (s : St) (l : List Int) : Nat → St
  | 0 => s
  | k + 1 => comp (cs s l k) (blk l k)
theorem blk_get {l : List Int} {k j : Nat} (hj : j < 64) : (blk l k).getD j 0 = l.getD (64 * k + j) 0 := by
  unfold blk
  rw [List.getD_eq_getElem?_getD, List.getD_eq_getElem?_getD, List.getElem?_take_of_lt hj, List.getElem?_drop]
theorem blk_left {l m : List Int} {k : Nat} (h : 64 * (k + 1) ≤ l.length) : blk (l ++ m) k = blk l k := by
  unfold blk
  rw [List.drop_append_of_le_length (by omega), List.take_append_of_le_length (by rw [List.length_drop]; omega)]
theorem cs_left {s : St} {l m : List Int} {k : Nat} (h : 64 * k ≤ l.length) : cs s (l ++ m) k = cs s l k := by
  induction k with
  | zero => rfl
  | succ k ih => rw [cs, cs, ih (by omega), blk_left h]
theorem cs_take {s : St} {l : List Int} {k n : Nat} (h : 64 * k ≤ n) (hn : n ≤ l.length) : cs s (l.take n) k = cs s l k := by
  conv => rhs; rw [← List.take_append_drop n l]
  rw [cs_left (by rw [List.length_take]; omega)]
theorem cs_add {s : St} {l : List Int} {k j : Nat} : cs (cs s l k) (l.drop (64 * k)) j = cs s l (k + j) := by
  induction j with
  | zero => rfl
  | succ j ih =>
    rw [cs, ih, show k + (j + 1) = (k + j) + 1 from rfl, cs]
    unfold blk
    rw [List.drop_drop, show 64 * k + 64 * j = 64 * (k + j) by omega]
def H0 : St := ⟨0x6A09E667, 0xBB67AE85, 0x3C6EF372, 0xA54FF53A, 0x510E527F, 0x9B05688C, 0x1F83D9AB, 0x5BE0CD19⟩
/-- What fills up to whole blocks: 0x80, zeros, the number of bits in 8 bytes. -/
def zs (n : Nat) : Nat := if n % 64 < 56 then 55 - n % 64 else 119 - n % 64
def bt (n i : Nat) : Int := IntKind.u8.wrap (((8 * n : Nat) : Int) / 2 ^ (56 - 8 * i))
def bits8 (n : Nat) : List Int := (List.range 8).map (bt n)
def pad (n : Nat) : List Int := 128 :: (List.replicate (zs n) 0 ++ bits8 n)
theorem pad_length (n : Nat) : (pad n).length = zs n + 9 := by simp [pad, bits8]
theorem zs_mod (n : Nat) : (n + 1 + zs n) % 64 = 56 := by unfold zs; split <;> omega
/-- Bytes of eight words. -/
def by4 (x : Int) : List Int := [IntKind.u8.wrap (wR x 24), IntKind.u8.wrap (wR x 16), IntKind.u8.wrap (wR x 8), IntKind.u8.wrap x]
def out32 (s : St) : List Int := by4 s.a ++ by4 s.b ++ by4 s.c ++ by4 s.d ++ by4 s.e ++ by4 s.f ++ by4 s.g ++ by4 s.h
def sha (l : List Int) : List Int := out32 (cs H0 (l ++ pad l.length) ((l.length + (zs l.length + 9)) / 64))
end Go.Sha
