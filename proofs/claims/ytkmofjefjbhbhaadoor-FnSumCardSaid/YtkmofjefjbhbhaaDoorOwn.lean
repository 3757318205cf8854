/- The package's own hash in plain words. -/
import Derived.Test.YtkmofjefjbhbhaaDoorSha
namespace Go.Sha
def b8 (a : Int) : Int := IntKind.u8.wrap a
/-- A byte is taken in at place n. -/
def own1 (size : Nat) (st : List Int) (n : Nat) (b : Int) : List Int :=
  let v := b8 (b8 (b8 (31 * st.getD (n % size) 0) + b) + b8 n)
  let s1 := st.set (n % size) v
  s1.set ((n + 1) % size) (bits .xor .u8 (s1.getD ((n + 1) % size) 0) (s1.getD (n % size) 0))
def own (size : Nat) (l : List Int) : Nat → List Int
  | 0 => (List.range size).map fun i : Nat => b8 (i : Int)
  | n + 1 => own1 size (own size l n) n (l.getD n 0)
theorem own1_length (size : Nat) (st : List Int) (n : Nat) (b : Int) : (own1 size st n b).length = st.length := by
  unfold own1; rw [List.length_set, List.length_set]
theorem own_length (size : Nat) (l : List Int) (n : Nat) : (own size l n).length = size := by
  induction n with
  | zero => rw [own, List.length_map, List.length_range]
  | succ n ih => rw [own, own1_length, ih]
/-- The hash. -/
def ownH (size : Nat) (l : List Int) : List Int := (own size l l.length).map fun x => b8 (x + b8 (l.length : Int))
/-- Both sizes. -/
def size2 (k s b : Int) : Nat × Nat := if k = 1 then (32, 64) else if s < 1 ∨ 16 < s ∨ b < s ∨ 32 < b then (1, 16) else (s.toNat, b.toNat)
def hashL (k s b : Int) (l : List Int) : List Int := if k = 1 then sha l else ownH (size2 k s b).1 l
end Go.Sha
