/- Opposites; which elements are 0; signs. -/
import Derived.Test.YtfkfljohhabldaaDoorFp
namespace Go.Proofs.YtfkfljohhabldaaDoor
open Go.RowKit Go.FourQ

section
variable {w : World} {b1 b2 o1 o2 k1 k2 : Nat} {l1 l2 : List Nat} {x y : Nat}

theorem fpMod (hm : ModW w) (h1 : Fps w b1 l1) (e1 : o1 = 16 * k1) (i1 : l1[k1]? = some x) (hx : LowB x) :
    Calls Tryd.prog 96 #[.pointer (some ⟨b1, o1, none⟩)] w fun e w' => e = .returned (.tuple #[]) ∧ Upd w w' b1 (l1.set k1 (x % pp)) := by
  have HC := Lib.hid (fpModG hm h1 e1 i1 hx)
  clear hm h1 e1 i1 hx
  go_enter Tryd.func96, Tryd.ntmps96
  go_wp2_with fail
  refine HC.out.mono ?_
  rintro e w' ⟨rfl, u⟩
  go_wp2_with fail
  go_end0
  exact ⟨rfl, u⟩

set_option maxRecDepth 100000 in
set_option maxHeartbeats 400000 in
theorem fpNeg (hm : ModW w) (h1 : Fps w b1 l1) (h2 : Fps w b2 l2) (e1 : o1 = 16 * k1) (e2 : o2 = 16 * k2) (i1 : k1 < l1.length) (i2 : l2[k2]? = some x) (hx : LowB x) :
    Calls Tryd.prog 93 #[.pointer (some ⟨b1, o1, none⟩), .pointer (some ⟨b2, o2, none⟩)] w fun e w' => e = .returned (.tuple #[]) ∧ Upd w w' b1 (l1.set k1 (subN pp x)) := by
  obtain ⟨T, fr, hT⟩ := hm
  have HT := Lib.hid hT
  have E1 := Lib.hid e1; have E2 := Lib.hid e2; have I1 := Lib.hid i1; have I2 := Lib.hid i2; have HX := Lib.hid hx
  clear e1 e2 i1 i2 hx hT
  go_enter Tryd.func93, Tryd.ntmps93
  go_wp2_with (first | (refine wpList_load_row rfl 73 _ rfl 4 rfl T _ fr _ HT.out Tryd.underlying73 rfl (by kernel_rfl) ?_) | (refine wpList_store_row rfl 73 _ _ rfl _ (fpC pp) rfl rfl _ _ (heap_alloc_new _ _) (by kernel_rfl) rfl (all_fpC _) ?_; rw [setRow_alloc_new]) | fail)
  have n := Fps.new w [pp] (fpC pp) 73 _ rfl (fps_one pp).symm
  refine (fpSub (h1.alloc _) n (h2.alloc _) E1.out (k2 := 0) rfl E2.out I1.out rfl I2.out low_pp HX.out).mono ?_
  rintro e w' ⟨rfl, u⟩
  go_wp2_with fail
  go_end0
  exact ⟨rfl, Upd.ahead ((Below.refl _ _).alloc (Nat.le_refl _) _) u⟩

/-- crypto/internal/constanttime.boolToUint8. -/
theorem boolU8 (b : Bool) (w : World) : (callFunc 149 #[.bool b]).run Tryd.prog w = .ok (.value (.int .u8 (if b then 1 else 0))) w := by
  cases b <;> kernel_rfl

/-- 1 of 0, and 0 of any other number. -/
def isz (v : Nat) : Int := if v = 0 then 1 else 0
theorem isz_pos {v : Nat} (h : v = 0) : isz v = 1 := if_pos h
theorem isz_neg {v : Nat} (h : v ≠ 0) : isz v = 0 := if_neg h

theorem ctByteEq0 (v : Nat) (w : World) :
    Calls Tryd.prog 132 #[.int .u8 v, .int .u8 0] w fun e w' => e = .returned (.int .i64 (isz v)) ∧ w = w' := by
  have c1 := boolU8 true
  have c2 := boolU8 false
  simp only [if_true, Bool.false_eq_true, if_false] at c1 c2
  by_cases h : v = 0
  · rw [isz_pos h]
    subst h
    go_enter Tryd.func132, Tryd.ntmps132
    go_wp2
    go_ret
    exact ⟨rfl, rfl⟩
  · have h' : ((v : Int) == 0) = false := by simp; exact h
    rw [isz_neg h]
    clear h
    go_enter Tryd.func132, Tryd.ntmps132
    go_wp2
    go_ret
    exact ⟨rfl, rfl⟩

theorem or_u8 (n b : Nat) (hn : n < 256) (hb : b < 256) : ∃ m : Nat, m < 256 ∧ (m = 0 ↔ n = 0 ∧ b = 0) ∧ bits .or .u8 (n : Int) (b : Int) = (m : Int) := by
  refine ⟨n ||| b, Nat.or_lt_two_pow (n := 8) hn hb, Nat.or_eq_zero_iff, ?_⟩
  exact (bits_nat .u8 8 (by decide) wraps_u8 n b hn hb).2

theorem mod_step (z k : Nat) : z % 256 ^ (k + 1) = 0 ↔ z % 256 ^ k = 0 ∧ z / 256 ^ k % 256 = 0 := by
  rw [Nat.pow_succ, Nat.mod_mul]
  constructor
  · intro h
    have h1 : z % 256 ^ k = 0 := by omega
    have h2 : 256 ^ k * (z / 256 ^ k % 256) = 0 := by omega
    rcases Nat.mul_eq_zero.1 h2 with h3 | h3
    · exact absurd h3 (Nat.ne_of_gt (Nat.pow_pos (by decide)))
    · exact ⟨h1, h3⟩
  · rintro ⟨h1, h2⟩
    rw [h1, h2, Nat.mul_zero]

set_option maxRecDepth 100000 in
set_option maxHeartbeats 1000000 in
theorem isZeroCT (hm : ModW w) (h1 : Fps w b1 l1) (e1 : o1 = 16 * k1) (i1 : l1[k1]? = some x) (hx : LowB x) :
    Calls Tryd.prog 107 #[.pointer (some ⟨b1, o1, none⟩)] w fun e w' => e = .returned (.int .i64 (isz (x % pp))) ∧ Upd w w' b1 (l1.set k1 (x % pp)) := by
  have HC := Lib.hid (fpMod hm h1 e1 i1 hx)
  have E1 := Lib.hid e1; have I1 := Lib.hid (List.getElem?_eq_some_iff.1 i1).1
  have hz : x % pp < 256 ^ 16 := Nat.lt_of_lt_of_le (Nat.mod_lt _ (by decide +kernel)) (by decide +kernel)
  generalize x % pp = z at *
  have HZ := Lib.hid hz
  clear hm h1 e1 i1 hx hz
  go_enter Tryd.func107, Tryd.ntmps107
  go_wp2_with fail
  refine HC.out.mono ?_
  rintro e w' ⟨rfl, u⟩
  clear HC
  have hc : ∀ i, i < 16 → w'.cell? ⟨b1, o1 + i, none⟩ = some (byteV z i) := fun i hi => u.blk.cell (List.getElem?_set_self I1.out) E1.out i hi
  have HU := Lib.hid u
  have HCC := Lib.hid hc
  clear u hc
  go_wp2_with fail
  go_loop [3, 7] (fun v i => ∃ k n : Nat, k ≤ 16 ∧ i = .int .i64 k ∧ n < 256 ∧ v = .int .u8 n ∧ Hid (n = 0 ↔ z % 256 ^ k = 0)) (fun _ i => 16 - (intOf i).toNat)
  case atStart => exact ⟨0, 0, Nat.zero_le _, rfl, by decide, rfl, ⟨fun _ => by rw [Nat.pow_zero, Nat.mod_one], fun _ => rfl⟩⟩
  case round =>
    obtain ⟨k, n, hk, rfl, hn, rfl, hr⟩ := hrel
    by_cases hlt : k < 16
    · have hb : z / 256 ^ k % 256 < 256 := Nat.mod_lt _ (by decide)
      have hs := mod_step z k
      have hcell := HCC.out k hlt
      unfold byteV at hcell
      generalize z / 256 ^ k % 256 = b at *
      obtain ⟨m, hm, hiff, hor⟩ := or_u8 n b hn hb
      have HS := Lib.hid (show m = 0 ↔ z % 256 ^ (k + 1) = 0 from hiff.trans ((and_congr_left fun _ => hr).trans hs.symm))
      clear hs hiff hr
      go_wp2
      go_round
      case rel => exact ⟨k + 1, m, by omega, by go_num, hm, rfl, HS⟩
      case measure => simp [intOf]; omega
    · have hk16 : k = 16 := by omega
      subst hk16
      go_wp2_with fail
      refine (ctByteEq0 n _).mono ?_
      rintro e w2 ⟨rfl, rfl⟩
      go_wp2_with fail
      go_ret
      have e : isz n = isz z := by
        have h2 := hr.out
        rw [Nat.mod_eq_of_lt HZ.out] at h2
        unfold isz
        by_cases hn0 : n = 0
        · rw [if_pos hn0, if_pos (h2.1 hn0)]
        · rw [if_neg hn0, if_neg (fun q => hn0 (h2.2 q))]
      rw [e]
      exact ⟨rfl, HU.out⟩

theorem isZero (hm : ModW w) (h1 : Fps w b1 l1) (e1 : o1 = 16 * k1) (i1 : l1[k1]? = some x) (hx : LowB x) :
    Calls Tryd.prog 125 #[.pointer (some ⟨b1, o1, none⟩)] w fun e w' => e = .returned (.bool (isz (x % pp) == 1)) ∧ Upd w w' b1 (l1.set k1 (x % pp)) := by
  have HC := Lib.hid (isZeroCT hm h1 e1 i1 hx)
  clear hm h1 e1 i1 hx
  go_enter Tryd.func125, Tryd.ntmps125
  go_wp2_with fail
  refine HC.out.mono ?_
  rintro e w' ⟨rfl, u⟩
  go_wp2_with fail
  go_ret
  exact ⟨rfl, u⟩

end
end Go.Proofs.YtfkfljohhabldaaDoor
