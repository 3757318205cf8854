/- The square field's conditional move, zero test and sign, in memory and over values. Elements below 2^127; modulusP holds the prime. -/
import Derived.Test.YtfkfljohhabldaaDoorCt
namespace Go.FourQ
open Go.RowKit in
/-- A block whose elements stay. -/
theorem At.keepSame {w w' : World} {b b1 o : Nat} {x : Zp} {L1 : List Zp} (h : At w b o x) (f : FpsZ w b1 L1) (u : UpdZ w w' b1 L1) : At w' b o x := by
  by_cases hb : b = b1
  · subst hb
    obtain ⟨L, k, g, e, hk⟩ := h
    exact ⟨L1, k, u.blk, e, g.uniq f hk⟩
  · exact h.upd u hb
theorem len_sets {L : List Zp} {k : Nat} (h : k + 1 < L.length) : k < L.length := Nat.lt_of_succ_lt h
end Go.FourQ
namespace Go.Proofs.YtfkfljohhabldaaDoor
open Go.RowKit Go.FourQ

theorem isz_dec (x : Zp) : (isz x.val == 1) = decide (x = 0) := by
  by_cases h : x = 0
  · subst h; rfl
  · have h' : x.val ≠ 0 := fun e => h (Zp.ext e)
    rw [isz_neg h', decide_eq_false h]; rfl

/-- The sign of a pair. -/
def sgnQ (x0 x1 : Zp) : Int := if x0.val = 0 then sgnN x1.val else sgnN x0.val

section
variable {w : World} {b1 b2 o1 o2 k1 : Nat} {L1 : List Zp} {x0 x1 : Zp}

set_option maxRecDepth 100000 in
set_option maxHeartbeats 1000000 in
theorem fqCmov1 (h1 : FpsZ w b1 L1) (hA : AtQ w b2 o2 x0 x1) (e1 : o1 = 16 * k1) (i1 : k1 + 1 < L1.length) (d0 : b2 ≠ b1 ∨ o2 ≠ o1) (d1 : b2 ≠ b1 ∨ o2 + 16 ≠ o1) (d2 : b2 ≠ b1 ∨ o2 + 16 ≠ o1 + 16) :
    Calls Tryd.prog 110 #[.pointer (some ⟨b1, o1, none⟩), .pointer (some ⟨b2, o2, none⟩), .int .i64 1] w fun e w' => e = .returned (.tuple #[]) ∧ UpdZ w w' b1 ((L1.set k1 x0).set (k1 + 1) x1) := by
  have E1 := Lib.hid e1
  clear e1
  go_enter Tryd.func110, Tryd.ntmps110
  go_upto_region 0 with (fail)
  refine wp_region_atS (opsAt Tryd.f110 0) ((true, 0) :: (true, 1) :: (true, 2) :: (true, 3) :: (true, 4) :: (true, 5) :: (true, 6) :: (true, 7) :: (true, 8) :: (false, 9) :: []) (fun _ => True) (by kernel_rfl) rfl (by kernel_rfl) (fun _ _ d _ _ h => by cases d <;> exact h) (by kernel_rfl) (by kernel_rfl) trivial ?_
  refine k_pure (by kernel_rfl) (d := (some 6)) (by kernel_rfl) (v := .int .i64 1) (fun _ => by kernel_rfl) ?_
  refine k_pure (by kernel_rfl) (d := (some 7)) (by kernel_rfl) (v := .pointer (some ⟨b1, o1, none⟩)) (fun _ => by kernel_rfl) ?_
  refine k_pure (by kernel_rfl) (d := (some 8)) (by kernel_rfl) (v := .pointer (some ⟨b1, o1, none⟩)) (fun _ => by kernel_rfl) ?_
  refine k_pure (by kernel_rfl) (d := (some 9)) (by kernel_rfl) (v := .pointer (some ⟨b1, o1, none⟩)) (fun _ => by kernel_rfl) ?_
  refine k_pure (by kernel_rfl) (d := (some 10)) (by kernel_rfl) (v := .slice (some ⟨b1, o1, none⟩) 16 16) (fun _ => by kernel_rfl) ?_
  refine k_pure (by kernel_rfl) (d := (some 11)) (by kernel_rfl) (v := .pointer (some ⟨b2, o2, none⟩)) (fun _ => by kernel_rfl) ?_
  refine k_pure (by kernel_rfl) (d := (some 12)) (by kernel_rfl) (v := .pointer (some ⟨b2, o2, none⟩)) (fun _ => by kernel_rfl) ?_
  refine k_pure (by kernel_rfl) (d := (some 13)) (by kernel_rfl) (v := .pointer (some ⟨b2, o2, none⟩)) (fun _ => by kernel_rfl) ?_
  refine k_pure (by kernel_rfl) (d := (some 14)) (by kernel_rfl) (v := .slice (some ⟨b2, o2, none⟩) 16 16) (fun _ => by kernel_rfl) ?_
  refine k_callR (by kernel_rfl) (d := (some 15)) (by kernel_rfl) (f := 106) (args := #[.int .i64 1, .slice (some ⟨b1, o1, none⟩) 16 16, .slice (some ⟨b2, o2, none⟩) 16 16]) (fun _ => by kernel_rfl) (ctZ1 h1.drew hA.fst.drew E1.out (len_sets i1) d0) (fun _ w1 q1 => ⟨.tuple #[], q1.1, trivial, ?_⟩)
  have u1 := q1.2.ofDrew
  clear q1
  refine k_end ?_
  go_simp
  go_upto_region 1 with (fail)
  refine wp_region_atS (opsAt Tryd.f110 1) ((true, 0) :: (true, 1) :: (true, 2) :: (true, 3) :: (true, 4) :: (true, 5) :: (true, 6) :: (true, 7) :: (true, 8) :: (false, 9) :: []) (fun _ => True) (by kernel_rfl) rfl (by kernel_rfl) (fun _ _ d _ _ h => by cases d <;> exact h) (by kernel_rfl) (by kernel_rfl) trivial ?_
  refine k_pure (by kernel_rfl) (d := (some 16)) (by kernel_rfl) (v := .int .i64 1) (fun _ => by kernel_rfl) ?_
  refine k_pure (by kernel_rfl) (d := (some 17)) (by kernel_rfl) (v := .pointer (some ⟨b1, o1, none⟩)) (fun _ => by kernel_rfl) ?_
  refine k_pure (by kernel_rfl) (d := (some 18)) (by kernel_rfl) (v := .pointer (some ⟨b1, o1, none⟩)) (fun _ => by kernel_rfl) ?_
  refine k_pure (by kernel_rfl) (d := (some 19)) (by kernel_rfl) (v := .pointer (some ⟨b1, o1 + 16, none⟩)) (fun _ => by kernel_rfl) ?_
  refine k_pure (by kernel_rfl) (d := (some 20)) (by kernel_rfl) (v := .slice (some ⟨b1, o1 + 16, none⟩) 16 16) (fun _ => by kernel_rfl) ?_
  refine k_pure (by kernel_rfl) (d := (some 21)) (by kernel_rfl) (v := .pointer (some ⟨b2, o2, none⟩)) (fun _ => by kernel_rfl) ?_
  refine k_pure (by kernel_rfl) (d := (some 22)) (by kernel_rfl) (v := .pointer (some ⟨b2, o2, none⟩)) (fun _ => by kernel_rfl) ?_
  refine k_pure (by kernel_rfl) (d := (some 23)) (by kernel_rfl) (v := .pointer (some ⟨b2, o2 + 16, none⟩)) (fun _ => by kernel_rfl) ?_
  refine k_pure (by kernel_rfl) (d := (some 24)) (by kernel_rfl) (v := .slice (some ⟨b2, o2 + 16, none⟩) 16 16) (fun _ => by kernel_rfl) ?_
  refine k_callR (by kernel_rfl) (d := (some 25)) (by kernel_rfl) (f := 106) (args := #[.int .i64 1, .slice (some ⟨b1, o1 + 16, none⟩) 16 16, .slice (some ⟨b2, o2 + 16, none⟩) 16 16]) (fun _ => by kernel_rfl) (ctZ1 u1.blk.drew (hA.snd.set h1 E1.out u1 d1).drew (e16 E1.out) (len_set i1) d2) (fun _ w2 q2 => ⟨.tuple #[], q2.1, trivial, ?_⟩)
  have u2 := q2.2.ofDrew
  clear q2
  refine k_end ?_
  go_simp
  go_wp2_with fail
  go_end0
  exact ⟨rfl, u1.trans u2⟩

set_option maxRecDepth 100000 in
set_option maxHeartbeats 1000000 in
theorem fqCmov0 (h1 : FpsZ w b1 L1) (hA : AtQ w b2 o2 x0 x1) (e1 : o1 = 16 * k1) (i1 : k1 + 1 < L1.length) (d0 : b2 ≠ b1 ∨ o2 ≠ o1) (d2 : b2 ≠ b1 ∨ o2 + 16 ≠ o1 + 16) :
    Calls Tryd.prog 110 #[.pointer (some ⟨b1, o1, none⟩), .pointer (some ⟨b2, o2, none⟩), .int .i64 0] w fun e w' => e = .returned (.tuple #[]) ∧ UpdZ w w' b1 L1 := by
  have E1 := Lib.hid e1
  clear e1
  go_enter Tryd.func110, Tryd.ntmps110
  go_upto_region 0 with (fail)
  refine wp_region_atS (opsAt Tryd.f110 0) ((true, 0) :: (true, 1) :: (true, 2) :: (true, 3) :: (true, 4) :: (true, 5) :: (true, 6) :: (true, 7) :: (true, 8) :: (false, 9) :: []) (fun _ => True) (by kernel_rfl) rfl (by kernel_rfl) (fun _ _ d _ _ h => by cases d <;> exact h) (by kernel_rfl) (by kernel_rfl) trivial ?_
  refine k_pure (by kernel_rfl) (d := (some 6)) (by kernel_rfl) (v := .int .i64 0) (fun _ => by kernel_rfl) ?_
  refine k_pure (by kernel_rfl) (d := (some 7)) (by kernel_rfl) (v := .pointer (some ⟨b1, o1, none⟩)) (fun _ => by kernel_rfl) ?_
  refine k_pure (by kernel_rfl) (d := (some 8)) (by kernel_rfl) (v := .pointer (some ⟨b1, o1, none⟩)) (fun _ => by kernel_rfl) ?_
  refine k_pure (by kernel_rfl) (d := (some 9)) (by kernel_rfl) (v := .pointer (some ⟨b1, o1, none⟩)) (fun _ => by kernel_rfl) ?_
  refine k_pure (by kernel_rfl) (d := (some 10)) (by kernel_rfl) (v := .slice (some ⟨b1, o1, none⟩) 16 16) (fun _ => by kernel_rfl) ?_
  refine k_pure (by kernel_rfl) (d := (some 11)) (by kernel_rfl) (v := .pointer (some ⟨b2, o2, none⟩)) (fun _ => by kernel_rfl) ?_
  refine k_pure (by kernel_rfl) (d := (some 12)) (by kernel_rfl) (v := .pointer (some ⟨b2, o2, none⟩)) (fun _ => by kernel_rfl) ?_
  refine k_pure (by kernel_rfl) (d := (some 13)) (by kernel_rfl) (v := .pointer (some ⟨b2, o2, none⟩)) (fun _ => by kernel_rfl) ?_
  refine k_pure (by kernel_rfl) (d := (some 14)) (by kernel_rfl) (v := .slice (some ⟨b2, o2, none⟩) 16 16) (fun _ => by kernel_rfl) ?_
  refine k_callR (by kernel_rfl) (d := (some 15)) (by kernel_rfl) (f := 106) (args := #[.int .i64 0, .slice (some ⟨b1, o1, none⟩) 16 16, .slice (some ⟨b2, o2, none⟩) 16 16]) (fun _ => by kernel_rfl) (ctZ0 h1.drew hA.fst.drew E1.out (len_sets i1) d0) (fun _ w1 q1 => ⟨.tuple #[], q1.1, trivial, ?_⟩)
  have u1 := q1.2.ofDrew
  clear q1
  refine k_end ?_
  go_simp
  go_upto_region 1 with (fail)
  refine wp_region_atS (opsAt Tryd.f110 1) ((true, 0) :: (true, 1) :: (true, 2) :: (true, 3) :: (true, 4) :: (true, 5) :: (true, 6) :: (true, 7) :: (true, 8) :: (false, 9) :: []) (fun _ => True) (by kernel_rfl) rfl (by kernel_rfl) (fun _ _ d _ _ h => by cases d <;> exact h) (by kernel_rfl) (by kernel_rfl) trivial ?_
  refine k_pure (by kernel_rfl) (d := (some 16)) (by kernel_rfl) (v := .int .i64 0) (fun _ => by kernel_rfl) ?_
  refine k_pure (by kernel_rfl) (d := (some 17)) (by kernel_rfl) (v := .pointer (some ⟨b1, o1, none⟩)) (fun _ => by kernel_rfl) ?_
  refine k_pure (by kernel_rfl) (d := (some 18)) (by kernel_rfl) (v := .pointer (some ⟨b1, o1, none⟩)) (fun _ => by kernel_rfl) ?_
  refine k_pure (by kernel_rfl) (d := (some 19)) (by kernel_rfl) (v := .pointer (some ⟨b1, o1 + 16, none⟩)) (fun _ => by kernel_rfl) ?_
  refine k_pure (by kernel_rfl) (d := (some 20)) (by kernel_rfl) (v := .slice (some ⟨b1, o1 + 16, none⟩) 16 16) (fun _ => by kernel_rfl) ?_
  refine k_pure (by kernel_rfl) (d := (some 21)) (by kernel_rfl) (v := .pointer (some ⟨b2, o2, none⟩)) (fun _ => by kernel_rfl) ?_
  refine k_pure (by kernel_rfl) (d := (some 22)) (by kernel_rfl) (v := .pointer (some ⟨b2, o2, none⟩)) (fun _ => by kernel_rfl) ?_
  refine k_pure (by kernel_rfl) (d := (some 23)) (by kernel_rfl) (v := .pointer (some ⟨b2, o2 + 16, none⟩)) (fun _ => by kernel_rfl) ?_
  refine k_pure (by kernel_rfl) (d := (some 24)) (by kernel_rfl) (v := .slice (some ⟨b2, o2 + 16, none⟩) 16 16) (fun _ => by kernel_rfl) ?_
  refine k_callR (by kernel_rfl) (d := (some 25)) (by kernel_rfl) (f := 106) (args := #[.int .i64 0, .slice (some ⟨b1, o1 + 16, none⟩) 16 16, .slice (some ⟨b2, o2 + 16, none⟩) 16 16]) (fun _ => by kernel_rfl) (ctZ0 u1.blk.drew (hA.snd.keepSame h1 u1).drew (e16 E1.out) i1 d2) (fun _ w2 q2 => ⟨.tuple #[], q2.1, trivial, ?_⟩)
  have u2 := q2.2.ofDrew
  clear q2
  refine k_end ?_
  go_simp
  go_wp2_with fail
  go_end0
  exact ⟨rfl, u1.trans u2⟩

set_option maxRecDepth 100000 in
set_option maxHeartbeats 1000000 in
theorem fqIsZero (hm : ModW w) (hg : 4 < b1) (h1 : FpsZ w b1 L1) (e1 : o1 = 16 * k1) (i0 : L1[k1]? = some x0) (i1 : L1[k1 + 1]? = some x1) :
    Calls Tryd.prog 97 #[.pointer (some ⟨b1, o1, none⟩)] w fun e w' => e = .returned (.bool (decide (x0 = 0) && decide (x1 = 0))) ∧ UpdZ w w' b1 L1 := by
  have C1 := Lib.hid (zIsZero hm h1 e1 i0)
  have C2 : ∀ w', UpdZ w w' b1 L1 → _ := fun w' u => zIsZero (hm.updZ hg u) u.blk (e16 e1) i1
  have HC2 := Lib.hid C2
  rw [isz_dec] at C1 HC2
  clear hm hg h1 e1 i0 i1 C2
  generalize decide (x0 = 0) = p at *
  generalize decide (x1 = 0) = q at *
  go_enter Tryd.func97, Tryd.ntmps97
  go_wp2_with fail
  refine C1.out.mono ?_
  rintro e w1 ⟨rfl, u1⟩
  have U1 := Lib.hid u1
  clear u1
  cases p with
  | false =>
    go_wp2_with fail
    go_ret
    exact ⟨rfl, U1.out⟩
  | true =>
    go_wp2_with fail
    refine (HC2.out _ U1.out).mono ?_
    rintro e w2 ⟨rfl, u2⟩
    have U2 := Lib.hid (U1.out.trans u2)
    clear u2
    go_wp2_with fail
    go_ret
    exact ⟨by simp, U2.out⟩

theorem sgn_zero {z : Nat} : sgnN z = 0 ↔ z = 0 := by
  unfold sgnN
  by_cases h : z = 0
  · rw [if_pos h]; exact ⟨fun _ => h, fun _ => rfl⟩
  · rw [if_neg h]; constructor
    · intro e; omega
    · intro e; exact absurd e h

set_option maxRecDepth 100000 in
set_option maxHeartbeats 1000000 in
theorem fqSgn (hm : ModW w) (hg : 4 < b1) (h1 : FpsZ w b1 L1) (e1 : o1 = 16 * k1) (i0 : L1[k1]? = some x0) (i1 : L1[k1 + 1]? = some x1) :
    Calls Tryd.prog 86 #[.pointer (some ⟨b1, o1, none⟩)] w fun e w' => e = .returned (.int .i64 (sgnQ x0 x1)) ∧ UpdZ w w' b1 L1 := by
  have C1 := Lib.hid (zSgn hm h1 e1 i0)
  have C2 : ∀ w', UpdZ w w' b1 L1 → _ := fun w' u => zSgn (hm.updZ hg u) u.blk (e16 e1) i1
  have HC2 := Lib.hid C2
  clear hm hg h1 e1 i0 i1 C2
  have hq : sgnQ x0 x1 = if sgnN x0.val = 0 then sgnN x1.val else sgnN x0.val := by
    unfold sgnQ
    by_cases h : x0.val = 0
    · rw [if_pos h, if_pos (sgn_zero.2 h)]
    · rw [if_neg h, if_neg (fun e => h (sgn_zero.1 e))]
  rw [hq]
  clear hq
  have g0 := sgnN_sg x0.val
  have g1 := sgnN_sg x1.val
  generalize sgnN x0.val = s at *
  generalize sgnN x1.val = t at *
  have G1 := Lib.hid g1
  clear g1
  rcases g0 with rfl | rfl | rfl
  · have hA : bits .and .i64 0 1 = 0 := by rfl
    have hA1 : bits .and .i64 1 1 = 1 := by rfl
    have hA2 : bits .and .i64 (-1) 1 = 1 := by rfl
    go_enter Tryd.func86, Tryd.ntmps86
    go_wp2_with fail
    refine C1.out.mono ?_
    rintro e w1 ⟨rfl, u1⟩
    have U1 := Lib.hid u1
    clear u1
    go_wp2_with fail
    refine (HC2.out _ U1.out).mono ?_
    rintro e w2 ⟨rfl, u2⟩
    have U2 := Lib.hid (U1.out.trans u2)
    clear u2
    go_wp2_with fail
    refine (ctSelect (v := 1) (x := 1) (.inl rfl) (.inl rfl) G1.out _).mono ?_
    rintro e w3 ⟨rfl, rfl⟩
    go_wp2_with fail
    go_ret
    exact ⟨by simp, U2.out⟩
  · have hA : bits .and .i64 0 1 = 0 := by rfl
    have hA1 : bits .and .i64 1 1 = 1 := by rfl
    have hA2 : bits .and .i64 (-1) 1 = 1 := by rfl
    go_enter Tryd.func86, Tryd.ntmps86
    go_wp2_with fail
    refine C1.out.mono ?_
    rintro e w1 ⟨rfl, u1⟩
    have U1 := Lib.hid u1
    clear u1
    go_wp2_with fail
    refine (HC2.out _ U1.out).mono ?_
    rintro e w2 ⟨rfl, u2⟩
    have U2 := Lib.hid (U1.out.trans u2)
    clear u2
    go_wp2_with fail
    refine (ctSelect (v := 0) (x := 0) (.inr rfl) (.inr (.inl rfl)) G1.out _).mono ?_
    rintro e w3 ⟨rfl, rfl⟩
    go_wp2_with fail
    go_ret
    exact ⟨by simp, U2.out⟩
  · have hA : bits .and .i64 0 1 = 0 := by rfl
    have hA1 : bits .and .i64 1 1 = 1 := by rfl
    have hA2 : bits .and .i64 (-1) 1 = 1 := by rfl
    go_enter Tryd.func86, Tryd.ntmps86
    go_wp2_with fail
    refine C1.out.mono ?_
    rintro e w1 ⟨rfl, u1⟩
    have U1 := Lib.hid u1
    clear u1
    go_wp2_with fail
    refine (HC2.out _ U1.out).mono ?_
    rintro e w2 ⟨rfl, u2⟩
    have U2 := Lib.hid (U1.out.trans u2)
    clear u2
    go_wp2_with fail
    refine (ctSelect (v := 1) (x := -1) (.inl rfl) (.inr (.inr rfl)) G1.out _).mono ?_
    rintro e w3 ⟨rfl, rfl⟩
    go_wp2_with fail
    go_ret
    exact ⟨by simp, U2.out⟩

end
end Go.Proofs.YtfkfljohhabldaaDoor
