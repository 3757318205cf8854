/- The inner loop of the package's block step: 64 rounds. The package's constants lie at their place. -/
import Derived.Test.YtkmofjefjbhbhaaDoorShaB
namespace Go.Sl
open Go.RowKit Go.FourQ Go.Sha
def slen : Value → Nat
  | .slice _ n _ => n
  | _ => 0
/-- The words' cells when t words are there, over those of before. -/
def wm (B M : List Int) (t : Nat) : List Int := sched B t ++ M.drop t
theorem wm_length {B M : List Int} {t : Nat} (hM : M.length = 64) (h : t ≤ 64) : (wm B M t).length = 64 := by unfold wm; rw [List.length_append, sched_length, List.length_drop]; omega
theorem wm_get {B M : List Int} {t n : Nat} (h : t < n) : (wm B M n)[t]? = some (wd B t) := by
  unfold wm
  rw [List.getElem?_append_left (by rw [sched_length]; exact h), sched_get B h]
theorem wm_old {B M : List Int} {t : Nat} (hM : M.length = 64) (h : t < 64) : (wv (wm B M t))[t]? = some (.int .u32 (M.getD t 0)) := by
  refine wv_get ?_
  unfold wm
  rw [List.getElem?_append_right (by rw [sched_length]; exact Nat.le_refl _), sched_length, Nat.sub_self, List.getElem?_drop, Nat.add_zero]
  exact getD_of (by omega)
theorem wm_set {B M : List Int} {t : Nat} (hM : M.length = 64) (h : t < 64) : (wm B M t).set t (wd B t) = wm B M (t + 1) := by
  unfold wm
  rw [List.set_append_right _ _ (by rw [sched_length]; exact Nat.le_refl _), sched_length, Nat.sub_self, List.drop_eq_getElem_cons (by omega), List.set_cons_zero, sched, List.append_assoc]; rfl
theorem wm_put_lo {B M : List Int} {t : Nat} (hM : M.length = 64) (h : t < 16) : (wv (wm B M t)).set t (.int .u32 (word B t)) = wv (wm B M (t + 1)) := by
  rw [wv_set, ← wd_lo B h, wm_set hM (by omega)]
theorem wm_put_hi {B M : List Int} {t : Nat} (hM : M.length = 64) (h : 16 ≤ t) (h2 : t < 64) : (wv (wm B M t)).set t (.int .u32 (wA (wA (wA (sg1 (wd B (t - 2))) (wd B (t - 7))) (sg0 (wd B (t - 15)))) (wd B (t - 16)))) = wv (wm B M (t + 1)) := by
  rw [wv_set, ← wd_hi B h, wm_set hM h2]
/-- One more block, not written yet. -/
theorem Mm.take {w wr : World} {s : List (Nat × List Value)} {b : Nat} {L : List Value} (h : Mm w s wr) (hb : Bl w b L) (hs : ∀ p ∈ s, w.heap.size ≤ p.1) : Mm w ((b, L) :: s) wr where
  os := h.os
  tape := h.tape
  output := h.output
  size := h.size
  blk := fun i c M hi => by
    rcases i with _ | i
    · obtain ⟨rfl, rfl⟩ : b = c ∧ L = M := by simpa using hi
      exact hb.of_heap (h.other b hb.lt fun p hp e => by have := hs p hp; have := hb.lt; omega)
    · exact h.blk i c M (by simpa using hi)
  ne := fun i j c d M N hi hj hij => by
    have hlt := hb.lt
    rcases i with _ | i
    · rcases j with _ | j
      · exact absurd rfl hij
      · obtain ⟨rfl, rfl⟩ : b = c ∧ L = M := by simpa using hi
        have := hs (d, N) (List.mem_of_getElem? (i := j) (by simpa using hj))
        simp only at this; omega
    · rcases j with _ | j
      · obtain ⟨rfl, rfl⟩ : b = d ∧ L = N := by simpa using hj
        have := hs (c, M) (List.mem_of_getElem? (i := i) (by simpa using hi))
        simp only at this; omega
      · exact h.ne i j c d M N (by simpa using hi) (by simpa using hj) (by omega)
  other := fun k hk hp => h.other k hk fun p hm => hp p (List.mem_cons_of_mem _ hm)
theorem blk_cell {w : World} {l : List Int} {j n : Nat} {ad : Addr} (hcell : ∀ i x, (l.drop (64 * j))[i]? = some x → w.cell? (ad.add i) = some (.int .u8 x)) (hn : (l.drop (64 * j)).length = n) (hc : 64 ≤ n) : ∀ i, i < 64 → w.cell? (ad.add i) = some (.int .u8 ((blk l j).getD i 0)) := fun i hi => by
  rw [blk_get hi]
  refine hcell i _ ?_
  rw [List.getElem?_drop]
  exact getD_of (by rw [List.length_drop] at hn; omega)
/-- The code of a block. -/
def blkOf (id : Nat) : Code → Option Code
  | .block j c => if j == id then some c else blkOf id c
  | .seq x y | .cond _ x y | .rangeFunc _ _ x y => (blkOf id x).or (blkOf id y)
  | .loop c | .scope c => blkOf id c
  | _ => none
def codeAt (f : Func) (id : Nat) : Code := ((f.body.bind (blkOf id)).getD .skip)
theorem wp_sub {P : Program} {Q : Exit → Act → World → Prop} {a : Act} {w : World} {f : Func} {id : Nat} {c : Code} (h : f.body.bind (blkOf id) = some c) (hw : c.wp P Q a w) : (codeAt f id).wp P Q a w := by unfold codeAt; rw [h]; exact hw
theorem wp_code {P : Program} {Q : Exit → Act → World → Prop} {a : Act} {w : World} {c c' : Code} (h : c = c') (hw : c'.wp P Q a w) : c.wp P Q a w := h ▸ hw
end Go.Sl
namespace Go.Proofs.YtkmofjefjbhbhaaDoor
open Go.RowKit Go.FourQ Go.Sha Go.Sl

set_option maxRecDepth 100000 in
set_option maxHeartbeats 8000000 in
theorem inner_c {Q : Exit → Act → World → Prop} {w wr : World} {X : St} {M B : List Int} {ad : Addr} {n c : Nat} {z0 z2 z3 z5 z6 z7 z8 z9 z10 z11 z12 z21 z22 z23 z24 z25 z26 z27 z28 z29 z30 z31 z32 z33 z34 z35 z36 z37 z38 z39 z40 z41 z42 z43 z44 z45 z46 z47 z48 z49 z50 z51 z52 z53 z54 z55 z56 z57 z58 z59 z60 z61 z62 z63 z64 z65 z66 z67 z68 z69 z70 z71 z72 z73 z74 z75 z76 z77 z78 z79 z81 z82 z83 z84 z85 z86 z87 z88 z89 z90 z91 z92 z93 z94 z95 z96 z97 z98 z99 z100 z101 z102 z103 z104 z105 z106 z107 z108 z109 z110 z111 z112 z113 z114 z115 z116 z117 z118 z119 z120 z121 z122 z123 z124 z125 z126 z127 z128 z129 z130 z131 z132 z133 z134 z135 z136 z137 z138 z139 z140 z141 z142 z143 z144 z145 z146 z147 z148 z149 z150 z151 z152 z153 z154 z155 z156 z157 z158 z159 z160 z161 z162 z163 z164 z165 z166 z167 z168 z169 z170 z171 z172 z173 z174 z175 z176 z177 z178 z179 z180 z181 z182 z183 z184 z185 z186 z187 z188 z189 z190 z191 z192 z193 z194 z195 z196 z197 z198 z199 z200 z201 z202 z203 z204 z205 z206 z207 z208 z209 z210 z211 z212 z213 z214 z215 z216 z217 z218 z219 z220 z221 z222 z223 z224 z225 z226 z227 z228 z229 z230 z231 z232 z233 z234 z235 z236 z237 z238 z239 z240 z241 z242 z243 z244 z245 z246 z247 z248 z249 z250 z251 z252 z253 z254 z255 z256 z257 z258 z259 z260 z261 z262 z263 z264 z265 z266 z267 z268 z269 z270 z271 z272 z273 z274 z275 z276 z277 z278 z279 z280 z281 z282 : Value} (hC : ∀ i, i < 64 → w.cell? (ad.add i) = some (.int .u8 (B.getD i 0))) (hM : M.length = 64) (hn64N : 64 ≤ n) (hK : Bl w 0 (wv kc)) (hJ : Mm w [(w.heap.size, wv M)] wr)
    (hL : ∀ x a d v w, Q (.panic x) (Act.put a d v) w → Q (.panic x) a w) (hQ : ∀ (V : St) (wr' : World) (y21 y22 y23 y24 y25 y26 y27 y28 y80 y81 y82 y83 y84 y85 y86 y87 y88 y89 y90 y91 y92 y93 y94 y95 y96 y97 y98 y99 y100 y101 y102 y103 y104 y105 y106 y107 y108 y109 y110 y111 y112 y113 y114 y115 y116 y117 y118 y119 y120 y121 y122 y123 y124 y125 y126 y127 y128 y129 y130 y131 y132 y133 y134 y135 y136 y137 y138 y139 y140 y141 y142 y143 y144 y145 y146 y147 y148 y149 y150 y151 y152 y153 y154 y155 y156 y157 y158 y159 y160 y161 y162 y163 y164 y165 y166 y167 y168 y169 y170 y171 y172 y173 y174 y175 y176 y177 y178 y179 y180 y181 y182 y183 y184 y185 y186 y187 y188 y189 y190 y191 y192 y193 y194 y195 y196 y197 y198 y199 y200 y201 y202 y203 y204 y205 y206 y207 y208 y209 y210 y211 y212 y213 y214 y215 y216 : Value), V = rs B X 64 → Mm w [(w.heap.size, wv (wm B M 64))] wr' → Q (.exit 2) { tmps := List.toArray (z0 :: (.slice (some ad) n c) :: z2 :: z3 :: (.pointer (some ⟨w.heap.size, 0, none⟩)) :: z5 :: z6 :: z7 :: z8 :: z9 :: z10 :: z11 :: z12 :: (.int .u32 V.a) :: (.int .u32 V.b) :: (.int .u32 V.c) :: (.int .u32 V.d) :: (.int .u32 V.e) :: (.int .u32 V.f) :: (.int .u32 V.g) :: (.int .u32 V.h) :: y21 :: y22 :: y23 :: y24 :: y25 :: y26 :: y27 :: y28 :: z29 :: z30 :: z31 :: z32 :: z33 :: z34 :: z35 :: z36 :: z37 :: z38 :: z39 :: z40 :: z41 :: z42 :: z43 :: z44 :: z45 :: z46 :: z47 :: z48 :: z49 :: z50 :: z51 :: z52 :: z53 :: z54 :: z55 :: z56 :: z57 :: z58 :: z59 :: z60 :: z61 :: z62 :: z63 :: z64 :: z65 :: z66 :: z67 :: z68 :: z69 :: z70 :: z71 :: z72 :: z73 :: z74 :: z75 :: z76 :: z77 :: z78 :: z79 :: y80 :: y81 :: y82 :: y83 :: y84 :: y85 :: y86 :: y87 :: y88 :: y89 :: y90 :: y91 :: y92 :: y93 :: y94 :: y95 :: y96 :: y97 :: y98 :: y99 :: y100 :: y101 :: y102 :: y103 :: y104 :: y105 :: y106 :: y107 :: y108 :: y109 :: y110 :: y111 :: y112 :: y113 :: y114 :: y115 :: y116 :: y117 :: y118 :: y119 :: y120 :: y121 :: y122 :: y123 :: y124 :: y125 :: y126 :: y127 :: y128 :: y129 :: y130 :: y131 :: y132 :: y133 :: y134 :: y135 :: y136 :: y137 :: y138 :: y139 :: y140 :: y141 :: y142 :: y143 :: y144 :: y145 :: y146 :: y147 :: y148 :: y149 :: y150 :: y151 :: y152 :: y153 :: y154 :: y155 :: y156 :: y157 :: y158 :: y159 :: y160 :: y161 :: y162 :: y163 :: y164 :: y165 :: y166 :: y167 :: y168 :: y169 :: y170 :: y171 :: y172 :: y173 :: y174 :: y175 :: y176 :: y177 :: y178 :: y179 :: y180 :: y181 :: y182 :: y183 :: y184 :: y185 :: y186 :: y187 :: y188 :: y189 :: y190 :: y191 :: y192 :: y193 :: y194 :: y195 :: y196 :: y197 :: y198 :: y199 :: y200 :: y201 :: y202 :: y203 :: y204 :: y205 :: y206 :: y207 :: y208 :: y209 :: y210 :: y211 :: y212 :: y213 :: y214 :: y215 :: y216 :: z217 :: z218 :: z219 :: z220 :: z221 :: z222 :: z223 :: z224 :: z225 :: z226 :: z227 :: z228 :: z229 :: z230 :: z231 :: z232 :: z233 :: z234 :: z235 :: z236 :: z237 :: z238 :: z239 :: z240 :: z241 :: z242 :: z243 :: z244 :: z245 :: z246 :: z247 :: z248 :: z249 :: z250 :: z251 :: z252 :: z253 :: z254 :: z255 :: z256 :: z257 :: z258 :: z259 :: z260 :: z261 :: z262 :: z263 :: z264 :: z265 :: z266 :: z267 :: z268 :: z269 :: z270 :: z271 :: z272 :: z273 :: z274 :: z275 :: z276 :: z277 :: z278 :: z279 :: z280 :: z281 :: z282 :: []), defers := [] } wr') :
    (codeAt Tryd.f21 2).wp Tryd.prog Q { tmps := List.toArray (z0 :: (.slice (some ad) n c) :: z2 :: z3 :: (.pointer (some ⟨w.heap.size, 0, none⟩)) :: z5 :: z6 :: z7 :: z8 :: z9 :: z10 :: z11 :: z12 :: (.int .u32 X.a) :: (.int .u32 X.b) :: (.int .u32 X.c) :: (.int .u32 X.d) :: (.int .u32 X.e) :: (.int .u32 X.f) :: (.int .u32 X.g) :: (.int .u32 X.h) :: z21 :: z22 :: z23 :: z24 :: z25 :: z26 :: z27 :: z28 :: z29 :: z30 :: z31 :: z32 :: z33 :: z34 :: z35 :: z36 :: z37 :: z38 :: z39 :: z40 :: z41 :: z42 :: z43 :: z44 :: z45 :: z46 :: z47 :: z48 :: z49 :: z50 :: z51 :: z52 :: z53 :: z54 :: z55 :: z56 :: z57 :: z58 :: z59 :: z60 :: z61 :: z62 :: z63 :: z64 :: z65 :: z66 :: z67 :: z68 :: z69 :: z70 :: z71 :: z72 :: z73 :: z74 :: z75 :: z76 :: z77 :: z78 :: z79 :: (.int .i64 0) :: z81 :: z82 :: z83 :: z84 :: z85 :: z86 :: z87 :: z88 :: z89 :: z90 :: z91 :: z92 :: z93 :: z94 :: z95 :: z96 :: z97 :: z98 :: z99 :: z100 :: z101 :: z102 :: z103 :: z104 :: z105 :: z106 :: z107 :: z108 :: z109 :: z110 :: z111 :: z112 :: z113 :: z114 :: z115 :: z116 :: z117 :: z118 :: z119 :: z120 :: z121 :: z122 :: z123 :: z124 :: z125 :: z126 :: z127 :: z128 :: z129 :: z130 :: z131 :: z132 :: z133 :: z134 :: z135 :: z136 :: z137 :: z138 :: z139 :: z140 :: z141 :: z142 :: z143 :: z144 :: z145 :: z146 :: z147 :: z148 :: z149 :: z150 :: z151 :: z152 :: z153 :: z154 :: z155 :: z156 :: z157 :: z158 :: z159 :: z160 :: z161 :: z162 :: z163 :: z164 :: z165 :: z166 :: z167 :: z168 :: z169 :: z170 :: z171 :: z172 :: z173 :: z174 :: z175 :: z176 :: z177 :: z178 :: z179 :: z180 :: z181 :: z182 :: z183 :: z184 :: z185 :: z186 :: z187 :: z188 :: z189 :: z190 :: z191 :: z192 :: z193 :: z194 :: z195 :: z196 :: z197 :: z198 :: z199 :: z200 :: z201 :: z202 :: z203 :: z204 :: z205 :: z206 :: z207 :: z208 :: z209 :: z210 :: z211 :: z212 :: z213 :: z214 :: z215 :: z216 :: z217 :: z218 :: z219 :: z220 :: z221 :: z222 :: z223 :: z224 :: z225 :: z226 :: z227 :: z228 :: z229 :: z230 :: z231 :: z232 :: z233 :: z234 :: z235 :: z236 :: z237 :: z238 :: z239 :: z240 :: z241 :: z242 :: z243 :: z244 :: z245 :: z246 :: z247 :: z248 :: z249 :: z250 :: z251 :: z252 :: z253 :: z254 :: z255 :: z256 :: z257 :: z258 :: z259 :: z260 :: z261 :: z262 :: z263 :: z264 :: z265 :: z266 :: z267 :: z268 :: z269 :: z270 :: z271 :: z272 :: z273 :: z274 :: z275 :: z276 :: z277 :: z278 :: z279 :: z280 :: z281 :: z282 :: []), defers := [] } wr := by
  have HC := Lib.hid hC; have HM := Lib.hid hM; have HGK := Lib.hid hK; have J0 := Lib.hid hJ
  clear hC hM hK hJ
  refine wp_sub (f := Tryd.f21) (id := 2) rfl ?_
  go_loopw [13, 14, 15, 16, 17, 18, 19, 20, 80] (fun u13 u14 u15 u16 u17 u18 u19 u20 v80 wr => ∃ (t : Nat) (V : St), t ≤ 64 ∧ v80 = .int .i64 t ∧ u13 = .int .u32 V.a ∧ u14 = .int .u32 V.b ∧ u15 = .int .u32 V.c ∧ u16 = .int .u32 V.d ∧ u17 = .int .u32 V.e ∧ u18 = .int .u32 V.f ∧ u19 = .int .u32 V.g ∧ u20 = .int .u32 V.h ∧ Hid (V = rs B X t) ∧ Hid (Mm w [(w.heap.size, wv (wm B M t))] wr)) (fun _ _ _ _ _ _ _ _ v80 _ => 64 - (intOf v80).toNat)
  case atStart => exact ⟨0, X, by decide, rfl, rfl, rfl, rfl, rfl, rfl, rfl, rfl, rfl, Lib.hid rfl, Lib.hid J0.out⟩
  case round =>
    clear J0
    obtain ⟨t, V, ht1, rfl, rfl, rfl, rfl, rfl, rfl, rfl, rfl, rfl, hV, hJ⟩ := hrel
    by_cases ht : t < 64
    · have htI : (t : Int) < 64 := by omega
      have H90 := hJ.out
      clear hJ
      by_cases h16 : t < 16
      · skip
        have h16I : (t : Int) < 16 := by omega
        go_upto_region 8 with (fail)
        refine wp_seq_atS (opsAt Tryd.f21 8) ((true, 0) :: (true, 1) :: (true, 2) :: []) (fun _ => True) (by kernel_rfl) (by kernel_rfl) trivial ?_
        refine k_pure (by kernel_rfl) (d := (some 85)) (by kernel_rfl) (v := .int .i64 ((t : Nat) : Int)) (fun _ => by kernel_rfl) ?_
        refine k_pure (by kernel_rfl) (d := (some 86)) (by kernel_rfl) (v := .int .i64 ((4 * t : Nat) : Int)) (fun _ => run_binOpV (op := .mul) (x := .tmp 85) (y := .const (.int .i64 4)) (t := 3) (t' := 3) (u := .int .i64 ((t : Nat) : Int)) (v := .int .i64 4) (by kernel_rfl) (by kernel_rfl) (by kernel_rfl) rfl (mulI (by omega) (by omega))) ?_
        refine k_pure (by kernel_rfl) (d := (some 22)) (by kernel_rfl) (v := .int .i64 ((4 * t : Nat) : Int)) (fun _ => by kernel_rfl) ?_
        refine k_end ?_
        go_simp
        go_upto_region 9 with (fail)
        refine wp_region_atS (opsAt Tryd.f21 9) ((true, 0) :: (true, 1) :: (true, 2) :: (true, 3) :: (true, 4) :: (true, 5) :: (true, 6) :: (true, 7) :: (true, 8) :: (true, 9) :: (true, 10) :: (true, 11) :: (true, 12) :: (true, 13) :: (true, 14) :: (true, 15) :: (true, 16) :: (true, 17) :: (true, 18) :: (true, 19) :: (true, 20) :: (true, 21) :: (true, 22) :: (true, 23) :: (true, 24) :: (true, 25) :: (true, 26) :: (true, 27) :: (true, 28) :: (true, 29) :: (true, 30) :: (false, 31) :: []) (fun W => Mm w [(w.heap.size, wv (wm B M t))] W ∨ Mm w [(w.heap.size, wv (wm B M (t + 1)))] W) (by kernel_rfl) rfl (by kernel_rfl) (fun x a d v w h => by cases d <;> first | exact h | exact hL x a _ v w h) (by kernel_rfl) (by kernel_rfl) (Or.inl H90.drew) ?_
        have H3d := H90.drew
        clear H90
        refine k_pure (by kernel_rfl) (d := (some 87)) (by kernel_rfl) (v := .int .i64 ((t : Nat) : Int)) (fun _ => by kernel_rfl) ?_
        refine k_pure (by kernel_rfl) (d := (some 88)) (by kernel_rfl) (v := .slice (some ad) n c) (fun _ => by kernel_rfl) ?_
        refine k_pure (by kernel_rfl) (d := (some 89)) (by kernel_rfl) (v := .int .i64 ((4 * t : Nat) : Int)) (fun _ => by kernel_rfl) ?_
        refine k_pure (by kernel_rfl) (d := (some 90)) (by kernel_rfl) (v := .pointer (some (ad.add (4 * t)))) (fun _ => run_indexSl (t := 24) (x := (.tmp 88)) (y := (.tmp 89)) (a := ad) (n := n) (c := c) (i := 4 * t) (z := ((4 * t : Nat) : Int)) (by kernel_rfl) (by kernel_rfl) (by kernel_rfl) rfl Tryd.underlying24 (by kernel_rfl) (by omega)) ?_
        refine k_ifR (by kernel_rfl) (d := (some 91)) (by kernel_rfl) (v := .int .u8 (B.getD (4 * t) 0)) (fun _ hs => run_loadA (ty := 5) (x := (.tmp 90)) (a := ad.add (4 * t)) (by kernel_rfl) (by kernel_rfl) Tryd.underlying5 rfl (hs.elim (fun h => h.old (HC.out _ (by omega)) (bsC (Nat.le_refl _) bs0)) (fun h => h.old (HC.out _ (by omega)) (bsC (Nat.le_refl _) bs0)))) ?_
        refine k_pure (by kernel_rfl) (d := (some 92)) (by kernel_rfl) (v := .int .u32 (w8 (B.getD (4 * t) 0))) (fun _ => run_convOpE (x := (.tmp 91)) (s := 5) (d := 40) (u := .int .u8 (B.getD (4 * t) 0)) (v := .int .u32 (IntKind.u32.wrap (B.getD (4 * t) 0))) (by kernel_rfl) (by kernel_rfl) (by kernel_rfl) rfl) ?_
        refine k_pure (by kernel_rfl) (d := (some 93)) (by kernel_rfl) (v := .int .u32 (wL (w8 (B.getD (4 * t) 0)) 24)) (fun _ => run_binOpV (op := .shl) (x := (.tmp 92)) (y := (.const (.int .u64 24))) (t := 40) (t' := 52) (u := .int .u32 (w8 (B.getD (4 * t) 0))) (v := .int .u64 24) (by kernel_rfl) (by kernel_rfl) (by kernel_rfl) rfl (shlU (n := 24) (by first | rfl | omega) (by first | decide | (show _ ≤ 32; omega)))) ?_
        refine k_pure (by kernel_rfl) (d := (some 94)) (by kernel_rfl) (v := .slice (some ad) n c) (fun _ => by kernel_rfl) ?_
        refine k_pure (by kernel_rfl) (d := (some 95)) (by kernel_rfl) (v := .int .i64 ((4 * t : Nat) : Int)) (fun _ => by kernel_rfl) ?_
        refine k_pure (by kernel_rfl) (d := (some 96)) (by kernel_rfl) (v := .int .i64 (((4 * t + 1) : Nat) : Int)) (fun _ => run_binOpV (op := .add) (x := (.tmp 95)) (y := (.const (.int .i64 1))) (t := 3) (t' := 3) (u := .int .i64 ((4 * t : Nat) : Int)) (v := .int .i64 1) (by kernel_rfl) (by kernel_rfl) (by kernel_rfl) rfl (addI (by omega) (by omega))) ?_
        refine k_pure (by kernel_rfl) (d := (some 97)) (by kernel_rfl) (v := .pointer (some (ad.add ((4 * t + 1))))) (fun _ => run_indexSl (t := 24) (x := (.tmp 94)) (y := (.tmp 96)) (a := ad) (n := n) (c := c) (i := (4 * t + 1)) (z := (((4 * t + 1) : Nat) : Int)) (by kernel_rfl) (by kernel_rfl) (by kernel_rfl) rfl Tryd.underlying24 (by kernel_rfl) (by omega)) ?_
        refine k_ifR (by kernel_rfl) (d := (some 98)) (by kernel_rfl) (v := .int .u8 (B.getD (4 * t + 1) 0)) (fun _ hs => run_loadA (ty := 5) (x := (.tmp 97)) (a := ad.add ((4 * t + 1))) (by kernel_rfl) (by kernel_rfl) Tryd.underlying5 rfl (hs.elim (fun h => h.old (HC.out _ (by omega)) (bsC (Nat.le_refl _) bs0)) (fun h => h.old (HC.out _ (by omega)) (bsC (Nat.le_refl _) bs0)))) ?_
        refine k_pure (by kernel_rfl) (d := (some 99)) (by kernel_rfl) (v := .int .u32 (w8 (B.getD (4 * t + 1) 0))) (fun _ => run_convOpE (x := (.tmp 98)) (s := 5) (d := 40) (u := .int .u8 (B.getD (4 * t + 1) 0)) (v := .int .u32 (IntKind.u32.wrap (B.getD (4 * t + 1) 0))) (by kernel_rfl) (by kernel_rfl) (by kernel_rfl) rfl) ?_
        refine k_pure (by kernel_rfl) (d := (some 100)) (by kernel_rfl) (v := .int .u32 (wL (w8 (B.getD (4 * t + 1) 0)) 16)) (fun _ => run_binOpV (op := .shl) (x := (.tmp 99)) (y := (.const (.int .u64 16))) (t := 40) (t' := 52) (u := .int .u32 (w8 (B.getD (4 * t + 1) 0))) (v := .int .u64 16) (by kernel_rfl) (by kernel_rfl) (by kernel_rfl) rfl (shlU (n := 16) (by first | rfl | omega) (by first | decide | (show _ ≤ 32; omega)))) ?_
        refine k_pure (by kernel_rfl) (d := (some 101)) (by kernel_rfl) (v := .int .u32 (wO (wL (w8 (B.getD (4 * t) 0)) 24) (wL (w8 (B.getD (4 * t + 1) 0)) 16))) (fun _ => by kernel_rfl) ?_
        refine k_pure (by kernel_rfl) (d := (some 102)) (by kernel_rfl) (v := .slice (some ad) n c) (fun _ => by kernel_rfl) ?_
        refine k_pure (by kernel_rfl) (d := (some 103)) (by kernel_rfl) (v := .int .i64 ((4 * t : Nat) : Int)) (fun _ => by kernel_rfl) ?_
        refine k_pure (by kernel_rfl) (d := (some 104)) (by kernel_rfl) (v := .int .i64 (((4 * t + 2) : Nat) : Int)) (fun _ => run_binOpV (op := .add) (x := (.tmp 103)) (y := (.const (.int .i64 2))) (t := 3) (t' := 3) (u := .int .i64 ((4 * t : Nat) : Int)) (v := .int .i64 2) (by kernel_rfl) (by kernel_rfl) (by kernel_rfl) rfl (addI (by omega) (by omega))) ?_
        refine k_pure (by kernel_rfl) (d := (some 105)) (by kernel_rfl) (v := .pointer (some (ad.add ((4 * t + 2))))) (fun _ => run_indexSl (t := 24) (x := (.tmp 102)) (y := (.tmp 104)) (a := ad) (n := n) (c := c) (i := (4 * t + 2)) (z := (((4 * t + 2) : Nat) : Int)) (by kernel_rfl) (by kernel_rfl) (by kernel_rfl) rfl Tryd.underlying24 (by kernel_rfl) (by omega)) ?_
        refine k_ifR (by kernel_rfl) (d := (some 106)) (by kernel_rfl) (v := .int .u8 (B.getD (4 * t + 2) 0)) (fun _ hs => run_loadA (ty := 5) (x := (.tmp 105)) (a := ad.add ((4 * t + 2))) (by kernel_rfl) (by kernel_rfl) Tryd.underlying5 rfl (hs.elim (fun h => h.old (HC.out _ (by omega)) (bsC (Nat.le_refl _) bs0)) (fun h => h.old (HC.out _ (by omega)) (bsC (Nat.le_refl _) bs0)))) ?_
        refine k_pure (by kernel_rfl) (d := (some 107)) (by kernel_rfl) (v := .int .u32 (w8 (B.getD (4 * t + 2) 0))) (fun _ => run_convOpE (x := (.tmp 106)) (s := 5) (d := 40) (u := .int .u8 (B.getD (4 * t + 2) 0)) (v := .int .u32 (IntKind.u32.wrap (B.getD (4 * t + 2) 0))) (by kernel_rfl) (by kernel_rfl) (by kernel_rfl) rfl) ?_
        refine k_pure (by kernel_rfl) (d := (some 108)) (by kernel_rfl) (v := .int .u32 (wL (w8 (B.getD (4 * t + 2) 0)) 8)) (fun _ => run_binOpV (op := .shl) (x := (.tmp 107)) (y := (.const (.int .u64 8))) (t := 40) (t' := 52) (u := .int .u32 (w8 (B.getD (4 * t + 2) 0))) (v := .int .u64 8) (by kernel_rfl) (by kernel_rfl) (by kernel_rfl) rfl (shlU (n := 8) (by first | rfl | omega) (by first | decide | (show _ ≤ 32; omega)))) ?_
        refine k_pure (by kernel_rfl) (d := (some 109)) (by kernel_rfl) (v := .int .u32 (wO (wO (wL (w8 (B.getD (4 * t) 0)) 24) (wL (w8 (B.getD (4 * t + 1) 0)) 16)) (wL (w8 (B.getD (4 * t + 2) 0)) 8))) (fun _ => by kernel_rfl) ?_
        refine k_pure (by kernel_rfl) (d := (some 110)) (by kernel_rfl) (v := .slice (some ad) n c) (fun _ => by kernel_rfl) ?_
        refine k_pure (by kernel_rfl) (d := (some 111)) (by kernel_rfl) (v := .int .i64 ((4 * t : Nat) : Int)) (fun _ => by kernel_rfl) ?_
        refine k_pure (by kernel_rfl) (d := (some 112)) (by kernel_rfl) (v := .int .i64 (((4 * t + 3) : Nat) : Int)) (fun _ => run_binOpV (op := .add) (x := (.tmp 111)) (y := (.const (.int .i64 3))) (t := 3) (t' := 3) (u := .int .i64 ((4 * t : Nat) : Int)) (v := .int .i64 3) (by kernel_rfl) (by kernel_rfl) (by kernel_rfl) rfl (addI (by omega) (by omega))) ?_
        refine k_pure (by kernel_rfl) (d := (some 113)) (by kernel_rfl) (v := .pointer (some (ad.add ((4 * t + 3))))) (fun _ => run_indexSl (t := 24) (x := (.tmp 110)) (y := (.tmp 112)) (a := ad) (n := n) (c := c) (i := (4 * t + 3)) (z := (((4 * t + 3) : Nat) : Int)) (by kernel_rfl) (by kernel_rfl) (by kernel_rfl) rfl Tryd.underlying24 (by kernel_rfl) (by omega)) ?_
        refine k_ifR (by kernel_rfl) (d := (some 114)) (by kernel_rfl) (v := .int .u8 (B.getD (4 * t + 3) 0)) (fun _ hs => run_loadA (ty := 5) (x := (.tmp 113)) (a := ad.add ((4 * t + 3))) (by kernel_rfl) (by kernel_rfl) Tryd.underlying5 rfl (hs.elim (fun h => h.old (HC.out _ (by omega)) (bsC (Nat.le_refl _) bs0)) (fun h => h.old (HC.out _ (by omega)) (bsC (Nat.le_refl _) bs0)))) ?_
        refine k_pure (by kernel_rfl) (d := (some 115)) (by kernel_rfl) (v := .int .u32 (w8 (B.getD (4 * t + 3) 0))) (fun _ => run_convOpE (x := (.tmp 114)) (s := 5) (d := 40) (u := .int .u8 (B.getD (4 * t + 3) 0)) (v := .int .u32 (IntKind.u32.wrap (B.getD (4 * t + 3) 0))) (by kernel_rfl) (by kernel_rfl) (by kernel_rfl) rfl) ?_
        refine k_pure (by kernel_rfl) (d := (some 116)) (by kernel_rfl) (v := .int .u32 (wO (wO (wO (wL (w8 (B.getD (4 * t) 0)) 24) (wL (w8 (B.getD (4 * t + 1) 0)) 16)) (wL (w8 (B.getD (4 * t + 2) 0)) 8)) (w8 (B.getD (4 * t + 3) 0)))) (fun _ => by kernel_rfl) ?_
        refine k_pure (by kernel_rfl) (d := (some 117)) (by kernel_rfl) (v := .pointer (some ⟨w.heap.size, t, none⟩)) (fun _ => run_indexZ (t := 56) (x := (.tmp 4)) (y := (.tmp 87)) (b := w.heap.size) (off := 0) (off' := t) (i := t) (z := ((t : Nat) : Int)) (by kernel_rfl) (by kernel_rfl) (by kernel_rfl) rfl Tryd.underlying56 (by kernel_rfl) (by omega) (by omega)) ?_
        have H35 : Mm w [(w.heap.size, wv (wm B M (t + 1)))] (wr.drew.setCell ⟨w.heap.size, t, none⟩ (.int .u32 (wO (wO (wO (wL (w8 (B.getD (4 * t) 0)) 24) (wL (w8 (B.getD (4 * t + 1) 0)) 16)) (wL (w8 (B.getD (4 * t + 2) 0)) 8)) (w8 (B.getD (4 * t + 3) 0))))) := (by have h := H3d.put 0 rfl t (.int .u32 (wO (wO (wO (wL (w8 (B.getD (4 * t) 0)) 24) (wL (w8 (B.getD (4 * t + 1) 0)) 16)) (wL (w8 (B.getD (4 * t + 2) 0)) 8)) (w8 (B.getD (4 * t + 3) 0)))); rw [(show (wv (wm B M t)).set t (.int .u32 (wO (wO (wO (wL (w8 (B.getD (4 * t) 0)) 24) (wL (w8 (B.getD (4 * t + 1) 0)) 16)) (wL (w8 (B.getD (4 * t + 2) 0)) 8)) (w8 (B.getD (4 * t + 3) 0)))) = wv (wm B M (t + 1)) from wm_put_lo HM.out h16)] at h; exact h)
        refine k_skipOp (by kernel_rfl) (d := none) (by kernel_rfl) (run_storeA (ty := 40) (x := (.tmp 117)) (y := (.tmp 116)) (b := w.heap.size) (off := t) (v := .int .u32 (wO (wO (wO (wL (w8 (B.getD (4 * t) 0)) 24) (wL (w8 (B.getD (4 * t + 1) 0)) 16)) (wL (w8 (B.getD (4 * t + 2) 0)) 8)) (w8 (B.getD (4 * t + 3) 0)))) (by kernel_rfl) (by kernel_rfl) (by kernel_rfl) rfl rfl (by kernel_rfl) ((H3d.at 0 rfl).cell (wm_old HM.out (by omega))) (H3d.at 0 rfl).free) (Or.inr H35) ?_
        intro w35 hw35 _
        rw [← hw35] at H35
        clear hw35 H3d
        refine k_end ?_
        go_simp
        go_upto_region 15 with (fail)
        refine wp_region_atS (opsAt Tryd.f21 15) ((true, 0) :: (true, 1) :: (true, 3) :: (true, 6) :: (true, 10) :: (true, 11) :: (true, 12) :: (true, 13) :: (true, 14) :: (true, 15) :: (true, 16) :: (true, 17) :: (true, 19) :: (true, 20) :: (true, 21) :: (true, 23) :: (true, 24) :: (true, 25) :: (false, 2) :: (false, 4) :: (true, 5) :: (false, 7) :: (true, 8) :: (true, 9) :: (true, 18) :: (true, 22) :: (true, 26) :: (true, 27) :: []) (fun W => Mm w [(w.heap.size, wv (wm B M (t + 1)))] W) (by kernel_rfl) rfl (by kernel_rfl) (fun x a d v w h => by cases d <;> first | exact h | exact hL x a _ v w h) (by kernel_rfl) (by kernel_rfl) (H35.drew) ?_
        have H36d := H35.drew
        clear H35
        refine k_pure (by kernel_rfl) (d := (some 157)) (by kernel_rfl) (v := .int .u32 V.h) (fun _ => by kernel_rfl) ?_
        refine k_pure (by kernel_rfl) (d := (some 158)) (by kernel_rfl) (v := .int .u32 V.e) (fun _ => by kernel_rfl) ?_
        refine k_pure (by kernel_rfl) (d := (some 160)) (by kernel_rfl) (v := .int .u32 V.e) (fun _ => by kernel_rfl) ?_
        refine k_pure (by kernel_rfl) (d := (some 163)) (by kernel_rfl) (v := .int .u32 V.e) (fun _ => by kernel_rfl) ?_
        refine k_pure (by kernel_rfl) (d := (some 167)) (by kernel_rfl) (v := .int .u32 V.e) (fun _ => by kernel_rfl) ?_
        refine k_pure (by kernel_rfl) (d := (some 168)) (by kernel_rfl) (v := .int .u32 V.f) (fun _ => by kernel_rfl) ?_
        refine k_pure (by kernel_rfl) (d := (some 169)) (by kernel_rfl) (v := .int .u32 (wN V.e V.f)) (fun _ => by kernel_rfl) ?_
        refine k_pure (by kernel_rfl) (d := (some 170)) (by kernel_rfl) (v := .int .u32 V.e) (fun _ => by kernel_rfl) ?_
        refine k_pure (by kernel_rfl) (d := (some 171)) (by kernel_rfl) (v := .int .u32 (wC V.e)) (fun _ => by kernel_rfl) ?_
        refine k_pure (by kernel_rfl) (d := (some 172)) (by kernel_rfl) (v := .int .u32 V.g) (fun _ => by kernel_rfl) ?_
        refine k_pure (by kernel_rfl) (d := (some 173)) (by kernel_rfl) (v := .int .u32 (wN (wC V.e) V.g)) (fun _ => by kernel_rfl) ?_
        refine k_pure (by kernel_rfl) (d := (some 174)) (by kernel_rfl) (v := .int .u32 (wX (wN V.e V.f) (wN (wC V.e) V.g))) (fun _ => by kernel_rfl) ?_
        refine k_pure (by kernel_rfl) (d := (some 176)) (by kernel_rfl) (v := .int .i64 ((t : Nat) : Int)) (fun _ => by kernel_rfl) ?_
        refine k_pure (by kernel_rfl) (d := (some 177)) (by kernel_rfl) (v := .pointer (some ⟨0, t, none⟩)) (fun _ => run_indexZ (t := 56) (x := (.global 0)) (y := (.tmp 176)) (b := 0) (off := 0) (off' := t) (i := t) (z := ((t : Nat) : Int)) (by kernel_rfl) (by kernel_rfl) (by kernel_rfl) rfl Tryd.underlying56 (by kernel_rfl) (by omega) (by omega)) ?_
        refine k_ifR (by kernel_rfl) (d := (some 178)) (by kernel_rfl) (v := .int .u32 (kk t)) (fun _ hs => run_loadA (ty := 40) (x := (.tmp 177)) (a := ⟨0, t, none⟩) (by kernel_rfl) (by kernel_rfl) Tryd.underlying40 rfl (hs.old (HGK.out.cell (wv_get (kc_get (by omega)))) (bsC (Nat.le_refl _) bs0))) ?_
        refine k_pure (by kernel_rfl) (d := (some 180)) (by kernel_rfl) (v := .int .i64 ((t : Nat) : Int)) (fun _ => by kernel_rfl) ?_
        refine k_pure (by kernel_rfl) (d := (some 181)) (by kernel_rfl) (v := .pointer (some ⟨w.heap.size, t, none⟩)) (fun _ => run_indexZ (t := 56) (x := (.tmp 4)) (y := (.tmp 180)) (b := w.heap.size) (off := 0) (off' := t) (i := t) (z := ((t : Nat) : Int)) (by kernel_rfl) (by kernel_rfl) (by kernel_rfl) rfl Tryd.underlying56 (by kernel_rfl) (by omega) (by omega)) ?_
        refine k_ifR (by kernel_rfl) (d := (some 182)) (by kernel_rfl) (v := .int .u32 (wd B t)) (fun _ hs => run_loadA (ty := 40) (x := (.tmp 181)) (a := ⟨w.heap.size, t, none⟩) (by kernel_rfl) (by kernel_rfl) Tryd.underlying40 rfl ((hs.at 0 rfl).cell (wv_get (wm_get (by omega))))) ?_
        refine k_callR (by kernel_rfl) (d := (some 159)) (by kernel_rfl) (f := 26) (args := #[.int .u32 V.e, .int .i64 (-6)]) (fun _ => by kernel_rfl) (rot_c (x := V.e) (n := 6) (by decide) (by decide)) (fun _ w55 ⟨he55, hb55⟩ => ⟨_, he55, H36d.go hb55, ?_⟩)
        have H55 := H36d.go hb55
        clear H36d hb55 he55
        refine k_callR (by kernel_rfl) (d := (some 161)) (by kernel_rfl) (f := 26) (args := #[.int .u32 V.e, .int .i64 (-11)]) (fun _ => by kernel_rfl) (rot_c (x := V.e) (n := 11) (by decide) (by decide)) (fun _ w56 ⟨he56, hb56⟩ => ⟨_, he56, H55.go hb56, ?_⟩)
        have H56 := H55.go hb56
        clear H55 hb56 he56
        refine k_pure (by kernel_rfl) (d := (some 162)) (by kernel_rfl) (v := .int .u32 (wX (ror V.e 6) (ror V.e 11))) (fun _ => by kernel_rfl) ?_
        refine k_callR (by kernel_rfl) (d := (some 164)) (by kernel_rfl) (f := 26) (args := #[.int .u32 V.e, .int .i64 (-25)]) (fun _ => by kernel_rfl) (rot_c (x := V.e) (n := 25) (by decide) (by decide)) (fun _ w58 ⟨he58, hb58⟩ => ⟨_, he58, H56.go hb58, ?_⟩)
        have H58 := H56.go hb58
        clear H56 hb58 he58
        refine k_pure (by kernel_rfl) (d := (some 165)) (by kernel_rfl) (v := .int .u32 (wX (wX (ror V.e 6) (ror V.e 11)) (ror V.e 25))) (fun _ => by kernel_rfl) ?_
        refine k_pure (by kernel_rfl) (d := (some 166)) (by kernel_rfl) (v := .int .u32 (wA V.h (wX (wX (ror V.e 6) (ror V.e 11)) (ror V.e 25)))) (fun _ => by kernel_rfl) ?_
        refine k_pure (by kernel_rfl) (d := (some 175)) (by kernel_rfl) (v := .int .u32 (wA (wA V.h (wX (wX (ror V.e 6) (ror V.e 11)) (ror V.e 25))) (wX (wN V.e V.f) (wN (wC V.e) V.g)))) (fun _ => by kernel_rfl) ?_
        refine k_pure (by kernel_rfl) (d := (some 179)) (by kernel_rfl) (v := .int .u32 (wA (wA (wA V.h (wX (wX (ror V.e 6) (ror V.e 11)) (ror V.e 25))) (wX (wN V.e V.f) (wN (wC V.e) V.g))) (kk t))) (fun _ => by kernel_rfl) ?_
        refine k_pure (by kernel_rfl) (d := (some 183)) (by kernel_rfl) (v := .int .u32 (wA (wA (wA (wA V.h (wX (wX (ror V.e 6) (ror V.e 11)) (ror V.e 25))) (wX (wN V.e V.f) (wN (wC V.e) V.g))) (kk t)) (wd B t))) (fun _ => by kernel_rfl) ?_
        refine k_pure (by kernel_rfl) (d := (some 27)) (by kernel_rfl) (v := .int .u32 (t1 V (kk t) (wd B t))) (fun _ => by kernel_rfl) ?_
        refine k_end ?_
        go_simp
        go_upto_region 16 with (fail)
        refine wp_seq_atS (opsAt Tryd.f21 16) ((true, 0) :: (false, 1) :: (true, 2) :: (false, 3) :: (true, 4) :: (true, 5) :: (false, 6) :: (true, 7) :: (true, 8) :: (true, 9) :: (true, 10) :: (true, 11) :: (true, 12) :: (true, 13) :: (true, 14) :: (true, 15) :: (true, 16) :: (true, 17) :: (true, 18) :: (true, 19) :: (true, 20) :: []) (fun _ => True) (by kernel_rfl) (by kernel_rfl) trivial ?_
        refine k_pure (by kernel_rfl) (d := (some 184)) (by kernel_rfl) (v := .int .u32 V.a) (fun _ => by kernel_rfl) ?_
        refine k_callR (by kernel_rfl) (d := (some 185)) (by kernel_rfl) (f := 26) (args := #[.int .u32 V.a, .int .i64 (-2)]) (fun _ => by kernel_rfl) (rot_c (x := V.a) (n := 2) (by decide) (by decide)) (fun _ w65 ⟨he65, hb65⟩ => ⟨_, he65, trivial, ?_⟩)
        have H65 := H58.go hb65
        clear H58 hb65 he65
        refine k_pure (by kernel_rfl) (d := (some 186)) (by kernel_rfl) (v := .int .u32 V.a) (fun _ => by kernel_rfl) ?_
        refine k_callR (by kernel_rfl) (d := (some 187)) (by kernel_rfl) (f := 26) (args := #[.int .u32 V.a, .int .i64 (-13)]) (fun _ => by kernel_rfl) (rot_c (x := V.a) (n := 13) (by decide) (by decide)) (fun _ w67 ⟨he67, hb67⟩ => ⟨_, he67, trivial, ?_⟩)
        have H67 := H65.go hb67
        clear H65 hb67 he67
        refine k_pure (by kernel_rfl) (d := (some 188)) (by kernel_rfl) (v := .int .u32 (wX (ror V.a 2) (ror V.a 13))) (fun _ => by kernel_rfl) ?_
        refine k_pure (by kernel_rfl) (d := (some 189)) (by kernel_rfl) (v := .int .u32 V.a) (fun _ => by kernel_rfl) ?_
        refine k_callR (by kernel_rfl) (d := (some 190)) (by kernel_rfl) (f := 26) (args := #[.int .u32 V.a, .int .i64 (-22)]) (fun _ => by kernel_rfl) (rot_c (x := V.a) (n := 22) (by decide) (by decide)) (fun _ w70 ⟨he70, hb70⟩ => ⟨_, he70, trivial, ?_⟩)
        have H70 := H67.go hb70
        clear H67 hb70 he70
        refine k_pure (by kernel_rfl) (d := (some 191)) (by kernel_rfl) (v := .int .u32 (wX (wX (ror V.a 2) (ror V.a 13)) (ror V.a 22))) (fun _ => by kernel_rfl) ?_
        refine k_pure (by kernel_rfl) (d := (some 192)) (by kernel_rfl) (v := .int .u32 V.a) (fun _ => by kernel_rfl) ?_
        refine k_pure (by kernel_rfl) (d := (some 193)) (by kernel_rfl) (v := .int .u32 V.b) (fun _ => by kernel_rfl) ?_
        refine k_pure (by kernel_rfl) (d := (some 194)) (by kernel_rfl) (v := .int .u32 (wN V.a V.b)) (fun _ => by kernel_rfl) ?_
        refine k_pure (by kernel_rfl) (d := (some 195)) (by kernel_rfl) (v := .int .u32 V.a) (fun _ => by kernel_rfl) ?_
        refine k_pure (by kernel_rfl) (d := (some 196)) (by kernel_rfl) (v := .int .u32 V.c) (fun _ => by kernel_rfl) ?_
        refine k_pure (by kernel_rfl) (d := (some 197)) (by kernel_rfl) (v := .int .u32 (wN V.a V.c)) (fun _ => by kernel_rfl) ?_
        refine k_pure (by kernel_rfl) (d := (some 198)) (by kernel_rfl) (v := .int .u32 (wX (wN V.a V.b) (wN V.a V.c))) (fun _ => by kernel_rfl) ?_
        refine k_pure (by kernel_rfl) (d := (some 199)) (by kernel_rfl) (v := .int .u32 V.b) (fun _ => by kernel_rfl) ?_
        refine k_pure (by kernel_rfl) (d := (some 200)) (by kernel_rfl) (v := .int .u32 V.c) (fun _ => by kernel_rfl) ?_
        refine k_pure (by kernel_rfl) (d := (some 201)) (by kernel_rfl) (v := .int .u32 (wN V.b V.c)) (fun _ => by kernel_rfl) ?_
        refine k_pure (by kernel_rfl) (d := (some 202)) (by kernel_rfl) (v := .int .u32 (wX (wX (wN V.a V.b) (wN V.a V.c)) (wN V.b V.c))) (fun _ => by kernel_rfl) ?_
        refine k_pure (by kernel_rfl) (d := (some 203)) (by kernel_rfl) (v := .int .u32 (wA (wX (wX (ror V.a 2) (ror V.a 13)) (ror V.a 22)) (wX (wX (wN V.a V.b) (wN V.a V.c)) (wN V.b V.c)))) (fun _ => by kernel_rfl) ?_
        refine k_pure (by kernel_rfl) (d := (some 28)) (by kernel_rfl) (v := .int .u32 (t2 V)) (fun _ => by kernel_rfl) ?_
        refine k_end ?_
        go_simp
        go_upto_region 17 with (fail)
        go_upto_region 20 with (fail)
        refine wp_seq_atS (opsAt Tryd.f21 20) ((true, 0) :: (true, 1) :: (true, 2) :: (true, 3) :: []) (fun _ => True) (by kernel_rfl) (by kernel_rfl) trivial ?_
        refine k_pure (by kernel_rfl) (d := (some 207)) (by kernel_rfl) (v := .int .u32 V.d) (fun _ => by kernel_rfl) ?_
        refine k_pure (by kernel_rfl) (d := (some 208)) (by kernel_rfl) (v := .int .u32 (t1 V (kk t) (wd B t))) (fun _ => by kernel_rfl) ?_
        refine k_pure (by kernel_rfl) (d := (some 209)) (by kernel_rfl) (v := .int .u32 (wA V.d (t1 V (kk t) (wd B t)))) (fun _ => by kernel_rfl) ?_
        refine k_pure (by kernel_rfl) (d := (some 17)) (by kernel_rfl) (v := .int .u32 (wA V.d (t1 V (kk t) (wd B t)))) (fun _ => by kernel_rfl) ?_
        refine k_end ?_
        go_simp
        go_upto_region 21 with (fail)
        go_upto_region 24 with (fail)
        refine wp_seq_atS (opsAt Tryd.f21 24) ((true, 0) :: (true, 1) :: (true, 2) :: (true, 3) :: []) (fun _ => True) (by kernel_rfl) (by kernel_rfl) trivial ?_
        refine k_pure (by kernel_rfl) (d := (some 213)) (by kernel_rfl) (v := .int .u32 (t1 V (kk t) (wd B t))) (fun _ => by kernel_rfl) ?_
        refine k_pure (by kernel_rfl) (d := (some 214)) (by kernel_rfl) (v := .int .u32 (t2 V)) (fun _ => by kernel_rfl) ?_
        refine k_pure (by kernel_rfl) (d := (some 215)) (by kernel_rfl) (v := .int .u32 (wA (t1 V (kk t) (wd B t)) (t2 V))) (fun _ => by kernel_rfl) ?_
        refine k_pure (by kernel_rfl) (d := (some 13)) (by kernel_rfl) (v := .int .u32 (wA (t1 V (kk t) (wd B t)) (t2 V))) (fun _ => by kernel_rfl) ?_
        refine k_end ?_
        go_simp
        have HJ := Lib.hid (show Mm w [(w.heap.size, wv (wm B M (t + 1)))] w70 from H70)
        clear H70
        have HVN := Lib.hid (show rnd V (kk t) (wd B t) = rs B X (t + 1) from by rw [rs, ← hV.out])
        go_wp2_with fail
        exact ⟨⟨t + 1, rnd V (kk t) (wd B t), by omega, by go_num, rfl, rfl, rfl, rfl, rfl, rfl, rfl, rfl, HVN, Lib.hid HJ.out⟩, by simp [intOf]; omega⟩
      · skip
        have h16I : ¬ (t : Int) < 16 := by omega
        have ht0 : 16 ≤ t := by omega
        go_upto_region 10 with (fail)
        refine wp_seq_atS (opsAt Tryd.f21 10) ((true, 0) :: (true, 1) :: (true, 2) :: (false, 3) :: (true, 4) :: []) (fun _ => True) (by kernel_rfl) (by kernel_rfl) trivial ?_
        refine k_pure (by kernel_rfl) (d := (some 118)) (by kernel_rfl) (v := .int .i64 ((t : Nat) : Int)) (fun _ => by kernel_rfl) ?_
        refine k_pure (by kernel_rfl) (d := (some 119)) (by kernel_rfl) (v := .int .i64 (((t - 2) : Nat) : Int)) (fun _ => run_binOpV (op := .sub) (x := (.tmp 118)) (y := (.const (.int .i64 2))) (t := 3) (t' := 3) (u := .int .i64 ((t : Nat) : Int)) (v := .int .i64 2) (by kernel_rfl) (by kernel_rfl) (by kernel_rfl) rfl (subI (by omega) (by omega))) ?_
        refine k_pure (by kernel_rfl) (d := (some 120)) (by kernel_rfl) (v := .pointer (some ⟨w.heap.size, (t - 2), none⟩)) (fun _ => run_indexZ (t := 56) (x := (.tmp 4)) (y := (.tmp 119)) (b := w.heap.size) (off := 0) (off' := (t - 2)) (i := (t - 2)) (z := (((t - 2) : Nat) : Int)) (by kernel_rfl) (by kernel_rfl) (by kernel_rfl) rfl Tryd.underlying56 (by kernel_rfl) (by omega) (by omega)) ?_
        refine k_make (by kernel_rfl) (d := (some 121)) (by kernel_rfl) (v := .int .u32 (wd B (t - 2))) (run_loadA (ty := 40) (x := (.tmp 120)) (a := ⟨w.heap.size, (t - 2), none⟩) (by kernel_rfl) (by kernel_rfl) Tryd.underlying40 rfl ((H90.at 0 rfl).cell (wv_get (wm_get (by omega))))) trivial ?_
        intro w95 hw95 _
        replace hw95 := hw95.symm
        subst hw95
        refine k_pure (by kernel_rfl) (d := (some 23)) (by kernel_rfl) (v := .int .u32 (wd B (t - 2))) (fun _ => by kernel_rfl) ?_
        refine k_end ?_
        go_simp
        go_upto_region 11 with (fail)
        refine wp_seq_atS (opsAt Tryd.f21 11) ((true, 0) :: (false, 1) :: (true, 2) :: (false, 3) :: (true, 4) :: (true, 5) :: (true, 6) :: (true, 7) :: (true, 8) :: []) (fun _ => True) (by kernel_rfl) (by kernel_rfl) trivial ?_
        refine k_pure (by kernel_rfl) (d := (some 122)) (by kernel_rfl) (v := .int .u32 (wd B (t - 2))) (fun _ => by kernel_rfl) ?_
        refine k_callR (by kernel_rfl) (d := (some 123)) (by kernel_rfl) (f := 26) (args := #[.int .u32 (wd B (t - 2)), .int .i64 (-17)]) (fun _ => by kernel_rfl) (rot_c (x := (wd B (t - 2))) (n := 17) (by decide) (by decide)) (fun _ w98 ⟨he98, hb98⟩ => ⟨_, he98, trivial, ?_⟩)
        have H98 := H90.go hb98
        clear H90 hb98 he98
        refine k_pure (by kernel_rfl) (d := (some 124)) (by kernel_rfl) (v := .int .u32 (wd B (t - 2))) (fun _ => by kernel_rfl) ?_
        refine k_callR (by kernel_rfl) (d := (some 125)) (by kernel_rfl) (f := 26) (args := #[.int .u32 (wd B (t - 2)), .int .i64 (-19)]) (fun _ => by kernel_rfl) (rot_c (x := (wd B (t - 2))) (n := 19) (by decide) (by decide)) (fun _ w100 ⟨he100, hb100⟩ => ⟨_, he100, trivial, ?_⟩)
        have H100 := H98.go hb100
        clear H98 hb100 he100
        refine k_pure (by kernel_rfl) (d := (some 126)) (by kernel_rfl) (v := .int .u32 (wX (ror (wd B (t - 2)) 17) (ror (wd B (t - 2)) 19))) (fun _ => by kernel_rfl) ?_
        refine k_pure (by kernel_rfl) (d := (some 127)) (by kernel_rfl) (v := .int .u32 (wd B (t - 2))) (fun _ => by kernel_rfl) ?_
        refine k_pure (by kernel_rfl) (d := (some 128)) (by kernel_rfl) (v := .int .u32 (wR (wd B (t - 2)) 10)) (fun _ => run_binOpV (op := .shr) (x := (.tmp 127)) (y := (.const (.int .u64 10))) (t := 40) (t' := 52) (u := .int .u32 (wd B (t - 2))) (v := .int .u64 10) (by kernel_rfl) (by kernel_rfl) (by kernel_rfl) rfl (shrU (n := 10) (by first | rfl | omega) (by first | decide | (show _ ≤ 32; omega)))) ?_
        refine k_pure (by kernel_rfl) (d := (some 129)) (by kernel_rfl) (v := .int .u32 (wX (wX (ror (wd B (t - 2)) 17) (ror (wd B (t - 2)) 19)) (wR (wd B (t - 2)) 10))) (fun _ => by kernel_rfl) ?_
        refine k_pure (by kernel_rfl) (d := (some 24)) (by kernel_rfl) (v := .int .u32 (sg1 (wd B (t - 2)))) (fun _ => by kernel_rfl) ?_
        refine k_end ?_
        go_simp
        go_upto_region 12 with (fail)
        refine wp_seq_atS (opsAt Tryd.f21 12) ((true, 0) :: (true, 1) :: (true, 2) :: (false, 3) :: (true, 4) :: []) (fun _ => True) (by kernel_rfl) (by kernel_rfl) trivial ?_
        refine k_pure (by kernel_rfl) (d := (some 130)) (by kernel_rfl) (v := .int .i64 ((t : Nat) : Int)) (fun _ => by kernel_rfl) ?_
        refine k_pure (by kernel_rfl) (d := (some 131)) (by kernel_rfl) (v := .int .i64 (((t - 15) : Nat) : Int)) (fun _ => run_binOpV (op := .sub) (x := (.tmp 130)) (y := (.const (.int .i64 15))) (t := 3) (t' := 3) (u := .int .i64 ((t : Nat) : Int)) (v := .int .i64 15) (by kernel_rfl) (by kernel_rfl) (by kernel_rfl) rfl (subI (by omega) (by omega))) ?_
        refine k_pure (by kernel_rfl) (d := (some 132)) (by kernel_rfl) (v := .pointer (some ⟨w.heap.size, (t - 15), none⟩)) (fun _ => run_indexZ (t := 56) (x := (.tmp 4)) (y := (.tmp 131)) (b := w.heap.size) (off := 0) (off' := (t - 15)) (i := (t - 15)) (z := (((t - 15) : Nat) : Int)) (by kernel_rfl) (by kernel_rfl) (by kernel_rfl) rfl Tryd.underlying56 (by kernel_rfl) (by omega) (by omega)) ?_
        refine k_make (by kernel_rfl) (d := (some 133)) (by kernel_rfl) (v := .int .u32 (wd B (t - 15))) (run_loadA (ty := 40) (x := (.tmp 132)) (a := ⟨w.heap.size, (t - 15), none⟩) (by kernel_rfl) (by kernel_rfl) Tryd.underlying40 rfl ((H100.at 0 rfl).cell (wv_get (wm_get (by omega))))) trivial ?_
        intro w108 hw108 _
        replace hw108 := hw108.symm
        subst hw108
        refine k_pure (by kernel_rfl) (d := (some 25)) (by kernel_rfl) (v := .int .u32 (wd B (t - 15))) (fun _ => by kernel_rfl) ?_
        refine k_end ?_
        go_simp
        go_upto_region 13 with (fail)
        refine wp_seq_atS (opsAt Tryd.f21 13) ((true, 0) :: (false, 1) :: (true, 2) :: (false, 3) :: (true, 4) :: (true, 5) :: (true, 6) :: (true, 7) :: (true, 8) :: []) (fun _ => True) (by kernel_rfl) (by kernel_rfl) trivial ?_
        refine k_pure (by kernel_rfl) (d := (some 134)) (by kernel_rfl) (v := .int .u32 (wd B (t - 15))) (fun _ => by kernel_rfl) ?_
        refine k_callR (by kernel_rfl) (d := (some 135)) (by kernel_rfl) (f := 26) (args := #[.int .u32 (wd B (t - 15)), .int .i64 (-7)]) (fun _ => by kernel_rfl) (rot_c (x := (wd B (t - 15))) (n := 7) (by decide) (by decide)) (fun _ w111 ⟨he111, hb111⟩ => ⟨_, he111, trivial, ?_⟩)
        have H111 := H100.go hb111
        clear H100 hb111 he111
        refine k_pure (by kernel_rfl) (d := (some 136)) (by kernel_rfl) (v := .int .u32 (wd B (t - 15))) (fun _ => by kernel_rfl) ?_
        refine k_callR (by kernel_rfl) (d := (some 137)) (by kernel_rfl) (f := 26) (args := #[.int .u32 (wd B (t - 15)), .int .i64 (-18)]) (fun _ => by kernel_rfl) (rot_c (x := (wd B (t - 15))) (n := 18) (by decide) (by decide)) (fun _ w113 ⟨he113, hb113⟩ => ⟨_, he113, trivial, ?_⟩)
        have H113 := H111.go hb113
        clear H111 hb113 he113
        refine k_pure (by kernel_rfl) (d := (some 138)) (by kernel_rfl) (v := .int .u32 (wX (ror (wd B (t - 15)) 7) (ror (wd B (t - 15)) 18))) (fun _ => by kernel_rfl) ?_
        refine k_pure (by kernel_rfl) (d := (some 139)) (by kernel_rfl) (v := .int .u32 (wd B (t - 15))) (fun _ => by kernel_rfl) ?_
        refine k_pure (by kernel_rfl) (d := (some 140)) (by kernel_rfl) (v := .int .u32 (wR (wd B (t - 15)) 3)) (fun _ => run_binOpV (op := .shr) (x := (.tmp 139)) (y := (.const (.int .u64 3))) (t := 40) (t' := 52) (u := .int .u32 (wd B (t - 15))) (v := .int .u64 3) (by kernel_rfl) (by kernel_rfl) (by kernel_rfl) rfl (shrU (n := 3) (by first | rfl | omega) (by first | decide | (show _ ≤ 32; omega)))) ?_
        refine k_pure (by kernel_rfl) (d := (some 141)) (by kernel_rfl) (v := .int .u32 (wX (wX (ror (wd B (t - 15)) 7) (ror (wd B (t - 15)) 18)) (wR (wd B (t - 15)) 3))) (fun _ => by kernel_rfl) ?_
        refine k_pure (by kernel_rfl) (d := (some 26)) (by kernel_rfl) (v := .int .u32 (sg0 (wd B (t - 15)))) (fun _ => by kernel_rfl) ?_
        refine k_end ?_
        go_simp
        go_upto_region 14 with (fail)
        refine wp_region_atS (opsAt Tryd.f21 14) ((true, 0) :: (true, 1) :: (true, 2) :: (true, 3) :: (true, 4) :: (true, 5) :: (true, 6) :: (true, 7) :: (true, 8) :: (true, 9) :: (true, 10) :: (true, 11) :: (true, 12) :: (true, 13) :: (true, 14) :: (false, 15) :: []) (fun W => Mm w [(w.heap.size, wv (wm B M t))] W ∨ Mm w [(w.heap.size, wv (wm B M (t + 1)))] W) (by kernel_rfl) rfl (by kernel_rfl) (fun x a d v w h => by cases d <;> first | exact h | exact hL x a _ v w h) (by kernel_rfl) (by kernel_rfl) (Or.inl H113.drew) ?_
        have H118d := H113.drew
        clear H113
        refine k_pure (by kernel_rfl) (d := (some 142)) (by kernel_rfl) (v := .int .i64 ((t : Nat) : Int)) (fun _ => by kernel_rfl) ?_
        refine k_pure (by kernel_rfl) (d := (some 143)) (by kernel_rfl) (v := .int .u32 (sg1 (wd B (t - 2)))) (fun _ => by kernel_rfl) ?_
        refine k_pure (by kernel_rfl) (d := (some 144)) (by kernel_rfl) (v := .int .i64 ((t : Nat) : Int)) (fun _ => by kernel_rfl) ?_
        refine k_pure (by kernel_rfl) (d := (some 145)) (by kernel_rfl) (v := .int .i64 (((t - 7) : Nat) : Int)) (fun _ => run_binOpV (op := .sub) (x := (.tmp 144)) (y := (.const (.int .i64 7))) (t := 3) (t' := 3) (u := .int .i64 ((t : Nat) : Int)) (v := .int .i64 7) (by kernel_rfl) (by kernel_rfl) (by kernel_rfl) rfl (subI (by omega) (by omega))) ?_
        refine k_pure (by kernel_rfl) (d := (some 146)) (by kernel_rfl) (v := .pointer (some ⟨w.heap.size, (t - 7), none⟩)) (fun _ => run_indexZ (t := 56) (x := (.tmp 4)) (y := (.tmp 145)) (b := w.heap.size) (off := 0) (off' := (t - 7)) (i := (t - 7)) (z := (((t - 7) : Nat) : Int)) (by kernel_rfl) (by kernel_rfl) (by kernel_rfl) rfl Tryd.underlying56 (by kernel_rfl) (by omega) (by omega)) ?_
        refine k_ifR (by kernel_rfl) (d := (some 147)) (by kernel_rfl) (v := .int .u32 (wd B (t - 7))) (fun _ hs => run_loadA (ty := 40) (x := (.tmp 146)) (a := ⟨w.heap.size, (t - 7), none⟩) (by kernel_rfl) (by kernel_rfl) Tryd.underlying40 rfl (hs.elim (fun h => (h.at 0 rfl).cell (wv_get (wm_get (by omega)))) (fun h => (h.at 0 rfl).cell (wv_get (wm_get (by omega)))))) ?_
        refine k_pure (by kernel_rfl) (d := (some 148)) (by kernel_rfl) (v := .int .u32 (wA (sg1 (wd B (t - 2))) (wd B (t - 7)))) (fun _ => by kernel_rfl) ?_
        refine k_pure (by kernel_rfl) (d := (some 149)) (by kernel_rfl) (v := .int .u32 (sg0 (wd B (t - 15)))) (fun _ => by kernel_rfl) ?_
        refine k_pure (by kernel_rfl) (d := (some 150)) (by kernel_rfl) (v := .int .u32 (wA (wA (sg1 (wd B (t - 2))) (wd B (t - 7))) (sg0 (wd B (t - 15))))) (fun _ => by kernel_rfl) ?_
        refine k_pure (by kernel_rfl) (d := (some 151)) (by kernel_rfl) (v := .int .i64 ((t : Nat) : Int)) (fun _ => by kernel_rfl) ?_
        refine k_pure (by kernel_rfl) (d := (some 152)) (by kernel_rfl) (v := .int .i64 (((t - 16) : Nat) : Int)) (fun _ => run_binOpV (op := .sub) (x := (.tmp 151)) (y := (.const (.int .i64 16))) (t := 3) (t' := 3) (u := .int .i64 ((t : Nat) : Int)) (v := .int .i64 16) (by kernel_rfl) (by kernel_rfl) (by kernel_rfl) rfl (subI (by omega) (by omega))) ?_
        refine k_pure (by kernel_rfl) (d := (some 153)) (by kernel_rfl) (v := .pointer (some ⟨w.heap.size, (t - 16), none⟩)) (fun _ => run_indexZ (t := 56) (x := (.tmp 4)) (y := (.tmp 152)) (b := w.heap.size) (off := 0) (off' := (t - 16)) (i := (t - 16)) (z := (((t - 16) : Nat) : Int)) (by kernel_rfl) (by kernel_rfl) (by kernel_rfl) rfl Tryd.underlying56 (by kernel_rfl) (by omega) (by omega)) ?_
        refine k_ifR (by kernel_rfl) (d := (some 154)) (by kernel_rfl) (v := .int .u32 (wd B (t - 16))) (fun _ hs => run_loadA (ty := 40) (x := (.tmp 153)) (a := ⟨w.heap.size, (t - 16), none⟩) (by kernel_rfl) (by kernel_rfl) Tryd.underlying40 rfl (hs.elim (fun h => (h.at 0 rfl).cell (wv_get (wm_get (by omega)))) (fun h => (h.at 0 rfl).cell (wv_get (wm_get (by omega)))))) ?_
        refine k_pure (by kernel_rfl) (d := (some 155)) (by kernel_rfl) (v := .int .u32 (wA (wA (wA (sg1 (wd B (t - 2))) (wd B (t - 7))) (sg0 (wd B (t - 15)))) (wd B (t - 16)))) (fun _ => by kernel_rfl) ?_
        refine k_pure (by kernel_rfl) (d := (some 156)) (by kernel_rfl) (v := .pointer (some ⟨w.heap.size, t, none⟩)) (fun _ => run_indexZ (t := 56) (x := (.tmp 4)) (y := (.tmp 142)) (b := w.heap.size) (off := 0) (off' := t) (i := t) (z := ((t : Nat) : Int)) (by kernel_rfl) (by kernel_rfl) (by kernel_rfl) rfl Tryd.underlying56 (by kernel_rfl) (by omega) (by omega)) ?_
        have H134 : Mm w [(w.heap.size, wv (wm B M (t + 1)))] (w113.drew.setCell ⟨w.heap.size, t, none⟩ (.int .u32 (wA (wA (wA (sg1 (wd B (t - 2))) (wd B (t - 7))) (sg0 (wd B (t - 15)))) (wd B (t - 16))))) := (by have h := H118d.put 0 rfl t (.int .u32 (wA (wA (wA (sg1 (wd B (t - 2))) (wd B (t - 7))) (sg0 (wd B (t - 15)))) (wd B (t - 16)))); rw [(show (wv (wm B M t)).set t (.int .u32 (wA (wA (wA (sg1 (wd B (t - 2))) (wd B (t - 7))) (sg0 (wd B (t - 15)))) (wd B (t - 16)))) = wv (wm B M (t + 1)) from wm_put_hi HM.out ht0 ht)] at h; exact h)
        refine k_skipOp (by kernel_rfl) (d := none) (by kernel_rfl) (run_storeA (ty := 40) (x := (.tmp 156)) (y := (.tmp 155)) (b := w.heap.size) (off := t) (v := .int .u32 (wA (wA (wA (sg1 (wd B (t - 2))) (wd B (t - 7))) (sg0 (wd B (t - 15)))) (wd B (t - 16)))) (by kernel_rfl) (by kernel_rfl) (by kernel_rfl) rfl rfl (by kernel_rfl) ((H118d.at 0 rfl).cell (wm_old HM.out (by omega))) (H118d.at 0 rfl).free) (Or.inr H134) ?_
        intro w134 hw134 _
        rw [← hw134] at H134
        clear hw134 H118d
        refine k_end ?_
        go_simp
        go_upto_region 15 with (fail)
        refine wp_region_atS (opsAt Tryd.f21 15) ((true, 0) :: (true, 1) :: (true, 3) :: (true, 6) :: (true, 10) :: (true, 11) :: (true, 12) :: (true, 13) :: (true, 14) :: (true, 15) :: (true, 16) :: (true, 17) :: (true, 19) :: (true, 20) :: (true, 21) :: (true, 23) :: (true, 24) :: (true, 25) :: (false, 2) :: (false, 4) :: (true, 5) :: (false, 7) :: (true, 8) :: (true, 9) :: (true, 18) :: (true, 22) :: (true, 26) :: (true, 27) :: []) (fun W => Mm w [(w.heap.size, wv (wm B M (t + 1)))] W) (by kernel_rfl) rfl (by kernel_rfl) (fun x a d v w h => by cases d <;> first | exact h | exact hL x a _ v w h) (by kernel_rfl) (by kernel_rfl) (H134.drew) ?_
        have H135d := H134.drew
        clear H134
        refine k_pure (by kernel_rfl) (d := (some 157)) (by kernel_rfl) (v := .int .u32 V.h) (fun _ => by kernel_rfl) ?_
        refine k_pure (by kernel_rfl) (d := (some 158)) (by kernel_rfl) (v := .int .u32 V.e) (fun _ => by kernel_rfl) ?_
        refine k_pure (by kernel_rfl) (d := (some 160)) (by kernel_rfl) (v := .int .u32 V.e) (fun _ => by kernel_rfl) ?_
        refine k_pure (by kernel_rfl) (d := (some 163)) (by kernel_rfl) (v := .int .u32 V.e) (fun _ => by kernel_rfl) ?_
        refine k_pure (by kernel_rfl) (d := (some 167)) (by kernel_rfl) (v := .int .u32 V.e) (fun _ => by kernel_rfl) ?_
        refine k_pure (by kernel_rfl) (d := (some 168)) (by kernel_rfl) (v := .int .u32 V.f) (fun _ => by kernel_rfl) ?_
        refine k_pure (by kernel_rfl) (d := (some 169)) (by kernel_rfl) (v := .int .u32 (wN V.e V.f)) (fun _ => by kernel_rfl) ?_
        refine k_pure (by kernel_rfl) (d := (some 170)) (by kernel_rfl) (v := .int .u32 V.e) (fun _ => by kernel_rfl) ?_
        refine k_pure (by kernel_rfl) (d := (some 171)) (by kernel_rfl) (v := .int .u32 (wC V.e)) (fun _ => by kernel_rfl) ?_
        refine k_pure (by kernel_rfl) (d := (some 172)) (by kernel_rfl) (v := .int .u32 V.g) (fun _ => by kernel_rfl) ?_
        refine k_pure (by kernel_rfl) (d := (some 173)) (by kernel_rfl) (v := .int .u32 (wN (wC V.e) V.g)) (fun _ => by kernel_rfl) ?_
        refine k_pure (by kernel_rfl) (d := (some 174)) (by kernel_rfl) (v := .int .u32 (wX (wN V.e V.f) (wN (wC V.e) V.g))) (fun _ => by kernel_rfl) ?_
        refine k_pure (by kernel_rfl) (d := (some 176)) (by kernel_rfl) (v := .int .i64 ((t : Nat) : Int)) (fun _ => by kernel_rfl) ?_
        refine k_pure (by kernel_rfl) (d := (some 177)) (by kernel_rfl) (v := .pointer (some ⟨0, t, none⟩)) (fun _ => run_indexZ (t := 56) (x := (.global 0)) (y := (.tmp 176)) (b := 0) (off := 0) (off' := t) (i := t) (z := ((t : Nat) : Int)) (by kernel_rfl) (by kernel_rfl) (by kernel_rfl) rfl Tryd.underlying56 (by kernel_rfl) (by omega) (by omega)) ?_
        refine k_ifR (by kernel_rfl) (d := (some 178)) (by kernel_rfl) (v := .int .u32 (kk t)) (fun _ hs => run_loadA (ty := 40) (x := (.tmp 177)) (a := ⟨0, t, none⟩) (by kernel_rfl) (by kernel_rfl) Tryd.underlying40 rfl (hs.old (HGK.out.cell (wv_get (kc_get (by omega)))) (bsC (Nat.le_refl _) bs0))) ?_
        refine k_pure (by kernel_rfl) (d := (some 180)) (by kernel_rfl) (v := .int .i64 ((t : Nat) : Int)) (fun _ => by kernel_rfl) ?_
        refine k_pure (by kernel_rfl) (d := (some 181)) (by kernel_rfl) (v := .pointer (some ⟨w.heap.size, t, none⟩)) (fun _ => run_indexZ (t := 56) (x := (.tmp 4)) (y := (.tmp 180)) (b := w.heap.size) (off := 0) (off' := t) (i := t) (z := ((t : Nat) : Int)) (by kernel_rfl) (by kernel_rfl) (by kernel_rfl) rfl Tryd.underlying56 (by kernel_rfl) (by omega) (by omega)) ?_
        refine k_ifR (by kernel_rfl) (d := (some 182)) (by kernel_rfl) (v := .int .u32 (wd B t)) (fun _ hs => run_loadA (ty := 40) (x := (.tmp 181)) (a := ⟨w.heap.size, t, none⟩) (by kernel_rfl) (by kernel_rfl) Tryd.underlying40 rfl ((hs.at 0 rfl).cell (wv_get (wm_get (by omega))))) ?_
        refine k_callR (by kernel_rfl) (d := (some 159)) (by kernel_rfl) (f := 26) (args := #[.int .u32 V.e, .int .i64 (-6)]) (fun _ => by kernel_rfl) (rot_c (x := V.e) (n := 6) (by decide) (by decide)) (fun _ w154 ⟨he154, hb154⟩ => ⟨_, he154, H135d.go hb154, ?_⟩)
        have H154 := H135d.go hb154
        clear H135d hb154 he154
        refine k_callR (by kernel_rfl) (d := (some 161)) (by kernel_rfl) (f := 26) (args := #[.int .u32 V.e, .int .i64 (-11)]) (fun _ => by kernel_rfl) (rot_c (x := V.e) (n := 11) (by decide) (by decide)) (fun _ w155 ⟨he155, hb155⟩ => ⟨_, he155, H154.go hb155, ?_⟩)
        have H155 := H154.go hb155
        clear H154 hb155 he155
        refine k_pure (by kernel_rfl) (d := (some 162)) (by kernel_rfl) (v := .int .u32 (wX (ror V.e 6) (ror V.e 11))) (fun _ => by kernel_rfl) ?_
        refine k_callR (by kernel_rfl) (d := (some 164)) (by kernel_rfl) (f := 26) (args := #[.int .u32 V.e, .int .i64 (-25)]) (fun _ => by kernel_rfl) (rot_c (x := V.e) (n := 25) (by decide) (by decide)) (fun _ w157 ⟨he157, hb157⟩ => ⟨_, he157, H155.go hb157, ?_⟩)
        have H157 := H155.go hb157
        clear H155 hb157 he157
        refine k_pure (by kernel_rfl) (d := (some 165)) (by kernel_rfl) (v := .int .u32 (wX (wX (ror V.e 6) (ror V.e 11)) (ror V.e 25))) (fun _ => by kernel_rfl) ?_
        refine k_pure (by kernel_rfl) (d := (some 166)) (by kernel_rfl) (v := .int .u32 (wA V.h (wX (wX (ror V.e 6) (ror V.e 11)) (ror V.e 25)))) (fun _ => by kernel_rfl) ?_
        refine k_pure (by kernel_rfl) (d := (some 175)) (by kernel_rfl) (v := .int .u32 (wA (wA V.h (wX (wX (ror V.e 6) (ror V.e 11)) (ror V.e 25))) (wX (wN V.e V.f) (wN (wC V.e) V.g)))) (fun _ => by kernel_rfl) ?_
        refine k_pure (by kernel_rfl) (d := (some 179)) (by kernel_rfl) (v := .int .u32 (wA (wA (wA V.h (wX (wX (ror V.e 6) (ror V.e 11)) (ror V.e 25))) (wX (wN V.e V.f) (wN (wC V.e) V.g))) (kk t))) (fun _ => by kernel_rfl) ?_
        refine k_pure (by kernel_rfl) (d := (some 183)) (by kernel_rfl) (v := .int .u32 (wA (wA (wA (wA V.h (wX (wX (ror V.e 6) (ror V.e 11)) (ror V.e 25))) (wX (wN V.e V.f) (wN (wC V.e) V.g))) (kk t)) (wd B t))) (fun _ => by kernel_rfl) ?_
        refine k_pure (by kernel_rfl) (d := (some 27)) (by kernel_rfl) (v := .int .u32 (t1 V (kk t) (wd B t))) (fun _ => by kernel_rfl) ?_
        refine k_end ?_
        go_simp
        go_upto_region 16 with (fail)
        refine wp_seq_atS (opsAt Tryd.f21 16) ((true, 0) :: (false, 1) :: (true, 2) :: (false, 3) :: (true, 4) :: (true, 5) :: (false, 6) :: (true, 7) :: (true, 8) :: (true, 9) :: (true, 10) :: (true, 11) :: (true, 12) :: (true, 13) :: (true, 14) :: (true, 15) :: (true, 16) :: (true, 17) :: (true, 18) :: (true, 19) :: (true, 20) :: []) (fun _ => True) (by kernel_rfl) (by kernel_rfl) trivial ?_
        refine k_pure (by kernel_rfl) (d := (some 184)) (by kernel_rfl) (v := .int .u32 V.a) (fun _ => by kernel_rfl) ?_
        refine k_callR (by kernel_rfl) (d := (some 185)) (by kernel_rfl) (f := 26) (args := #[.int .u32 V.a, .int .i64 (-2)]) (fun _ => by kernel_rfl) (rot_c (x := V.a) (n := 2) (by decide) (by decide)) (fun _ w164 ⟨he164, hb164⟩ => ⟨_, he164, trivial, ?_⟩)
        have H164 := H157.go hb164
        clear H157 hb164 he164
        refine k_pure (by kernel_rfl) (d := (some 186)) (by kernel_rfl) (v := .int .u32 V.a) (fun _ => by kernel_rfl) ?_
        refine k_callR (by kernel_rfl) (d := (some 187)) (by kernel_rfl) (f := 26) (args := #[.int .u32 V.a, .int .i64 (-13)]) (fun _ => by kernel_rfl) (rot_c (x := V.a) (n := 13) (by decide) (by decide)) (fun _ w166 ⟨he166, hb166⟩ => ⟨_, he166, trivial, ?_⟩)
        have H166 := H164.go hb166
        clear H164 hb166 he166
        refine k_pure (by kernel_rfl) (d := (some 188)) (by kernel_rfl) (v := .int .u32 (wX (ror V.a 2) (ror V.a 13))) (fun _ => by kernel_rfl) ?_
        refine k_pure (by kernel_rfl) (d := (some 189)) (by kernel_rfl) (v := .int .u32 V.a) (fun _ => by kernel_rfl) ?_
        refine k_callR (by kernel_rfl) (d := (some 190)) (by kernel_rfl) (f := 26) (args := #[.int .u32 V.a, .int .i64 (-22)]) (fun _ => by kernel_rfl) (rot_c (x := V.a) (n := 22) (by decide) (by decide)) (fun _ w169 ⟨he169, hb169⟩ => ⟨_, he169, trivial, ?_⟩)
        have H169 := H166.go hb169
        clear H166 hb169 he169
        refine k_pure (by kernel_rfl) (d := (some 191)) (by kernel_rfl) (v := .int .u32 (wX (wX (ror V.a 2) (ror V.a 13)) (ror V.a 22))) (fun _ => by kernel_rfl) ?_
        refine k_pure (by kernel_rfl) (d := (some 192)) (by kernel_rfl) (v := .int .u32 V.a) (fun _ => by kernel_rfl) ?_
        refine k_pure (by kernel_rfl) (d := (some 193)) (by kernel_rfl) (v := .int .u32 V.b) (fun _ => by kernel_rfl) ?_
        refine k_pure (by kernel_rfl) (d := (some 194)) (by kernel_rfl) (v := .int .u32 (wN V.a V.b)) (fun _ => by kernel_rfl) ?_
        refine k_pure (by kernel_rfl) (d := (some 195)) (by kernel_rfl) (v := .int .u32 V.a) (fun _ => by kernel_rfl) ?_
        refine k_pure (by kernel_rfl) (d := (some 196)) (by kernel_rfl) (v := .int .u32 V.c) (fun _ => by kernel_rfl) ?_
        refine k_pure (by kernel_rfl) (d := (some 197)) (by kernel_rfl) (v := .int .u32 (wN V.a V.c)) (fun _ => by kernel_rfl) ?_
        refine k_pure (by kernel_rfl) (d := (some 198)) (by kernel_rfl) (v := .int .u32 (wX (wN V.a V.b) (wN V.a V.c))) (fun _ => by kernel_rfl) ?_
        refine k_pure (by kernel_rfl) (d := (some 199)) (by kernel_rfl) (v := .int .u32 V.b) (fun _ => by kernel_rfl) ?_
        refine k_pure (by kernel_rfl) (d := (some 200)) (by kernel_rfl) (v := .int .u32 V.c) (fun _ => by kernel_rfl) ?_
        refine k_pure (by kernel_rfl) (d := (some 201)) (by kernel_rfl) (v := .int .u32 (wN V.b V.c)) (fun _ => by kernel_rfl) ?_
        refine k_pure (by kernel_rfl) (d := (some 202)) (by kernel_rfl) (v := .int .u32 (wX (wX (wN V.a V.b) (wN V.a V.c)) (wN V.b V.c))) (fun _ => by kernel_rfl) ?_
        refine k_pure (by kernel_rfl) (d := (some 203)) (by kernel_rfl) (v := .int .u32 (wA (wX (wX (ror V.a 2) (ror V.a 13)) (ror V.a 22)) (wX (wX (wN V.a V.b) (wN V.a V.c)) (wN V.b V.c)))) (fun _ => by kernel_rfl) ?_
        refine k_pure (by kernel_rfl) (d := (some 28)) (by kernel_rfl) (v := .int .u32 (t2 V)) (fun _ => by kernel_rfl) ?_
        refine k_end ?_
        go_simp
        go_upto_region 17 with (fail)
        go_upto_region 20 with (fail)
        refine wp_seq_atS (opsAt Tryd.f21 20) ((true, 0) :: (true, 1) :: (true, 2) :: (true, 3) :: []) (fun _ => True) (by kernel_rfl) (by kernel_rfl) trivial ?_
        refine k_pure (by kernel_rfl) (d := (some 207)) (by kernel_rfl) (v := .int .u32 V.d) (fun _ => by kernel_rfl) ?_
        refine k_pure (by kernel_rfl) (d := (some 208)) (by kernel_rfl) (v := .int .u32 (t1 V (kk t) (wd B t))) (fun _ => by kernel_rfl) ?_
        refine k_pure (by kernel_rfl) (d := (some 209)) (by kernel_rfl) (v := .int .u32 (wA V.d (t1 V (kk t) (wd B t)))) (fun _ => by kernel_rfl) ?_
        refine k_pure (by kernel_rfl) (d := (some 17)) (by kernel_rfl) (v := .int .u32 (wA V.d (t1 V (kk t) (wd B t)))) (fun _ => by kernel_rfl) ?_
        refine k_end ?_
        go_simp
        go_upto_region 21 with (fail)
        go_upto_region 24 with (fail)
        refine wp_seq_atS (opsAt Tryd.f21 24) ((true, 0) :: (true, 1) :: (true, 2) :: (true, 3) :: []) (fun _ => True) (by kernel_rfl) (by kernel_rfl) trivial ?_
        refine k_pure (by kernel_rfl) (d := (some 213)) (by kernel_rfl) (v := .int .u32 (t1 V (kk t) (wd B t))) (fun _ => by kernel_rfl) ?_
        refine k_pure (by kernel_rfl) (d := (some 214)) (by kernel_rfl) (v := .int .u32 (t2 V)) (fun _ => by kernel_rfl) ?_
        refine k_pure (by kernel_rfl) (d := (some 215)) (by kernel_rfl) (v := .int .u32 (wA (t1 V (kk t) (wd B t)) (t2 V))) (fun _ => by kernel_rfl) ?_
        refine k_pure (by kernel_rfl) (d := (some 13)) (by kernel_rfl) (v := .int .u32 (wA (t1 V (kk t) (wd B t)) (t2 V))) (fun _ => by kernel_rfl) ?_
        refine k_end ?_
        go_simp
        have HJ := Lib.hid (show Mm w [(w.heap.size, wv (wm B M (t + 1)))] w169 from H169)
        clear H169
        have HVN := Lib.hid (show rnd V (kk t) (wd B t) = rs B X (t + 1) from by rw [rs, ← hV.out])
        go_wp2_with fail
        exact ⟨⟨t + 1, rnd V (kk t) (wd B t), by omega, by go_num, rfl, rfl, rfl, rfl, rfl, rfl, rfl, rfl, HVN, Lib.hid HJ.out⟩, by simp [intOf]; omega⟩
    · skip
      have htI : ¬ (t : Int) < 64 := by omega
      obtain rfl : t = 64 := by omega
      have H90 := Lib.hid hJ.out
      clear hJ
      go_wp2_with fail
      exact hQ _ _ _ _ _ _ _ _ _ _ _ _ _ _ _ _ _ _ _ _ _ _ _ _ _ _ _ _ _ _ _ _ _ _ _ _ _ _ _ _ _ _ _ _ _ _ _ _ _ _ _ _ _ _ _ _ _ _ _ _ _ _ _ _ _ _ _ _ _ _ _ _ _ _ _ _ _ _ _ _ _ _ _ _ _ _ _ _ _ _ _ _ _ _ _ _ _ _ _ _ _ _ _ _ _ _ _ _ _ _ _ _ _ _ _ _ _ _ _ _ _ _ _ _ _ _ _ _ _ _ _ _ _ _ _ _ _ _ _ _ _ _ _ _ _ _ _ hV.out H90.out
end Go.Proofs.YtkmofjefjbhbhaaDoor
