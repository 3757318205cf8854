/- A region that draws its order, in which several operations that make memory or call may come up: a walk by a tree. No condition. -/
import Derived.Test.YtkmofjefjbhbhaaDoorSum
namespace Go.FourQ
open Go.RowKit

/-- A tree of orders. -/
inductive PT where
  | done
  | nil
  | take (i : Nat) (t : PT)
  | fork (i : Nat) (t m : PT)

def PT.heads : PT → List Nat
  | .fork i _ m => i :: m.heads
  | _ => []

section
variable {P : Program} {md : Region.Mode} {ops : Array Oper} {Q : Exit → Act → World → Prop} {S : World → Prop}

def PT.ok (md : Region.Mode) (ops : Array Oper) : Bool → Array Bool → PT → Bool
  | true, listed, .done => (Region.ready md ops listed).isEmpty
  | false, _, .done => false
  | top, _, .nil => !top
  | top, listed, .take i t => top && Region.free md ops listed i && (Region.ready md ops listed).contains i && PT.ok md ops true (listed.setIfInBounds i true) t
  | top, listed, .fork i t m => (!top || Region.ready md ops listed == i :: m.heads) && PT.ok md ops true (listed.setIfInBounds i true) t && PT.ok md ops false listed m

def wpTree (P : Program) (ops : Array Oper) (Q : Exit → Act → World → Prop) (S : World → Prop) : PT → Act → World → Prop
  | .done, a, w => Q .normal a w
  | .nil, _, _ => True
  | .take i t, a, w => ∃ o v, ops[i]? = some o ∧ YieldsIf P ops S o v a ∧ wpTree P ops Q S t (a.put o.dst v) w
  | .fork i t m, a, w => wpOp P ops Q i (fun a' w' => S w' ∧ wpTree P ops Q S t a' w') a w ∧ wpTree P ops Q S m a w

def PT.depth : PT → Nat
  | .take _ t => t.depth + 1
  | .fork _ t m => max (t.depth + 1) m.depth
  | _ => 0

theorem wpAnyH_of_tree (hs : Region.noSelect ops = true) (hQ : ∀ c a (d : Option Tmp) v w, Q (.panic c) (Act.put a d v) w → Q (.panic c) a w) : ∀ (t : PT) (top : Bool) (fuel : Nat) (listed : Array Bool) (a : Act) (w : World),
    t.depth ≤ fuel → PT.ok md ops top listed t = true → S w → wpTree P ops Q S t a w →
      (top = true → wpAnyH P md ops Q S fuel listed a w) ∧
      (top = false → ∀ j ∈ t.heads, ∀ f, fuel = f + 1 → wpOp P ops Q j (fun a' w' => S w' ∧ wpAnyH P md ops Q S f (listed.setIfInBounds j true) a' w') a w)
  | .done, top, fuel, listed, a, w, _, hp, _, h => by
    cases top with
    | true => exact ⟨fun _ => wpAnyH_done (by simpa [PT.ok] using hp) h fuel, fun h => absurd h (by decide)⟩
    | false => simp [PT.ok] at hp
  | .nil, top, fuel, listed, a, w, _, hp, _, _ => by
    cases top with
    | true => simp [PT.ok] at hp
    | false => exact ⟨fun h => absurd h (by decide), fun _ j hj => by simp [PT.heads] at hj⟩
  | .take i t, top, fuel, listed, a, w, hl, hp, hS, h => by
    simp only [PT.ok, Bool.and_eq_true] at hp
    obtain ⟨⟨⟨htop, hf⟩, hr⟩, ht⟩ := hp
    subst htop
    refine ⟨fun _ => ?_, fun h => absurd h (by decide)⟩
    obtain ⟨o, v, ho, hy, h⟩ := h
    cases fuel with
    | zero => simp [PT.depth] at hl
    | succ fuel =>
      simp only [PT.depth, Nat.add_le_add_iff_right] at hl
      exact wpAnyH_take ho hs hf hr (fun c a w => hQ c a o.dst v w) hy hS ((wpAnyH_of_tree hs hQ t true fuel _ _ _ hl ht hS h).1 rfl)
  | .fork i t m, top, fuel, listed, a, w, hl, hp, hS, h => by
    simp only [PT.ok, Bool.and_eq_true] at hp
    obtain ⟨⟨hr, ht⟩, hm⟩ := hp
    have all : ∀ j ∈ i :: m.heads, ∀ f, fuel = f + 1 → wpOp P ops Q j (fun a' w' => S w' ∧ wpAnyH P md ops Q S f (listed.setIfInBounds j true) a' w') a w := by
      intro j hj f hf
      subst hf
      simp only [PT.depth] at hl
      rcases List.mem_cons.1 hj with rfl | hj
      · exact wpOp_mono (fun a' w' h' => ⟨h'.1, (wpAnyH_of_tree hs hQ t true f _ _ _ (by omega) ht h'.1 h'.2).1 rfl⟩) h.1
      · exact (wpAnyH_of_tree hs hQ m false (f + 1) listed a w (by omega) hm hS h.2).2 rfl j hj f rfl
    refine ⟨fun htop => ?_, fun _ => all⟩
    subst htop
    cases fuel with
    | zero => simp only [PT.depth] at hl; omega
    | succ fuel => exact wpAnyH_all (by simpa using hr) (by simp) (fun j hj => all j hj fuel rfl)

/-- 'wpTree', that nobody unfolds. -/
structure TreeG (P : Program) (ops : Array Oper) (Q : Exit → Act → World → Prop) (S : World → Prop) (t : PT) (a : Act) (w : World) : Prop where
  out : wpTree P ops Q S t a w

theorem wp_tree_at {id : Nat} {l : List Oper} {a : Act} {w : World} (ops : Array Oper) (t : PT) (S : World → Prop) (he : l.toArray = ops) (hm : P.follows .mixedOrders = true) (hs : Region.noSelect ops = true)
    (hQ : ∀ c a (d : Option Tmp) v w, Q (.panic c) (Act.put a d v) w → Q (.panic c) a w)
    (hl : Nat.ble t.depth ops.size = true) (hp : PT.ok .any ops true (Array.replicate ops.size false) t = true) (hS : S w.drew)
    (h : TreeG P ops Q S t a w.drew) : (Code.region id l.toArray true).wp P Q a w := by
  subst he
  exact wp_region_held (S := S) hm ((wpAnyH_of_tree hs hQ t true _ _ _ _ (Nat.le_of_ble_eq_true hl) hp hS h.out).1 rfl)

variable {a : Act} {w : World} {t m : PT} {i : Nat} {d : Option Tmp} {v : Value}

theorem t_done (h : Q .normal a w) : TreeG P ops Q S .done a w := ⟨h⟩
theorem t_nil : TreeG P ops Q S .nil a w := ⟨trivial⟩

theorem t_pure (hw : wantN ops i a = some true) (hd : (opN ops i).dst = d) (hrun : ∀ w', (execOp a.eval (opN ops i)).run P w' = .ok (.value v) w')
    (h : TreeG P ops Q S t (a.put d v) w) : TreeG P ops Q S (.take i t) a w := by
  subst hd
  exact ⟨_, v, (wantN_some hw).1, .inl ⟨(wantN_some hw).2, fun w' _ => hrun w'⟩, h.out⟩

theorem t_skip (hw : wantN ops i a = some false) (hd : (opN ops i).dst = d)
    (h : TreeG P ops Q S t (a.put d undef) w) : TreeG P ops Q S (.take i t) a w := by
  subst hd
  exact ⟨_, undef, (wantN_some hw).1, .inr ⟨(wantN_some hw).2, rfl⟩, h.out⟩

theorem t_make (hw : wantN ops i a = some true) (hd : (opN ops i).dst = d) {w' : World} (hrun : (execOp a.eval (opN ops i)).run P w = .ok (.value v) w') (hS : S w')
    (h : ∀ x, x = w' → S x → TreeG P ops Q S t (a.put d v) x) (hm : TreeG P ops Q S m a w) : TreeG P ops Q S (.fork i t m) a w := by
  subst hd
  refine ⟨?_, hm.out⟩
  have hw' := wantN_some hw
  unfold wpOp
  simp only [hw'.1, hw'.2, if_true]
  refine .inl ?_
  unfold Oper.wp
  rw [hrun]
  exact ⟨hS, (h _ rfl hS).out⟩

theorem t_skipOp (hw : wantN ops i a = some true) (hd : (opN ops i).dst = d) {w' : World} (hrun : (execOp a.eval (opN ops i)).run P w = .ok .skip w') (hS : S w')
    (h : ∀ x, x = w' → S x → TreeG P ops Q S t (a.put d undef) x) (hm : TreeG P ops Q S m a w) : TreeG P ops Q S (.fork i t m) a w := by
  subst hd
  refine ⟨?_, hm.out⟩
  have hw' := wantN_some hw
  unfold wpOp
  simp only [hw'.1, hw'.2, if_true]
  refine .inl ?_
  unfold Oper.wp
  rw [hrun]
  exact ⟨hS, (h _ rfl hS).out⟩
theorem t_ifR (hw : wantN ops i a = some true) (hd : (opN ops i).dst = d) (hrun : ∀ w', S w' → (execOp a.eval (opN ops i)).run P w' = .ok (.value v) w')
    (h : TreeG P ops Q S t (a.put d v) w) : TreeG P ops Q S (.take i t) a w := by
  subst hd
  exact ⟨_, v, (wantN_some hw).1, .inl ⟨(wantN_some hw).2, hrun⟩, h.out⟩

/-- What stands behind a piece of code, once for all its ways. -/
theorem wp_meet {c : Code} {K : Act → World → Prop} {Q' : Exit → Act → World → Prop} (R : Act → World → Prop) (first : c.wp P (fun e a' w' => e = .normal ∧ R a' w') a w) (rest : ∀ a' w', R a' w' → K a' w') : c.wp P (Exit.then K Q') a w :=
  wp_mono first fun e a' w' h => by obtain ⟨rfl, h⟩ := h; exact rest a' w' h
end
end Go.FourQ
