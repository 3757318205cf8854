/- From the walk to the row: what was there is as it was; the arguments, opened; the variable, laid. No condition. -/
import Derived.Test.YtkmofjefjbhbhaaDoorLaw
import Derived.Test.YtkmofjefjbhbhaaDoorRows
import Derived.OpenVars
import Derived.ProofKit
import Derived.OpenShut
import Derived.LaidMore
import Derived.Lay
import Derived.SevenTiedAt
import Derived.Stop.Joined
import Derived.Lib.LaidTab
import Derived.Lib.SmallJoins
import Derived.ChangeSlices
namespace Go.FourQ
open Go.ChangeShapes Go.WideShapes Go.ChangeAt Go.RowKit

section
variable {H : Type} {enc : TypeId × Value → H} {P : Program}

def rowed (P : Program) (ts : List TypeId) : Bool := ts.all fun t => P.readableRec t && decide (t < P.types.size)

theorem trodAll_nb (hl : laidOutB P = true) {W W' : World} (hb : Below W.heap.size W W') :
    ∀ {ts : List TypeId} {vs : List Value} {ds : List (DataW H)} {ps : List MemPlace}, rowed P ts = true → (∀ x ∈ ps, x.block < W.heap.size) → DataW.TrodAll enc P W 0 (fun _ => true) true ts vs ds ps →
      DataW.TrodAll enc P W' 0 (fun b => decide (b < W.heap.size)) true ts vs ds ps
  | [], [], [], _, _, _, h => h
  | [], [], _ :: _, _, _, _, h => h.elim
  | [], _ :: _, _, _, _, _, h => h.elim
  | _ :: _, [], _, _, _, _, h => h.elim
  | _ :: _, _ :: _, [], _, _, _, h => h.elim
  | t :: ts, v :: vs, d :: ds, ps, hr, hlt, h => by
    obtain ⟨p, q, h1, h2, e⟩ := h
    simp only [rowed, List.all_cons, Bool.and_eq_true, decide_eq_true_eq] at hr
    exact ⟨p, q, Below.trod hl hr.1.1 hr.1.2 h1 hb (fun x hx => hlt x (by rw [e]; simp [hx])),
      trodAll_nb hl hb (by simpa [rowed] using hr.2) (fun x hx => hlt x (by rw [e]; simp [hx])) h2, e⟩

theorem post_true {f : Func} {s : ChangeSpec} {apart : Bool} {W W' : World} {args : Array Value} {ds gs : List (DataW H)} {before : List MemPlace} {tb : TypeId}
    (hl : laidOutB P = true) (hv : varsRowed P s.vars = true) (hp : rowed P f.params.toList = true) (hrt : f.resultTypes = #[tb]) (htb : P.underlying tb = some .bool)
    (hW : DataW.Whole enc P f.params.toList s.vars apart W args.toList ds gs before)
    (hs : s.fn H (ds ++ gs) = { results := [.lit (.bool true)], args := ds, vars := gs }) (hb : Below W.heap.size W W') :
    s.post enc P f apart true false false W args (.bool true) W' := by
  have hW' := hW
  have hlt := hW.lt
  obtain ⟨p, q, hA, hV, rfl, hfz, hnd⟩ := hW
  refine ⟨ds, gs, p ++ q, [], p, q, hW', ?_, ?_, ?_, hb.frame _, fun h => by cases h⟩
  · rw [hs, hrt]; exact trodAll_mk1 (shut_bool htb true)
  · rw [hs]; exact trodAll_nb hl hb hp (fun x hx => hlt x (by simp [hx])) hA
  · rw [hs]; exact Below.trodVars hl hb hv hV
end

/-- A variable that is one array of numbers. -/
theorem bl_of_tab {P : Program} {W : World} {name : String} {k : IntKind} {zs : List Int} {rest : List (String × DataW Unit)} {g n : Nat} {t e : TypeId}
    (hg : P.globalNamed name = some g) (hty : (P.globals[g]?).map (·.type) = some t) (ht : P.underlying t = some (.array n e)) (he : P.underlying e = some (.int k)) (ce : P.cellsOf e = 1) (ct : P.cellsOf t = n) (hn : 0 < n)
    (h : laidMet P ((name, Lib.tabData k zs) :: rest) W) : Go.Sl.Bl W g (zs.map (Value.int k)) := by
  obtain ⟨ps, ⟨g', t', cs, fuel, p, q, hg', ht', hvar, hd, _, rfl⟩, _, hc⟩ := h
  obtain rfl := Option.some.inj (hg.symm.trans hg')
  obtain rfl := Option.some.inj (hty.symm.trans ht')
  have hcs := Lib.cells_of_tab ht he ce ct hd
  obtain ⟨xs, m, _, hx, hl, hxl, hel⟩ := DataW.trod_array ht hd
  have hsz : cs.size = n := by rw [← ct, ← hl]; simp
  obtain ⟨⟨c, T, hT⟩, _⟩ := hc g 0 (List.mem_append.2 (.inl (List.mem_append.2 (.inl (List.mem_map.2 ⟨0, List.mem_range.2 (by omega), rfl⟩)))))
  refine ⟨T, ?_⟩
  unfold World.var? at hvar
  rw [hg] at hvar
  simp only [Option.bind_some, hT] at hvar
  show W.heap[g]? = some (.cells (zs.map fun z => Value.int k z).toArray T (0, 0))
  rw [hT, ← hcs, Option.some.inj hvar]

section
variable {H : Type} {enc : TypeId × Value → H} {P : Program} {w : World}
/-- Three numbers by value. -/
theorem open_hash {r : Reach} {b0 base : Nat} {spare : Nat → Bool} {held : Bool} {t : TypeId} {f0 f1 f2 : Field} {v : Value} {d : DataW H} {p : List MemPlace} (hs : P.underlying t = some (.struct #[f0, f1, f2])) (hone : Go.Deep.oneCellFields P #[f0, f1, f2] = true) (hC : P.cellsOf t = 3)
    (h0 : P.underlying f0.type = some (.int .i64)) (h1 : P.underlying f1.type = some (.int .i64)) (h2 : P.underlying f2.type = some (.int .i64))
    (hv : Value.okWide P w r b0 t v) (h : DataW.Trod enc P w base spare held t v d p) : ∃ a b c : Int, v = .agg #[.int .i64 a, .int .i64 b, .int .i64 c] := by
  obtain ⟨v0, v1, v2, y0, y1, y2, n, rfl, _, _, t0, t1, t2⟩ := Go.Joins.open_agg3 hs hone hC hv h
  obtain ⟨a, e0, _, _⟩ := DataW.trod_int h0 t0
  obtain ⟨b, e1, _, _⟩ := DataW.trod_int h1 t1
  obtain ⟨c, e2, _, _⟩ := DataW.trod_int h2 t2
  obtain rfl : v0 = _ := List.cons.inj e0 |>.1
  obtain rfl : v1 = _ := List.cons.inj e1 |>.1
  obtain rfl : v2 = _ := List.cons.inj e2 |>.1
  exact ⟨a, b, c, rfl⟩
/-- A slice of bytes. -/
theorem open_bytes {r : Reach} {b0 base : Nat} {spare : Nat → Bool} {held : Bool} {t e : TypeId} {v : Value} {d : DataW H} {p : List MemPlace} (ht : P.underlying t = some (.slice e)) (he : P.underlying e = some (.int .u8)) (hc : P.cellsOf e = 1)
    (hv : Value.okWide P w r b0 t v) (h : DataW.Trod enc P w base spare held t v d p) : ∃ l, Go.Sl.Rd w .u8 v l := by
  obtain ⟨a0, len, cap, rfl⟩ := okWide_slice ht hv
  obtain ⟨fuel, hf⟩ := h
  rcases open_ints ht he hc hf with ⟨hcs, _⟩ | ⟨a, n, c, zs, hcs, _, hle, _, hzl, _, hcell, _⟩
  · have e1 : Value.slice a0 len cap = .slice none 0 0 := List.cons.inj hcs |>.1
    injection e1 with e2 e3 e4
    subst e2 e3 e4
    exact ⟨[], none, 0, rfl, Nat.le_refl _, fun _ => rfl, fun _ h => by cases h⟩
  · have e1 : Value.slice a0 len cap = .slice (some a) n c := List.cons.inj hcs |>.1
    injection e1 with e2 e3 e4
    subst e2 e3 e4
    have hl : len ≤ zs.length := by rw [hzl]; split <;> omega
    have hlen : (zs.take len).length = len := by rw [List.length_take]; omega
    refine ⟨zs.take len, some a, cap, by rw [hlen], by rw [hlen]; exact hle, (fun h => by cases h), fun ad had j x hj => ?_⟩
    obtain rfl := Option.some.inj had
    have hj2 : j < len := by have := (List.getElem?_eq_some_iff.1 hj).1; omega
    rw [List.getElem?_take_of_lt hj2] at hj
    have := hcell j (by omega)
    rw [List.getD_eq_getElem?_getD, hj] at this
    exact this
end
end Go.FourQ
namespace Go.Proofs.YtkmofjefjbhbhaaDoor
open Go.RowKit Go.FourQ Go.Sha Go.Sl Go.ChangeAt
theorem own0 : ownKnob Tryd.prog.godebug = none := by kernel_rfl
theorem laidOut : laidOutB Tryd.prog = true := by kernel_rfl
theorem kW_of {W : World} {rest : List (String × DataW Unit)} (h : laidMet Tryd.prog (("loop.example/pub-g03039/pub/sha256._K", Rows.laid_loop_example_pub_g03039_pub_sha256_K) :: rest) W) : Bl W 0 (wv kc) :=
  bl_of_tab (g := 0) (t := 56) (k := .u32) (zs := kc) (by kernel_rfl) (by kernel_rfl) Tryd.underlying56 Tryd.underlying40 (by kernel_rfl) (by kernel_rfl) (by decide) h
end Go.Proofs.YtkmofjefjbhbhaaDoor
