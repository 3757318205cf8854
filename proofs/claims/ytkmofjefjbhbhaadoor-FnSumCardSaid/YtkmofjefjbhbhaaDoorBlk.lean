/- A digest takes whole blocks in. -/
import Derived.Test.YtkmofjefjbhbhaaDoorBlkG
namespace Go.Proofs.YtkmofjefjbhbhaaDoor
open Go.RowKit Go.FourQ Go.Sha Go.Sl

set_option maxRecDepth 100000 in
set_option maxHeartbeats 1000000 in
theorem block_c {w : World} {b k : Nat} {s : St} {R : List Value} {v : Value} {l : List Int} (hD : Bl w b (wv s.list ++ R)) (hp : Rd w .u8 v l) (hl : l.length = 64 * k) (hK : Bl w 0 (wv kc)) :
    Calls Tryd.prog 17 #[.pointer (some ⟨b, 0, none⟩), v] w fun e w' => e = .returned (.tuple #[]) ∧ Mm w [(b, wv (cs s l k).list ++ R)] w' := by
  have HD := Lib.hid hD; have HP := Lib.hid hp; have HL := Lib.hid hl; have HK := Lib.hid hK
  clear hD hp hl hK
  go_enter Tryd.func17, Tryd.ntmps17
  go_upto_region 0 with (fail)
  have H0 : Mm w [] w := (Mm.zero w)
  refine wp_seq_atS (opsAt Tryd.f17 0) ((true, 0) :: (true, 1) :: (false, 2) :: []) (fun _ => True) (by kernel_rfl) (by kernel_rfl) trivial ?_
  refine k_pure (by kernel_rfl) (d := (some 4)) (by kernel_rfl) (v := .pointer (some ⟨b, 0, none⟩)) (fun _ => by kernel_rfl) ?_
  refine k_pure (by kernel_rfl) (d := (some 5)) (by kernel_rfl) (v := v) (fun _ => by kernel_rfl) ?_
  refine k_callR (by kernel_rfl) (d := (some 6)) (by kernel_rfl) (f := 21) (args := #[.pointer (some ⟨b, 0, none⟩), v]) (fun _ => by kernel_rfl) (blockG_c HD.out HP.out HL.out HK.out) (fun _ w3 ⟨he3, u3⟩ => ⟨_, he3, trivial, ?_⟩)
  have HF := Lib.hid u3
  clear u3 he3 H0
  refine k_end ?_
  go_simp
  go_wp2_with fail
  go_end0
  exact ⟨rfl, HF.out⟩
end Go.Proofs.YtkmofjefjbhbhaaDoor
