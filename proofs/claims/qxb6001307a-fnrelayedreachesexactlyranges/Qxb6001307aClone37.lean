/-
  OWN WORK (the rule applications laid by a program of our own, wip/gen). slices.Clone.
-/
import Derived.Test.Qxb6001307aKitL
import Derived.Test.Qxb6001307aTypes
namespace Go.Proofs.Qxb6001307a
open Go.RowKit
set_option linter.unusedSimpArgs false
set_option linter.unusedVariables false

theorem clone37 (w : World) (a0 : Option Addr) (m cap0 : Nat) (g : Int → Int) (hr : RdW w (.slice a0 m cap0) m (ints .i32 g)) (hm0 : 0 < m) (hm1 : (m : Int) ≤ 1048576) :
    Calls Try.prog 37 #[.slice a0 m cap0] w fun e w' => ∃ y : Nat × Nat, m ≤ y.2 ∧ e = .returned (.slice (some ⟨y.1, 0, none⟩) m y.2) ∧ Mem (Old w) w [(0, ⟨y.1, y.2, (m : Int), ints .i32 g⟩)] w' := by
  refine enter (N := 8) (vs := [.slice a0 m cap0]) Try.func37 rfl Try.ntmps37 rfl ?_ w (Mem.start w)
  refine C_seq ?_
  refine C_region ?_
  refine V_w0.q (QY_assign rfl) rfl ?_
  refine V_nil (X_next ?_)
  refine C_seq ?_
  refine C_seq ?_
  refine C_region ?_
  refine V_w0.q (QY_move rfl) rfl ?_
  refine W_isnil V_w0 Try.underlying22 rfl rfl (fun h4 => False.elim (by have := hr.nil h4; omega)) (fun h4 => ?_)
  refine V_nil (X_next ?_)
  refine C_false rfl ?_
  refine C_skip (X_next ?_)
  refine C_seq ?_
  refine C_region ?_
  refine V_lit0 mk22 rfl (fun b0 => ?_)
  refine V_w0.q (QY_move rfl) rfl ?_
  refine V_appN 1 mk22 rfl rfl hr.rd hm0 (by omega) (by omega) rfl (fun b cap hcap => ?_)
  refine V_w0.q (QY_assign rfl) rfl ?_
  refine V_nil (X_next ?_)
  refine C_ret (?_)
  refine X_ret1 rfl rfl (fun w hm => ?_)
  exact ⟨⟨b, cap⟩, hcap, rfl, (hm.sub (H' := [(1, ⟨b, cap, (m : Int), ints .i32 g⟩)]) ⟨rfl, trivial⟩).rekey 0⟩

end Go.Proofs.Qxb6001307a
