/-
  OWN WORK (the rule applications laid by a program of our own, wip/gen). the closure visit of partition.split.
-/
import Derived.Test.Qxb6001307aBuild2
import Derived.Test.Qxb6001307aPlainX
import Derived.Test.Qxb6001307aPartIo
namespace Go.Proofs.Qxb6001307a
open Go.RowKit
set_option linter.unusedSimpArgs false
set_option linter.unusedVariables false

structure VisOut where
  (bS sS cS bK sK cK : Nat) (aS aK : Option Addr)
theorem V_know {P : Program} {N : Nat} {B : Nat → Prop} {w0 : World} {ops : Array Oper} {Q : Exit → Act → World → Prop} {L : List (Nat × Value)} {H H' : List (Nat × Bk)} {rest : List Oper} (hM : ∀ w, Mem B w0 H w → Mem B w0 H' w) (h : V P N B w0 ops Q rest L H') : V P N B w0 ops Q rest L H :=
  ⟨fun a w hf hm => h.run a w hf (hM w hm)⟩
theorem upd_one (c : Int → Value) (o : Int) (v : Value) : upd c o v = upd c o v := rfl
set_option maxHeartbeats 1000000 in
theorem visit36 (B : Nat → Prop) (w0 : World) (bP bA nf n r d bF bI bJ bN bS sS cS bK sK cK bs bp ba : Nat) (aF aS aK : Option Addr) (f idx low st cc : Int → Int) (on : Int → Bool) (seen u : Int) (v0 v1 v2 v3 v4 v5 v6 v7 v8 v9 v10 v16 x1 x2 : Value)
    (hF : 0 < nf → aF = some ⟨bF, 0, none⟩) (gS : Gs ⟨bS, sS, ((r : Nat) : Int), ints .i32 st⟩ 1 r (.slice aS r cS)) (gK : Gs ⟨bK, sK, 2 * ((d : Nat) : Int), ints .i32 cc⟩ 2 d (.slice aK d cK)) (hu0 : 0 ≤ u) (hun : u < (n : Int)) (hnn : (n : Int) = (nf : Int) - 1) (hs0 : 0 ≤ seen) (hs1 : seen ≤ 1048576) (hr : r ≤ 1048576) (hd : d ≤ 1048576) :
    ∀ w, Mem B w0 [(30, ⟨bP, 17, 17, fl [v0, v1, v2, v3, v4, v5, v6, v7, v8, v9, v10, .slice (some ⟨bI, 0, none⟩) n n, .slice (some ⟨bJ, 0, none⟩) n n, .slice (some ⟨bN, 0, none⟩) n n, .slice aS r cS, .slice aK d cK, v16]⟩), (31, ⟨bA, 3, 3, fl [.slice aF nf nf, x1, x2]⟩), (32, ⟨bF, nf, nf, ints .i32 f⟩), (42, ⟨bN, n, n, bools on⟩), (43, ⟨bS, sS, ((r : Nat) : Int), ints .i32 st⟩), (47, ⟨bI, n, n, ints .i32 idx⟩), (48, ⟨bJ, n, n, ints .i32 low⟩), (49, ⟨bK, sK, 2 * ((d : Nat) : Int), ints .i32 cc⟩), (50, ⟨bs, 1, 1, fun _ => .int .i32 seen⟩), (51, ⟨bp, 1, 1, fun _ => .pointer (some ⟨bP, 0, none⟩)⟩), (52, ⟨ba, 1, 1, fun _ => .pointer (some ⟨bA, 0, none⟩)⟩)] w → Calls Try.prog 36 #[.int .i32 u, .pointer (some ⟨bs, 0, none⟩), .pointer (some ⟨bp, 0, none⟩), .pointer (some ⟨ba, 0, none⟩)] w (fun e w' => ∃ y : VisOut, (fun y => Gs ⟨y.bS, y.sS, ((r + 1 : Nat) : Int), ints .i32 (upd st (r : Int) u)⟩ 1 (r + 1) (.slice y.aS (r + 1) y.cS) ∧ Gs ⟨y.bK, y.sK, 2 * ((d + 1 : Nat) : Int), ints .i32 (upd (upd cc (2 * (d : Int)) u) (2 * (d : Int) + 1) (f u))⟩ 2 (d + 1) (.slice y.aK (d + 1) y.cK)) y ∧ e = .returned (.tuple #[]) ∧ Mem B w0 [(30, ⟨bP, 17, 17, fl [v0, v1, v2, v3, v4, v5, v6, v7, v8, v9, v10, .slice (some ⟨bI, 0, none⟩) n n, .slice (some ⟨bJ, 0, none⟩) n n, .slice (some ⟨bN, 0, none⟩) n n, .slice y.aS (r + 1) y.cS, .slice y.aK (d + 1) y.cK, v16]⟩), (31, ⟨bA, 3, 3, fl [.slice aF nf nf, x1, x2]⟩), (32, ⟨bF, nf, nf, ints .i32 f⟩), (42, ⟨bN, n, n, bools (upd on u true)⟩), (43, ⟨y.bS, y.sS, (((r + 1) : Nat) : Int), ints .i32 (upd st (r : Int) u)⟩), (47, ⟨bI, n, n, ints .i32 (upd idx u (seen + 1))⟩), (48, ⟨bJ, n, n, ints .i32 (upd low u (seen + 1))⟩), (49, ⟨y.bK, y.sK, 2 * (((d + 1) : Nat) : Int), ints .i32 (upd (upd cc (2 * (d : Int)) u) (2 * (d : Int) + 1) (f u))⟩), (50, ⟨bs, 1, 1, fun _ => .int .i32 (seen + 1)⟩), (51, ⟨bp, 1, 1, fun _ => .pointer (some ⟨bP, 0, none⟩)⟩), (52, ⟨ba, 1, 1, fun _ => .pointer (some ⟨bA, 0, none⟩)⟩)] w') := by
  refine enter (N := 55) (vs := [.int .i32 u, .pointer (some ⟨bs, 0, none⟩), .pointer (some ⟨bp, 0, none⟩), .pointer (some ⟨ba, 0, none⟩)]) Try.func36 rfl Try.ntmps36 rfl ?_
  refine C_seq ?_
  refine C_region ?_
  refine V_w0.q (QY_cell lf21 (q := 50) rfl rfl (by decide) rfl) rfl ?_
  refine V_w0.q (QY_arith rfl rfl rfl ⟨by omega, by omega⟩) rfl ?_
  refine V_storeC (q := 50) rfl rfl rfl lf21 rfl (by decide) (upd_one _ _ _) ?_
  refine V_know (fun w hm => hm.say (q := 50) rfl (n := 1) (c := fun _ => .int .i32 (seen + 1)) (Int.le_refl _) (fun i i0 i1 => by obtain rfl : i = 0 := (by have : i < 1 := i1; omega); rfl)) ?_
  refine V_nil (X_next ?_)
  refine C_seq ?_
  refine C_draws2 14 12 [(30, ⟨bP, 17, 17, fl [v0, v1, v2, v3, v4, v5, v6, v7, v8, v9, v10, .slice (some ⟨bI, 0, none⟩) n n, .slice (some ⟨bJ, 0, none⟩) n n, .slice (some ⟨bN, 0, none⟩) n n, .slice aS r cS, .slice aK d cK, v16]⟩), (50, ⟨bs, 1, 1, fun _ => .int .i32 (seen + 1)⟩), (51, ⟨bp, 1, 1, fun _ => .pointer (some ⟨bP, 0, none⟩)⟩)] ⟨rfl, rfl, rfl, trivial⟩ mix (by kernel_rfl) ?_
  refine T2_w0.q (QY_cell lf29 (q := 51) rfl rfl (by decide) rfl) rfl ?_
  refine W_fld T2_w0 (q := 30) rfl rfl fa61_11 lf22 (by decide) rfl rfl rfl rfl ?_
  refine T2_w0.q (QY_move rfl) rfl ?_
  refine T2_w0.q (QY_cell lf29 (q := 51) rfl rfl (by decide) rfl) rfl ?_
  refine W_fld T2_w0 (q := 30) rfl rfl fa61_12 lf22 (by decide) rfl rfl rfl rfl ?_
  refine T2_w0.q (QY_move rfl) rfl ?_
  refine T2_w0.q (QY_cell lf21 (q := 50) rfl rfl (by decide) rfl) rfl ?_
  refine T2_w0.q (QY_cell lf21 (q := 50) rfl rfl (by decide) rfl) rfl ?_
  refine T2_switch rfl rfl ?_
  refine T_w0.q (QY_index2 sl22 rfl rfl (by omega) (by omega) rfl) rfl ?_
  refine T_store (q := 47) rfl rfl rfl rfl rfl lf21 rfl (by omega) ⟨rfl, rfl, rfl, trivial⟩ rfl (show upd (ints .i32 idx) ((0 + u.toNat * 1 : Nat) : Int) (.int .i32 (seen + 1)) = ints .i32 (upd idx u (seen + 1)) from by rw [show ((0 + u.toNat * 1 : Nat) : Int) = u from by omega]; exact upd_ints _ _ _ _) ?_
  refine T_tail rfl rfl ?_
  refine V_set (q := 48) rfl rfl rfl rfl rfl (by omega) (by omega) (by omega) sl22 lf21 rfl rfl (upd_ints _ _ _ _) (fun _ => ?_)
  refine V_nil (X_Qn (X_next ?_))
  refine C_seq ?_
  refine C_draws 8 6 mix (by kernel_rfl) ?_
  refine T_w0.q (QY_cell lf29 (q := 51) rfl rfl (by decide) rfl) rfl ?_
  refine T_w0.q (QY_cell lf29 (q := 51) rfl rfl (by decide) rfl) rfl ?_
  refine W_fld T_w0 (q := 30) rfl rfl fa61_14 lf22 (by decide) rfl rfl rfl rfl ?_
  refine T_w0.q (QY_move rfl) rfl ?_
  refine T_app (q := 43) rfl rfl mk22 rfl rfl (fun _ => rfl) gS rfl rfl (by omega) (by omega) rfl rfl (upd_ints _ _ _ _) ?_
  intro _ svS bS1 sS1 hsS gS1
  obtain ⟨aS1, cS1, rfl⟩ := gS1.slice
  refine T_tail rfl rfl ?_
  refine V_fset (q := 30) rfl rfl fa61_14 lf22 (by decide) rfl rfl rfl rfl rfl ?_
  refine V_nil (X_Qn (X_next ?_))
  refine C_seq ?_
  refine C_region ?_
  refine V_w0.q (QY_cell lf29 (q := 51) rfl rfl (by decide) rfl) rfl ?_
  refine W_fld V_w0 (q := 30) rfl rfl fa61_13 lf26 (by decide) rfl rfl rfl rfl ?_
  refine V_w0.q (QY_move rfl) rfl ?_
  refine V_set (q := 42) rfl rfl rfl rfl rfl (by omega) (by omega) (by omega) sl26 lf4 rfl rfl (upd_bools _ _ _) (fun _ => ?_)
  refine V_nil (X_next ?_)
  refine C_draws 16 14 mix (by kernel_rfl) ?_
  refine T_w0.q (QY_cell lf29 (q := 51) rfl rfl (by decide) rfl) rfl ?_
  refine T_w0.q (QY_cell lf29 (q := 51) rfl rfl (by decide) rfl) rfl ?_
  refine W_fld T_w0 (q := 30) rfl rfl fa61_15 lf59 (by decide) rfl rfl rfl rfl ?_
  refine T_w0.q (QY_move rfl) rfl ?_
  refine T_w0.q (QY_cell lf53 (q := 52) rfl rfl (by decide) rfl) rfl ?_
  refine W_fld T_w0 (q := 31) rfl rfl fa57_0 lf22 (by decide) rfl rfl rfl rfl ?_
  refine T_w0.q (QY_move rfl) rfl ?_
  refine W_elem T_w0 rfl rfl (Rd_sl (q := 32) rfl hF (by omega)) (by omega) (by omega) sl22 lf21 rfl rfl (fun _ => ?_)
  refine T_w0.q (v := .agg #[.int .i32 u, .int .i32 (f u)]) (QY_build (parts := [(0, .tmp 42), (1, .tmp 49)]) (vs := [(0, .int .i32 u), (1, .int .i32 (f u))]) (fun a hf => by
    simp only [List.map_cons, List.map_nil]
    rw [hf.eval (x := .tmp 42) rfl, hf.eval (x := .tmp 49) rfl]
    rfl) (fun w => build83 w _ _ rfl rfl)) rfl ?_
  refine T_app2 (q := 49) rfl rfl mk59 rfl (fun _ => rfl) gK rfl (by omega) (kn2 := 2 * ((d + 1 : Nat) : Int)) (by omega) rfl rfl (by omega) (by omega) rfl rfl (show upd (upd (ints .i32 cc) (2 * (d : Int)) (.int .i32 u)) (2 * (d : Int) + 1) (.int .i32 (f u)) = ints .i32 (upd (upd cc (2 * (d : Int)) u) (2 * (d : Int) + 1) (f u)) from by rw [upd_ints, upd_ints]) ?_
  intro _ svK bK1 sK1 hsK gK1
  obtain ⟨aK1, cK1, rfl⟩ := gK1.slice
  refine T_tail rfl rfl ?_
  refine V_fset (q := 30) rfl rfl fa61_15 lf59 (by decide) rfl rfl rfl rfl rfl ?_
  refine V_nil (X_Qn (?_))
  refine X_end0 rfl (fun w hm => ?_)
  exact ⟨⟨bS1, sS1, cS1, bK1, sK1, cK1, aS1, aK1⟩, ⟨gS1, gK1⟩, rfl, hm.sub ⟨rfl, rfl, rfl, rfl, rfl, rfl, rfl, rfl, rfl, rfl, rfl, trivial⟩⟩

end Go.Proofs.Qxb6001307a
