/-
  OWN WORK (the rule applications laid by a program of our own, wip/gen). FnTakeScriptTilesStack.
-/
import Derived.Test.Qxb6001307aPlainU
import Derived.Test.Qxb6001307aPartIo
import Derived.Test.Qxb6001307aNewp
import Derived.Test.Qxb6001307aClones
namespace Go.Proofs.Qxb6001307a
open Go.RowKit
set_option linter.unusedSimpArgs false
set_option linter.unusedVariables false

set_option maxHeartbeats 4000000 in
theorem fnTake (w : World) (aF aO aL aS aU : Option Addr) (nf no nc s q cF cO cL cS cU : Nat) (f o cl st cu : Int → Int) (al tx : Int) (hF : RdW w (.slice aF nf cF) nf (ints .i32 f)) (hO : RdW w (.slice aO no cO) no (ints .i32 o)) (hL : RdW w (.slice aL nc cL) nc (ints .u8 cl)) (hS : RdW w (.slice aS s cS) s (ints .i32 st)) (hU : RdW w (.slice aU q cU) q (ints .i32 cu))
    (hFw : ∀ i, 0 ≤ i → i < (nf : Int) → -2147483648 ≤ f i ∧ f i ≤ 2147483647) (hOw : ∀ i, 0 ≤ i → i < (no : Int) → -2147483648 ≤ o i ∧ o i ≤ 2147483647) :
    Calls Try.prog 3 #[.slice aF nf cF, .slice aO no cO, .slice aL nc cL, .int .u8 al, .int .i32 tx, .slice aS s cS, .slice aU q cU] w fun e w' => e = .returned (.bool true) ∧ Below w.heap.size w w' := by
  refine enter (N := 579) (vs := [.slice aF nf cF, .slice aO no cO, .slice aL nc cL, .int .u8 al, .int .i32 tx, .slice aS s cS, .slice aU q cU]) Try.func3 rfl Try.ntmps3 rfl ?_ w (Mem.start w)
  refine C_seq ?_
  refine C_region ?_
  refine V_w0.q (QY_assign rfl) rfl ?_
  refine V_nil (X_next ?_)
  refine C_seq ?_
  refine C_seq ?_
  refine C_region ?_
  refine V_w0.q (QY_move rfl) rfl ?_
  refine V_w0.q (QY_move rfl) rfl ?_
  refine V_w0.q (QY_move rfl) rfl ?_
  refine V_w0.q (QY_move rfl) rfl ?_
  refine V_w0.q (QY_move rfl) rfl ?_
  refine V_w0.q (QY_move rfl) rfl ?_
  refine V_w0.q (QY_move rfl) rfl ?_
  refine V_call cb8 rfl (T := Bool) (Φ := fun y => y = true → (nf : Int) + no + nc + s + q ≤ 1048576) (val := fun y => .bool y) (H' := fun _ => []) (fun w1 hm => (bytes8 w1 aF aO aL aS aU nf no nc s q cF cO cL cS cU _ _).mono fun e w2 ⟨y, h1, he, hM⟩ => ⟨y, h1, he, hm.join0 hM⟩) rfl ?_
  intro y72 hb72
  refine W_bool V_w0 72 rfl (fun h72 => ?_) (fun h72 => ?_)
  ·
    have hsum := hb72 h72
    refine V_w0.q (QY_not rfl) rfl ?_
    refine V_nil (X_next ?_)
    refine C_false rfl ?_
    refine C_skip (X_next ?_)
    refine C_seq ?_
    refine C_seq ?_
    refine C_region ?_
    refine V_w0.q (QY_move rfl) rfl ?_
    refine V_w0.q (QY_len sl22 rfl) rfl ?_
    refine W_gtr V_w0 rfl rfl rfl (fun h76 => ?_) (fun h76 => ?_)
    ·
      refine V_w0.q (QY_move rfl) rfl ?_
      refine V_walk.no rfl rfl rfl ?_
      refine V_walk.no rfl rfl rfl ?_
      refine V_walk.no rfl rfl rfl ?_
      refine V_w0.q (QY_pick_true rfl rfl) rfl ?_
      refine V_w0.q (QY_move rfl) rfl ?_
      refine V_walk.no rfl rfl rfl ?_
      refine V_walk.no rfl rfl rfl ?_
      refine V_walk.no rfl rfl rfl ?_
      refine V_w0.q (QY_pick_true rfl rfl) rfl ?_
      refine V_w0.q (QY_move rfl) rfl ?_
      refine V_walk.no rfl rfl rfl ?_
      refine V_walk.no rfl rfl rfl ?_
      refine V_walk.no rfl rfl rfl ?_
      refine V_w0.q (QY_pick_true rfl rfl) rfl ?_
      refine V_w0.q (QY_move rfl) rfl ?_
      refine V_walk.no rfl rfl rfl ?_
      refine V_walk.no rfl rfl rfl ?_
      refine V_walk.no rfl rfl rfl ?_
      refine V_w0.q (QY_pick_true rfl rfl) rfl ?_
      refine V_nil (X_next ?_)
      refine C_true rfl ?_
      refine C_seq ?_
      refine C_region ?_
      refine V_w0.q (QY_assign rfl) rfl ?_
      refine V_nil (X_next ?_)
      refine C_ret (X_then_ret (?_))
      refine X_ret1 rfl rfl (fun w hm => ?_)
      exact ⟨rfl, hm.below⟩
    ·
      refine V_w0.q (QY_move rfl) rfl ?_
      refine V_walk.yes rfl rfl ?_
      refine V_w0.q (QY_move rfl) rfl ?_
      refine V_walk.yes rfl rfl ?_
      refine V_w0.q (QY_len sl22 rfl) rfl ?_
      refine V_walk.yes rfl rfl ?_
      refine W_gtr V_w0 rfl rfl rfl (fun h80 => ?_) (fun h80 => ?_)
      ·
        refine V_w0.q (QY_pick_false rfl rfl) rfl ?_
        refine V_w0.q (QY_move rfl) rfl ?_
        refine V_walk.no rfl rfl rfl ?_
        refine V_walk.no rfl rfl rfl ?_
        refine V_walk.no rfl rfl rfl ?_
        refine V_w0.q (QY_pick_true rfl rfl) rfl ?_
        refine V_w0.q (QY_move rfl) rfl ?_
        refine V_walk.no rfl rfl rfl ?_
        refine V_walk.no rfl rfl rfl ?_
        refine V_walk.no rfl rfl rfl ?_
        refine V_w0.q (QY_pick_true rfl rfl) rfl ?_
        refine V_w0.q (QY_move rfl) rfl ?_
        refine V_walk.no rfl rfl rfl ?_
        refine V_walk.no rfl rfl rfl ?_
        refine V_walk.no rfl rfl rfl ?_
        refine V_w0.q (QY_pick_true rfl rfl) rfl ?_
        refine V_nil (X_next ?_)
        refine C_true rfl ?_
        refine C_seq ?_
        refine C_region ?_
        refine V_w0.q (QY_assign rfl) rfl ?_
        refine V_nil (X_next ?_)
        refine C_ret (X_then_ret (?_))
        refine X_ret1 rfl rfl (fun w hm => ?_)
        exact ⟨rfl, hm.below⟩
      ·
        refine V_w0.q (QY_pick_false rfl rfl) rfl ?_
        refine V_w0.q (QY_move rfl) rfl ?_
        refine V_walk.yes rfl rfl ?_
        refine V_w0.q (QY_move rfl) rfl ?_
        refine V_walk.yes rfl rfl ?_
        refine V_w0.q (QY_len sl23 rfl) rfl ?_
        refine V_walk.yes rfl rfl ?_
        refine W_gtr V_w0 rfl rfl rfl (fun h85 => ?_) (fun h85 => ?_)
        ·
          refine V_w0.q (QY_pick_false rfl rfl) rfl ?_
          refine V_w0.q (QY_move rfl) rfl ?_
          refine V_walk.no rfl rfl rfl ?_
          refine V_walk.no rfl rfl rfl ?_
          refine V_walk.no rfl rfl rfl ?_
          refine V_w0.q (QY_pick_true rfl rfl) rfl ?_
          refine V_w0.q (QY_move rfl) rfl ?_
          refine V_walk.no rfl rfl rfl ?_
          refine V_walk.no rfl rfl rfl ?_
          refine V_walk.no rfl rfl rfl ?_
          refine V_w0.q (QY_pick_true rfl rfl) rfl ?_
          refine V_nil (X_next ?_)
          refine C_true rfl ?_
          refine C_seq ?_
          refine C_region ?_
          refine V_w0.q (QY_assign rfl) rfl ?_
          refine V_nil (X_next ?_)
          refine C_ret (X_then_ret (?_))
          refine X_ret1 rfl rfl (fun w hm => ?_)
          exact ⟨rfl, hm.below⟩
        ·
          refine V_w0.q (QY_pick_false rfl rfl) rfl ?_
          refine V_w0.q (QY_move rfl) rfl ?_
          refine V_walk.yes rfl rfl ?_
          refine V_w0.q (QY_move rfl) rfl ?_
          refine V_walk.yes rfl rfl ?_
          refine V_w0.q (QY_len sl22 rfl) rfl ?_
          refine V_walk.yes rfl rfl ?_
          refine W_gtr V_w0 rfl rfl rfl (fun h90 => ?_) (fun h90 => ?_)
          ·
            refine V_w0.q (QY_pick_false rfl rfl) rfl ?_
            refine V_w0.q (QY_move rfl) rfl ?_
            refine V_walk.no rfl rfl rfl ?_
            refine V_walk.no rfl rfl rfl ?_
            refine V_walk.no rfl rfl rfl ?_
            refine V_w0.q (QY_pick_true rfl rfl) rfl ?_
            refine V_nil (X_next ?_)
            refine C_true rfl ?_
            refine C_seq ?_
            refine C_region ?_
            refine V_w0.q (QY_assign rfl) rfl ?_
            refine V_nil (X_next ?_)
            refine C_ret (X_then_ret (?_))
            refine X_ret1 rfl rfl (fun w hm => ?_)
            exact ⟨rfl, hm.below⟩
          ·
            refine V_w0.q (QY_pick_false rfl rfl) rfl ?_
            refine V_w0.q (QY_move rfl) rfl ?_
            refine V_walk.yes rfl rfl ?_
            refine V_w0.q (QY_move rfl) rfl ?_
            refine V_walk.yes rfl rfl ?_
            refine V_w0.q (QY_len sl22 rfl) rfl ?_
            refine V_walk.yes rfl rfl ?_
            refine W_gtr V_w0 rfl rfl rfl (fun h95 => ?_) (fun h95 => ?_)
            ·
              refine V_w0.q (QY_pick_false rfl rfl) rfl ?_
              refine V_nil (X_next ?_)
              refine C_true rfl ?_
              refine C_seq ?_
              refine C_region ?_
              refine V_w0.q (QY_assign rfl) rfl ?_
              refine V_nil (X_next ?_)
              refine C_ret (X_then_ret (?_))
              refine X_ret1 rfl rfl (fun w hm => ?_)
              exact ⟨rfl, hm.below⟩
            ·
              refine V_w0.q (QY_pick_false rfl rfl) rfl ?_
              refine V_nil (X_next ?_)
              refine C_false rfl ?_
              refine C_skip (X_next ?_)
              refine C_seq ?_
              refine C_seq ?_
              refine C_region ?_
              refine V_w0.q (QY_move rfl) rfl ?_
              refine V_w0.q (QY_len sl22 rfl) rfl ?_
              refine V_w0.q (QY_arith rfl rfl rfl ⟨by omega, by omega⟩) rfl ?_
              refine V_w0.q (QY_move rfl) rfl ?_
              refine V_w0.q (QY_len sl22 rfl) rfl ?_
              refine V_w0.q (QY_arith rfl rfl rfl ⟨by omega, by omega⟩) rfl ?_
              refine V_w0.q (QY_arith rfl rfl rfl ⟨by omega, by omega⟩) rfl ?_
              refine V_w0.q (QY_move rfl) rfl ?_
              refine V_w0.q (QY_len sl23 rfl) rfl ?_
              refine V_w0.q (QY_arith rfl rfl rfl ⟨by omega, by omega⟩) rfl ?_
              refine V_w0.q (QY_move rfl) rfl ?_
              refine V_w0.q (QY_len sl22 rfl) rfl ?_
              refine V_w0.q (QY_arith rfl rfl rfl ⟨by omega, by omega⟩) rfl ?_
              refine V_w0.q (QY_arith rfl rfl rfl ⟨by omega, by omega⟩) rfl ?_
              refine V_w0.q (QY_move rfl) rfl ?_
              refine V_w0.q (QY_len sl22 rfl) rfl ?_
              refine V_w0.q (QY_arith rfl rfl rfl ⟨by omega, by omega⟩) rfl ?_
              refine V_w0.q (QY_arith rfl rfl rfl ⟨by omega, by omega⟩) rfl ?_
              refine W_gtr V_w0 rfl rfl rfl (fun h115 => ?_) (fun h115 => ?_)
              ·
                refine V_nil (X_next ?_)
                refine C_true rfl ?_
                refine C_seq ?_
                refine C_region ?_
                refine V_w0.q (QY_assign rfl) rfl ?_
                refine V_nil (X_next ?_)
                refine C_ret (X_then_ret (?_))
                refine X_ret1 rfl rfl (fun w hm => ?_)
                exact ⟨rfl, hm.below⟩
              ·
                refine V_nil (X_next ?_)
                refine C_false rfl ?_
                refine C_skip (X_next ?_)
                refine C_seq ?_
                refine C_region ?_
                refine V_w0.q (QY_move rfl) rfl ?_
                refine V_w0.q (QY_move rfl) rfl ?_
                refine V_w0.q (QY_move rfl) rfl ?_
                refine V_call cb9 rfl (T := Int) (Φ := fun y => y = -1 ∨ (y = (nf : Int) - 1 ∧ AdjOK nf no nc f o)) (val := fun y => .int .i32 y) (H' := fun _ => []) (fun w1 hm => (adj9 w1 aF aO aL nf no nc cF cO cL f o (hF.rd.at hm) (hO.rd.at hm) hFw hOw (by omega) (by omega) (by omega)).mono fun e w2 ⟨y, h1, he, hM⟩ => ⟨y, h1, he, hm.join0 hM⟩) rfl ?_
                intro y119 hy119
                refine V_w0.q (QY_assign rfl) rfl ?_
                refine V_nil (X_next ?_)
                refine C_seq ?_
                refine C_seq ?_
                refine C_region ?_
                refine V_w0.q (QY_move rfl) rfl ?_
                refine W_lss V_w0 rfl rfl rfl (fun h121 => ?_) (fun h121 => ?_)
                ·
                  refine V_nil (X_next ?_)
                  refine C_true rfl ?_
                  refine C_seq ?_
                  refine C_region ?_
                  refine V_w0.q (QY_assign rfl) rfl ?_
                  refine V_nil (X_next ?_)
                  refine C_ret (X_then_ret (?_))
                  refine X_ret1 rfl rfl (fun w hm => ?_)
                  exact ⟨rfl, hm.below⟩
                ·
                  obtain ⟨hyn, hadj⟩ := hy119.resolve_left (by omega)
                  obtain ⟨n, rfl⟩ : ∃ n : Nat, y119 = (n : Int) := ⟨y119.toNat, by omega⟩
                  obtain rfl : no = nc := by have := hadj.2.2.2.2.1; omega
                  have hnn : (n : Int) ≤ 65536 := by omega
                  refine V_nil (X_next ?_)
                  refine C_false rfl ?_
                  refine C_skip (X_next ?_)
                  refine C_seq ?_
                  refine C_region ?_
                  refine V_w0.q (QY_move rfl) rfl ?_
                  refine V_w0.q (QY_len sl22 rfl) rfl ?_
                  refine V_w0.q (QY_conv it3 it21 rfl ⟨by omega, by omega⟩) rfl ?_
                  refine V_w0.q (QY_assign rfl) rfl ?_
                  refine V_nil (X_next ?_)
                  refine C_seq ?_
                  refine C_region ?_
                  refine V_w0.q (QY_move rfl) rfl ?_
                  refine V_make 23 mk26 rfl rfl rfl (by omega) (by omega) (by omega) (by omega) rfl (fun bM => ?_)
                  refine V_w0.q (QY_assign rfl) rfl ?_
                  refine V_nil (X_next ?_)
                  refine C_seq ?_
                  refine C_seq ?_
                  refine C_region ?_
                  refine V_w0.q (QY_move rfl) rfl ?_
                  refine V_w0.q (QY_len sl22 rfl) rfl ?_
                  refine V_w0.q (QY_move rfl) rfl ?_
                  refine V_nil (X_next ?_)
                  refine C_block ?_
                  refine C_loops (T := Int × (Int → Bool)) (fun (x : Int × (Int → Bool)) => match x with | (k, g) => [(0, .slice aF nf cF), (1, .slice aO no cO), (2, .slice aL no cL), (3, .int .u8 al), (4, .int .i32 tx), (5, .slice aS s cS), (6, .slice aU q cU), (15, .int .i32 (n : Int)), (16, .int .i32 (s : Int)), (17, .slice (some ⟨bM, 0, none⟩) n n), (127, .slice aS s cS), (128, .int .i64 (s : Int)), (129, .int .i64 k)]) (fun (x : Int × (Int → Bool)) => match x with | (k, g) => [(23, ⟨bM, n, n, bools g⟩)]) (fun (x : Int × (Int → Bool)) => match x with | (k, g) => 0 ≤ k ∧ k ≤ s ∧ SeenI n st k g) (fun (x : Int × (Int → Bool)) => match x with | (k, g) => ((s : Int) - k).toNat) (0, fun _ => false) ?_ ?_ ?_ ?_
                  · exact ⟨by omega, by omega, SeenI.start _ _⟩
                  · exact ⟨rfl, rfl, rfl, rfl, rfl, rfl, rfl, rfl, rfl, rfl, rfl, rfl, rfl, trivial⟩
                  · exact ⟨rfl, trivial⟩
                  rintro ⟨k, g⟩ ⟨hk0, hk1, hseen⟩
                  show C _ _ _ _ _ _ [(0, .slice aF nf cF), (1, .slice aO no cO), (2, .slice aL no cL), (3, .int .u8 al), (4, .int .i32 tx), (5, .slice aS s cS), (6, .slice aU q cU), (15, .int .i32 (n : Int)), (16, .int .i32 (s : Int)), (17, .slice (some ⟨bM, 0, none⟩) n n), (127, .slice aS s cS), (128, .int .i64 (s : Int)), (129, .int .i64 k)] [(23, ⟨bM, n, n, bools g⟩)]
                  refine C_seq ?_
                  refine C_region ?_
                  refine W_lss V_w0 rfl rfl rfl (fun h130 => ?_) (fun h130 => ?_)
                  ·
                    refine V_nil (X_next ?_)
                    refine C_seq ?_
                    refine C_true rfl ?_
                    refine C_skip (X_next ?_)
                    refine C_seq ?_
                    refine C_block ?_
                    refine C_seq ?_
                    refine C_region ?_
                    refine W_elem V_w0 rfl rfl (hS.rd) (by omega) (by omega) sl22 lf21 rfl rfl (fun _ => ?_)
                    refine V_w0.q (QY_assign rfl) rfl ?_
                    refine V_nil (X_next ?_)
                    refine C_seq ?_
                    refine C_seq ?_
                    refine C_region ?_
                    refine V_w0.q (QY_move rfl) rfl ?_
                    refine W_lss V_w0 rfl rfl rfl (fun h134 => ?_) (fun h134 => ?_)
                    ·
                      refine V_w0.q (QY_move rfl) rfl ?_
                      refine V_walk.no rfl rfl rfl ?_
                      refine V_walk.no rfl rfl rfl ?_
                      refine V_walk.no rfl rfl rfl ?_
                      refine V_w0.q (QY_pick_true rfl rfl) rfl ?_
                      refine V_w0.q (QY_move rfl) rfl ?_
                      refine V_walk.no rfl rfl rfl ?_
                      refine V_walk.no rfl rfl rfl ?_
                      refine V_walk.no rfl rfl rfl ?_
                      refine V_walk.no rfl rfl rfl ?_
                      refine V_w0.q (QY_pick_true rfl rfl) rfl ?_
                      refine V_nil (X_next ?_)
                      refine C_true rfl ?_
                      refine C_seq ?_
                      refine C_region ?_
                      refine V_w0.q (QY_assign rfl) rfl ?_
                      refine V_nil (X_next ?_)
                      refine C_ret (X_then_ret (X_block_ret (X_then_ret (X_then_ret (X_block_ret (X_then_ret (?_)))))))
                      refine X_ret1 rfl rfl (fun w hm => ?_)
                      exact ⟨rfl, hm.below⟩
                    ·
                      refine V_w0.q (QY_move rfl) rfl ?_
                      refine V_walk.yes rfl rfl ?_
                      refine V_w0.q (QY_move rfl) rfl ?_
                      refine V_walk.yes rfl rfl ?_
                      refine V_w0.q (QY_move rfl) rfl ?_
                      refine V_walk.yes rfl rfl ?_
                      refine W_geq V_w0 rfl rfl rfl (fun h138 => ?_) (fun h138 => ?_)
                      ·
                        refine V_w0.q (QY_pick_false rfl rfl) rfl ?_
                        refine V_w0.q (QY_move rfl) rfl ?_
                        refine V_walk.no rfl rfl rfl ?_
                        refine V_walk.no rfl rfl rfl ?_
                        refine V_walk.no rfl rfl rfl ?_
                        refine V_walk.no rfl rfl rfl ?_
                        refine V_w0.q (QY_pick_true rfl rfl) rfl ?_
                        refine V_nil (X_next ?_)
                        refine C_true rfl ?_
                        refine C_seq ?_
                        refine C_region ?_
                        refine V_w0.q (QY_assign rfl) rfl ?_
                        refine V_nil (X_next ?_)
                        refine C_ret (X_then_ret (X_block_ret (X_then_ret (X_then_ret (X_block_ret (X_then_ret (?_)))))))
                        refine X_ret1 rfl rfl (fun w hm => ?_)
                        exact ⟨rfl, hm.below⟩
                      ·
                        refine V_w0.q (QY_pick_false rfl rfl) rfl ?_
                        refine V_w0.q (QY_move rfl) rfl ?_
                        refine V_walk.yes rfl rfl ?_
                        refine V_w0.q (QY_move rfl) rfl ?_
                        refine V_walk.yes rfl rfl ?_
                        refine V_w0.q (QY_move rfl) rfl ?_
                        refine V_walk.yes rfl rfl ?_
                        refine W_elem2 V_walk rfl (fun _ => rfl) rfl rfl (Rd_own (q := 23) rfl (by omega)) (by omega) (by omega) sl26 lf4 rfl rfl (fun _ => ?_)
                        refine W_bool V_w0 144 rfl (fun h144 => ?_) (fun h144 => ?_)
                        ·
                          refine V_w0.q (QY_pick_false rfl rfl) rfl ?_
                          refine V_nil (X_next ?_)
                          refine C_true rfl ?_
                          refine C_seq ?_
                          refine C_region ?_
                          refine V_w0.q (QY_assign rfl) rfl ?_
                          refine V_nil (X_next ?_)
                          refine C_ret (X_then_ret (X_block_ret (X_then_ret (X_then_ret (X_block_ret (X_then_ret (?_)))))))
                          refine X_ret1 rfl rfl (fun w hm => ?_)
                          exact ⟨rfl, hm.below⟩
                        ·
                          refine V_w0.q (QY_pick_false rfl rfl) rfl ?_
                          refine V_nil (X_next ?_)
                          refine C_false rfl ?_
                          refine C_skip (X_next ?_)
                          refine C_region ?_
                          refine V_w0.q (QY_move rfl) rfl ?_
                          refine V_w0.q (QY_move rfl) rfl ?_
                          refine V_set (q := 23) rfl rfl rfl rfl rfl (by omega) (by omega) (by omega) sl26 lf4 rfl rfl (upd_bools _ _ _) (fun _ => ?_)
                          refine V_nil (X_block (X_next ?_))
                          refine C_region ?_
                          refine V_w0.q (QY_arith rfl rfl rfl ⟨by omega, by omega⟩) rfl ?_
                          refine V_w0.q (QY_move rfl) rfl ?_
                          refine V_nil (X_then ?_)
                          refine X_round (k + 1, upd g (st k) true) ?_ ?_ ?_ ?_
                          · exact ⟨by omega, by omega, hseen.next hk0 (by omega) (by omega) h144⟩
                          · show ((s : Int) - (k + 1)).toNat < ((s : Int) - k).toNat
                            omega
                          · exact ⟨rfl, rfl, rfl, rfl, rfl, rfl, rfl, rfl, rfl, rfl, rfl, rfl, rfl, trivial⟩
                          · exact ⟨rfl, trivial⟩
                  ·
                    obtain rfl : k = (s : Int) := by omega
                    refine V_nil (X_next ?_)
                    refine C_seq ?_
                    refine C_false rfl ?_
                    refine C_exit (X_then_exit (X_then_exit (X_block_exit (X_next ?_))))
                    refine C_seq ?_
                    refine C_region ?_
                    refine V_w0.q (QY_move rfl) rfl ?_
                    refine V_w0.q (QY_assign rfl) rfl ?_
                    refine V_nil (X_next ?_)
                    refine C_seq ?_
                    refine C_seq ?_
                    refine C_region ?_
                    refine V_w0.q (QY_move rfl) rfl ?_
                    refine V_w0.q (QY_len sl22 rfl) rfl ?_
                    refine V_w0.q (QY_move rfl) rfl ?_
                    refine V_nil (X_next ?_)
                    refine C_block ?_
                    refine C_loops (T := Int × Int) (fun (x : Int × Int) => match x with | (k, p) => [(0, .slice aF nf cF), (1, .slice aO no cO), (2, .slice aL no cL), (3, .int .u8 al), (4, .int .i32 tx), (5, .slice aS s cS), (6, .slice aU q cU), (15, .int .i32 (n : Int)), (16, .int .i32 (s : Int)), (17, .slice (some ⟨bM, 0, none⟩) n n), (20, .int .i32 p), (151, .slice aU q cU), (152, .int .i64 (q : Int)), (153, .int .i64 k)]) (fun (x : Int × Int) => match x with | (k, p) => [(23, ⟨bM, n, n, bools g⟩)]) (fun (x : Int × Int) => match x with | (k, p) => 0 ≤ k ∧ k ≤ q ∧ p = tp s cu k ∧ Cuts s cu k) (fun (x : Int × Int) => match x with | (k, p) => ((q : Int) - k).toNat) (0, (s : Int)) ?_ ?_ ?_ ?_
                    · exact ⟨by omega, by omega, (tp_zero s cu).symm, fun j h0 h1 => by omega⟩
                    · exact ⟨rfl, rfl, rfl, rfl, rfl, rfl, rfl, rfl, rfl, rfl, rfl, rfl, rfl, rfl, trivial⟩
                    · exact ⟨rfl, trivial⟩
                    rintro ⟨k, p⟩ ⟨hk0, hk1, hp, hcuts⟩
                    show C _ _ _ _ _ _ [(0, .slice aF nf cF), (1, .slice aO no cO), (2, .slice aL no cL), (3, .int .u8 al), (4, .int .i32 tx), (5, .slice aS s cS), (6, .slice aU q cU), (15, .int .i32 (n : Int)), (16, .int .i32 (s : Int)), (17, .slice (some ⟨bM, 0, none⟩) n n), (20, .int .i32 p), (151, .slice aU q cU), (152, .int .i64 (q : Int)), (153, .int .i64 k)] [(23, ⟨bM, n, n, bools g⟩)]
                    refine C_seq ?_
                    refine C_region ?_
                    refine W_lss V_w0 rfl rfl rfl (fun h154 => ?_) (fun h154 => ?_)
                    ·
                      refine V_nil (X_next ?_)
                      refine C_seq ?_
                      refine C_true rfl ?_
                      refine C_skip (X_next ?_)
                      refine C_seq ?_
                      refine C_block ?_
                      refine C_seq ?_
                      refine C_region ?_
                      refine W_elem V_w0 rfl rfl (hU.rd) (by omega) (by omega) sl22 lf21 rfl rfl (fun _ => ?_)
                      refine V_w0.q (QY_assign rfl) rfl ?_
                      refine V_nil (X_next ?_)
                      refine C_seq ?_
                      refine C_seq ?_
                      refine C_region ?_
                      refine V_w0.q (QY_move rfl) rfl ?_
                      refine W_lss V_w0 rfl rfl rfl (fun h158 => ?_) (fun h158 => ?_)
                      ·
                        refine V_w0.q (QY_move rfl) rfl ?_
                        refine V_walk.no rfl rfl rfl ?_
                        refine V_walk.no rfl rfl rfl ?_
                        refine V_walk.no rfl rfl rfl ?_
                        refine V_w0.q (QY_pick_true rfl rfl) rfl ?_
                        refine V_nil (X_next ?_)
                        refine C_true rfl ?_
                        refine C_seq ?_
                        refine C_region ?_
                        refine V_w0.q (QY_assign rfl) rfl ?_
                        refine V_nil (X_next ?_)
                        refine C_ret (X_then_ret (X_block_ret (X_then_ret (X_then_ret (X_block_ret (X_then_ret (?_)))))))
                        refine X_ret1 rfl rfl (fun w hm => ?_)
                        exact ⟨rfl, hm.below⟩
                      ·
                        refine V_w0.q (QY_move rfl) rfl ?_
                        refine V_walk.yes rfl rfl ?_
                        refine V_w0.q (QY_move rfl) rfl ?_
                        refine V_walk.yes rfl rfl ?_
                        refine V_w0.q (QY_move rfl) rfl ?_
                        refine V_walk.yes rfl rfl ?_
                        refine W_geq V_w0 rfl rfl rfl (fun h162 => ?_) (fun h162 => ?_)
                        ·
                          refine V_w0.q (QY_pick_false rfl rfl) rfl ?_
                          refine V_nil (X_next ?_)
                          refine C_true rfl ?_
                          refine C_seq ?_
                          refine C_region ?_
                          refine V_w0.q (QY_assign rfl) rfl ?_
                          refine V_nil (X_next ?_)
                          refine C_ret (X_then_ret (X_block_ret (X_then_ret (X_then_ret (X_block_ret (X_then_ret (?_)))))))
                          refine X_ret1 rfl rfl (fun w hm => ?_)
                          exact ⟨rfl, hm.below⟩
                        ·
                          refine V_w0.q (QY_pick_false rfl rfl) rfl ?_
                          refine V_nil (X_next ?_)
                          refine C_false rfl ?_
                          refine C_skip (X_next ?_)
                          refine C_region ?_
                          refine V_w0.q (QY_move rfl) rfl ?_
                          refine V_w0.q (QY_assign rfl) rfl ?_
                          refine V_nil (X_block (X_next ?_))
                          refine C_region ?_
                          refine V_w0.q (QY_arith rfl rfl rfl ⟨by omega, by omega⟩) rfl ?_
                          refine V_w0.q (QY_move rfl) rfl ?_
                          refine V_nil (X_then ?_)
                          refine X_round (k + 1, cu k) ?_ ?_ ?_ ?_
                          · exact ⟨by omega, by omega, (tp_succ s cu hk0).symm, fun j h0 h1 => by by_cases e : j = k; (subst e; exact ⟨by omega, by omega⟩); exact hcuts j h0 (by omega)⟩
                          · show ((q : Int) - (k + 1)).toNat < ((q : Int) - k).toNat
                            omega
                          · exact ⟨rfl, rfl, rfl, rfl, rfl, rfl, rfl, rfl, rfl, rfl, rfl, rfl, rfl, rfl, trivial⟩
                          · exact ⟨rfl, trivial⟩
                    ·
                      obtain rfl : k = (q : Int) := by omega
                      have hps := hcuts.le q (Int.le_refl _)
                      refine V_nil (X_next ?_)
                      refine C_seq ?_
                      refine C_false rfl ?_
                      refine C_exit (X_then_exit (X_then_exit (X_block_exit (X_next ?_))))
                      refine C_seq ?_
                      refine C_region ?_
                      refine V_w0.q (QY_move rfl) rfl ?_
                      refine V_call cb10 rfl (T := Nat × Option Addr) (Φ := fun y => 0 < nf → y.2 = some ⟨y.1, 0, none⟩) (val := fun y => .slice y.2 nf nf) (H' := fun y => (32, ⟨y.1, nf, nf, ints .i32 f⟩) :: [(23, ⟨bM, n, n, bools g⟩)]) (fun w1 hm => (clone10 w1 _ _ _ f ((hF.rd).at hm) (by omega)).mono fun e w2 ⟨y, h1, he, hM⟩ => ⟨y, h1, he, hm.join1 32 hM⟩) rfl ?_
                      rintro ⟨bF, aF1⟩ h1F
                      have h1F : 0 < nf → aF1 = some ⟨bF, 0, none⟩ := h1F
                      refine V_w0.q (QY_assign rfl) rfl ?_
                      refine V_nil (X_next ?_)
                      refine C_seq ?_
                      refine C_region ?_
                      refine V_w0.q (QY_move rfl) rfl ?_
                      refine V_call cb10 rfl (T := Nat × Option Addr) (Φ := fun y => 0 < no → y.2 = some ⟨y.1, 0, none⟩) (val := fun y => .slice y.2 no no) (H' := fun y => (33, ⟨y.1, no, no, ints .i32 o⟩) :: [(32, ⟨bF, nf, nf, ints .i32 f⟩), (23, ⟨bM, n, n, bools g⟩)]) (fun w1 hm => (clone10 w1 _ _ _ o ((hO.rd).at hm) (by omega)).mono fun e w2 ⟨y, h1, he, hM⟩ => ⟨y, h1, he, hm.join1 33 hM⟩) rfl ?_
                      rintro ⟨bO, aO1⟩ h1O
                      have h1O : 0 < no → aO1 = some ⟨bO, 0, none⟩ := h1O
                      refine V_w0.q (QY_assign rfl) rfl ?_
                      refine V_nil (X_next ?_)
                      refine C_seq ?_
                      refine C_region ?_
                      refine V_w0.q (QY_move rfl) rfl ?_
                      refine V_call cb11 rfl (T := Nat × Option Addr) (Φ := fun y => 0 < no → y.2 = some ⟨y.1, 0, none⟩) (val := fun y => .slice y.2 no no) (H' := fun y => (20, ⟨y.1, no, no, ints .u8 cl⟩) :: [(33, ⟨bO, no, no, ints .i32 o⟩), (32, ⟨bF, nf, nf, ints .i32 f⟩), (23, ⟨bM, n, n, bools g⟩)]) (fun w1 hm => (clone11 w1 _ _ _ cl ((hL.rd).at hm) (by omega)).mono fun e w2 ⟨y, h1, he, hM⟩ => ⟨y, h1, he, hm.join1 20 hM⟩) rfl ?_
                      rintro ⟨bK, aL1⟩ h1L
                      have h1L : 0 < no → aL1 = some ⟨bK, 0, none⟩ := h1L
                      refine V_w0.q (QY_assign rfl) rfl ?_
                      refine V_nil (X_next ?_)
                      refine C_seq ?_
                      refine C_region ?_
                      refine V_w0.q (QY_move rfl) rfl ?_
                      refine V_call cb10 rfl (T := Nat × Option Addr) (Φ := fun y => 0 < s → y.2 = some ⟨y.1, 0, none⟩) (val := fun y => .slice y.2 s s) (H' := fun y => (21, ⟨y.1, s, s, ints .i32 st⟩) :: [(20, ⟨bK, no, no, ints .u8 cl⟩), (33, ⟨bO, no, no, ints .i32 o⟩), (32, ⟨bF, nf, nf, ints .i32 f⟩), (23, ⟨bM, n, n, bools g⟩)]) (fun w1 hm => (clone10 w1 _ _ _ st ((hS.rd).at hm) (by omega)).mono fun e w2 ⟨y, h1, he, hM⟩ => ⟨y, h1, he, hm.join1 21 hM⟩) rfl ?_
                      rintro ⟨bS1, aS1⟩ h1S
                      have h1S : 0 < s → aS1 = some ⟨bS1, 0, none⟩ := h1S
                      refine V_w0.q (QY_assign rfl) rfl ?_
                      refine V_nil (X_next ?_)
                      refine C_seq ?_
                      refine C_region ?_
                      refine V_w0.q (QY_move rfl) rfl ?_
                      refine V_call cb10 rfl (T := Nat × Option Addr) (Φ := fun y => 0 < q → y.2 = some ⟨y.1, 0, none⟩) (val := fun y => .slice y.2 q q) (H' := fun y => (22, ⟨y.1, q, q, ints .i32 cu⟩) :: [(21, ⟨bS1, s, s, ints .i32 st⟩), (20, ⟨bK, no, no, ints .u8 cl⟩), (33, ⟨bO, no, no, ints .i32 o⟩), (32, ⟨bF, nf, nf, ints .i32 f⟩), (23, ⟨bM, n, n, bools g⟩)]) (fun w1 hm => (clone10 w1 _ _ _ cu ((hU.rd).at hm) (by omega)).mono fun e w2 ⟨y, h1, he, hM⟩ => ⟨y, h1, he, hm.join1 22 hM⟩) rfl ?_
                      rintro ⟨bU1, aU1⟩ h1U
                      have h1U : 0 < q → aU1 = some ⟨bU1, 0, none⟩ := h1U
                      refine V_w0.q (QY_assign rfl) rfl ?_
                      refine V_nil (X_next ?_)
                      refine C_seq ?_
                      refine C_region ?_
                      refine V_w0.q (QY_move rfl) rfl ?_
                      refine V_make 35 mk22 rfl rfl rfl (by omega) (by omega) (by omega) (by omega) rfl (fun bC => ?_)
                      refine V_w0.q (QY_assign rfl) rfl ?_
                      refine V_nil (X_next ?_)
                      refine C_seq ?_
                      refine C_region ?_
                      refine V_w0.q (QY_move rfl) rfl ?_
                      refine V_make 42 mk26 rfl rfl rfl (by omega) (by omega) (by omega) (by omega) rfl (fun bN => ?_)
                      refine V_w0.q (QY_assign rfl) rfl ?_
                      refine V_nil (X_next ?_)
                      refine C_seq ?_
                      refine C_seq ?_
                      refine C_region ?_
                      refine V_w0.q (QY_move rfl) rfl ?_
                      refine V_w0.q (QY_len sl22 rfl) rfl ?_
                      refine V_w0.q (QY_move rfl) rfl ?_
                      refine V_nil (X_next ?_)
                      refine C_block ?_
                      refine C_loops (T := Int × (Int → Bool)) (fun (x : Int × (Int → Bool)) => match x with | (k, h) => [(0, .slice aF1 nf nf), (1, .slice aO1 no no), (2, .slice aL1 no no), (3, .int .u8 al), (4, .int .i32 tx), (5, .slice aS1 s s), (6, .slice aU1 q q), (15, .int .i32 (n : Int)), (16, .int .i32 (s : Int)), (17, .slice (some ⟨bM, 0, none⟩) n n), (20, .int .i32 p), (23, .slice (some ⟨bC, 0, none⟩) n n), (24, .slice (some ⟨bN, 0, none⟩) n n), (180, .slice aS1 s s), (181, .int .i64 (s : Int)), (182, .int .i64 k)]) (fun (x : Int × (Int → Bool)) => match x with | (k, h) => [(42, ⟨bN, n, n, bools h⟩), (35, ⟨bC, n, n, ints .i32 (fun _ => 0)⟩), (22, ⟨bU1, q, q, ints .i32 cu⟩), (21, ⟨bS1, s, s, ints .i32 st⟩), (20, ⟨bK, no, no, ints .u8 cl⟩), (33, ⟨bO, no, no, ints .i32 o⟩), (32, ⟨bF, nf, nf, ints .i32 f⟩), (23, ⟨bM, n, n, bools g⟩)]) (fun (x : Int × (Int → Bool)) => match x with | (k, h) => 0 ≤ k ∧ k ≤ s ∧ OnI st k h) (fun (x : Int × (Int → Bool)) => match x with | (k, h) => ((s : Int) - k).toNat) (0, fun _ => false) ?_ ?_ ?_ ?_
                      · exact ⟨by omega, by omega, OnI.start _⟩
                      · exact ⟨rfl, rfl, rfl, rfl, rfl, rfl, rfl, rfl, rfl, rfl, rfl, rfl, rfl, rfl, rfl, rfl, trivial⟩
                      · exact ⟨rfl, rfl, rfl, rfl, rfl, rfl, rfl, rfl, trivial⟩
                      rintro ⟨k, h⟩ ⟨hk0, hk1, hon⟩
                      show C _ _ _ _ _ _ [(0, .slice aF1 nf nf), (1, .slice aO1 no no), (2, .slice aL1 no no), (3, .int .u8 al), (4, .int .i32 tx), (5, .slice aS1 s s), (6, .slice aU1 q q), (15, .int .i32 (n : Int)), (16, .int .i32 (s : Int)), (17, .slice (some ⟨bM, 0, none⟩) n n), (20, .int .i32 p), (23, .slice (some ⟨bC, 0, none⟩) n n), (24, .slice (some ⟨bN, 0, none⟩) n n), (180, .slice aS1 s s), (181, .int .i64 (s : Int)), (182, .int .i64 k)] [(42, ⟨bN, n, n, bools h⟩), (35, ⟨bC, n, n, ints .i32 (fun _ => 0)⟩), (22, ⟨bU1, q, q, ints .i32 cu⟩), (21, ⟨bS1, s, s, ints .i32 st⟩), (20, ⟨bK, no, no, ints .u8 cl⟩), (33, ⟨bO, no, no, ints .i32 o⟩), (32, ⟨bF, nf, nf, ints .i32 f⟩), (23, ⟨bM, n, n, bools g⟩)]
                      refine C_seq ?_
                      refine C_region ?_
                      refine W_lss V_w0 rfl rfl rfl (fun h183 => ?_) (fun h183 => ?_)
                      ·
                        have hnode := hseen.1 k hk0 (by omega)
                        refine V_nil (X_next ?_)
                        refine C_seq ?_
                        refine C_true rfl ?_
                        refine C_skip (X_next ?_)
                        refine C_seq ?_
                        refine C_block ?_
                        refine C_seq ?_
                        refine C_region ?_
                        refine W_elem V_w0 rfl rfl (Rd_sl (q := 21) rfl h1S (by omega)) (by omega) (by omega) sl22 lf21 rfl rfl (fun _ => ?_)
                        refine V_w0.q (QY_assign rfl) rfl ?_
                        refine V_nil (X_next ?_)
                        refine C_region ?_
                        refine V_w0.q (QY_move rfl) rfl ?_
                        refine V_w0.q (QY_move rfl) rfl ?_
                        refine V_set (q := 42) rfl rfl rfl rfl rfl (by omega) (by omega) (by omega) sl26 lf4 rfl rfl (upd_bools _ _ _) (fun _ => ?_)
                        refine V_nil (X_block (X_next ?_))
                        refine C_region ?_
                        refine V_w0.q (QY_arith rfl rfl rfl ⟨by omega, by omega⟩) rfl ?_
                        refine V_w0.q (QY_move rfl) rfl ?_
                        refine V_nil (X_then ?_)
                        refine X_round (k + 1, upd h (st k) true) ?_ ?_ ?_ ?_
                        · exact ⟨by omega, by omega, hon.next hk0⟩
                        · show ((s : Int) - (k + 1)).toNat < ((s : Int) - k).toNat
                          omega
                        · exact ⟨rfl, rfl, rfl, rfl, rfl, rfl, rfl, rfl, rfl, rfl, rfl, rfl, rfl, rfl, rfl, rfl, trivial⟩
                        · exact ⟨rfl, rfl, rfl, rfl, rfl, rfl, rfl, rfl, trivial⟩
                      ·
                        obtain rfl : k = (s : Int) := by omega
                        refine V_nil (X_next ?_)
                        refine C_seq ?_
                        refine C_false rfl ?_
                        refine C_exit (X_then_exit (X_then_exit (X_block_exit (X_next ?_))))
                        refine C_seq ?_
                        refine C_region ?_
                        refine V_w0.q (QY_move rfl) rfl ?_
                        refine V_w0.q (QY_move rfl) rfl ?_
                        refine V_w0.q (QY_move rfl) rfl ?_
                        refine V_w0.q (QY_move rfl) rfl ?_
                        refine V_w0.q (QY_move rfl) rfl ?_
                        refine V_w0.q (QY_move rfl) rfl ?_
                        refine V_w0.q (QY_move rfl) rfl ?_
                        refine V_call cb10 rfl (T := Nat × Option Addr) (Φ := fun y => 0 < s → y.2 = some ⟨y.1, 0, none⟩) (val := fun y => .slice y.2 s s) (H' := fun y => (43, ⟨y.1, s, s, ints .i32 st⟩) :: [(42, ⟨bN, n, n, bools h⟩), (35, ⟨bC, n, n, ints .i32 (fun _ => 0)⟩), (22, ⟨bU1, q, q, ints .i32 cu⟩), (21, ⟨bS1, s, s, ints .i32 st⟩), (20, ⟨bK, no, no, ints .u8 cl⟩), (33, ⟨bO, no, no, ints .i32 o⟩), (32, ⟨bF, nf, nf, ints .i32 f⟩), (23, ⟨bM, n, n, bools g⟩)]) (fun w1 hm => (clone10 w1 _ _ _ st ((Rd_sl (q := 21) rfl h1S (by omega)).at hm) (by omega)).mono fun e w2 ⟨y, h1, he, hM⟩ => ⟨y, h1, he, hm.join1 43 hM⟩) rfl ?_
                        rintro ⟨bS, aS2⟩ h2S
                        have h2S : 0 < s → aS2 = some ⟨bS, 0, none⟩ := h2S
                        refine V_w0.q (QY_move rfl) rfl ?_
                        refine V_lit1 36 mk22 rfl rfl rfl rfl (fun bB => ?_)
                        refine V_w0.q (QY_move rfl) rfl ?_
                        refine V_lit1 37 mk22 rfl rfl rfl rfl (fun bE => ?_)
                        refine V_call cb12 rfl (T := NewOut) (Φ := fun _ => True) (val := fun y => .pointer (some ⟨y.bP, 0, none⟩)) (H' := fun y => [(30, ⟨y.bP, 17, 17, fl [.pointer (some ⟨y.bA, 0, none⟩), .int .u8 al, .int .i32 tx, (.slice (some ⟨bC, 0, none⟩) n n), .slice none 0 0, .slice (some ⟨bB, 0, none⟩) 1 1, (.slice (some ⟨bE, 0, none⟩) 1 1), .slice (some ⟨y.bX, 0, none⟩) 1 1, .slice (some ⟨y.bT, 0, none⟩) 1 1, .slice (some ⟨y.bZ, 0, none⟩) 1 1, .slice (some ⟨y.bW, 0, none⟩) 1 1, .slice none 0 0, .slice none 0 0, (.slice (some ⟨bN, 0, none⟩) n n), (.slice aS2 s s), .slice none 0 0, .slice none 0 0]⟩), (31, ⟨y.bA, 3, 3, fl [(.slice aF1 nf nf), (.slice aO1 no no), .slice (some ⟨y.bL, 0, none⟩) no no]⟩), (34, ⟨y.bL, no, no, ints .u8 cl⟩), (38, ⟨y.bX, 1, 1, fun _ => .int .u8 0⟩), (39, ⟨y.bT, 1, 1, fun _ => .int .i32 0⟩), (40, ⟨y.bZ, 1, 1, fun _ => .int .i64 0⟩), (41, ⟨y.bW, 1, 1, fun _ => .int .i64 0⟩), (37, ⟨bE, 1, 1, fun _ => .int .i32 (s : Int)⟩), (36, ⟨bB, 1, 1, fun _ => .int .i32 0⟩), (43, ⟨bS, s, s, ints .i32 st⟩), (42, ⟨bN, n, n, bools h⟩), (35, ⟨bC, n, n, ints .i32 (fun _ => 0)⟩), (22, ⟨bU1, q, q, ints .i32 cu⟩), (21, ⟨bS1, s, s, ints .i32 st⟩), (20, ⟨bK, no, no, ints .u8 cl⟩), (33, ⟨bO, no, no, ints .i32 o⟩), (32, ⟨bF, nf, nf, ints .i32 f⟩), (23, ⟨bM, n, n, bools g⟩)]) (fun w1 hm => (new12 w1 (.slice aF1 nf nf) (.slice aO1 no no) (.slice (some ⟨bC, 0, none⟩) n n) (.slice aS2 s s) (.slice (some ⟨bN, 0, none⟩) n n) (.slice (some ⟨bE, 0, none⟩) 1 1) aL1 (some ⟨bB, 0, none⟩) no no 1 cl al tx ((Rd_sl (q := 20) rfl h1L (by omega)).at hm) (by omega) rfl rfl rfl rfl rfl rfl).mono fun e w2 ⟨y, h1, he, hM⟩ => ⟨y, h1, he, hm.join hM⟩) rfl ?_
                        rintro ⟨bP, bA, bL, bX, bT, bZ, bW⟩ _
                        refine V_w0.q (QY_assign rfl) rfl ?_
                        refine V_nil (X_next ?_)
                        refine C_seq ?_
                        refine C_seq ?_
                        refine C_mem (fun w hm => hm.none 44 0 (Int.le_refl _) (ints .i32 (fun _ => 0))) ?_
                        refine C_region ?_
                        refine V_w0.q (QY_move rfl) rfl ?_
                        refine V_w0.q (QY_len sl22 rfl) rfl ?_
                        refine V_w0.q (QY_move rfl) rfl ?_
                        refine V_nil (X_next ?_)
                        refine C_block ?_
                        refine C_loops (T := Nat × PS) (fun (x : Nat × PS) => match x with | (J, d) => [(0, .slice aF1 nf nf), (1, .slice aO1 no no), (2, .slice aL1 no no), (3, .int .u8 al), (4, .int .i32 tx), (5, .slice aS1 s s), (6, .slice aU1 q q), (15, .int .i32 (n : Int)), (16, .int .i32 (s : Int)), (17, .slice (some ⟨bM, 0, none⟩) n n), (20, .int .i32 p), (23, .slice (some ⟨bC, 0, none⟩) n n), (24, .slice (some ⟨bN, 0, none⟩) n n), (27, .pointer (some ⟨bP, 0, none⟩)), (203, .slice aU1 q q), (204, .int .i64 (q : Int)), (205, .int .i64 (J : Int))]) (fun (x : Nat × PS) => match x with | (J, d) => [(30, ⟨bP, 17, 17, fl [.pointer (some ⟨bA, 0, none⟩), .int .u8 al, .int .i32 tx, .slice (some ⟨bC, 0, none⟩) n n, .slice none 0 0, .slice d.aB (J + 1) d.cB, .slice d.aE (J + 1) d.cE, .slice d.aX (J + 1) d.cX, .slice d.aT (J + 1) d.cT, .slice d.aZ (J + 1) d.cZ, .slice d.aW (J + 1) d.cW, .slice none 0 0, .slice none 0 0, .slice (some ⟨bN, 0, none⟩) n n, .slice aS2 d.r s, .slice none 0 0, .slice d.aD d.m d.cD]⟩), (31, ⟨bA, 3, 3, fl [.slice aF1 nf nf, .slice aO1 no no, .slice (some ⟨bL, 0, none⟩) no no]⟩), (32, ⟨bF, nf, nf, ints .i32 f⟩), (33, ⟨bO, no, no, ints .i32 o⟩), (34, ⟨bL, no, no, ints .u8 cl⟩), (35, ⟨bC, n, n, ints .i32 d.comp⟩), (36, ⟨d.bB, d.sB, ((J + 1 : Nat) : Int), ints .i32 d.beg⟩), (37, ⟨d.bE, d.sE, ((J + 1 : Nat) : Int), ints .i32 d.en⟩), (38, ⟨d.bX, d.sX, ((J + 1 : Nat) : Int), ints .u8 d.cls⟩), (39, ⟨d.bT, d.sT, ((J + 1 : Nat) : Int), ints .i32 d.cnt⟩), (40, ⟨d.bZ, d.sZ, ((J + 1 : Nat) : Int), ints .i64 d.siz⟩), (41, ⟨d.bW, d.sW, ((J + 1 : Nat) : Int), ints .i64 d.spt⟩), (42, ⟨bN, n, n, bools d.on⟩), (43, ⟨bS, s, s, ints .i32 st⟩), (44, ⟨d.bD, d.sD, d.m, ints .i32 d.fo⟩), (22, ⟨bU1, q, q, ints .i32 cu⟩), (21, ⟨bS1, s, s, ints .i32 st⟩), (20, ⟨bK, no, no, ints .u8 cl⟩), (23, ⟨bM, n, n, bools g⟩)]) (fun (x : Nat × PS) => match x with | (J, d) => J ≤ q ∧ TInv s n f o cl al tx st cu h J d) (fun (x : Nat × PS) => match x with | (J, d) => q - J) (0, PS.start s h bB bE bX bT bZ bW) ?_ ?_ ?_ ?_
                        · exact ⟨by omega, TInv.start⟩
                        · exact ⟨rfl, rfl, rfl, rfl, rfl, rfl, rfl, rfl, rfl, rfl, rfl, rfl, rfl, rfl, rfl, rfl, rfl, trivial⟩
                        · exact ⟨rfl, rfl, rfl, rfl, rfl, rfl, rfl, rfl, rfl, rfl, rfl, rfl, rfl, rfl, rfl, rfl, rfl, rfl, rfl, trivial⟩
                        rintro ⟨J, d⟩ ⟨hJ, hT⟩
                        show C _ _ _ _ _ _ [(0, .slice aF1 nf nf), (1, .slice aO1 no no), (2, .slice aL1 no no), (3, .int .u8 al), (4, .int .i32 tx), (5, .slice aS1 s s), (6, .slice aU1 q q), (15, .int .i32 (n : Int)), (16, .int .i32 (s : Int)), (17, .slice (some ⟨bM, 0, none⟩) n n), (20, .int .i32 p), (23, .slice (some ⟨bC, 0, none⟩) n n), (24, .slice (some ⟨bN, 0, none⟩) n n), (27, .pointer (some ⟨bP, 0, none⟩)), (203, .slice aU1 q q), (204, .int .i64 (q : Int)), (205, .int .i64 (J : Int))] [(30, ⟨bP, 17, 17, fl [.pointer (some ⟨bA, 0, none⟩), .int .u8 al, .int .i32 tx, .slice (some ⟨bC, 0, none⟩) n n, .slice none 0 0, .slice d.aB (J + 1) d.cB, .slice d.aE (J + 1) d.cE, .slice d.aX (J + 1) d.cX, .slice d.aT (J + 1) d.cT, .slice d.aZ (J + 1) d.cZ, .slice d.aW (J + 1) d.cW, .slice none 0 0, .slice none 0 0, .slice (some ⟨bN, 0, none⟩) n n, .slice aS2 d.r s, .slice none 0 0, .slice d.aD d.m d.cD]⟩), (31, ⟨bA, 3, 3, fl [.slice aF1 nf nf, .slice aO1 no no, .slice (some ⟨bL, 0, none⟩) no no]⟩), (32, ⟨bF, nf, nf, ints .i32 f⟩), (33, ⟨bO, no, no, ints .i32 o⟩), (34, ⟨bL, no, no, ints .u8 cl⟩), (35, ⟨bC, n, n, ints .i32 d.comp⟩), (36, ⟨d.bB, d.sB, ((J + 1 : Nat) : Int), ints .i32 d.beg⟩), (37, ⟨d.bE, d.sE, ((J + 1 : Nat) : Int), ints .i32 d.en⟩), (38, ⟨d.bX, d.sX, ((J + 1 : Nat) : Int), ints .u8 d.cls⟩), (39, ⟨d.bT, d.sT, ((J + 1 : Nat) : Int), ints .i32 d.cnt⟩), (40, ⟨d.bZ, d.sZ, ((J + 1 : Nat) : Int), ints .i64 d.siz⟩), (41, ⟨d.bW, d.sW, ((J + 1 : Nat) : Int), ints .i64 d.spt⟩), (42, ⟨bN, n, n, bools d.on⟩), (43, ⟨bS, s, s, ints .i32 st⟩), (44, ⟨d.bD, d.sD, d.m, ints .i32 d.fo⟩), (22, ⟨bU1, q, q, ints .i32 cu⟩), (21, ⟨bS1, s, s, ints .i32 st⟩), (20, ⟨bK, no, no, ints .u8 cl⟩), (23, ⟨bM, n, n, bools g⟩)]
                        refine C_seq ?_
                        refine C_region ?_
                        refine W_lss V_w0 rfl rfl rfl (fun h206 => ?_) (fun h206 => ?_)
                        ·
                          have hcJ := hcuts (J : Int) (by omega) (by omega)
                          have hle := hcuts.le J (by omega)
                          have hr := hT.r
                          have hm2 := hT.m
                          obtain rfl := h2S (by omega)
                          obtain ⟨t, ht⟩ : ∃ t : Nat, (t : Int) = cu J := ⟨(cu J).toNat, by omega⟩
                          refine V_nil (X_next ?_)
                          refine C_seq ?_
                          refine C_true rfl ?_
                          refine C_skip (X_next ?_)
                          refine C_seq ?_
                          refine C_block ?_
                          refine C_seq ?_
                          refine C_region ?_
                          refine W_elem V_w0 rfl rfl (Rd_sl (q := 22) rfl h1U (by omega)) (by omega) (by omega) sl22 lf21 rfl rfl (fun _ => ?_)
                          refine V_w0.q (QY_assign rfl) rfl ?_
                          refine V_nil (X_next ?_)
                          refine C_region ?_
                          refine V_w0.q (QY_move rfl) rfl ?_
                          refine V_w0.q (QY_move rfl) rfl ?_
                          refine V_w0.q (QY_move rfl) rfl ?_
                          refine W_elem V_w0 rfl rfl (Rd_sl (q := 21) rfl h1S (by omega)) (by omega) (by omega) sl22 lf21 rfl rfl (fun _ => ?_)
                          refine V_call cb13 rfl (T := TakeOut) (Φ := TakeRel (J + 1) d.m d.r t n f o cl al tx 0 st d.comp d.on d.beg d.en d.cls d.cnt d.siz d.spt d.fo) (val := fun _ => .tuple #[]) (H' := fun y => [(30, ⟨bP, 17, 17, fl [.pointer (some ⟨bA, 0, none⟩), .int .u8 al, .int .i32 tx, .slice (some ⟨bC, 0, none⟩) n n, (.slice none 0 0), .slice y.aB ((J + 1) + 1) y.cB, .slice y.aE ((J + 1) + 1) y.cE, .slice y.aX ((J + 1) + 1) y.cX, .slice y.aT ((J + 1) + 1) y.cT, .slice y.aZ ((J + 1) + 1) y.cZ, .slice y.aW ((J + 1) + 1) y.cW, (.slice none 0 0), (.slice none 0 0), .slice (some ⟨bN, 0, none⟩) n n, .slice (some ⟨bS, 0, none⟩) t s, (.slice none 0 0), .slice (some ⟨y.bD, 0, none⟩) (d.m + (d.r - t)) y.cD]⟩), (31, ⟨bA, 3, 3, fl [.slice aF1 nf nf, .slice aO1 no no, .slice (some ⟨bL, 0, none⟩) no no]⟩), (32, ⟨bF, nf, nf, ints .i32 f⟩), (33, ⟨bO, no, no, ints .i32 o⟩), (34, ⟨bL, no, no, ints .u8 cl⟩), (35, ⟨bC, n, n, ints .i32 y.comp⟩), (36, ⟨y.bB, y.sB, (((J + 1 : Nat) : Int) + 1), ints .i32 (upd d.beg ((J + 1 : Nat) : Int) (d.beg 0 + d.m))⟩), (37, ⟨y.bE, y.sE, (((J + 1 : Nat) : Int) + 1), ints .i32 (upd d.en ((J + 1 : Nat) : Int) (d.beg 0 + ((d.m + (d.r - t) : Nat) : Int)))⟩), (38, ⟨y.bX, y.sX, (((J + 1 : Nat) : Int) + 1), ints .u8 (upd d.cls ((J + 1 : Nat) : Int) y.x)⟩), (39, ⟨y.bT, y.sT, (((J + 1 : Nat) : Int) + 1), ints .i32 (upd d.cnt ((J + 1 : Nat) : Int) y.ct)⟩), (40, ⟨y.bZ, y.sZ, (((J + 1 : Nat) : Int) + 1), ints .i64 (upd d.siz ((J + 1 : Nat) : Int) y.z)⟩), (41, ⟨y.bW, y.sW, (((J + 1 : Nat) : Int) + 1), ints .i64 (upd d.spt ((J + 1 : Nat) : Int) 0)⟩), (42, ⟨bN, n, n, bools y.on⟩), (43, ⟨bS, s, s, ints .i32 st⟩), (44, ⟨y.bD, y.sD, ((d.m + (d.r - t) : Nat) : Int), ints .i32 y.fo⟩)] ++ [(30, ⟨bP, 17, 17, fl [.pointer (some ⟨bA, 0, none⟩), .int .u8 al, .int .i32 tx, .slice (some ⟨bC, 0, none⟩) n n, .slice none 0 0, .slice d.aB (J + 1) d.cB, .slice d.aE (J + 1) d.cE, .slice d.aX (J + 1) d.cX, .slice d.aT (J + 1) d.cT, .slice d.aZ (J + 1) d.cZ, .slice d.aW (J + 1) d.cW, .slice none 0 0, .slice none 0 0, .slice (some ⟨bN, 0, none⟩) n n, .slice (some ⟨bS, 0, none⟩) d.r s, .slice none 0 0, .slice d.aD d.m d.cD]⟩), (31, ⟨bA, 3, 3, fl [.slice aF1 nf nf, .slice aO1 no no, .slice (some ⟨bL, 0, none⟩) no no]⟩), (32, ⟨bF, nf, nf, ints .i32 f⟩), (33, ⟨bO, no, no, ints .i32 o⟩), (34, ⟨bL, no, no, ints .u8 cl⟩), (35, ⟨bC, n, n, ints .i32 d.comp⟩), (36, ⟨d.bB, d.sB, ((J + 1 : Nat) : Int), ints .i32 d.beg⟩), (37, ⟨d.bE, d.sE, ((J + 1 : Nat) : Int), ints .i32 d.en⟩), (38, ⟨d.bX, d.sX, ((J + 1 : Nat) : Int), ints .u8 d.cls⟩), (39, ⟨d.bT, d.sT, ((J + 1 : Nat) : Int), ints .i32 d.cnt⟩), (40, ⟨d.bZ, d.sZ, ((J + 1 : Nat) : Int), ints .i64 d.siz⟩), (41, ⟨d.bW, d.sW, ((J + 1 : Nat) : Int), ints .i64 d.spt⟩), (42, ⟨bN, n, n, bools d.on⟩), (43, ⟨bS, s, s, ints .i32 st⟩), (44, ⟨d.bD, d.sD, d.m, ints .i32 d.fo⟩), (22, ⟨bU1, q, q, ints .i32 cu⟩), (21, ⟨bS1, s, s, ints .i32 st⟩), (20, ⟨bK, no, no, ints .u8 cl⟩), (23, ⟨bM, n, n, bools g⟩)]) (fun w1 hm => (take13 (Rest w1 [(30, ⟨bP, 17, 17, fl [.pointer (some ⟨bA, 0, none⟩), .int .u8 al, .int .i32 tx, .slice (some ⟨bC, 0, none⟩) n n, .slice none 0 0, .slice d.aB (J + 1) d.cB, .slice d.aE (J + 1) d.cE, .slice d.aX (J + 1) d.cX, .slice d.aT (J + 1) d.cT, .slice d.aZ (J + 1) d.cZ, .slice d.aW (J + 1) d.cW, .slice none 0 0, .slice none 0 0, .slice (some ⟨bN, 0, none⟩) n n, .slice (some ⟨bS, 0, none⟩) d.r s, .slice none 0 0, .slice d.aD d.m d.cD]⟩), (31, ⟨bA, 3, 3, fl [.slice aF1 nf nf, .slice aO1 no no, .slice (some ⟨bL, 0, none⟩) no no]⟩), (32, ⟨bF, nf, nf, ints .i32 f⟩), (33, ⟨bO, no, no, ints .i32 o⟩), (34, ⟨bL, no, no, ints .u8 cl⟩), (35, ⟨bC, n, n, ints .i32 d.comp⟩), (36, ⟨d.bB, d.sB, ((J + 1 : Nat) : Int), ints .i32 d.beg⟩), (37, ⟨d.bE, d.sE, ((J + 1 : Nat) : Int), ints .i32 d.en⟩), (38, ⟨d.bX, d.sX, ((J + 1 : Nat) : Int), ints .u8 d.cls⟩), (39, ⟨d.bT, d.sT, ((J + 1 : Nat) : Int), ints .i32 d.cnt⟩), (40, ⟨d.bZ, d.sZ, ((J + 1 : Nat) : Int), ints .i64 d.siz⟩), (41, ⟨d.bW, d.sW, ((J + 1 : Nat) : Int), ints .i64 d.spt⟩), (42, ⟨bN, n, n, bools d.on⟩), (43, ⟨bS, s, s, ints .i32 st⟩), (44, ⟨d.bD, d.sD, d.m, ints .i32 d.fo⟩)]) w1 bP bA nf no n (J + 1) d.r d.m s bF nf nf bO no no bL no no bC n n d.bB d.sB d.cB d.bE d.sE d.cE d.bX d.sX d.cX d.bT d.sT d.cT d.bZ d.sZ d.cZ d.bW d.sW d.cW bN n n bS s s d.bD d.sD d.cD aF1 aO1 (some ⟨bL, 0, none⟩) (some ⟨bC, 0, none⟩) d.aB d.aE d.aX d.aT d.aZ d.aW (some ⟨bN, 0, none⟩) d.aD f o cl d.comp d.beg d.en d.cls d.cnt d.siz d.spt st d.fo d.on al tx 0 (st (cu J)) (.slice none 0 0) (.slice none 0 0) (.slice none 0 0) (.slice none 0 0) h1F h1O (fun _ => rfl) (fun _ => rfl) (fun _ => rfl) hT.gB hT.gE hT.gX hT.gT hT.gZ hT.gW hT.gD hadj hyn (by omega) (by omega) (by omega) (by omega) (by omega) (by omega) (by omega) (by omega) (by rw [hT.beg0]; omega) (by rw [hT.beg0]; omega) t (by omega) (by rw [ht]) (fun i i0 i1 e => hseen.2.1 (cu J) i (by omega) (by omega) (by omega) e.symm) (fun i i0 i1 => hseen.1 i i0 (by omega)) w1 (hm.lend (fun q9 k9 hq => SubH.look (L' := [(30, ⟨bP, 17, 17, fl [.pointer (some ⟨bA, 0, none⟩), .int .u8 al, .int .i32 tx, .slice (some ⟨bC, 0, none⟩) n n, .slice none 0 0, .slice d.aB (J + 1) d.cB, .slice d.aE (J + 1) d.cE, .slice d.aX (J + 1) d.cX, .slice d.aT (J + 1) d.cT, .slice d.aZ (J + 1) d.cZ, .slice d.aW (J + 1) d.cW, .slice none 0 0, .slice none 0 0, .slice (some ⟨bN, 0, none⟩) n n, .slice (some ⟨bS, 0, none⟩) d.r s, .slice none 0 0, .slice d.aD d.m d.cD]⟩), (31, ⟨bA, 3, 3, fl [.slice aF1 nf nf, .slice aO1 no no, .slice (some ⟨bL, 0, none⟩) no no]⟩), (32, ⟨bF, nf, nf, ints .i32 f⟩), (33, ⟨bO, no, no, ints .i32 o⟩), (34, ⟨bL, no, no, ints .u8 cl⟩), (35, ⟨bC, n, n, ints .i32 d.comp⟩), (36, ⟨d.bB, d.sB, ((J + 1 : Nat) : Int), ints .i32 d.beg⟩), (37, ⟨d.bE, d.sE, ((J + 1 : Nat) : Int), ints .i32 d.en⟩), (38, ⟨d.bX, d.sX, ((J + 1 : Nat) : Int), ints .u8 d.cls⟩), (39, ⟨d.bT, d.sT, ((J + 1 : Nat) : Int), ints .i32 d.cnt⟩), (40, ⟨d.bZ, d.sZ, ((J + 1 : Nat) : Int), ints .i64 d.siz⟩), (41, ⟨d.bW, d.sW, ((J + 1 : Nat) : Int), ints .i64 d.spt⟩), (42, ⟨bN, n, n, bools d.on⟩), (43, ⟨bS, s, s, ints .i32 st⟩), (44, ⟨d.bD, d.sD, d.m, ints .i32 d.fo⟩)]) ⟨rfl, rfl, rfl, rfl, rfl, rfl, rfl, rfl, rfl, rfl, rfl, rfl, rfl, rfl, rfl, trivial⟩ hq))).mono fun e w2 ⟨y, h1, he, hM⟩ => ⟨y, h1, he, hm.back (fun q9 k9 hq => SubH.look (L' := [(30, ⟨bP, 17, 17, fl [.pointer (some ⟨bA, 0, none⟩), .int .u8 al, .int .i32 tx, .slice (some ⟨bC, 0, none⟩) n n, .slice none 0 0, .slice d.aB (J + 1) d.cB, .slice d.aE (J + 1) d.cE, .slice d.aX (J + 1) d.cX, .slice d.aT (J + 1) d.cT, .slice d.aZ (J + 1) d.cZ, .slice d.aW (J + 1) d.cW, .slice none 0 0, .slice none 0 0, .slice (some ⟨bN, 0, none⟩) n n, .slice (some ⟨bS, 0, none⟩) d.r s, .slice none 0 0, .slice d.aD d.m d.cD]⟩), (31, ⟨bA, 3, 3, fl [.slice aF1 nf nf, .slice aO1 no no, .slice (some ⟨bL, 0, none⟩) no no]⟩), (32, ⟨bF, nf, nf, ints .i32 f⟩), (33, ⟨bO, no, no, ints .i32 o⟩), (34, ⟨bL, no, no, ints .u8 cl⟩), (35, ⟨bC, n, n, ints .i32 d.comp⟩), (36, ⟨d.bB, d.sB, ((J + 1 : Nat) : Int), ints .i32 d.beg⟩), (37, ⟨d.bE, d.sE, ((J + 1 : Nat) : Int), ints .i32 d.en⟩), (38, ⟨d.bX, d.sX, ((J + 1 : Nat) : Int), ints .u8 d.cls⟩), (39, ⟨d.bT, d.sT, ((J + 1 : Nat) : Int), ints .i32 d.cnt⟩), (40, ⟨d.bZ, d.sZ, ((J + 1 : Nat) : Int), ints .i64 d.siz⟩), (41, ⟨d.bW, d.sW, ((J + 1 : Nat) : Int), ints .i64 d.spt⟩), (42, ⟨bN, n, n, bools d.on⟩), (43, ⟨bS, s, s, ints .i32 st⟩), (44, ⟨d.bD, d.sD, d.m, ints .i32 d.fo⟩)]) ⟨rfl, rfl, rfl, rfl, rfl, rfl, rfl, rfl, rfl, rfl, rfl, rfl, rfl, rfl, rfl, trivial⟩ hq) (keys_sub rfl) hM⟩) rfl ?_
                          intro y hy
                          refine V_nil (X_block (X_next ?_))
                          refine C_region ?_
                          refine V_w0.q (QY_arith rfl rfl rfl ⟨by omega, by omega⟩) rfl ?_
                          refine V_w0.q (QY_move rfl) rfl ?_
                          refine V_nil (X_then ?_)
                          refine X_round (J + 1, d.next J t y) ?_ ?_ ?_ ?_
                          · exact ⟨by omega, hT.next hcuts (by omega) ht hseen.2.1 hy⟩
                          · show q - (J + 1) < q - J
                            omega
                          · exact ⟨rfl, rfl, rfl, rfl, rfl, rfl, rfl, rfl, rfl, rfl, rfl, rfl, rfl, rfl, rfl, rfl, rfl, trivial⟩
                          · exact ⟨rfl, rfl, rfl, rfl, rfl, rfl, rfl, rfl, rfl, rfl, rfl, rfl, rfl, rfl, rfl, rfl, rfl, rfl, rfl, trivial⟩
                        ·
                          obtain rfl : q = J := by omega
                          have hr := hT.r
                          have hm2 := hT.m
                          refine V_nil (X_next ?_)
                          refine C_seq ?_
                          refine C_false rfl ?_
                          refine C_exit (X_then_exit (X_then_exit (X_block_exit (X_next ?_))))
                          refine C_cut (T := Nat) (fun (bY : Nat) => [(0, .slice aF1 nf nf), (1, .slice aO1 no no), (2, .slice aL1 no no), (3, .int .u8 al), (4, .int .i32 tx), (5, .slice aS1 s s), (6, .slice aU1 q q), (15, .int .i32 (n : Int)), (16, .int .i32 (s : Int)), (17, .slice (some ⟨bM, 0, none⟩) n n), (20, .int .i32 p), (30, .slice (some ⟨bC, 0, none⟩) n n), (31, .slice aS2 d.r s), (32, .slice d.aD d.m d.cD), (33, .slice d.aB (q + 1) d.cB), (34, .slice d.aE (q + 1) d.cE), (35, .slice d.aT (q + 1) d.cT), (36, .slice (some ⟨bY, 0, none⟩) (q + 1) (q + 1)), (37, .slice d.aZ (q + 1) d.cZ), (38, .slice d.aW (q + 1) d.cW), (39, .slice (some ⟨bN, 0, none⟩) n n)]) (fun (bY : Nat) => [(32, ⟨bF, nf, nf, ints .i32 f⟩), (33, ⟨bO, no, no, ints .i32 o⟩), (35, ⟨bC, n, n, ints .i32 d.comp⟩), (36, ⟨d.bB, d.sB, ((q + 1 : Nat) : Int), ints .i32 d.beg⟩), (37, ⟨d.bE, d.sE, ((q + 1 : Nat) : Int), ints .i32 d.en⟩), (39, ⟨d.bT, d.sT, ((q + 1 : Nat) : Int), ints .i32 d.cnt⟩), (40, ⟨d.bZ, d.sZ, ((q + 1 : Nat) : Int), ints .i64 d.siz⟩), (41, ⟨d.bW, d.sW, ((q + 1 : Nat) : Int), ints .i64 d.spt⟩), (42, ⟨bN, n, n, bools d.on⟩), (43, ⟨bS, s, s, ints .i32 st⟩), (44, ⟨d.bD, d.sD, d.m, ints .i32 d.fo⟩), (22, ⟨bU1, q, q, ints .i32 cu⟩), (21, ⟨bS1, s, s, ints .i32 st⟩), (20, ⟨bK, no, no, ints .u8 cl⟩), (23, ⟨bM, n, n, bools g⟩), (45, ⟨bY, (q + 1), ((q + 1 : Nat) : Int), ints .u8 d.cls⟩)]) (fun (bY : Nat) => True) ?_ ?_
                          ·
                            refine C_region ?_
                            refine V_w0.q (QY_move rfl) rfl ?_
                            refine V_call cb14 rfl (T := Nat) (Φ := fun _ => True) (val := fun y => .tuple [(.slice (some ⟨bC, 0, none⟩) n n), .slice aS2 d.r s, .slice d.aD d.m d.cD, .slice d.aB (q + 1) d.cB, .slice d.aE (q + 1) d.cE, .slice d.aT (q + 1) d.cT, .slice (some ⟨y, 0, none⟩) (q + 1) (q + 1), .slice d.aZ (q + 1) d.cZ, .slice d.aW (q + 1) d.cW, (.slice (some ⟨bN, 0, none⟩) n n)].toArray) (H' := fun y => [(30, ⟨bP, 17, 17, fl [.pointer (some ⟨bA, 0, none⟩), .int .u8 al, .int .i32 tx, .slice (some ⟨bC, 0, none⟩) n n, .slice none 0 0, .slice d.aB (q + 1) d.cB, .slice d.aE (q + 1) d.cE, .slice d.aX (q + 1) d.cX, .slice d.aT (q + 1) d.cT, .slice d.aZ (q + 1) d.cZ, .slice d.aW (q + 1) d.cW, .slice none 0 0, .slice none 0 0, .slice (some ⟨bN, 0, none⟩) n n, .slice aS2 d.r s, .slice none 0 0, .slice d.aD d.m d.cD]⟩), (38, ⟨d.bX, d.sX, ((q + 1 : Nat) : Int), ints .u8 d.cls⟩), (45, ⟨y, (q + 1), ((q + 1 : Nat) : Int), ints .u8 d.cls⟩)] ++ [(30, ⟨bP, 17, 17, fl [.pointer (some ⟨bA, 0, none⟩), .int .u8 al, .int .i32 tx, .slice (some ⟨bC, 0, none⟩) n n, .slice none 0 0, .slice d.aB (q + 1) d.cB, .slice d.aE (q + 1) d.cE, .slice d.aX (q + 1) d.cX, .slice d.aT (q + 1) d.cT, .slice d.aZ (q + 1) d.cZ, .slice d.aW (q + 1) d.cW, .slice none 0 0, .slice none 0 0, .slice (some ⟨bN, 0, none⟩) n n, .slice aS2 d.r s, .slice none 0 0, .slice d.aD d.m d.cD]⟩), (31, ⟨bA, 3, 3, fl [.slice aF1 nf nf, .slice aO1 no no, .slice (some ⟨bL, 0, none⟩) no no]⟩), (32, ⟨bF, nf, nf, ints .i32 f⟩), (33, ⟨bO, no, no, ints .i32 o⟩), (34, ⟨bL, no, no, ints .u8 cl⟩), (35, ⟨bC, n, n, ints .i32 d.comp⟩), (36, ⟨d.bB, d.sB, ((q + 1 : Nat) : Int), ints .i32 d.beg⟩), (37, ⟨d.bE, d.sE, ((q + 1 : Nat) : Int), ints .i32 d.en⟩), (38, ⟨d.bX, d.sX, ((q + 1 : Nat) : Int), ints .u8 d.cls⟩), (39, ⟨d.bT, d.sT, ((q + 1 : Nat) : Int), ints .i32 d.cnt⟩), (40, ⟨d.bZ, d.sZ, ((q + 1 : Nat) : Int), ints .i64 d.siz⟩), (41, ⟨d.bW, d.sW, ((q + 1 : Nat) : Int), ints .i64 d.spt⟩), (42, ⟨bN, n, n, bools d.on⟩), (43, ⟨bS, s, s, ints .i32 st⟩), (44, ⟨d.bD, d.sD, d.m, ints .i32 d.fo⟩), (22, ⟨bU1, q, q, ints .i32 cu⟩), (21, ⟨bS1, s, s, ints .i32 st⟩), (20, ⟨bK, no, no, ints .u8 cl⟩), (23, ⟨bM, n, n, bools g⟩)]) (fun w1 hm => (out14 (Rest w1 [(30, ⟨bP, 17, 17, fl [.pointer (some ⟨bA, 0, none⟩), .int .u8 al, .int .i32 tx, .slice (some ⟨bC, 0, none⟩) n n, .slice none 0 0, .slice d.aB (q + 1) d.cB, .slice d.aE (q + 1) d.cE, .slice d.aX (q + 1) d.cX, .slice d.aT (q + 1) d.cT, .slice d.aZ (q + 1) d.cZ, .slice d.aW (q + 1) d.cW, .slice none 0 0, .slice none 0 0, .slice (some ⟨bN, 0, none⟩) n n, .slice aS2 d.r s, .slice none 0 0, .slice d.aD d.m d.cD]⟩), (38, ⟨d.bX, d.sX, ((q + 1 : Nat) : Int), ints .u8 d.cls⟩)]) w1 bP d.bX d.sX d.cX (q + 1) d.aX d.cls _ _ _ _ _ _ _ _ _ _ _ _ _ _ _ _ (fun _ => (hT.gX.some (by omega)).1) (by omega) w1 (hm.lend (fun q9 k9 hq => SubH.look (L' := [(30, ⟨bP, 17, 17, fl [.pointer (some ⟨bA, 0, none⟩), .int .u8 al, .int .i32 tx, .slice (some ⟨bC, 0, none⟩) n n, .slice none 0 0, .slice d.aB (q + 1) d.cB, .slice d.aE (q + 1) d.cE, .slice d.aX (q + 1) d.cX, .slice d.aT (q + 1) d.cT, .slice d.aZ (q + 1) d.cZ, .slice d.aW (q + 1) d.cW, .slice none 0 0, .slice none 0 0, .slice (some ⟨bN, 0, none⟩) n n, .slice aS2 d.r s, .slice none 0 0, .slice d.aD d.m d.cD]⟩), (38, ⟨d.bX, d.sX, ((q + 1 : Nat) : Int), ints .u8 d.cls⟩)]) ⟨rfl, rfl, trivial⟩ hq))).mono fun e w2 ⟨y, h1, he, hM⟩ => ⟨y, h1, he, hm.back (fun q9 k9 hq => SubH.look (L' := [(30, ⟨bP, 17, 17, fl [.pointer (some ⟨bA, 0, none⟩), .int .u8 al, .int .i32 tx, .slice (some ⟨bC, 0, none⟩) n n, .slice none 0 0, .slice d.aB (q + 1) d.cB, .slice d.aE (q + 1) d.cE, .slice d.aX (q + 1) d.cX, .slice d.aT (q + 1) d.cT, .slice d.aZ (q + 1) d.cZ, .slice d.aW (q + 1) d.cW, .slice none 0 0, .slice none 0 0, .slice (some ⟨bN, 0, none⟩) n n, .slice aS2 d.r s, .slice none 0 0, .slice d.aD d.m d.cD]⟩), (38, ⟨d.bX, d.sX, ((q + 1 : Nat) : Int), ints .u8 d.cls⟩)]) ⟨rfl, rfl, trivial⟩ hq) (keys_sub rfl) hM⟩) rfl ?_
                            intro bY _
                            refine V_w0.q (QY_move rfl) rfl ?_
                            refine V_w0.q (QY_extract rfl rfl) rfl ?_
                            refine V_w0.q (QY_extract rfl rfl) rfl ?_
                            refine V_w0.q (QY_extract rfl rfl) rfl ?_
                            refine V_w0.q (QY_extract rfl rfl) rfl ?_
                            refine V_w0.q (QY_extract rfl rfl) rfl ?_
                            refine V_w0.q (QY_extract rfl rfl) rfl ?_
                            refine V_w0.q (QY_extract rfl rfl) rfl ?_
                            refine V_w0.q (QY_extract rfl rfl) rfl ?_
                            refine V_w0.q (QY_extract rfl rfl) rfl ?_
                            refine V_w0.q (QY_extract rfl rfl) rfl ?_
                            refine V_w0.q (QY_assign rfl) rfl ?_
                            refine V_w0.q (QY_assign rfl) rfl ?_
                            refine V_w0.q (QY_assign rfl) rfl ?_
                            refine V_w0.q (QY_assign rfl) rfl ?_
                            refine V_w0.q (QY_assign rfl) rfl ?_
                            refine V_w0.q (QY_assign rfl) rfl ?_
                            refine V_w0.q (QY_assign rfl) rfl ?_
                            refine V_w0.q (QY_assign rfl) rfl ?_
                            refine V_w0.q (QY_assign rfl) rfl ?_
                            refine V_w0.q (QY_assign rfl) rfl ?_
                            refine V_nil (X_then ?_)
                            refine X_cut bY ?_ ?_ ?_
                            · trivial
                            · exact ⟨rfl, rfl, rfl, rfl, rfl, rfl, rfl, rfl, rfl, rfl, rfl, rfl, rfl, rfl, rfl, rfl, rfl, rfl, rfl, rfl, rfl, trivial⟩
                            · exact ⟨rfl, rfl, rfl, rfl, rfl, rfl, rfl, rfl, rfl, rfl, rfl, rfl, rfl, rfl, rfl, rfl, trivial⟩
                          rintro bY _
                          show C _ _ _ _ _ _ [(0, .slice aF1 nf nf), (1, .slice aO1 no no), (2, .slice aL1 no no), (3, .int .u8 al), (4, .int .i32 tx), (5, .slice aS1 s s), (6, .slice aU1 q q), (15, .int .i32 (n : Int)), (16, .int .i32 (s : Int)), (17, .slice (some ⟨bM, 0, none⟩) n n), (20, .int .i32 p), (30, .slice (some ⟨bC, 0, none⟩) n n), (31, .slice aS2 d.r s), (32, .slice d.aD d.m d.cD), (33, .slice d.aB (q + 1) d.cB), (34, .slice d.aE (q + 1) d.cE), (35, .slice d.aT (q + 1) d.cT), (36, .slice (some ⟨bY, 0, none⟩) (q + 1) (q + 1)), (37, .slice d.aZ (q + 1) d.cZ), (38, .slice d.aW (q + 1) d.cW), (39, .slice (some ⟨bN, 0, none⟩) n n)] [(32, ⟨bF, nf, nf, ints .i32 f⟩), (33, ⟨bO, no, no, ints .i32 o⟩), (35, ⟨bC, n, n, ints .i32 d.comp⟩), (36, ⟨d.bB, d.sB, ((q + 1 : Nat) : Int), ints .i32 d.beg⟩), (37, ⟨d.bE, d.sE, ((q + 1 : Nat) : Int), ints .i32 d.en⟩), (39, ⟨d.bT, d.sT, ((q + 1 : Nat) : Int), ints .i32 d.cnt⟩), (40, ⟨d.bZ, d.sZ, ((q + 1 : Nat) : Int), ints .i64 d.siz⟩), (41, ⟨d.bW, d.sW, ((q + 1 : Nat) : Int), ints .i64 d.spt⟩), (42, ⟨bN, n, n, bools d.on⟩), (43, ⟨bS, s, s, ints .i32 st⟩), (44, ⟨d.bD, d.sD, d.m, ints .i32 d.fo⟩), (22, ⟨bU1, q, q, ints .i32 cu⟩), (21, ⟨bS1, s, s, ints .i32 st⟩), (20, ⟨bK, no, no, ints .u8 cl⟩), (23, ⟨bM, n, n, bools g⟩), (45, ⟨bY, (q + 1), ((q + 1 : Nat) : Int), ints .u8 d.cls⟩)]
                          refine C_seq ?_
                          refine C_region ?_
                          refine V_w0.q (QY_move rfl) rfl ?_
                          refine V_w0.q (QY_len sl22 rfl) rfl ?_
                          refine V_w0.q (QY_assign rfl) rfl ?_
                          refine V_nil (X_next ?_)
                          refine C_seq ?_
                          refine C_seq ?_
                          refine C_region ?_
                          refine V_w0.q (QY_move rfl) rfl ?_
                          refine V_w0.q (QY_len sl22 rfl) rfl ?_
                          refine V_w0.q (QY_move rfl) rfl ?_
                          refine V_w0.q (QY_arith rfl rfl rfl ⟨by omega, by omega⟩) rfl ?_
                          refine W_neq V_w0 rfl rfl rfl (fun h235 => False.elim (by omega)) (fun h235 => ?_)
                          refine V_w0.q (QY_move rfl) rfl ?_
                          refine V_walk.yes rfl rfl ?_
                          refine V_w0.q (QY_move rfl) rfl ?_
                          refine V_walk.yes rfl rfl ?_
                          refine V_w0.q (QY_len sl22 rfl) rfl ?_
                          refine V_walk.yes rfl rfl ?_
                          refine V_w0.q (QY_move rfl) rfl ?_
                          refine V_walk.yes rfl rfl ?_
                          refine V_w0.q (QY_arith rfl rfl rfl ⟨by omega, by omega⟩) rfl ?_
                          refine V_walk.yes rfl rfl ?_
                          refine W_neq V_w0 rfl rfl rfl (fun h241 => False.elim (by omega)) (fun h241 => ?_)
                          refine V_w0.q (QY_pick_false rfl rfl) rfl ?_
                          refine V_w0.q (QY_move rfl) rfl ?_
                          refine V_walk.yes rfl rfl ?_
                          refine V_w0.q (QY_move rfl) rfl ?_
                          refine V_walk.yes rfl rfl ?_
                          refine V_w0.q (QY_len sl22 rfl) rfl ?_
                          refine V_walk.yes rfl rfl ?_
                          refine V_w0.q (QY_move rfl) rfl ?_
                          refine V_walk.yes rfl rfl ?_
                          refine V_w0.q (QY_arith rfl rfl rfl ⟨by omega, by omega⟩) rfl ?_
                          refine V_walk.yes rfl rfl ?_
                          refine W_neq V_w0 rfl rfl rfl (fun h248 => False.elim (by omega)) (fun h248 => ?_)
                          refine V_w0.q (QY_pick_false rfl rfl) rfl ?_
                          refine V_w0.q (QY_move rfl) rfl ?_
                          refine V_walk.yes rfl rfl ?_
                          refine V_w0.q (QY_move rfl) rfl ?_
                          refine V_walk.yes rfl rfl ?_
                          refine V_w0.q (QY_len sl23 rfl) rfl ?_
                          refine V_walk.yes rfl rfl ?_
                          refine V_w0.q (QY_move rfl) rfl ?_
                          refine V_walk.yes rfl rfl ?_
                          refine V_w0.q (QY_arith rfl rfl rfl ⟨by omega, by omega⟩) rfl ?_
                          refine V_walk.yes rfl rfl ?_
                          refine W_neq V_w0 rfl rfl rfl (fun h255 => False.elim (by omega)) (fun h255 => ?_)
                          refine V_w0.q (QY_pick_false rfl rfl) rfl ?_
                          refine V_w0.q (QY_move rfl) rfl ?_
                          refine V_walk.yes rfl rfl ?_
                          refine V_w0.q (QY_move rfl) rfl ?_
                          refine V_walk.yes rfl rfl ?_
                          refine V_w0.q (QY_len sl32 rfl) rfl ?_
                          refine V_walk.yes rfl rfl ?_
                          refine V_w0.q (QY_move rfl) rfl ?_
                          refine V_walk.yes rfl rfl ?_
                          refine V_w0.q (QY_arith rfl rfl rfl ⟨by omega, by omega⟩) rfl ?_
                          refine V_walk.yes rfl rfl ?_
                          refine W_neq V_w0 rfl rfl rfl (fun h262 => False.elim (by omega)) (fun h262 => ?_)
                          refine V_w0.q (QY_pick_false rfl rfl) rfl ?_
                          refine V_w0.q (QY_move rfl) rfl ?_
                          refine V_walk.yes rfl rfl ?_
                          refine V_w0.q (QY_move rfl) rfl ?_
                          refine V_walk.yes rfl rfl ?_
                          refine V_w0.q (QY_len sl32 rfl) rfl ?_
                          refine V_walk.yes rfl rfl ?_
                          refine V_w0.q (QY_move rfl) rfl ?_
                          refine V_walk.yes rfl rfl ?_
                          refine V_w0.q (QY_arith rfl rfl rfl ⟨by omega, by omega⟩) rfl ?_
                          refine V_walk.yes rfl rfl ?_
                          refine W_neq V_w0 rfl rfl rfl (fun h269 => False.elim (by omega)) (fun h269 => ?_)
                          refine V_w0.q (QY_pick_false rfl rfl) rfl ?_
                          refine V_nil (X_next ?_)
                          refine C_false rfl ?_
                          refine C_skip (X_next ?_)
                          refine C_seq ?_
                          refine C_seq ?_
                          refine C_region ?_
                          refine V_w0.q (QY_move rfl) rfl ?_
                          refine W_elem V_w0 rfl rfl (hT.gB.rd (q := 36) rfl (by omega)) (by omega) (by omega) sl22 lf21 rfl rfl (fun _ => ?_)
                          refine W_neq V_w0 rfl rfl rfl (fun h274 => False.elim (h274 hT.beg0)) (fun h274 => ?_)
                          refine V_w0.q (QY_move rfl) rfl ?_
                          refine V_walk.yes rfl rfl ?_
                          refine V_w0.q (QY_move rfl) rfl ?_
                          refine V_walk.yes rfl rfl ?_
                          refine W_elem2 V_walk rfl (fun _ => rfl) rfl rfl (hT.gE.rd (q := 37) rfl (by omega)) (by omega) (by omega) sl22 lf21 rfl rfl (fun _ => ?_)
                          refine V_walk.yes rfl rfl ?_
                          refine V_w0.q (QY_move rfl) rfl ?_
                          refine V_walk.yes rfl rfl ?_
                          refine W_neq V_w0 rfl rfl rfl (fun h280 => False.elim (h280 hT.en0)) (fun h280 => ?_)
                          refine V_w0.q (QY_pick_false rfl rfl) rfl ?_
                          refine V_w0.q (QY_move rfl) rfl ?_
                          refine V_walk.yes rfl rfl ?_
                          refine V_w0.q (QY_move rfl) rfl ?_
                          refine V_walk.yes rfl rfl ?_
                          refine W_elem2 V_walk rfl (fun _ => rfl) rfl rfl (hT.gT.rd (q := 39) rfl (by omega)) (by omega) (by omega) sl22 lf21 rfl rfl (fun _ => ?_)
                          refine V_walk.yes rfl rfl ?_
                          refine W_neq V_w0 rfl rfl rfl (fun h286 => False.elim (h286 hT.cnt0)) (fun h286 => ?_)
                          refine V_w0.q (QY_pick_false rfl rfl) rfl ?_
                          refine V_w0.q (QY_move rfl) rfl ?_
                          refine V_walk.yes rfl rfl ?_
                          refine V_w0.q (QY_move rfl) rfl ?_
                          refine V_walk.yes rfl rfl ?_
                          refine W_elem2 V_walk rfl (fun _ => rfl) rfl rfl (hT.gZ.rd (q := 40) rfl (by omega)) (by omega) (by omega) sl32 lf3 rfl rfl (fun _ => ?_)
                          refine V_walk.yes rfl rfl ?_
                          refine W_neq V_w0 rfl rfl rfl (fun h292 => False.elim (h292 hT.siz0)) (fun h292 => ?_)
                          refine V_w0.q (QY_pick_false rfl rfl) rfl ?_
                          refine V_w0.q (QY_move rfl) rfl ?_
                          refine V_walk.yes rfl rfl ?_
                          refine V_w0.q (QY_move rfl) rfl ?_
                          refine V_walk.yes rfl rfl ?_
                          refine W_elem2 V_walk rfl (fun _ => rfl) rfl rfl (Rd_own (q := 45) rfl (by omega)) (by omega) (by omega) sl23 lf5 rfl rfl (fun _ => ?_)
                          refine V_walk.yes rfl rfl ?_
                          refine W_neq V_w0 rfl rfl rfl (fun h298 => False.elim (h298 hT.cls0)) (fun h298 => ?_)
                          refine V_w0.q (QY_pick_false rfl rfl) rfl ?_
                          refine V_nil (X_next ?_)
                          refine C_false rfl ?_
                          refine C_skip (X_next ?_)
                          refine C_seq ?_
                          refine C_seq ?_
                          refine C_region ?_
                          refine V_w0.q (QY_assign rfl) rfl ?_
                          refine V_nil (X_next ?_)
                          refine C_block ?_
                          refine C_loops (T := Int) (fun (k : Int) => [(0, .slice aF1 nf nf), (1, .slice aO1 no no), (2, .slice aL1 no no), (3, .int .u8 al), (4, .int .i32 tx), (5, .slice aS1 s s), (6, .slice aU1 q q), (15, .int .i32 (n : Int)), (16, .int .i32 (s : Int)), (17, .slice (some ⟨bM, 0, none⟩) n n), (20, .int .i32 p), (30, .slice (some ⟨bC, 0, none⟩) n n), (31, .slice aS2 d.r s), (32, .slice d.aD d.m d.cD), (33, .slice d.aB (q + 1) d.cB), (34, .slice d.aE (q + 1) d.cE), (35, .slice d.aT (q + 1) d.cT), (36, .slice (some ⟨bY, 0, none⟩) (q + 1) (q + 1)), (37, .slice d.aZ (q + 1) d.cZ), (38, .slice d.aW (q + 1) d.cW), (39, .slice (some ⟨bN, 0, none⟩) n n), (40, .int .i64 (q : Int)), (41, .int .i64 k)]) (fun (k : Int) => [(32, ⟨bF, nf, nf, ints .i32 f⟩), (33, ⟨bO, no, no, ints .i32 o⟩), (35, ⟨bC, n, n, ints .i32 d.comp⟩), (36, ⟨d.bB, d.sB, ((q + 1 : Nat) : Int), ints .i32 d.beg⟩), (37, ⟨d.bE, d.sE, ((q + 1 : Nat) : Int), ints .i32 d.en⟩), (39, ⟨d.bT, d.sT, ((q + 1 : Nat) : Int), ints .i32 d.cnt⟩), (40, ⟨d.bZ, d.sZ, ((q + 1 : Nat) : Int), ints .i64 d.siz⟩), (41, ⟨d.bW, d.sW, ((q + 1 : Nat) : Int), ints .i64 d.spt⟩), (42, ⟨bN, n, n, bools d.on⟩), (43, ⟨bS, s, s, ints .i32 st⟩), (44, ⟨d.bD, d.sD, d.m, ints .i32 d.fo⟩), (22, ⟨bU1, q, q, ints .i32 cu⟩), (21, ⟨bS1, s, s, ints .i32 st⟩), (20, ⟨bK, no, no, ints .u8 cl⟩), (23, ⟨bM, n, n, bools g⟩), (45, ⟨bY, (q + 1), ((q + 1 : Nat) : Int), ints .u8 d.cls⟩)]) (fun (k : Int) => 0 ≤ k ∧ k ≤ (q : Int) + 1) (fun (k : Int) => (((q : Int) + 1) - k).toNat) 0 ?_ ?_ ?_ ?_
                          · exact ⟨by omega, by omega⟩
                          · exact ⟨rfl, rfl, rfl, rfl, rfl, rfl, rfl, rfl, rfl, rfl, rfl, rfl, rfl, rfl, rfl, rfl, rfl, rfl, rfl, rfl, rfl, rfl, rfl, trivial⟩
                          · exact ⟨rfl, rfl, rfl, rfl, rfl, rfl, rfl, rfl, rfl, rfl, rfl, rfl, rfl, rfl, rfl, rfl, trivial⟩
                          rintro k ⟨hk0, hk1⟩
                          show C _ _ _ _ _ _ [(0, .slice aF1 nf nf), (1, .slice aO1 no no), (2, .slice aL1 no no), (3, .int .u8 al), (4, .int .i32 tx), (5, .slice aS1 s s), (6, .slice aU1 q q), (15, .int .i32 (n : Int)), (16, .int .i32 (s : Int)), (17, .slice (some ⟨bM, 0, none⟩) n n), (20, .int .i32 p), (30, .slice (some ⟨bC, 0, none⟩) n n), (31, .slice aS2 d.r s), (32, .slice d.aD d.m d.cD), (33, .slice d.aB (q + 1) d.cB), (34, .slice d.aE (q + 1) d.cE), (35, .slice d.aT (q + 1) d.cT), (36, .slice (some ⟨bY, 0, none⟩) (q + 1) (q + 1)), (37, .slice d.aZ (q + 1) d.cZ), (38, .slice d.aW (q + 1) d.cW), (39, .slice (some ⟨bN, 0, none⟩) n n), (40, .int .i64 (q : Int)), (41, .int .i64 k)] [(32, ⟨bF, nf, nf, ints .i32 f⟩), (33, ⟨bO, no, no, ints .i32 o⟩), (35, ⟨bC, n, n, ints .i32 d.comp⟩), (36, ⟨d.bB, d.sB, ((q + 1 : Nat) : Int), ints .i32 d.beg⟩), (37, ⟨d.bE, d.sE, ((q + 1 : Nat) : Int), ints .i32 d.en⟩), (39, ⟨d.bT, d.sT, ((q + 1 : Nat) : Int), ints .i32 d.cnt⟩), (40, ⟨d.bZ, d.sZ, ((q + 1 : Nat) : Int), ints .i64 d.siz⟩), (41, ⟨d.bW, d.sW, ((q + 1 : Nat) : Int), ints .i64 d.spt⟩), (42, ⟨bN, n, n, bools d.on⟩), (43, ⟨bS, s, s, ints .i32 st⟩), (44, ⟨d.bD, d.sD, d.m, ints .i32 d.fo⟩), (22, ⟨bU1, q, q, ints .i32 cu⟩), (21, ⟨bS1, s, s, ints .i32 st⟩), (20, ⟨bK, no, no, ints .u8 cl⟩), (23, ⟨bM, n, n, bools g⟩), (45, ⟨bY, (q + 1), ((q + 1 : Nat) : Int), ints .u8 d.cls⟩)]
                          refine C_seq ?_
                          refine C_seq ?_
                          refine C_region ?_
                          refine V_w0.q (QY_move rfl) rfl ?_
                          refine V_w0.q (QY_move rfl) rfl ?_
                          refine W_leq V_w0 rfl rfl rfl (fun h302 => ?_) (fun h302 => ?_)
                          ·
                            refine V_nil (X_next ?_)
                            refine C_true rfl ?_
                            refine C_skip (X_next ?_)
                            refine C_seq ?_
                            refine C_block ?_
                            refine C_seq ?_
                            refine C_region ?_
                            refine V_w0.q (QY_move rfl) rfl ?_
                            refine V_w0.q (QY_move rfl) rfl ?_
                            refine W_elem V_w0 rfl rfl (hT.gW.rd (q := 41) rfl (by omega)) (by omega) (by omega) sl32 lf3 rfl rfl (fun _ => ?_)
                            refine W_neq V_w0 rfl rfl rfl (fun h309 => False.elim (h309 (hT.spt k (by omega) (by omega)))) (fun h309 => ?_)
                            refine V_nil (X_next ?_)
                            refine C_false rfl ?_
                            refine C_skip (X_block (X_next ?_))
                            refine C_region ?_
                            refine V_w0.q (QY_move rfl) rfl ?_
                            refine V_w0.q (QY_arith rfl rfl rfl ⟨by omega, by omega⟩) rfl ?_
                            refine V_w0.q (QY_assign rfl) rfl ?_
                            refine V_nil (X_then ?_)
                            refine X_round (k + 1) ?_ ?_ ?_ ?_
                            · exact ⟨by omega, by omega⟩
                            · show (((q : Int) + 1) - (k + 1)).toNat < (((q : Int) + 1) - k).toNat
                              omega
                            · exact ⟨rfl, rfl, rfl, rfl, rfl, rfl, rfl, rfl, rfl, rfl, rfl, rfl, rfl, rfl, rfl, rfl, rfl, rfl, rfl, rfl, rfl, rfl, rfl, trivial⟩
                            · exact ⟨rfl, rfl, rfl, rfl, rfl, rfl, rfl, rfl, rfl, rfl, rfl, rfl, rfl, rfl, rfl, rfl, trivial⟩
                          ·
                            refine V_nil (X_next ?_)
                            refine C_false rfl ?_
                            refine C_exit (X_then_exit (X_then_exit (X_block_exit (X_next ?_))))
                            refine C_seq ?_
                            refine C_seq ?_
                            refine C_region ?_
                            refine V_w0.q (QY_move rfl) rfl ?_
                            refine V_w0.q (QY_len sl22 rfl) rfl ?_
                            refine V_w0.q (QY_conv it3 it21 rfl ⟨by omega, by omega⟩) rfl ?_
                            refine V_w0.q (QY_move rfl) rfl ?_
                            refine W_neq V_w0 rfl rfl rfl (fun h314 => False.elim (by omega)) (fun h314 => ?_)
                            refine V_w0.q (QY_move rfl) rfl ?_
                            refine V_walk.yes rfl rfl ?_
                            refine V_w0.q (QY_move rfl) rfl ?_
                            refine V_walk.yes rfl rfl ?_
                            refine V_w0.q (QY_len sl22 rfl) rfl ?_
                            refine V_walk.yes rfl rfl ?_
                            refine V_w0.q (QY_conv it3 it21 rfl ⟨by omega, by omega⟩) rfl ?_
                            refine V_walk.yes rfl rfl ?_
                            refine V_w0.q (QY_move rfl) rfl ?_
                            refine V_walk.yes rfl rfl ?_
                            refine V_w0.q (QY_move rfl) rfl ?_
                            refine V_walk.yes rfl rfl ?_
                            refine V_w0.q (QY_arith rfl rfl rfl ⟨by omega, by omega⟩) rfl ?_
                            refine V_walk.yes rfl rfl ?_
                            refine W_neq V_w0 rfl rfl rfl (fun h322 => False.elim (by omega)) (fun h322 => ?_)
                            refine V_w0.q (QY_pick_false rfl rfl) rfl ?_
                            refine V_nil (X_next ?_)
                            refine C_false rfl ?_
                            refine C_skip (X_next ?_)
                            refine C_seq ?_
                            refine C_seq ?_
                            refine C_region ?_
                            refine V_w0.q (QY_assign rfl) rfl ?_
                            refine V_nil (X_next ?_)
                            refine C_block ?_
                            refine C_loops (T := Int) (fun (k : Int) => [(0, .slice aF1 nf nf), (1, .slice aO1 no no), (2, .slice aL1 no no), (3, .int .u8 al), (4, .int .i32 tx), (5, .slice aS1 s s), (6, .slice aU1 q q), (15, .int .i32 (n : Int)), (16, .int .i32 (s : Int)), (17, .slice (some ⟨bM, 0, none⟩) n n), (20, .int .i32 p), (30, .slice (some ⟨bC, 0, none⟩) n n), (31, .slice aS2 d.r s), (32, .slice d.aD d.m d.cD), (33, .slice d.aB (q + 1) d.cB), (34, .slice d.aE (q + 1) d.cE), (35, .slice d.aT (q + 1) d.cT), (36, .slice (some ⟨bY, 0, none⟩) (q + 1) (q + 1)), (37, .slice d.aZ (q + 1) d.cZ), (38, .slice d.aW (q + 1) d.cW), (39, .slice (some ⟨bN, 0, none⟩) n n), (40, .int .i64 (q : Int)), (42, .int .i32 k)]) (fun (k : Int) => [(32, ⟨bF, nf, nf, ints .i32 f⟩), (33, ⟨bO, no, no, ints .i32 o⟩), (35, ⟨bC, n, n, ints .i32 d.comp⟩), (36, ⟨d.bB, d.sB, ((q + 1 : Nat) : Int), ints .i32 d.beg⟩), (37, ⟨d.bE, d.sE, ((q + 1 : Nat) : Int), ints .i32 d.en⟩), (39, ⟨d.bT, d.sT, ((q + 1 : Nat) : Int), ints .i32 d.cnt⟩), (40, ⟨d.bZ, d.sZ, ((q + 1 : Nat) : Int), ints .i64 d.siz⟩), (41, ⟨d.bW, d.sW, ((q + 1 : Nat) : Int), ints .i64 d.spt⟩), (42, ⟨bN, n, n, bools d.on⟩), (43, ⟨bS, s, s, ints .i32 st⟩), (44, ⟨d.bD, d.sD, d.m, ints .i32 d.fo⟩), (22, ⟨bU1, q, q, ints .i32 cu⟩), (21, ⟨bS1, s, s, ints .i32 st⟩), (20, ⟨bK, no, no, ints .u8 cl⟩), (23, ⟨bM, n, n, bools g⟩), (45, ⟨bY, (q + 1), ((q + 1 : Nat) : Int), ints .u8 d.cls⟩)]) (fun (k : Int) => 0 ≤ k ∧ k ≤ p) (fun (k : Int) => (p - k).toNat) 0 ?_ ?_ ?_ ?_
                            · exact ⟨by omega, by omega⟩
                            · exact ⟨rfl, rfl, rfl, rfl, rfl, rfl, rfl, rfl, rfl, rfl, rfl, rfl, rfl, rfl, rfl, rfl, rfl, rfl, rfl, rfl, rfl, rfl, rfl, trivial⟩
                            · exact ⟨rfl, rfl, rfl, rfl, rfl, rfl, rfl, rfl, rfl, rfl, rfl, rfl, rfl, rfl, rfl, rfl, trivial⟩
                            rintro k ⟨hk0, hk1⟩
                            show C _ _ _ _ _ _ [(0, .slice aF1 nf nf), (1, .slice aO1 no no), (2, .slice aL1 no no), (3, .int .u8 al), (4, .int .i32 tx), (5, .slice aS1 s s), (6, .slice aU1 q q), (15, .int .i32 (n : Int)), (16, .int .i32 (s : Int)), (17, .slice (some ⟨bM, 0, none⟩) n n), (20, .int .i32 p), (30, .slice (some ⟨bC, 0, none⟩) n n), (31, .slice aS2 d.r s), (32, .slice d.aD d.m d.cD), (33, .slice d.aB (q + 1) d.cB), (34, .slice d.aE (q + 1) d.cE), (35, .slice d.aT (q + 1) d.cT), (36, .slice (some ⟨bY, 0, none⟩) (q + 1) (q + 1)), (37, .slice d.aZ (q + 1) d.cZ), (38, .slice d.aW (q + 1) d.cW), (39, .slice (some ⟨bN, 0, none⟩) n n), (40, .int .i64 (q : Int)), (42, .int .i32 k)] [(32, ⟨bF, nf, nf, ints .i32 f⟩), (33, ⟨bO, no, no, ints .i32 o⟩), (35, ⟨bC, n, n, ints .i32 d.comp⟩), (36, ⟨d.bB, d.sB, ((q + 1 : Nat) : Int), ints .i32 d.beg⟩), (37, ⟨d.bE, d.sE, ((q + 1 : Nat) : Int), ints .i32 d.en⟩), (39, ⟨d.bT, d.sT, ((q + 1 : Nat) : Int), ints .i32 d.cnt⟩), (40, ⟨d.bZ, d.sZ, ((q + 1 : Nat) : Int), ints .i64 d.siz⟩), (41, ⟨d.bW, d.sW, ((q + 1 : Nat) : Int), ints .i64 d.spt⟩), (42, ⟨bN, n, n, bools d.on⟩), (43, ⟨bS, s, s, ints .i32 st⟩), (44, ⟨d.bD, d.sD, d.m, ints .i32 d.fo⟩), (22, ⟨bU1, q, q, ints .i32 cu⟩), (21, ⟨bS1, s, s, ints .i32 st⟩), (20, ⟨bK, no, no, ints .u8 cl⟩), (23, ⟨bM, n, n, bools g⟩), (45, ⟨bY, (q + 1), ((q + 1 : Nat) : Int), ints .u8 d.cls⟩)]
                            refine C_seq ?_
                            refine C_seq ?_
                            refine C_region ?_
                            refine V_w0.q (QY_move rfl) rfl ?_
                            refine V_w0.q (QY_move rfl) rfl ?_
                            refine W_lss V_w0 rfl rfl rfl (fun h326 => ?_) (fun h326 => ?_)
                            ·
                              refine V_nil (X_next ?_)
                              refine C_true rfl ?_
                              refine C_skip (X_next ?_)
                              refine C_seq ?_
                              refine C_block ?_
                              refine C_seq ?_
                              refine C_draw mix (by kernel_rfl) ?_
                              refine S_w0.q (QY_move rfl) rfl ?_
                              refine S_w0.q (QY_move rfl) rfl ?_
                              refine W_elem S_w0 rfl rfl (Rd_sl (q := 43) rfl (fun hh => h2S (by omega)) (by omega)) (by omega) (by omega) sl22 lf21 rfl rfl (fun _ => ?_)
                              refine S_w0.q (QY_move rfl) rfl ?_
                              refine S_w0.q (QY_move rfl) rfl ?_
                              refine W_elem S_w0 rfl rfl (Rd_sl (q := 21) rfl h1S (by omega)) (by omega) (by omega) sl22 lf21 rfl rfl (fun _ => ?_)
                              refine W_neq S_w0 rfl rfl rfl (fun h337 => False.elim (h337 rfl)) (fun h337 => ?_)
                              refine S_nil (X_next ?_)
                              refine C_false rfl ?_
                              refine C_skip (X_block (X_next ?_))
                              refine C_region ?_
                              refine V_w0.q (QY_move rfl) rfl ?_
                              refine V_w0.q (QY_arith rfl rfl rfl ⟨by omega, by omega⟩) rfl ?_
                              refine V_w0.q (QY_assign rfl) rfl ?_
                              refine V_nil (X_then ?_)
                              refine X_round (k + 1) ?_ ?_ ?_ ?_
                              · exact ⟨by omega, by omega⟩
                              · show (p - (k + 1)).toNat < (p - k).toNat
                                omega
                              · exact ⟨rfl, rfl, rfl, rfl, rfl, rfl, rfl, rfl, rfl, rfl, rfl, rfl, rfl, rfl, rfl, rfl, rfl, rfl, rfl, rfl, rfl, rfl, rfl, trivial⟩
                              · exact ⟨rfl, rfl, rfl, rfl, rfl, rfl, rfl, rfl, rfl, rfl, rfl, rfl, rfl, rfl, rfl, rfl, trivial⟩
                            ·
                              refine V_nil (X_next ?_)
                              refine C_false rfl ?_
                              refine C_exit (X_then_exit (X_then_exit (X_block_exit (X_next ?_))))
                              refine C_seq ?_
                              refine C_region ?_
                              refine V_w0.q (QY_move rfl) rfl ?_
                              refine V_make 46 mk22 rfl rfl rfl (by omega) (by omega) (by omega) (by omega) rfl (fun bG => ?_)
                              refine V_w0.q (QY_assign rfl) rfl ?_
                              refine V_nil (X_next ?_)
                              refine C_seq ?_
                              refine C_region ?_
                              refine V_w0.q (QY_move rfl) rfl ?_
                              refine V_w0.q (QY_assign rfl) rfl ?_
                              refine V_nil (X_next ?_)
                              refine C_seq ?_
                              refine C_seq ?_
                              refine C_region ?_
                              refine V_w0.q (QY_assign rfl) rfl ?_
                              refine V_nil (X_next ?_)
                              refine C_block ?_
                              refine C_loops (T := Int × Int × (Int → Int)) (fun (x : Int × Int × (Int → Int)) => match x with | (k, t0, sg) => [(0, .slice aF1 nf nf), (1, .slice aO1 no no), (2, .slice aL1 no no), (3, .int .u8 al), (4, .int .i32 tx), (5, .slice aS1 s s), (6, .slice aU1 q q), (15, .int .i32 (n : Int)), (16, .int .i32 (s : Int)), (17, .slice (some ⟨bM, 0, none⟩) n n), (20, .int .i32 p), (30, .slice (some ⟨bC, 0, none⟩) n n), (31, .slice aS2 d.r s), (32, .slice d.aD d.m d.cD), (33, .slice d.aB (q + 1) d.cB), (34, .slice d.aE (q + 1) d.cE), (35, .slice d.aT (q + 1) d.cT), (36, .slice (some ⟨bY, 0, none⟩) (q + 1) (q + 1)), (37, .slice d.aZ (q + 1) d.cZ), (38, .slice d.aW (q + 1) d.cW), (39, .slice (some ⟨bN, 0, none⟩) n n), (40, .int .i64 (q : Int)), (43, .slice (some ⟨bG, 0, none⟩) n n), (44, .int .i32 t0), (45, .int .i64 k)]) (fun (x : Int × Int × (Int → Int)) => match x with | (k, t0, sg) => [(32, ⟨bF, nf, nf, ints .i32 f⟩), (33, ⟨bO, no, no, ints .i32 o⟩), (35, ⟨bC, n, n, ints .i32 d.comp⟩), (36, ⟨d.bB, d.sB, ((q + 1 : Nat) : Int), ints .i32 d.beg⟩), (37, ⟨d.bE, d.sE, ((q + 1 : Nat) : Int), ints .i32 d.en⟩), (39, ⟨d.bT, d.sT, ((q + 1 : Nat) : Int), ints .i32 d.cnt⟩), (40, ⟨d.bZ, d.sZ, ((q + 1 : Nat) : Int), ints .i64 d.siz⟩), (41, ⟨d.bW, d.sW, ((q + 1 : Nat) : Int), ints .i64 d.spt⟩), (42, ⟨bN, n, n, bools d.on⟩), (43, ⟨bS, s, s, ints .i32 st⟩), (44, ⟨d.bD, d.sD, d.m, ints .i32 d.fo⟩), (22, ⟨bU1, q, q, ints .i32 cu⟩), (21, ⟨bS1, s, s, ints .i32 st⟩), (20, ⟨bK, no, no, ints .u8 cl⟩), (23, ⟨bM, n, n, bools g⟩), (45, ⟨bY, (q + 1), ((q + 1 : Nat) : Int), ints .u8 d.cls⟩), (46, ⟨bG, n, n, ints .i32 sg⟩)]) (fun (x : Int × Int × (Int → Int)) => match x with | (k, t0, sg) => 0 ≤ k ∧ k ≤ q ∧ t0 = tp s cu k ∧ SegI s st cu k sg) (fun (x : Int × Int × (Int → Int)) => match x with | (k, t0, sg) => ((q : Int) - k).toNat) (0, (s : Int), fun _ => 0) ?_ ?_ ?_ ?_
                              · exact ⟨by omega, by omega, (tp_zero s cu).symm, SegI.zero _ _ _⟩
                              · exact ⟨rfl, rfl, rfl, rfl, rfl, rfl, rfl, rfl, rfl, rfl, rfl, rfl, rfl, rfl, rfl, rfl, rfl, rfl, rfl, rfl, rfl, rfl, rfl, rfl, rfl, trivial⟩
                              · exact ⟨rfl, rfl, rfl, rfl, rfl, rfl, rfl, rfl, rfl, rfl, rfl, rfl, rfl, rfl, rfl, rfl, rfl, trivial⟩
                              rintro ⟨k, t0, sg⟩ ⟨hk0, hk1, ht0, hsg⟩
                              show C _ _ _ _ _ _ [(0, .slice aF1 nf nf), (1, .slice aO1 no no), (2, .slice aL1 no no), (3, .int .u8 al), (4, .int .i32 tx), (5, .slice aS1 s s), (6, .slice aU1 q q), (15, .int .i32 (n : Int)), (16, .int .i32 (s : Int)), (17, .slice (some ⟨bM, 0, none⟩) n n), (20, .int .i32 p), (30, .slice (some ⟨bC, 0, none⟩) n n), (31, .slice aS2 d.r s), (32, .slice d.aD d.m d.cD), (33, .slice d.aB (q + 1) d.cB), (34, .slice d.aE (q + 1) d.cE), (35, .slice d.aT (q + 1) d.cT), (36, .slice (some ⟨bY, 0, none⟩) (q + 1) (q + 1)), (37, .slice d.aZ (q + 1) d.cZ), (38, .slice d.aW (q + 1) d.cW), (39, .slice (some ⟨bN, 0, none⟩) n n), (40, .int .i64 (q : Int)), (43, .slice (some ⟨bG, 0, none⟩) n n), (44, .int .i32 t0), (45, .int .i64 k)] [(32, ⟨bF, nf, nf, ints .i32 f⟩), (33, ⟨bO, no, no, ints .i32 o⟩), (35, ⟨bC, n, n, ints .i32 d.comp⟩), (36, ⟨d.bB, d.sB, ((q + 1 : Nat) : Int), ints .i32 d.beg⟩), (37, ⟨d.bE, d.sE, ((q + 1 : Nat) : Int), ints .i32 d.en⟩), (39, ⟨d.bT, d.sT, ((q + 1 : Nat) : Int), ints .i32 d.cnt⟩), (40, ⟨d.bZ, d.sZ, ((q + 1 : Nat) : Int), ints .i64 d.siz⟩), (41, ⟨d.bW, d.sW, ((q + 1 : Nat) : Int), ints .i64 d.spt⟩), (42, ⟨bN, n, n, bools d.on⟩), (43, ⟨bS, s, s, ints .i32 st⟩), (44, ⟨d.bD, d.sD, d.m, ints .i32 d.fo⟩), (22, ⟨bU1, q, q, ints .i32 cu⟩), (21, ⟨bS1, s, s, ints .i32 st⟩), (20, ⟨bK, no, no, ints .u8 cl⟩), (23, ⟨bM, n, n, bools g⟩), (45, ⟨bY, (q + 1), ((q + 1 : Nat) : Int), ints .u8 d.cls⟩), (46, ⟨bG, n, n, ints .i32 sg⟩)]
                              refine C_seq ?_
                              refine C_seq ?_
                              refine C_region ?_
                              refine V_w0.q (QY_move rfl) rfl ?_
                              refine V_w0.q (QY_move rfl) rfl ?_
                              refine W_lss V_w0 rfl rfl rfl (fun h343 => ?_) (fun h343 => ?_)
                              ·
                                have hck := hcuts k hk0 (by omega)
                                have hlk := hcuts.lei hk0 hk1
                                refine V_nil (X_next ?_)
                                refine C_true rfl ?_
                                refine C_skip (X_next ?_)
                                refine C_seq ?_
                                refine C_block ?_
                                refine C_seq ?_
                                refine C_region ?_
                                refine V_w0.q (QY_move rfl) rfl ?_
                                refine V_w0.q (QY_move rfl) rfl ?_
                                refine W_elem V_w0 rfl rfl (Rd_sl (q := 22) rfl h1U (by omega)) (by omega) (by omega) sl22 lf21 rfl rfl (fun _ => ?_)
                                refine V_w0.q (QY_assign rfl) rfl ?_
                                refine V_nil (X_next ?_)
                                refine C_seq ?_
                                refine C_seq ?_
                                refine C_region ?_
                                refine V_w0.q (QY_move rfl) rfl ?_
                                refine V_w0.q (QY_assign rfl) rfl ?_
                                refine V_nil (X_next ?_)
                                refine C_block ?_
                                refine C_loops (T := Int × (Int → Int)) (fun (x : Int × (Int → Int)) => match x with | (i, sg1) => [(0, .slice aF1 nf nf), (1, .slice aO1 no no), (2, .slice aL1 no no), (3, .int .u8 al), (4, .int .i32 tx), (5, .slice aS1 s s), (6, .slice aU1 q q), (15, .int .i32 (n : Int)), (16, .int .i32 (s : Int)), (17, .slice (some ⟨bM, 0, none⟩) n n), (20, .int .i32 p), (30, .slice (some ⟨bC, 0, none⟩) n n), (31, .slice aS2 d.r s), (32, .slice d.aD d.m d.cD), (33, .slice d.aB (q + 1) d.cB), (34, .slice d.aE (q + 1) d.cE), (35, .slice d.aT (q + 1) d.cT), (36, .slice (some ⟨bY, 0, none⟩) (q + 1) (q + 1)), (37, .slice d.aZ (q + 1) d.cZ), (38, .slice d.aW (q + 1) d.cW), (39, .slice (some ⟨bN, 0, none⟩) n n), (40, .int .i64 (q : Int)), (43, .slice (some ⟨bG, 0, none⟩) n n), (44, .int .i32 t0), (45, .int .i64 k), (46, .int .i32 (cu k)), (47, .int .i32 i)]) (fun (x : Int × (Int → Int)) => match x with | (i, sg1) => [(32, ⟨bF, nf, nf, ints .i32 f⟩), (33, ⟨bO, no, no, ints .i32 o⟩), (35, ⟨bC, n, n, ints .i32 d.comp⟩), (36, ⟨d.bB, d.sB, ((q + 1 : Nat) : Int), ints .i32 d.beg⟩), (37, ⟨d.bE, d.sE, ((q + 1 : Nat) : Int), ints .i32 d.en⟩), (39, ⟨d.bT, d.sT, ((q + 1 : Nat) : Int), ints .i32 d.cnt⟩), (40, ⟨d.bZ, d.sZ, ((q + 1 : Nat) : Int), ints .i64 d.siz⟩), (41, ⟨d.bW, d.sW, ((q + 1 : Nat) : Int), ints .i64 d.spt⟩), (42, ⟨bN, n, n, bools d.on⟩), (43, ⟨bS, s, s, ints .i32 st⟩), (44, ⟨d.bD, d.sD, d.m, ints .i32 d.fo⟩), (22, ⟨bU1, q, q, ints .i32 cu⟩), (21, ⟨bS1, s, s, ints .i32 st⟩), (20, ⟨bK, no, no, ints .u8 cl⟩), (23, ⟨bM, n, n, bools g⟩), (45, ⟨bY, (q + 1), ((q + 1 : Nat) : Int), ints .u8 d.cls⟩), (46, ⟨bG, n, n, ints .i32 sg1⟩)]) (fun (x : Int × (Int → Int)) => match x with | (i, sg1) => cu k ≤ i ∧ i ≤ t0 ∧ SegP s st cu k i sg1) (fun (x : Int × (Int → Int)) => match x with | (i, sg1) => (t0 - i).toNat) (cu k, sg) ?_ ?_ ?_ ?_
                                · exact ⟨by omega, by omega, hsg.open⟩
                                · exact ⟨rfl, rfl, rfl, rfl, rfl, rfl, rfl, rfl, rfl, rfl, rfl, rfl, rfl, rfl, rfl, rfl, rfl, rfl, rfl, rfl, rfl, rfl, rfl, rfl, rfl, rfl, rfl, trivial⟩
                                · exact ⟨rfl, rfl, rfl, rfl, rfl, rfl, rfl, rfl, rfl, rfl, rfl, rfl, rfl, rfl, rfl, rfl, rfl, trivial⟩
                                rintro ⟨i, sg1⟩ ⟨hi0, hi1, hsp⟩
                                show C _ _ _ _ _ _ [(0, .slice aF1 nf nf), (1, .slice aO1 no no), (2, .slice aL1 no no), (3, .int .u8 al), (4, .int .i32 tx), (5, .slice aS1 s s), (6, .slice aU1 q q), (15, .int .i32 (n : Int)), (16, .int .i32 (s : Int)), (17, .slice (some ⟨bM, 0, none⟩) n n), (20, .int .i32 p), (30, .slice (some ⟨bC, 0, none⟩) n n), (31, .slice aS2 d.r s), (32, .slice d.aD d.m d.cD), (33, .slice d.aB (q + 1) d.cB), (34, .slice d.aE (q + 1) d.cE), (35, .slice d.aT (q + 1) d.cT), (36, .slice (some ⟨bY, 0, none⟩) (q + 1) (q + 1)), (37, .slice d.aZ (q + 1) d.cZ), (38, .slice d.aW (q + 1) d.cW), (39, .slice (some ⟨bN, 0, none⟩) n n), (40, .int .i64 (q : Int)), (43, .slice (some ⟨bG, 0, none⟩) n n), (44, .int .i32 t0), (45, .int .i64 k), (46, .int .i32 (cu k)), (47, .int .i32 i)] [(32, ⟨bF, nf, nf, ints .i32 f⟩), (33, ⟨bO, no, no, ints .i32 o⟩), (35, ⟨bC, n, n, ints .i32 d.comp⟩), (36, ⟨d.bB, d.sB, ((q + 1 : Nat) : Int), ints .i32 d.beg⟩), (37, ⟨d.bE, d.sE, ((q + 1 : Nat) : Int), ints .i32 d.en⟩), (39, ⟨d.bT, d.sT, ((q + 1 : Nat) : Int), ints .i32 d.cnt⟩), (40, ⟨d.bZ, d.sZ, ((q + 1 : Nat) : Int), ints .i64 d.siz⟩), (41, ⟨d.bW, d.sW, ((q + 1 : Nat) : Int), ints .i64 d.spt⟩), (42, ⟨bN, n, n, bools d.on⟩), (43, ⟨bS, s, s, ints .i32 st⟩), (44, ⟨d.bD, d.sD, d.m, ints .i32 d.fo⟩), (22, ⟨bU1, q, q, ints .i32 cu⟩), (21, ⟨bS1, s, s, ints .i32 st⟩), (20, ⟨bK, no, no, ints .u8 cl⟩), (23, ⟨bM, n, n, bools g⟩), (45, ⟨bY, (q + 1), ((q + 1 : Nat) : Int), ints .u8 d.cls⟩), (46, ⟨bG, n, n, ints .i32 sg1⟩)]
                                refine C_seq ?_
                                refine C_seq ?_
                                refine C_region ?_
                                refine V_w0.q (QY_move rfl) rfl ?_
                                refine V_w0.q (QY_move rfl) rfl ?_
                                refine W_lss V_w0 rfl rfl rfl (fun h353 => ?_) (fun h353 => ?_)
                                ·
                                  have hnode := hseen.1 i (by omega) (by omega)
                                  refine V_nil (X_next ?_)
                                  refine C_true rfl ?_
                                  refine C_skip (X_next ?_)
                                  refine C_seq ?_
                                  refine C_block ?_
                                  refine C_region ?_
                                  refine V_w0.q (QY_move rfl) rfl ?_
                                  refine V_w0.q (QY_move rfl) rfl ?_
                                  refine V_w0.q (QY_move rfl) rfl ?_
                                  refine W_elem V_w0 rfl rfl (Rd_sl (q := 21) rfl h1S (by omega)) (by omega) (by omega) sl22 lf21 rfl rfl (fun _ => ?_)
                                  refine V_w0.q (QY_move rfl) rfl ?_
                                  refine V_w0.q (QY_arith rfl rfl rfl ⟨by omega, by omega⟩) rfl ?_
                                  refine V_w0.q (QY_conv it3 it21 rfl ⟨by omega, by omega⟩) rfl ?_
                                  refine V_set (q := 46) rfl rfl rfl rfl rfl (by omega) (by omega) (by omega) sl22 lf21 rfl rfl (upd_ints _ _ _ _) (fun _ => ?_)
                                  refine V_nil (X_block (X_next ?_))
                                  refine C_region ?_
                                  refine V_w0.q (QY_move rfl) rfl ?_
                                  refine V_w0.q (QY_arith rfl rfl rfl ⟨by omega, by omega⟩) rfl ?_
                                  refine V_w0.q (QY_assign rfl) rfl ?_
                                  refine V_nil (X_then ?_)
                                  refine X_round (i + 1, upd sg1 (st i) (k + 1)) ?_ ?_ ?_ ?_
                                  · exact ⟨by omega, by omega, hsp.next hcuts hk0 (by omega) hi0 (by omega) hseen.2.1⟩
                                  · show (t0 - (i + 1)).toNat < (t0 - i).toNat
                                    omega
                                  · exact ⟨rfl, rfl, rfl, rfl, rfl, rfl, rfl, rfl, rfl, rfl, rfl, rfl, rfl, rfl, rfl, rfl, rfl, rfl, rfl, rfl, rfl, rfl, rfl, rfl, rfl, rfl, rfl, trivial⟩
                                  · exact ⟨rfl, rfl, rfl, rfl, rfl, rfl, rfl, rfl, rfl, rfl, rfl, rfl, rfl, rfl, rfl, rfl, rfl, trivial⟩
                                ·
                                  have hie : i = t0 := by omega
                                  refine V_nil (X_next ?_)
                                  refine C_false rfl ?_
                                  refine C_exit (X_then_exit (X_then_exit (X_block_exit (X_next ?_))))
                                  refine C_region ?_
                                  refine V_w0.q (QY_move rfl) rfl ?_
                                  refine V_w0.q (QY_assign rfl) rfl ?_
                                  refine V_nil (X_block (X_next ?_))
                                  refine C_region ?_
                                  refine V_w0.q (QY_move rfl) rfl ?_
                                  refine V_w0.q (QY_arith rfl rfl rfl ⟨by omega, by omega⟩) rfl ?_
                                  refine V_w0.q (QY_assign rfl) rfl ?_
                                  refine V_nil (X_then ?_)
                                  refine X_round (k + 1, cu k, sg1) ?_ ?_ ?_ ?_
                                  · exact ⟨by omega, by omega, (tp_succ s cu hk0).symm, SegP.shut (by rw [← ht0, ← hie]; exact hsp) hcuts hk0 (by omega)⟩
                                  · show ((q : Int) - (k + 1)).toNat < ((q : Int) - k).toNat
                                    omega
                                  · exact ⟨rfl, rfl, rfl, rfl, rfl, rfl, rfl, rfl, rfl, rfl, rfl, rfl, rfl, rfl, rfl, rfl, rfl, rfl, rfl, rfl, rfl, rfl, rfl, rfl, rfl, trivial⟩
                                  · exact ⟨rfl, rfl, rfl, rfl, rfl, rfl, rfl, rfl, rfl, rfl, rfl, rfl, rfl, rfl, rfl, rfl, rfl, trivial⟩
                              ·
                                obtain rfl : k = (q : Int) := by omega
                                refine V_nil (X_next ?_)
                                refine C_false rfl ?_
                                refine C_exit (X_then_exit (X_then_exit (X_block_exit (X_next ?_))))
                                refine C_seq ?_
                                refine C_region ?_
                                refine V_w0.q (QY_assign rfl) rfl ?_
                                refine V_nil (X_next ?_)
                                refine C_seq ?_
                                refine C_region ?_
                                refine V_w0.q (QY_assign rfl) rfl ?_
                                refine V_nil (X_next ?_)
                                refine C_seq ?_
                                refine C_region ?_
                                refine V_w0.q (QY_move rfl) rfl ?_
                                refine V_w0.q (QY_assign rfl) rfl ?_
                                refine V_nil (X_next ?_)
                                refine C_seq ?_
                                refine C_seq ?_
                                refine C_region ?_
                                refine V_w0.q (QY_assign rfl) rfl ?_
                                refine V_nil (X_next ?_)
                                refine C_block ?_
                                refine C_loops (T := Int × Int × Int × Int) (fun (x : Int × Int × Int × Int) => match x with | (k, t0, sc, sz) => [(0, .slice aF1 nf nf), (1, .slice aO1 no no), (2, .slice aL1 no no), (3, .int .u8 al), (4, .int .i32 tx), (5, .slice aS1 s s), (6, .slice aU1 q q), (15, .int .i32 (n : Int)), (16, .int .i32 (s : Int)), (17, .slice (some ⟨bM, 0, none⟩) n n), (20, .int .i32 p), (30, .slice (some ⟨bC, 0, none⟩) n n), (31, .slice aS2 d.r s), (32, .slice d.aD d.m d.cD), (33, .slice d.aB (q + 1) d.cB), (34, .slice d.aE (q + 1) d.cE), (35, .slice d.aT (q + 1) d.cT), (36, .slice (some ⟨bY, 0, none⟩) (q + 1) (q + 1)), (37, .slice d.aZ (q + 1) d.cZ), (38, .slice d.aW (q + 1) d.cW), (39, .slice (some ⟨bN, 0, none⟩) n n), (40, .int .i64 (q : Int)), (43, .slice (some ⟨bG, 0, none⟩) n n), (44, .int .i32 t0), (48, .int .i64 sc), (49, .int .i64 sz), (50, .int .i64 k)]) (fun (x : Int × Int × Int × Int) => match x with | (k, t0, sc, sz) => [(32, ⟨bF, nf, nf, ints .i32 f⟩), (33, ⟨bO, no, no, ints .i32 o⟩), (35, ⟨bC, n, n, ints .i32 d.comp⟩), (36, ⟨d.bB, d.sB, ((q + 1 : Nat) : Int), ints .i32 d.beg⟩), (37, ⟨d.bE, d.sE, ((q + 1 : Nat) : Int), ints .i32 d.en⟩), (39, ⟨d.bT, d.sT, ((q + 1 : Nat) : Int), ints .i32 d.cnt⟩), (40, ⟨d.bZ, d.sZ, ((q + 1 : Nat) : Int), ints .i64 d.siz⟩), (41, ⟨d.bW, d.sW, ((q + 1 : Nat) : Int), ints .i64 d.spt⟩), (42, ⟨bN, n, n, bools d.on⟩), (43, ⟨bS, s, s, ints .i32 st⟩), (44, ⟨d.bD, d.sD, d.m, ints .i32 d.fo⟩), (22, ⟨bU1, q, q, ints .i32 cu⟩), (21, ⟨bS1, s, s, ints .i32 st⟩), (20, ⟨bK, no, no, ints .u8 cl⟩), (23, ⟨bM, n, n, bools g⟩), (45, ⟨bY, (q + 1), ((q + 1 : Nat) : Int), ints .u8 d.cls⟩), (46, ⟨bG, n, n, ints .i32 sg⟩)]) (fun (x : Int × Int × Int × Int) => match x with | (k, t0, sc, sz) => 0 ≤ k ∧ k ≤ q ∧ t0 = tp s cu k ∧ sc = Sg (isTx tx st) t0 s ∧ sz = Sg (szOf f st) t0 s) (fun (x : Int × Int × Int × Int) => match x with | (k, t0, sc, sz) => ((q : Int) - k).toNat) (0, (s : Int), 0, 0) ?_ ?_ ?_ ?_
                                · exact ⟨by omega, by omega, (tp_zero s cu).symm, (Sg_self _ _).symm, (Sg_self _ _).symm⟩
                                · exact ⟨rfl, rfl, rfl, rfl, rfl, rfl, rfl, rfl, rfl, rfl, rfl, rfl, rfl, rfl, rfl, rfl, rfl, rfl, rfl, rfl, rfl, rfl, rfl, rfl, rfl, rfl, rfl, trivial⟩
                                · exact ⟨rfl, rfl, rfl, rfl, rfl, rfl, rfl, rfl, rfl, rfl, rfl, rfl, rfl, rfl, rfl, rfl, rfl, trivial⟩
                                rintro ⟨k, t0, sc, sz⟩ ⟨hk0, hk1, ht0, hsc, hsz⟩
                                show C _ _ _ _ _ _ [(0, .slice aF1 nf nf), (1, .slice aO1 no no), (2, .slice aL1 no no), (3, .int .u8 al), (4, .int .i32 tx), (5, .slice aS1 s s), (6, .slice aU1 q q), (15, .int .i32 (n : Int)), (16, .int .i32 (s : Int)), (17, .slice (some ⟨bM, 0, none⟩) n n), (20, .int .i32 p), (30, .slice (some ⟨bC, 0, none⟩) n n), (31, .slice aS2 d.r s), (32, .slice d.aD d.m d.cD), (33, .slice d.aB (q + 1) d.cB), (34, .slice d.aE (q + 1) d.cE), (35, .slice d.aT (q + 1) d.cT), (36, .slice (some ⟨bY, 0, none⟩) (q + 1) (q + 1)), (37, .slice d.aZ (q + 1) d.cZ), (38, .slice d.aW (q + 1) d.cW), (39, .slice (some ⟨bN, 0, none⟩) n n), (40, .int .i64 (q : Int)), (43, .slice (some ⟨bG, 0, none⟩) n n), (44, .int .i32 t0), (48, .int .i64 sc), (49, .int .i64 sz), (50, .int .i64 k)] [(32, ⟨bF, nf, nf, ints .i32 f⟩), (33, ⟨bO, no, no, ints .i32 o⟩), (35, ⟨bC, n, n, ints .i32 d.comp⟩), (36, ⟨d.bB, d.sB, ((q + 1 : Nat) : Int), ints .i32 d.beg⟩), (37, ⟨d.bE, d.sE, ((q + 1 : Nat) : Int), ints .i32 d.en⟩), (39, ⟨d.bT, d.sT, ((q + 1 : Nat) : Int), ints .i32 d.cnt⟩), (40, ⟨d.bZ, d.sZ, ((q + 1 : Nat) : Int), ints .i64 d.siz⟩), (41, ⟨d.bW, d.sW, ((q + 1 : Nat) : Int), ints .i64 d.spt⟩), (42, ⟨bN, n, n, bools d.on⟩), (43, ⟨bS, s, s, ints .i32 st⟩), (44, ⟨d.bD, d.sD, d.m, ints .i32 d.fo⟩), (22, ⟨bU1, q, q, ints .i32 cu⟩), (21, ⟨bS1, s, s, ints .i32 st⟩), (20, ⟨bK, no, no, ints .u8 cl⟩), (23, ⟨bM, n, n, bools g⟩), (45, ⟨bY, (q + 1), ((q + 1 : Nat) : Int), ints .u8 d.cls⟩), (46, ⟨bG, n, n, ints .i32 sg⟩)]
                                refine C_seq ?_
                                refine C_seq ?_
                                refine C_region ?_
                                refine V_w0.q (QY_move rfl) rfl ?_
                                refine V_w0.q (QY_move rfl) rfl ?_
                                refine W_lss V_w0 rfl rfl rfl (fun h369 => ?_) (fun h369 => ?_)
                                ·
                                  have hck := hcuts k hk0 (by omega)
                                  have hlk := hcuts.lei hk0 hk1
                                  have hdn := hcuts.down hk0 (by omega)
                                  have hbg := hT.beg1 k hk0 (by omega)
                                  have hen := hT.en1 k hk0 (by omega)
                                  have hcn := hT.cnt1 k hk0 (by omega)
                                  have hzn := hT.siz1 k hk0 (by omega)
                                  have hcl1 := hT.cls1 k hk0 (by omega)
                                  have b1 := Sg_bound (g := isTx tx st) (lo := cu k) (hi := tp s cu k) (a := 0) (b := 1) (by omega) (fun i _ _ => isTx_b tx st i)
                                  have b2 := Sg_bound (g := szOf f st) (lo := cu k) (hi := tp s cu k) (a := 1) (b := 1048577) (by omega) (fun i _ _ => szOf_b hadj hyn (by omega) (hseen.1 i (by omega) (by omega)).1 (hseen.1 i (by omega) (by omega)).2)
                                  have b3 := Sg_bound (g := isTx tx st) (lo := t0) (hi := s) (a := 0) (b := 1) (by omega) (fun i _ _ => isTx_b tx st i)
                                  have b4 := Sg_bound (g := szOf f st) (lo := t0) (hi := s) (a := 1) (b := 1048577) (by omega) (fun i _ _ => szOf_b hadj hyn (by omega) (hseen.1 i (by omega) (by omega)).1 (hseen.1 i (by omega) (by omega)).2)
                                  rw [← hcn] at b1
                                  rw [← hzn] at b2
                                  rw [← hsc] at b3
                                  rw [← hsz] at b4
                                  refine V_nil (X_next ?_)
                                  refine C_true rfl ?_
                                  refine C_skip (X_next ?_)
                                  refine C_seq ?_
                                  refine C_block ?_
                                  refine C_seq ?_
                                  refine C_region ?_
                                  refine V_w0.q (QY_move rfl) rfl ?_
                                  refine V_w0.q (QY_arith rfl rfl rfl ⟨by omega, by omega⟩) rfl ?_
                                  refine V_w0.q (QY_conv it3 it21 rfl ⟨by omega, by omega⟩) rfl ?_
                                  refine V_w0.q (QY_assign rfl) rfl ?_
                                  refine V_nil (X_next ?_)
                                  refine C_seq ?_
                                  refine C_region ?_
                                  refine V_w0.q (QY_move rfl) rfl ?_
                                  refine V_w0.q (QY_move rfl) rfl ?_
                                  refine W_elem V_w0 rfl rfl (Rd_sl (q := 22) rfl h1U (by omega)) (by omega) (by omega) sl22 lf21 rfl rfl (fun _ => ?_)
                                  refine V_w0.q (QY_assign rfl) rfl ?_
                                  refine V_nil (X_next ?_)
                                  refine C_seq ?_
                                  refine C_region ?_
                                  refine V_w0.q (QY_move rfl) rfl ?_
                                  refine V_w0.q (QY_move rfl) rfl ?_
                                  refine V_w0.q (QY_arith rfl rfl rfl ⟨by omega, by omega⟩) rfl ?_
                                  refine V_w0.q (QY_assign rfl) rfl ?_
                                  refine V_nil (X_next ?_)
                                  refine C_seq ?_
                                  refine C_region ?_
                                  refine V_w0.q (QY_move rfl) rfl ?_
                                  refine V_w0.q (QY_move rfl) rfl ?_
                                  refine V_w0.q (QY_arith rfl rfl rfl ⟨by omega, by omega⟩) rfl ?_
                                  refine V_w0.q (QY_assign rfl) rfl ?_
                                  refine V_nil (X_next ?_)
                                  refine C_seq ?_
                                  refine C_seq ?_
                                  refine C_region ?_
                                  refine V_w0.q (QY_move rfl) rfl ?_
                                  refine V_w0.q (QY_move rfl) rfl ?_
                                  refine W_elem V_w0 rfl rfl (hT.gB.rd (q := 36) rfl (by omega)) (by omega) (by omega) sl22 lf21 rfl rfl (fun _ => ?_)
                                  refine V_w0.q (QY_move rfl) rfl ?_
                                  refine W_neq V_w0 rfl rfl rfl (fun h390 => False.elim (by omega)) (fun h390 => ?_)
                                  refine V_w0.q (QY_move rfl) rfl ?_
                                  refine V_walk.yes rfl rfl ?_
                                  refine V_w0.q (QY_move rfl) rfl ?_
                                  refine V_walk.yes rfl rfl ?_
                                  refine V_w0.q (QY_move rfl) rfl ?_
                                  refine V_walk.yes rfl rfl ?_
                                  refine W_elem2 V_walk rfl (fun _ => rfl) rfl rfl (hT.gE.rd (q := 37) rfl (by omega)) (by omega) (by omega) sl22 lf21 rfl rfl (fun _ => ?_)
                                  refine V_walk.yes rfl rfl ?_
                                  refine V_w0.q (QY_move rfl) rfl ?_
                                  refine V_walk.yes rfl rfl ?_
                                  refine W_neq V_w0 rfl rfl rfl (fun h397 => False.elim (by omega)) (fun h397 => ?_)
                                  refine V_w0.q (QY_pick_false rfl rfl) rfl ?_
                                  refine V_nil (X_next ?_)
                                  refine C_false rfl ?_
                                  refine C_skip (X_next ?_)
                                  refine C_seq ?_
                                  refine C_seq ?_
                                  refine C_region ?_
                                  refine V_w0.q (QY_move rfl) rfl ?_
                                  refine V_w0.q (QY_move rfl) rfl ?_
                                  refine W_elem V_w0 rfl rfl (hT.gT.rd (q := 39) rfl (by omega)) (by omega) (by omega) sl22 lf21 rfl rfl (fun _ => ?_)
                                  refine W_lss V_w0 rfl rfl rfl (fun h403 => False.elim (by omega)) (fun h403 => ?_)
                                  refine V_w0.q (QY_move rfl) rfl ?_
                                  refine V_walk.yes rfl rfl ?_
                                  refine V_w0.q (QY_move rfl) rfl ?_
                                  refine V_walk.yes rfl rfl ?_
                                  refine V_w0.q (QY_move rfl) rfl ?_
                                  refine V_walk.yes rfl rfl ?_
                                  refine W_elem2 V_walk rfl (fun _ => rfl) rfl rfl (hT.gT.rd (q := 39) rfl (by omega)) (by omega) (by omega) sl22 lf21 rfl rfl (fun _ => ?_)
                                  refine V_walk.yes rfl rfl ?_
                                  refine V_w0.q (QY_move rfl) rfl ?_
                                  refine V_walk.yes rfl rfl ?_
                                  refine V_w0.q (QY_move rfl) rfl ?_
                                  refine V_walk.yes rfl rfl ?_
                                  refine V_w0.q (QY_arith rfl rfl rfl ⟨by omega, by omega⟩) rfl ?_
                                  refine V_walk.yes rfl rfl ?_
                                  refine W_gtr V_w0 rfl rfl rfl (fun h412 => False.elim (by omega)) (fun h412 => ?_)
                                  refine V_w0.q (QY_pick_false rfl rfl) rfl ?_
                                  refine V_w0.q (QY_move rfl) rfl ?_
                                  refine V_walk.yes rfl rfl ?_
                                  refine V_w0.q (QY_move rfl) rfl ?_
                                  refine V_walk.yes rfl rfl ?_
                                  refine V_w0.q (QY_move rfl) rfl ?_
                                  refine V_walk.yes rfl rfl ?_
                                  refine W_elem2 V_walk rfl (fun _ => rfl) rfl rfl (hT.gZ.rd (q := 40) rfl (by omega)) (by omega) (by omega) sl32 lf3 rfl rfl (fun _ => ?_)
                                  refine V_walk.yes rfl rfl ?_
                                  refine V_w0.q (QY_move rfl) rfl ?_
                                  refine V_walk.yes rfl rfl ?_
                                  refine V_w0.q (QY_move rfl) rfl ?_
                                  refine V_walk.yes rfl rfl ?_
                                  refine V_w0.q (QY_arith rfl rfl rfl ⟨by omega, by omega⟩) rfl ?_
                                  refine V_walk.yes rfl rfl ?_
                                  refine V_w0.q (QY_conv it21 it3 rfl ⟨by omega, by omega⟩) rfl ?_
                                  refine V_walk.yes rfl rfl ?_
                                  refine W_lss V_w0 rfl rfl rfl (fun h423 => False.elim (by omega)) (fun h423 => ?_)
                                  refine V_w0.q (QY_pick_false rfl rfl) rfl ?_
                                  refine V_nil (X_next ?_)
                                  refine C_false rfl ?_
                                  refine C_skip (X_next ?_)
                                  refine C_seq ?_
                                  refine C_seq ?_
                                  refine C_region ?_
                                  refine V_w0.q (QY_move rfl) rfl ?_
                                  refine V_w0.q (QY_move rfl) rfl ?_
                                  refine W_elem V_w0 rfl rfl (Rd_own (q := 45) rfl (by omega)) (by omega) (by omega) sl23 lf5 rfl rfl (fun _ => ?_)
                                  refine V_w0.q (QY_move rfl) rfl ?_
                                  refine V_w0.q (QY_andNot rfl rfl) rfl ?_
                                  refine W_neq V_w0 rfl rfl rfl (fun h431 => False.elim (h431 (cls_sub hcl1))) (fun h431 => ?_)
                                  refine V_nil (X_next ?_)
                                  refine C_false rfl ?_
                                  refine C_skip (X_next ?_)
                                  refine C_seq ?_
                                  refine C_region ?_
                                  refine V_w0.q (QY_assign rfl) rfl ?_
                                  refine V_nil (X_next ?_)
                                  refine C_seq ?_
                                  refine C_seq ?_
                                  refine C_region ?_
                                  refine V_w0.q (QY_move rfl) rfl ?_
                                  refine V_w0.q (QY_assign rfl) rfl ?_
                                  refine V_nil (X_next ?_)
                                  refine C_block ?_
                                  refine C_loops (T := Int × Int) (fun (x : Int × Int) => match x with | (i, wt) => [(0, .slice aF1 nf nf), (1, .slice aO1 no no), (2, .slice aL1 no no), (3, .int .u8 al), (4, .int .i32 tx), (5, .slice aS1 s s), (6, .slice aU1 q q), (15, .int .i32 (n : Int)), (16, .int .i32 (s : Int)), (17, .slice (some ⟨bM, 0, none⟩) n n), (20, .int .i32 p), (30, .slice (some ⟨bC, 0, none⟩) n n), (31, .slice aS2 d.r s), (32, .slice d.aD d.m d.cD), (33, .slice d.aB (q + 1) d.cB), (34, .slice d.aE (q + 1) d.cE), (35, .slice d.aT (q + 1) d.cT), (36, .slice (some ⟨bY, 0, none⟩) (q + 1) (q + 1)), (37, .slice d.aZ (q + 1) d.cZ), (38, .slice d.aW (q + 1) d.cW), (39, .slice (some ⟨bN, 0, none⟩) n n), (40, .int .i64 (q : Int)), (43, .slice (some ⟨bG, 0, none⟩) n n), (44, .int .i32 t0), (48, .int .i64 sc), (49, .int .i64 sz), (50, .int .i64 k), (51, .int .i32 (k + 1)), (52, .int .i32 (cu k)), (53, .int .i32 ((s : Int) - t0)), (55, .int .u8 wt), (56, .int .i32 i)]) (fun (x : Int × Int) => match x with | (i, wt) => [(32, ⟨bF, nf, nf, ints .i32 f⟩), (33, ⟨bO, no, no, ints .i32 o⟩), (35, ⟨bC, n, n, ints .i32 d.comp⟩), (36, ⟨d.bB, d.sB, ((q + 1 : Nat) : Int), ints .i32 d.beg⟩), (37, ⟨d.bE, d.sE, ((q + 1 : Nat) : Int), ints .i32 d.en⟩), (39, ⟨d.bT, d.sT, ((q + 1 : Nat) : Int), ints .i32 d.cnt⟩), (40, ⟨d.bZ, d.sZ, ((q + 1 : Nat) : Int), ints .i64 d.siz⟩), (41, ⟨d.bW, d.sW, ((q + 1 : Nat) : Int), ints .i64 d.spt⟩), (42, ⟨bN, n, n, bools d.on⟩), (43, ⟨bS, s, s, ints .i32 st⟩), (44, ⟨d.bD, d.sD, d.m, ints .i32 d.fo⟩), (22, ⟨bU1, q, q, ints .i32 cu⟩), (21, ⟨bS1, s, s, ints .i32 st⟩), (20, ⟨bK, no, no, ints .u8 cl⟩), (23, ⟨bM, n, n, bools g⟩), (45, ⟨bY, (q + 1), ((q + 1 : Nat) : Int), ints .u8 d.cls⟩), (46, ⟨bG, n, n, ints .i32 sg⟩)]) (fun (x : Int × Int) => match x with | (i, wt) => cu k ≤ i ∧ i ≤ t0 ∧ Lub wt (WitS f o cl al sg st k (cu k) i)) (fun (x : Int × Int) => match x with | (i, wt) => (t0 - i).toNat) (cu k, 0) ?_ ?_ ?_ ?_
                                  · exact ⟨by omega, by omega, Lub.zero fun z hz => by obtain ⟨j, a, b, _⟩ := hz; omega⟩
                                  · exact ⟨rfl, rfl, rfl, rfl, rfl, rfl, rfl, rfl, rfl, rfl, rfl, rfl, rfl, rfl, rfl, rfl, rfl, rfl, rfl, rfl, rfl, rfl, rfl, rfl, rfl, rfl, rfl, rfl, rfl, rfl, rfl, rfl, trivial⟩
                                  · exact ⟨rfl, rfl, rfl, rfl, rfl, rfl, rfl, rfl, rfl, rfl, rfl, rfl, rfl, rfl, rfl, rfl, rfl, trivial⟩
                                  rintro ⟨i, wt⟩ ⟨hi0, hi1, hwt⟩
                                  show C _ _ _ _ _ _ [(0, .slice aF1 nf nf), (1, .slice aO1 no no), (2, .slice aL1 no no), (3, .int .u8 al), (4, .int .i32 tx), (5, .slice aS1 s s), (6, .slice aU1 q q), (15, .int .i32 (n : Int)), (16, .int .i32 (s : Int)), (17, .slice (some ⟨bM, 0, none⟩) n n), (20, .int .i32 p), (30, .slice (some ⟨bC, 0, none⟩) n n), (31, .slice aS2 d.r s), (32, .slice d.aD d.m d.cD), (33, .slice d.aB (q + 1) d.cB), (34, .slice d.aE (q + 1) d.cE), (35, .slice d.aT (q + 1) d.cT), (36, .slice (some ⟨bY, 0, none⟩) (q + 1) (q + 1)), (37, .slice d.aZ (q + 1) d.cZ), (38, .slice d.aW (q + 1) d.cW), (39, .slice (some ⟨bN, 0, none⟩) n n), (40, .int .i64 (q : Int)), (43, .slice (some ⟨bG, 0, none⟩) n n), (44, .int .i32 t0), (48, .int .i64 sc), (49, .int .i64 sz), (50, .int .i64 k), (51, .int .i32 (k + 1)), (52, .int .i32 (cu k)), (53, .int .i32 ((s : Int) - t0)), (55, .int .u8 wt), (56, .int .i32 i)] [(32, ⟨bF, nf, nf, ints .i32 f⟩), (33, ⟨bO, no, no, ints .i32 o⟩), (35, ⟨bC, n, n, ints .i32 d.comp⟩), (36, ⟨d.bB, d.sB, ((q + 1 : Nat) : Int), ints .i32 d.beg⟩), (37, ⟨d.bE, d.sE, ((q + 1 : Nat) : Int), ints .i32 d.en⟩), (39, ⟨d.bT, d.sT, ((q + 1 : Nat) : Int), ints .i32 d.cnt⟩), (40, ⟨d.bZ, d.sZ, ((q + 1 : Nat) : Int), ints .i64 d.siz⟩), (41, ⟨d.bW, d.sW, ((q + 1 : Nat) : Int), ints .i64 d.spt⟩), (42, ⟨bN, n, n, bools d.on⟩), (43, ⟨bS, s, s, ints .i32 st⟩), (44, ⟨d.bD, d.sD, d.m, ints .i32 d.fo⟩), (22, ⟨bU1, q, q, ints .i32 cu⟩), (21, ⟨bS1, s, s, ints .i32 st⟩), (20, ⟨bK, no, no, ints .u8 cl⟩), (23, ⟨bM, n, n, bools g⟩), (45, ⟨bY, (q + 1), ((q + 1 : Nat) : Int), ints .u8 d.cls⟩), (46, ⟨bG, n, n, ints .i32 sg⟩)]
                                  refine C_seq ?_
                                  refine C_seq ?_
                                  refine C_region ?_
                                  refine V_w0.q (QY_move rfl) rfl ?_
                                  refine V_w0.q (QY_move rfl) rfl ?_
                                  refine W_lss V_w0 rfl rfl rfl (fun h435 => ?_) (fun h435 => ?_)
                                  ·
                                    refine V_nil (X_next ?_)
                                    refine C_true rfl ?_
                                    refine C_skip (X_next ?_)
                                    have hnode := hseen.1 i (by omega) (by omega)
                                    have hfb := adj_bounds hadj hnode.1 (by omega)
                                    have hfb1 := adj_bounds hadj (show (0 : Int) ≤ st i + 1 by omega) (by omega)
                                    have hmono := hadj.2.2.1 (st i) hnode.1 (by omega)
                                    refine C_cut (T := Int) (fun (wt2 : Int) => [(0, .slice aF1 nf nf), (1, .slice aO1 no no), (2, .slice aL1 no no), (3, .int .u8 al), (4, .int .i32 tx), (5, .slice aS1 s s), (6, .slice aU1 q q), (15, .int .i32 (n : Int)), (16, .int .i32 (s : Int)), (17, .slice (some ⟨bM, 0, none⟩) n n), (20, .int .i32 p), (30, .slice (some ⟨bC, 0, none⟩) n n), (31, .slice aS2 d.r s), (32, .slice d.aD d.m d.cD), (33, .slice d.aB (q + 1) d.cB), (34, .slice d.aE (q + 1) d.cE), (35, .slice d.aT (q + 1) d.cT), (36, .slice (some ⟨bY, 0, none⟩) (q + 1) (q + 1)), (37, .slice d.aZ (q + 1) d.cZ), (38, .slice d.aW (q + 1) d.cW), (39, .slice (some ⟨bN, 0, none⟩) n n), (40, .int .i64 (q : Int)), (43, .slice (some ⟨bG, 0, none⟩) n n), (44, .int .i32 t0), (48, .int .i64 sc), (49, .int .i64 sz), (50, .int .i64 k), (51, .int .i32 (k + 1)), (52, .int .i32 (cu k)), (53, .int .i32 ((s : Int) - t0)), (55, .int .u8 wt2), (56, .int .i32 i)]) (fun (wt2 : Int) => [(32, ⟨bF, nf, nf, ints .i32 f⟩), (33, ⟨bO, no, no, ints .i32 o⟩), (35, ⟨bC, n, n, ints .i32 d.comp⟩), (36, ⟨d.bB, d.sB, ((q + 1 : Nat) : Int), ints .i32 d.beg⟩), (37, ⟨d.bE, d.sE, ((q + 1 : Nat) : Int), ints .i32 d.en⟩), (39, ⟨d.bT, d.sT, ((q + 1 : Nat) : Int), ints .i32 d.cnt⟩), (40, ⟨d.bZ, d.sZ, ((q + 1 : Nat) : Int), ints .i64 d.siz⟩), (41, ⟨d.bW, d.sW, ((q + 1 : Nat) : Int), ints .i64 d.spt⟩), (42, ⟨bN, n, n, bools d.on⟩), (43, ⟨bS, s, s, ints .i32 st⟩), (44, ⟨d.bD, d.sD, d.m, ints .i32 d.fo⟩), (22, ⟨bU1, q, q, ints .i32 cu⟩), (21, ⟨bS1, s, s, ints .i32 st⟩), (20, ⟨bK, no, no, ints .u8 cl⟩), (23, ⟨bM, n, n, bools g⟩), (45, ⟨bY, (q + 1), ((q + 1 : Nat) : Int), ints .u8 d.cls⟩), (46, ⟨bG, n, n, ints .i32 sg⟩)]) (fun (wt2 : Int) => Lub wt2 (WitS f o cl al sg st k (cu k) (i + 1))) ?_ ?_
                                    ·
                                      refine C_block ?_
                                      refine C_seq ?_
                                      refine C_region ?_
                                      refine V_w0.q (QY_move rfl) rfl ?_
                                      refine V_w0.q (QY_move rfl) rfl ?_
                                      refine W_elem V_w0 rfl rfl (Rd_sl (q := 21) rfl h1S (by omega)) (by omega) (by omega) sl22 lf21 rfl rfl (fun _ => ?_)
                                      refine V_w0.q (QY_assign rfl) rfl ?_
                                      refine V_nil (X_next ?_)
                                      refine C_seq ?_
                                      refine C_seq ?_
                                      refine C_region ?_
                                      refine V_w0.q (QY_move rfl) rfl ?_
                                      refine V_w0.q (QY_move rfl) rfl ?_
                                      refine V_w0.q (QY_move rfl) rfl ?_
                                      refine V_w0.q (QY_arith rfl rfl rfl ⟨by omega, by omega⟩) rfl ?_
                                      refine V_w0.q (QY_move rfl) rfl ?_
                                      refine V_w0.q (QY_arith rfl rfl rfl ⟨by omega, by omega⟩) rfl ?_
                                      refine V_w0.q (QY_arith rfl rfl rfl ⟨by omega, by omega⟩) rfl ?_
                                      refine W_elem V_w0 rfl rfl (hT.gD.rd (q := 44) rfl (by omega)) (by omega) (by omega) sl22 lf21 rfl rfl (fun _ => ?_)
                                      refine V_w0.q (QY_move rfl) rfl ?_
                                      refine W_neq V_w0 rfl rfl rfl (fun h452 => False.elim (h452 (by rw [← hT.fo i (by omega) (by omega)]; congr 1; omega))) (fun h452 => ?_)
                                      refine V_nil (X_next ?_)
                                      refine C_false rfl ?_
                                      refine C_skip (X_next ?_)
                                      refine C_seq ?_
                                      refine C_region ?_
                                      refine V_w0.q (QY_move rfl) rfl ?_
                                      refine V_w0.q (QY_move rfl) rfl ?_
                                      refine W_elem V_w0 rfl rfl (Rd_sl (q := 32) rfl h1F (by omega)) (by omega) (by omega) sl22 lf21 rfl rfl (fun _ => ?_)
                                      refine V_w0.q (QY_assign rfl) rfl ?_
                                      refine V_nil (X_next ?_)
                                      refine C_block ?_
                                      refine C_loops (T := Int × Int) (fun (x : Int × Int) => match x with | (e, wt1) => [(0, .slice aF1 nf nf), (1, .slice aO1 no no), (2, .slice aL1 no no), (3, .int .u8 al), (4, .int .i32 tx), (5, .slice aS1 s s), (6, .slice aU1 q q), (15, .int .i32 (n : Int)), (16, .int .i32 (s : Int)), (17, .slice (some ⟨bM, 0, none⟩) n n), (20, .int .i32 p), (30, .slice (some ⟨bC, 0, none⟩) n n), (31, .slice aS2 d.r s), (32, .slice d.aD d.m d.cD), (33, .slice d.aB (q + 1) d.cB), (34, .slice d.aE (q + 1) d.cE), (35, .slice d.aT (q + 1) d.cT), (36, .slice (some ⟨bY, 0, none⟩) (q + 1) (q + 1)), (37, .slice d.aZ (q + 1) d.cZ), (38, .slice d.aW (q + 1) d.cW), (39, .slice (some ⟨bN, 0, none⟩) n n), (40, .int .i64 (q : Int)), (43, .slice (some ⟨bG, 0, none⟩) n n), (44, .int .i32 t0), (48, .int .i64 sc), (49, .int .i64 sz), (50, .int .i64 k), (51, .int .i32 (k + 1)), (52, .int .i32 (cu k)), (53, .int .i32 ((s : Int) - t0)), (55, .int .u8 wt1), (56, .int .i32 i), (57, .int .i32 (st i)), (58, .int .i32 e)]) (fun (x : Int × Int) => match x with | (e, wt1) => [(32, ⟨bF, nf, nf, ints .i32 f⟩), (33, ⟨bO, no, no, ints .i32 o⟩), (35, ⟨bC, n, n, ints .i32 d.comp⟩), (36, ⟨d.bB, d.sB, ((q + 1 : Nat) : Int), ints .i32 d.beg⟩), (37, ⟨d.bE, d.sE, ((q + 1 : Nat) : Int), ints .i32 d.en⟩), (39, ⟨d.bT, d.sT, ((q + 1 : Nat) : Int), ints .i32 d.cnt⟩), (40, ⟨d.bZ, d.sZ, ((q + 1 : Nat) : Int), ints .i64 d.siz⟩), (41, ⟨d.bW, d.sW, ((q + 1 : Nat) : Int), ints .i64 d.spt⟩), (42, ⟨bN, n, n, bools d.on⟩), (43, ⟨bS, s, s, ints .i32 st⟩), (44, ⟨d.bD, d.sD, d.m, ints .i32 d.fo⟩), (22, ⟨bU1, q, q, ints .i32 cu⟩), (21, ⟨bS1, s, s, ints .i32 st⟩), (20, ⟨bK, no, no, ints .u8 cl⟩), (23, ⟨bM, n, n, bools g⟩), (45, ⟨bY, (q + 1), ((q + 1 : Nat) : Int), ints .u8 d.cls⟩), (46, ⟨bG, n, n, ints .i32 sg⟩)]) (fun (x : Int × Int) => match x with | (e, wt1) => f (st i) ≤ e ∧ e ≤ f (st i + 1) ∧ Lub wt1 (fun z => WitS f o cl al sg st k (cu k) i z ∨ WitE f o cl al sg k (st i) e z)) (fun (x : Int × Int) => match x with | (e, wt1) => (f (st i + 1) - e).toNat) (f (st i), wt) ?_ ?_ ?_ ?_
                                      · exact ⟨Int.le_refl _, hmono, hwt.same fun z => ⟨.inl, fun h => h.resolve_right fun ⟨e, h0, h1, _⟩ => by omega⟩⟩
                                      · exact ⟨rfl, rfl, rfl, rfl, rfl, rfl, rfl, rfl, rfl, rfl, rfl, rfl, rfl, rfl, rfl, rfl, rfl, rfl, rfl, rfl, rfl, rfl, rfl, rfl, rfl, rfl, rfl, rfl, rfl, rfl, rfl, rfl, rfl, rfl, trivial⟩
                                      · exact ⟨rfl, rfl, rfl, rfl, rfl, rfl, rfl, rfl, rfl, rfl, rfl, rfl, rfl, rfl, rfl, rfl, rfl, trivial⟩
                                      rintro ⟨e, wt1⟩ ⟨he0, he1, hwe⟩
                                      show C _ _ _ _ _ _ [(0, .slice aF1 nf nf), (1, .slice aO1 no no), (2, .slice aL1 no no), (3, .int .u8 al), (4, .int .i32 tx), (5, .slice aS1 s s), (6, .slice aU1 q q), (15, .int .i32 (n : Int)), (16, .int .i32 (s : Int)), (17, .slice (some ⟨bM, 0, none⟩) n n), (20, .int .i32 p), (30, .slice (some ⟨bC, 0, none⟩) n n), (31, .slice aS2 d.r s), (32, .slice d.aD d.m d.cD), (33, .slice d.aB (q + 1) d.cB), (34, .slice d.aE (q + 1) d.cE), (35, .slice d.aT (q + 1) d.cT), (36, .slice (some ⟨bY, 0, none⟩) (q + 1) (q + 1)), (37, .slice d.aZ (q + 1) d.cZ), (38, .slice d.aW (q + 1) d.cW), (39, .slice (some ⟨bN, 0, none⟩) n n), (40, .int .i64 (q : Int)), (43, .slice (some ⟨bG, 0, none⟩) n n), (44, .int .i32 t0), (48, .int .i64 sc), (49, .int .i64 sz), (50, .int .i64 k), (51, .int .i32 (k + 1)), (52, .int .i32 (cu k)), (53, .int .i32 ((s : Int) - t0)), (55, .int .u8 wt1), (56, .int .i32 i), (57, .int .i32 (st i)), (58, .int .i32 e)] [(32, ⟨bF, nf, nf, ints .i32 f⟩), (33, ⟨bO, no, no, ints .i32 o⟩), (35, ⟨bC, n, n, ints .i32 d.comp⟩), (36, ⟨d.bB, d.sB, ((q + 1 : Nat) : Int), ints .i32 d.beg⟩), (37, ⟨d.bE, d.sE, ((q + 1 : Nat) : Int), ints .i32 d.en⟩), (39, ⟨d.bT, d.sT, ((q + 1 : Nat) : Int), ints .i32 d.cnt⟩), (40, ⟨d.bZ, d.sZ, ((q + 1 : Nat) : Int), ints .i64 d.siz⟩), (41, ⟨d.bW, d.sW, ((q + 1 : Nat) : Int), ints .i64 d.spt⟩), (42, ⟨bN, n, n, bools d.on⟩), (43, ⟨bS, s, s, ints .i32 st⟩), (44, ⟨d.bD, d.sD, d.m, ints .i32 d.fo⟩), (22, ⟨bU1, q, q, ints .i32 cu⟩), (21, ⟨bS1, s, s, ints .i32 st⟩), (20, ⟨bK, no, no, ints .u8 cl⟩), (23, ⟨bM, n, n, bools g⟩), (45, ⟨bY, (q + 1), ((q + 1 : Nat) : Int), ints .u8 d.cls⟩), (46, ⟨bG, n, n, ints .i32 sg⟩)]
                                      refine C_seq ?_
                                      refine C_seq ?_
                                      refine C_region ?_
                                      refine V_w0.q (QY_move rfl) rfl ?_
                                      refine V_w0.q (QY_move rfl) rfl ?_
                                      refine V_w0.q (QY_move rfl) rfl ?_
                                      refine V_w0.q (QY_arith rfl rfl rfl ⟨by omega, by omega⟩) rfl ?_
                                      refine W_elem V_w0 rfl rfl (Rd_sl (q := 32) rfl h1F (by omega)) (by omega) (by omega) sl22 lf21 rfl rfl (fun _ => ?_)
                                      refine W_lss V_w0 rfl rfl rfl (fun h463 => ?_) (fun h463 => ?_)
                                      ·
                                        have hoe := hadj.2.2.2.2.2 e (by omega) (by omega)
                                        refine V_nil (X_next ?_)
                                        refine C_true rfl ?_
                                        refine C_skip (X_next ?_)
                                        refine C_cut (T := Int) (fun (wt3 : Int) => [(0, .slice aF1 nf nf), (1, .slice aO1 no no), (2, .slice aL1 no no), (3, .int .u8 al), (4, .int .i32 tx), (5, .slice aS1 s s), (6, .slice aU1 q q), (15, .int .i32 (n : Int)), (16, .int .i32 (s : Int)), (17, .slice (some ⟨bM, 0, none⟩) n n), (20, .int .i32 p), (30, .slice (some ⟨bC, 0, none⟩) n n), (31, .slice aS2 d.r s), (32, .slice d.aD d.m d.cD), (33, .slice d.aB (q + 1) d.cB), (34, .slice d.aE (q + 1) d.cE), (35, .slice d.aT (q + 1) d.cT), (36, .slice (some ⟨bY, 0, none⟩) (q + 1) (q + 1)), (37, .slice d.aZ (q + 1) d.cZ), (38, .slice d.aW (q + 1) d.cW), (39, .slice (some ⟨bN, 0, none⟩) n n), (40, .int .i64 (q : Int)), (43, .slice (some ⟨bG, 0, none⟩) n n), (44, .int .i32 t0), (48, .int .i64 sc), (49, .int .i64 sz), (50, .int .i64 k), (51, .int .i32 (k + 1)), (52, .int .i32 (cu k)), (53, .int .i32 ((s : Int) - t0)), (55, .int .u8 wt3), (56, .int .i32 i), (57, .int .i32 (st i)), (58, .int .i32 e)]) (fun (wt3 : Int) => [(32, ⟨bF, nf, nf, ints .i32 f⟩), (33, ⟨bO, no, no, ints .i32 o⟩), (35, ⟨bC, n, n, ints .i32 d.comp⟩), (36, ⟨d.bB, d.sB, ((q + 1 : Nat) : Int), ints .i32 d.beg⟩), (37, ⟨d.bE, d.sE, ((q + 1 : Nat) : Int), ints .i32 d.en⟩), (39, ⟨d.bT, d.sT, ((q + 1 : Nat) : Int), ints .i32 d.cnt⟩), (40, ⟨d.bZ, d.sZ, ((q + 1 : Nat) : Int), ints .i64 d.siz⟩), (41, ⟨d.bW, d.sW, ((q + 1 : Nat) : Int), ints .i64 d.spt⟩), (42, ⟨bN, n, n, bools d.on⟩), (43, ⟨bS, s, s, ints .i32 st⟩), (44, ⟨d.bD, d.sD, d.m, ints .i32 d.fo⟩), (22, ⟨bU1, q, q, ints .i32 cu⟩), (21, ⟨bS1, s, s, ints .i32 st⟩), (20, ⟨bK, no, no, ints .u8 cl⟩), (23, ⟨bM, n, n, bools g⟩), (45, ⟨bY, (q + 1), ((q + 1 : Nat) : Int), ints .u8 d.cls⟩), (46, ⟨bG, n, n, ints .i32 sg⟩)]) (fun (wt3 : Int) => Lub wt3 (fun z => WitS f o cl al sg st k (cu k) i z ∨ WitE f o cl al sg k (st i) (e + 1) z)) ?_ ?_
                                        ·
                                          refine C_block ?_
                                          refine C_seq ?_
                                          refine C_seq ?_
                                          refine C_region ?_
                                          refine V_w0.q (QY_move rfl) rfl ?_
                                          refine V_w0.q (QY_move rfl) rfl ?_
                                          refine V_w0.q (QY_move rfl) rfl ?_
                                          refine W_elem V_w0 rfl rfl (Rd_sl (q := 33) rfl h1O (by omega)) (by omega) (by omega) sl22 lf21 rfl rfl (fun _ => ?_)
                                          refine W_elem V_w0 rfl rfl (Rd_own (q := 46) rfl (by omega)) (by omega) (by omega) sl22 lf21 rfl rfl (fun _ => ?_)
                                          refine V_w0.q (QY_move rfl) rfl ?_
                                          refine W_neq V_w0 rfl rfl rfl (fun h474 => ?_) (fun h474 => ?_)
                                          ·
                                            refine V_nil (X_next ?_)
                                            refine C_true rfl ?_
                                            refine C_exit (X_then_exit (X_block_exit (X_then ?_)))
                                            refine X_cut wt1 ?_ ?_ ?_
                                            · exact hwe.same (wit_no h474)
                                            · exact ⟨rfl, rfl, rfl, rfl, rfl, rfl, rfl, rfl, rfl, rfl, rfl, rfl, rfl, rfl, rfl, rfl, rfl, rfl, rfl, rfl, rfl, rfl, rfl, rfl, rfl, rfl, rfl, rfl, rfl, rfl, rfl, rfl, rfl, rfl, trivial⟩
                                            · exact ⟨rfl, rfl, rfl, rfl, rfl, rfl, rfl, rfl, rfl, rfl, rfl, rfl, rfl, rfl, rfl, rfl, rfl, trivial⟩
                                          ·
                                            refine V_nil (X_next ?_)
                                            refine C_false rfl ?_
                                            refine C_skip (X_next ?_)
                                            refine C_seq ?_
                                            refine C_region ?_
                                            refine V_w0.q (QY_move rfl) rfl ?_
                                            refine V_w0.q (QY_move rfl) rfl ?_
                                            refine W_elem V_w0 rfl rfl (Rd_sl (q := 20) rfl h1L (by omega)) (by omega) (by omega) sl23 lf5 rfl rfl (fun _ => ?_)
                                            refine V_w0.q (QY_move rfl) rfl ?_
                                            refine V_w0.q (QY_and rfl rfl) rfl ?_
                                            refine V_w0.q (QY_assign rfl) rfl ?_
                                            refine V_nil (X_next ?_)
                                            refine C_seq ?_
                                            refine C_seq ?_
                                            refine C_region ?_
                                            refine V_w0.q (QY_move rfl) rfl ?_
                                            refine V_w0.q (QY_move rfl) rfl ?_
                                            refine V_w0.q (QY_move rfl) rfl ?_
                                            refine W_elem V_w0 rfl rfl (Rd_own (q := 45) rfl (by omega)) (by omega) (by omega) sl23 lf5 rfl rfl (fun _ => ?_)
                                            refine V_w0.q (QY_andNot rfl rfl) rfl ?_
                                            refine W_neq V_w0 rfl rfl rfl (fun h487 => False.elim (h487 (wit_up hsg hcuts hcl1 hk0 hi0 (by omega) he0 (by omega) h474))) (fun h487 => ?_)
                                            refine V_nil (X_next ?_)
                                            refine C_false rfl ?_
                                            refine C_skip (X_next ?_)
                                            refine C_region ?_
                                            refine V_w0.q (QY_move rfl) rfl ?_
                                            refine V_w0.q (QY_move rfl) rfl ?_
                                            refine V_w0.q (QY_or rfl rfl) rfl ?_
                                            refine V_w0.q (QY_assign rfl) rfl ?_
                                            refine V_nil (X_block (X_then ?_))
                                            refine X_cut (bor wt1 (band (cl e) al)) ?_ ?_ ?_
                                            · exact hwe.add _ (wit_yes he0 h474)
                                            · exact ⟨rfl, rfl, rfl, rfl, rfl, rfl, rfl, rfl, rfl, rfl, rfl, rfl, rfl, rfl, rfl, rfl, rfl, rfl, rfl, rfl, rfl, rfl, rfl, rfl, rfl, rfl, rfl, rfl, rfl, rfl, rfl, rfl, rfl, rfl, trivial⟩
                                            · exact ⟨rfl, rfl, rfl, rfl, rfl, rfl, rfl, rfl, rfl, rfl, rfl, rfl, rfl, rfl, rfl, rfl, rfl, trivial⟩
                                        rintro wt3 hwt3
                                        show C _ _ _ _ _ _ [(0, .slice aF1 nf nf), (1, .slice aO1 no no), (2, .slice aL1 no no), (3, .int .u8 al), (4, .int .i32 tx), (5, .slice aS1 s s), (6, .slice aU1 q q), (15, .int .i32 (n : Int)), (16, .int .i32 (s : Int)), (17, .slice (some ⟨bM, 0, none⟩) n n), (20, .int .i32 p), (30, .slice (some ⟨bC, 0, none⟩) n n), (31, .slice aS2 d.r s), (32, .slice d.aD d.m d.cD), (33, .slice d.aB (q + 1) d.cB), (34, .slice d.aE (q + 1) d.cE), (35, .slice d.aT (q + 1) d.cT), (36, .slice (some ⟨bY, 0, none⟩) (q + 1) (q + 1)), (37, .slice d.aZ (q + 1) d.cZ), (38, .slice d.aW (q + 1) d.cW), (39, .slice (some ⟨bN, 0, none⟩) n n), (40, .int .i64 (q : Int)), (43, .slice (some ⟨bG, 0, none⟩) n n), (44, .int .i32 t0), (48, .int .i64 sc), (49, .int .i64 sz), (50, .int .i64 k), (51, .int .i32 (k + 1)), (52, .int .i32 (cu k)), (53, .int .i32 ((s : Int) - t0)), (55, .int .u8 wt3), (56, .int .i32 i), (57, .int .i32 (st i)), (58, .int .i32 e)] [(32, ⟨bF, nf, nf, ints .i32 f⟩), (33, ⟨bO, no, no, ints .i32 o⟩), (35, ⟨bC, n, n, ints .i32 d.comp⟩), (36, ⟨d.bB, d.sB, ((q + 1 : Nat) : Int), ints .i32 d.beg⟩), (37, ⟨d.bE, d.sE, ((q + 1 : Nat) : Int), ints .i32 d.en⟩), (39, ⟨d.bT, d.sT, ((q + 1 : Nat) : Int), ints .i32 d.cnt⟩), (40, ⟨d.bZ, d.sZ, ((q + 1 : Nat) : Int), ints .i64 d.siz⟩), (41, ⟨d.bW, d.sW, ((q + 1 : Nat) : Int), ints .i64 d.spt⟩), (42, ⟨bN, n, n, bools d.on⟩), (43, ⟨bS, s, s, ints .i32 st⟩), (44, ⟨d.bD, d.sD, d.m, ints .i32 d.fo⟩), (22, ⟨bU1, q, q, ints .i32 cu⟩), (21, ⟨bS1, s, s, ints .i32 st⟩), (20, ⟨bK, no, no, ints .u8 cl⟩), (23, ⟨bM, n, n, bools g⟩), (45, ⟨bY, (q + 1), ((q + 1 : Nat) : Int), ints .u8 d.cls⟩), (46, ⟨bG, n, n, ints .i32 sg⟩)]
                                        refine C_region ?_
                                        refine V_w0.q (QY_move rfl) rfl ?_
                                        refine V_w0.q (QY_arith rfl rfl rfl ⟨by omega, by omega⟩) rfl ?_
                                        refine V_w0.q (QY_assign rfl) rfl ?_
                                        refine V_nil (X_then ?_)
                                        refine X_round (e + 1, wt3) ?_ ?_ ?_ ?_
                                        · exact ⟨by omega, by omega, hwt3⟩
                                        · show (f (st i + 1) - (e + 1)).toNat < (f (st i + 1) - e).toNat
                                          omega
                                        · exact ⟨rfl, rfl, rfl, rfl, rfl, rfl, rfl, rfl, rfl, rfl, rfl, rfl, rfl, rfl, rfl, rfl, rfl, rfl, rfl, rfl, rfl, rfl, rfl, rfl, rfl, rfl, rfl, rfl, rfl, rfl, rfl, rfl, rfl, rfl, trivial⟩
                                        · exact ⟨rfl, rfl, rfl, rfl, rfl, rfl, rfl, rfl, rfl, rfl, rfl, rfl, rfl, rfl, rfl, rfl, rfl, trivial⟩
                                      ·
                                        refine V_nil (X_next ?_)
                                        refine C_false rfl ?_
                                        refine C_exit (X_then_exit (X_then_exit (X_block_exit (X_block (X_then ?_)))))
                                        refine X_cut wt1 ?_ ?_ ?_
                                        · exact wit_next hi0 (by omega) hwe
                                        · exact ⟨rfl, rfl, rfl, rfl, rfl, rfl, rfl, rfl, rfl, rfl, rfl, rfl, rfl, rfl, rfl, rfl, rfl, rfl, rfl, rfl, rfl, rfl, rfl, rfl, rfl, rfl, rfl, rfl, rfl, rfl, rfl, rfl, trivial⟩
                                        · exact ⟨rfl, rfl, rfl, rfl, rfl, rfl, rfl, rfl, rfl, rfl, rfl, rfl, rfl, rfl, rfl, rfl, rfl, trivial⟩
                                    rintro wt2 hwt2
                                    show C _ _ _ _ _ _ [(0, .slice aF1 nf nf), (1, .slice aO1 no no), (2, .slice aL1 no no), (3, .int .u8 al), (4, .int .i32 tx), (5, .slice aS1 s s), (6, .slice aU1 q q), (15, .int .i32 (n : Int)), (16, .int .i32 (s : Int)), (17, .slice (some ⟨bM, 0, none⟩) n n), (20, .int .i32 p), (30, .slice (some ⟨bC, 0, none⟩) n n), (31, .slice aS2 d.r s), (32, .slice d.aD d.m d.cD), (33, .slice d.aB (q + 1) d.cB), (34, .slice d.aE (q + 1) d.cE), (35, .slice d.aT (q + 1) d.cT), (36, .slice (some ⟨bY, 0, none⟩) (q + 1) (q + 1)), (37, .slice d.aZ (q + 1) d.cZ), (38, .slice d.aW (q + 1) d.cW), (39, .slice (some ⟨bN, 0, none⟩) n n), (40, .int .i64 (q : Int)), (43, .slice (some ⟨bG, 0, none⟩) n n), (44, .int .i32 t0), (48, .int .i64 sc), (49, .int .i64 sz), (50, .int .i64 k), (51, .int .i32 (k + 1)), (52, .int .i32 (cu k)), (53, .int .i32 ((s : Int) - t0)), (55, .int .u8 wt2), (56, .int .i32 i)] [(32, ⟨bF, nf, nf, ints .i32 f⟩), (33, ⟨bO, no, no, ints .i32 o⟩), (35, ⟨bC, n, n, ints .i32 d.comp⟩), (36, ⟨d.bB, d.sB, ((q + 1 : Nat) : Int), ints .i32 d.beg⟩), (37, ⟨d.bE, d.sE, ((q + 1 : Nat) : Int), ints .i32 d.en⟩), (39, ⟨d.bT, d.sT, ((q + 1 : Nat) : Int), ints .i32 d.cnt⟩), (40, ⟨d.bZ, d.sZ, ((q + 1 : Nat) : Int), ints .i64 d.siz⟩), (41, ⟨d.bW, d.sW, ((q + 1 : Nat) : Int), ints .i64 d.spt⟩), (42, ⟨bN, n, n, bools d.on⟩), (43, ⟨bS, s, s, ints .i32 st⟩), (44, ⟨d.bD, d.sD, d.m, ints .i32 d.fo⟩), (22, ⟨bU1, q, q, ints .i32 cu⟩), (21, ⟨bS1, s, s, ints .i32 st⟩), (20, ⟨bK, no, no, ints .u8 cl⟩), (23, ⟨bM, n, n, bools g⟩), (45, ⟨bY, (q + 1), ((q + 1 : Nat) : Int), ints .u8 d.cls⟩), (46, ⟨bG, n, n, ints .i32 sg⟩)]
                                    refine C_region ?_
                                    refine V_w0.q (QY_move rfl) rfl ?_
                                    refine V_w0.q (QY_arith rfl rfl rfl ⟨by omega, by omega⟩) rfl ?_
                                    refine V_w0.q (QY_assign rfl) rfl ?_
                                    refine V_nil (X_then ?_)
                                    refine X_round (i + 1, wt2) ?_ ?_ ?_ ?_
                                    · exact ⟨by omega, by omega, hwt2⟩
                                    · show (t0 - (i + 1)).toNat < (t0 - i).toNat
                                      omega
                                    · exact ⟨rfl, rfl, rfl, rfl, rfl, rfl, rfl, rfl, rfl, rfl, rfl, rfl, rfl, rfl, rfl, rfl, rfl, rfl, rfl, rfl, rfl, rfl, rfl, rfl, rfl, rfl, rfl, rfl, rfl, rfl, rfl, rfl, trivial⟩
                                    · exact ⟨rfl, rfl, rfl, rfl, rfl, rfl, rfl, rfl, rfl, rfl, rfl, rfl, rfl, rfl, rfl, rfl, rfl, trivial⟩
                                  ·
                                    refine V_nil (X_next ?_)
                                    refine C_false rfl ?_
                                    refine C_exit (X_then_exit (X_then_exit (X_block_exit (X_next ?_))))
                                    refine C_seq ?_
                                    refine C_seq ?_
                                    refine C_region ?_
                                    refine V_w0.q (QY_move rfl) rfl ?_
                                    refine V_w0.q (QY_move rfl) rfl ?_
                                    refine W_elem V_w0 rfl rfl (Rd_own (q := 45) rfl (by omega)) (by omega) (by omega) sl23 lf5 rfl rfl (fun _ => ?_)
                                    refine V_w0.q (QY_move rfl) rfl ?_
                                    refine V_w0.q (QY_andNot rfl rfl) rfl ?_
                                    refine W_neq V_w0 rfl rfl rfl (fun h497 => False.elim (h497 (wit_least hsg hcl1 hk0 (by omega) (by omega) hwt))) (fun h497 => ?_)
                                    refine V_nil (X_next ?_)
                                    refine C_false rfl ?_
                                    refine C_skip (X_next ?_)
                                    refine C_seq ?_
                                    refine C_region ?_
                                    refine V_w0.q (QY_move rfl) rfl ?_
                                    refine V_w0.q (QY_move rfl) rfl ?_
                                    refine V_w0.q (QY_move rfl) rfl ?_
                                    refine W_elem V_w0 rfl rfl (hT.gT.rd (q := 39) rfl (by omega)) (by omega) (by omega) sl22 lf21 rfl rfl (fun _ => ?_)
                                    refine V_w0.q (QY_conv it21 it2 rfl ⟨by omega, by omega⟩) rfl ?_
                                    refine V_w0.q (QY_arith rfl rfl rfl ⟨by omega, by omega⟩) rfl ?_
                                    refine V_w0.q (QY_assign rfl) rfl ?_
                                    refine V_nil (X_next ?_)
                                    refine C_seq ?_
                                    refine C_region ?_
                                    refine V_w0.q (QY_move rfl) rfl ?_
                                    refine V_w0.q (QY_move rfl) rfl ?_
                                    refine V_w0.q (QY_move rfl) rfl ?_
                                    refine W_elem V_w0 rfl rfl (hT.gZ.rd (q := 40) rfl (by omega)) (by omega) (by omega) sl32 lf3 rfl rfl (fun _ => ?_)
                                    refine V_w0.q (QY_arith rfl rfl rfl ⟨by omega, by omega⟩) rfl ?_
                                    refine V_w0.q (QY_assign rfl) rfl ?_
                                    refine V_nil (X_next ?_)
                                    refine C_region ?_
                                    refine V_w0.q (QY_move rfl) rfl ?_
                                    refine V_w0.q (QY_assign rfl) rfl ?_
                                    refine V_nil (X_block (X_next ?_))
                                    refine C_region ?_
                                    refine V_w0.q (QY_move rfl) rfl ?_
                                    refine V_w0.q (QY_arith rfl rfl rfl ⟨by omega, by omega⟩) rfl ?_
                                    refine V_w0.q (QY_assign rfl) rfl ?_
                                    refine V_nil (X_then ?_)
                                    refine X_round (k + 1, cu k, sc + d.cnt (k + 1), sz + d.siz (k + 1)) ?_ ?_ ?_ ?_
                                    · exact ⟨by omega, by omega, (tp_succ s cu hk0).symm, by rw [hcn, hsc, ← Sg_add (isTx tx st) (lo := cu k) (mid := t0) (hi := s) (by omega) (by omega), ← ht0]; omega, by rw [hzn, hsz, ← Sg_add (szOf f st) (lo := cu k) (mid := t0) (hi := s) (by omega) (by omega), ← ht0]; omega⟩
                                    · show ((q : Int) - (k + 1)).toNat < ((q : Int) - k).toNat
                                      omega
                                    · exact ⟨rfl, rfl, rfl, rfl, rfl, rfl, rfl, rfl, rfl, rfl, rfl, rfl, rfl, rfl, rfl, rfl, rfl, rfl, rfl, rfl, rfl, rfl, rfl, rfl, rfl, rfl, rfl, trivial⟩
                                    · exact ⟨rfl, rfl, rfl, rfl, rfl, rfl, rfl, rfl, rfl, rfl, rfl, rfl, rfl, rfl, rfl, rfl, rfl, trivial⟩
                                ·
                                  obtain rfl : k = (q : Int) := by omega
                                  refine V_nil (X_next ?_)
                                  refine C_false rfl ?_
                                  refine C_exit (X_then_exit (X_then_exit (X_block_exit (X_next ?_))))
                                  refine C_seq ?_
                                  refine C_region ?_
                                  refine V_w0.q (QY_assign rfl) rfl ?_
                                  refine V_nil (X_next ?_)
                                  refine C_seq ?_
                                  refine C_region ?_
                                  refine V_w0.q (QY_assign rfl) rfl ?_
                                  refine V_nil (X_next ?_)
                                  refine C_seq ?_
                                  refine C_seq ?_
                                  refine C_region ?_
                                  refine V_w0.q (QY_move rfl) rfl ?_
                                  refine V_w0.q (QY_assign rfl) rfl ?_
                                  refine V_nil (X_next ?_)
                                  refine C_block ?_
                                  refine C_loops (T := Int × Int × Int) (fun (x : Int × Int × Int) => match x with | (i, px, pz) => [(0, .slice aF1 nf nf), (1, .slice aO1 no no), (2, .slice aL1 no no), (3, .int .u8 al), (4, .int .i32 tx), (5, .slice aS1 s s), (6, .slice aU1 q q), (15, .int .i32 (n : Int)), (16, .int .i32 (s : Int)), (17, .slice (some ⟨bM, 0, none⟩) n n), (20, .int .i32 p), (30, .slice (some ⟨bC, 0, none⟩) n n), (31, .slice aS2 d.r s), (32, .slice d.aD d.m d.cD), (33, .slice d.aB (q + 1) d.cB), (34, .slice d.aE (q + 1) d.cE), (35, .slice d.aT (q + 1) d.cT), (36, .slice (some ⟨bY, 0, none⟩) (q + 1) (q + 1)), (37, .slice d.aZ (q + 1) d.cZ), (38, .slice d.aW (q + 1) d.cW), (39, .slice (some ⟨bN, 0, none⟩) n n), (40, .int .i64 (q : Int)), (43, .slice (some ⟨bG, 0, none⟩) n n), (48, .int .i64 sc), (49, .int .i64 sz), (60, .int .i64 px), (61, .int .i64 pz), (62, .int .i32 i)]) (fun (x : Int × Int × Int) => match x with | (i, px, pz) => [(32, ⟨bF, nf, nf, ints .i32 f⟩), (33, ⟨bO, no, no, ints .i32 o⟩), (35, ⟨bC, n, n, ints .i32 d.comp⟩), (36, ⟨d.bB, d.sB, ((q + 1 : Nat) : Int), ints .i32 d.beg⟩), (37, ⟨d.bE, d.sE, ((q + 1 : Nat) : Int), ints .i32 d.en⟩), (39, ⟨d.bT, d.sT, ((q + 1 : Nat) : Int), ints .i32 d.cnt⟩), (40, ⟨d.bZ, d.sZ, ((q + 1 : Nat) : Int), ints .i64 d.siz⟩), (41, ⟨d.bW, d.sW, ((q + 1 : Nat) : Int), ints .i64 d.spt⟩), (42, ⟨bN, n, n, bools d.on⟩), (43, ⟨bS, s, s, ints .i32 st⟩), (44, ⟨d.bD, d.sD, d.m, ints .i32 d.fo⟩), (22, ⟨bU1, q, q, ints .i32 cu⟩), (21, ⟨bS1, s, s, ints .i32 st⟩), (20, ⟨bK, no, no, ints .u8 cl⟩), (23, ⟨bM, n, n, bools g⟩), (45, ⟨bY, (q + 1), ((q + 1 : Nat) : Int), ints .u8 d.cls⟩), (46, ⟨bG, n, n, ints .i32 sg⟩)]) (fun (x : Int × Int × Int) => match x with | (i, px, pz) => p ≤ i ∧ i ≤ s ∧ px = Sg (isTx tx st) p i ∧ pz = Sg (szOf f st) p i) (fun (x : Int × Int × Int) => match x with | (i, px, pz) => ((s : Int) - i).toNat) (p, 0, 0) ?_ ?_ ?_ ?_
                                  · exact ⟨by omega, by omega, (Sg_self _ _).symm, (Sg_self _ _).symm⟩
                                  · exact ⟨rfl, rfl, rfl, rfl, rfl, rfl, rfl, rfl, rfl, rfl, rfl, rfl, rfl, rfl, rfl, rfl, rfl, rfl, rfl, rfl, rfl, rfl, rfl, rfl, rfl, rfl, rfl, rfl, trivial⟩
                                  · exact ⟨rfl, rfl, rfl, rfl, rfl, rfl, rfl, rfl, rfl, rfl, rfl, rfl, rfl, rfl, rfl, rfl, rfl, trivial⟩
                                  rintro ⟨i, px, pz⟩ ⟨hi0, hi1, hpx, hpz⟩
                                  show C _ _ _ _ _ _ [(0, .slice aF1 nf nf), (1, .slice aO1 no no), (2, .slice aL1 no no), (3, .int .u8 al), (4, .int .i32 tx), (5, .slice aS1 s s), (6, .slice aU1 q q), (15, .int .i32 (n : Int)), (16, .int .i32 (s : Int)), (17, .slice (some ⟨bM, 0, none⟩) n n), (20, .int .i32 p), (30, .slice (some ⟨bC, 0, none⟩) n n), (31, .slice aS2 d.r s), (32, .slice d.aD d.m d.cD), (33, .slice d.aB (q + 1) d.cB), (34, .slice d.aE (q + 1) d.cE), (35, .slice d.aT (q + 1) d.cT), (36, .slice (some ⟨bY, 0, none⟩) (q + 1) (q + 1)), (37, .slice d.aZ (q + 1) d.cZ), (38, .slice d.aW (q + 1) d.cW), (39, .slice (some ⟨bN, 0, none⟩) n n), (40, .int .i64 (q : Int)), (43, .slice (some ⟨bG, 0, none⟩) n n), (48, .int .i64 sc), (49, .int .i64 sz), (60, .int .i64 px), (61, .int .i64 pz), (62, .int .i32 i)] [(32, ⟨bF, nf, nf, ints .i32 f⟩), (33, ⟨bO, no, no, ints .i32 o⟩), (35, ⟨bC, n, n, ints .i32 d.comp⟩), (36, ⟨d.bB, d.sB, ((q + 1 : Nat) : Int), ints .i32 d.beg⟩), (37, ⟨d.bE, d.sE, ((q + 1 : Nat) : Int), ints .i32 d.en⟩), (39, ⟨d.bT, d.sT, ((q + 1 : Nat) : Int), ints .i32 d.cnt⟩), (40, ⟨d.bZ, d.sZ, ((q + 1 : Nat) : Int), ints .i64 d.siz⟩), (41, ⟨d.bW, d.sW, ((q + 1 : Nat) : Int), ints .i64 d.spt⟩), (42, ⟨bN, n, n, bools d.on⟩), (43, ⟨bS, s, s, ints .i32 st⟩), (44, ⟨d.bD, d.sD, d.m, ints .i32 d.fo⟩), (22, ⟨bU1, q, q, ints .i32 cu⟩), (21, ⟨bS1, s, s, ints .i32 st⟩), (20, ⟨bK, no, no, ints .u8 cl⟩), (23, ⟨bM, n, n, bools g⟩), (45, ⟨bY, (q + 1), ((q + 1 : Nat) : Int), ints .u8 d.cls⟩), (46, ⟨bG, n, n, ints .i32 sg⟩)]
                                  refine C_seq ?_
                                  refine C_seq ?_
                                  refine C_region ?_
                                  refine V_w0.q (QY_move rfl) rfl ?_
                                  refine V_w0.q (QY_move rfl) rfl ?_
                                  refine W_lss V_w0 rfl rfl rfl (fun h515 => ?_) (fun h515 => ?_)
                                  ·
                                    have hnode := hseen.1 i (by omega) (by omega)
                                    have hfb := adj_bounds hadj hnode.1 (by omega)
                                    have hfb1 := adj_bounds hadj (show (0 : Int) ≤ st i + 1 by omega) (by omega)
                                    have hmono := hadj.2.2.1 (st i) hnode.1 (by omega)
                                    have b3 := Sg_bound (g := isTx tx st) (lo := p) (hi := i) (a := 0) (b := 1) (by omega) (fun i _ _ => isTx_b tx st i)
                                    have b4 := Sg_bound (g := szOf f st) (lo := p) (hi := i) (a := 1) (b := 1048577) (by omega) (fun i _ _ => szOf_b hadj hyn (by omega) (hseen.1 i (by omega) (by omega)).1 (hseen.1 i (by omega) (by omega)).2)
                                    rw [← hpx] at b3
                                    rw [← hpz] at b4
                                    refine V_nil (X_next ?_)
                                    refine C_true rfl ?_
                                    refine C_skip (X_next ?_)
                                    refine C_seq ?_
                                    refine C_block ?_
                                    refine C_seq ?_
                                    refine C_region ?_
                                    refine V_w0.q (QY_move rfl) rfl ?_
                                    refine V_w0.q (QY_move rfl) rfl ?_
                                    refine W_elem V_w0 rfl rfl (Rd_sl (q := 21) rfl h1S (by omega)) (by omega) (by omega) sl22 lf21 rfl rfl (fun _ => ?_)
                                    refine V_w0.q (QY_assign rfl) rfl ?_
                                    refine V_nil (X_next ?_)
                                    refine C_cut (T := Int) (fun (px1 : Int) => [(0, .slice aF1 nf nf), (1, .slice aO1 no no), (2, .slice aL1 no no), (3, .int .u8 al), (4, .int .i32 tx), (5, .slice aS1 s s), (6, .slice aU1 q q), (15, .int .i32 (n : Int)), (16, .int .i32 (s : Int)), (17, .slice (some ⟨bM, 0, none⟩) n n), (20, .int .i32 p), (30, .slice (some ⟨bC, 0, none⟩) n n), (31, .slice aS2 d.r s), (32, .slice d.aD d.m d.cD), (33, .slice d.aB (q + 1) d.cB), (34, .slice d.aE (q + 1) d.cE), (35, .slice d.aT (q + 1) d.cT), (36, .slice (some ⟨bY, 0, none⟩) (q + 1) (q + 1)), (37, .slice d.aZ (q + 1) d.cZ), (38, .slice d.aW (q + 1) d.cW), (39, .slice (some ⟨bN, 0, none⟩) n n), (40, .int .i64 (q : Int)), (43, .slice (some ⟨bG, 0, none⟩) n n), (48, .int .i64 sc), (49, .int .i64 sz), (60, .int .i64 px1), (61, .int .i64 pz), (62, .int .i32 i), (63, .int .i32 (st i))]) (fun (px1 : Int) => [(32, ⟨bF, nf, nf, ints .i32 f⟩), (33, ⟨bO, no, no, ints .i32 o⟩), (35, ⟨bC, n, n, ints .i32 d.comp⟩), (36, ⟨d.bB, d.sB, ((q + 1 : Nat) : Int), ints .i32 d.beg⟩), (37, ⟨d.bE, d.sE, ((q + 1 : Nat) : Int), ints .i32 d.en⟩), (39, ⟨d.bT, d.sT, ((q + 1 : Nat) : Int), ints .i32 d.cnt⟩), (40, ⟨d.bZ, d.sZ, ((q + 1 : Nat) : Int), ints .i64 d.siz⟩), (41, ⟨d.bW, d.sW, ((q + 1 : Nat) : Int), ints .i64 d.spt⟩), (42, ⟨bN, n, n, bools d.on⟩), (43, ⟨bS, s, s, ints .i32 st⟩), (44, ⟨d.bD, d.sD, d.m, ints .i32 d.fo⟩), (22, ⟨bU1, q, q, ints .i32 cu⟩), (21, ⟨bS1, s, s, ints .i32 st⟩), (20, ⟨bK, no, no, ints .u8 cl⟩), (23, ⟨bM, n, n, bools g⟩), (45, ⟨bY, (q + 1), ((q + 1 : Nat) : Int), ints .u8 d.cls⟩), (46, ⟨bG, n, n, ints .i32 sg⟩)]) (fun (px1 : Int) => px1 = px + isTx tx st i) ?_ ?_
                                    ·
                                      refine C_seq ?_
                                      refine C_region ?_
                                      refine V_w0.q (QY_move rfl) rfl ?_
                                      refine V_w0.q (QY_move rfl) rfl ?_
                                      refine W_lss V_w0 rfl rfl rfl (fun h524 => ?_) (fun h524 => ?_)
                                      ·
                                        refine V_nil (X_next ?_)
                                        refine C_true rfl ?_
                                        refine C_region ?_
                                        refine V_w0.q (QY_move rfl) rfl ?_
                                        refine V_w0.q (QY_arith rfl rfl rfl ⟨by omega, by omega⟩) rfl ?_
                                        refine V_w0.q (QY_assign rfl) rfl ?_
                                        refine V_nil (X_then ?_)
                                        refine X_cut (px + 1) ?_ ?_ ?_
                                        · show _ = _
                                          unfold isTx; rw [if_pos h524]
                                        · exact ⟨rfl, rfl, rfl, rfl, rfl, rfl, rfl, rfl, rfl, rfl, rfl, rfl, rfl, rfl, rfl, rfl, rfl, rfl, rfl, rfl, rfl, rfl, rfl, rfl, rfl, rfl, rfl, rfl, rfl, trivial⟩
                                        · exact ⟨rfl, rfl, rfl, rfl, rfl, rfl, rfl, rfl, rfl, rfl, rfl, rfl, rfl, rfl, rfl, rfl, rfl, trivial⟩
                                      ·
                                        refine V_nil (X_next ?_)
                                        refine C_false rfl ?_
                                        refine C_skip (X_then ?_)
                                        refine X_cut px ?_ ?_ ?_
                                        · show _ = _
                                          unfold isTx; rw [if_neg h524]; omega
                                        · exact ⟨rfl, rfl, rfl, rfl, rfl, rfl, rfl, rfl, rfl, rfl, rfl, rfl, rfl, rfl, rfl, rfl, rfl, rfl, rfl, rfl, rfl, rfl, rfl, rfl, rfl, rfl, rfl, rfl, rfl, trivial⟩
                                        · exact ⟨rfl, rfl, rfl, rfl, rfl, rfl, rfl, rfl, rfl, rfl, rfl, rfl, rfl, rfl, rfl, rfl, rfl, trivial⟩
                                    rintro px1 hpx1
                                    show C _ _ _ _ _ _ [(0, .slice aF1 nf nf), (1, .slice aO1 no no), (2, .slice aL1 no no), (3, .int .u8 al), (4, .int .i32 tx), (5, .slice aS1 s s), (6, .slice aU1 q q), (15, .int .i32 (n : Int)), (16, .int .i32 (s : Int)), (17, .slice (some ⟨bM, 0, none⟩) n n), (20, .int .i32 p), (30, .slice (some ⟨bC, 0, none⟩) n n), (31, .slice aS2 d.r s), (32, .slice d.aD d.m d.cD), (33, .slice d.aB (q + 1) d.cB), (34, .slice d.aE (q + 1) d.cE), (35, .slice d.aT (q + 1) d.cT), (36, .slice (some ⟨bY, 0, none⟩) (q + 1) (q + 1)), (37, .slice d.aZ (q + 1) d.cZ), (38, .slice d.aW (q + 1) d.cW), (39, .slice (some ⟨bN, 0, none⟩) n n), (40, .int .i64 (q : Int)), (43, .slice (some ⟨bG, 0, none⟩) n n), (48, .int .i64 sc), (49, .int .i64 sz), (60, .int .i64 px1), (61, .int .i64 pz), (62, .int .i32 i), (63, .int .i32 (st i))] [(32, ⟨bF, nf, nf, ints .i32 f⟩), (33, ⟨bO, no, no, ints .i32 o⟩), (35, ⟨bC, n, n, ints .i32 d.comp⟩), (36, ⟨d.bB, d.sB, ((q + 1 : Nat) : Int), ints .i32 d.beg⟩), (37, ⟨d.bE, d.sE, ((q + 1 : Nat) : Int), ints .i32 d.en⟩), (39, ⟨d.bT, d.sT, ((q + 1 : Nat) : Int), ints .i32 d.cnt⟩), (40, ⟨d.bZ, d.sZ, ((q + 1 : Nat) : Int), ints .i64 d.siz⟩), (41, ⟨d.bW, d.sW, ((q + 1 : Nat) : Int), ints .i64 d.spt⟩), (42, ⟨bN, n, n, bools d.on⟩), (43, ⟨bS, s, s, ints .i32 st⟩), (44, ⟨d.bD, d.sD, d.m, ints .i32 d.fo⟩), (22, ⟨bU1, q, q, ints .i32 cu⟩), (21, ⟨bS1, s, s, ints .i32 st⟩), (20, ⟨bK, no, no, ints .u8 cl⟩), (23, ⟨bM, n, n, bools g⟩), (45, ⟨bY, (q + 1), ((q + 1 : Nat) : Int), ints .u8 d.cls⟩), (46, ⟨bG, n, n, ints .i32 sg⟩)]
                                    refine C_draw mix (by kernel_rfl) ?_
                                    refine S_w0.q (QY_move rfl) rfl ?_
                                    refine S_w0.q (QY_move rfl) rfl ?_
                                    refine S_w0.q (QY_move rfl) rfl ?_
                                    refine S_w0.q (QY_arith rfl rfl rfl ⟨by omega, by omega⟩) rfl ?_
                                    refine W_elem S_w0 rfl rfl (Rd_sl (q := 32) rfl h1F (by omega)) (by omega) (by omega) sl22 lf21 rfl rfl (fun _ => ?_)
                                    refine S_w0.q (QY_move rfl) rfl ?_
                                    refine S_w0.q (QY_move rfl) rfl ?_
                                    refine W_elem S_w0 rfl rfl (Rd_sl (q := 32) rfl h1F (by omega)) (by omega) (by omega) sl22 lf21 rfl rfl (fun _ => ?_)
                                    refine S_w0.q (QY_arith rfl rfl rfl ⟨by omega, by omega⟩) rfl ?_
                                    refine S_w0.q (QY_conv it21 it3 rfl ⟨by omega, by omega⟩) rfl ?_
                                    refine S_w0.q (QY_arith rfl rfl rfl ⟨by omega, by omega⟩) rfl ?_
                                    refine S_w0.q (QY_arith rfl rfl rfl ⟨by omega, by omega⟩) rfl ?_
                                    refine S_w0.q (QY_assign rfl) rfl ?_
                                    refine S_nil (X_block (X_next ?_))
                                    refine C_region ?_
                                    refine V_w0.q (QY_move rfl) rfl ?_
                                    refine V_w0.q (QY_arith rfl rfl rfl ⟨by omega, by omega⟩) rfl ?_
                                    refine V_w0.q (QY_assign rfl) rfl ?_
                                    refine V_nil (X_then ?_)
                                    refine X_round (i + 1, px1, pz + (1 + (f (st i + 1) - f (st i)))) ?_ ?_ ?_ ?_
                                    · exact ⟨by omega, by omega, by rw [Sg_succ _ hi0, ← hpx]; exact hpx1, by rw [Sg_succ _ hi0, ← hpz]; rfl⟩
                                    · show ((s : Int) - (i + 1)).toNat < ((s : Int) - i).toNat
                                      omega
                                    · exact ⟨rfl, rfl, rfl, rfl, rfl, rfl, rfl, rfl, rfl, rfl, rfl, rfl, rfl, rfl, rfl, rfl, rfl, rfl, rfl, rfl, rfl, rfl, rfl, rfl, rfl, rfl, rfl, rfl, trivial⟩
                                    · exact ⟨rfl, rfl, rfl, rfl, rfl, rfl, rfl, rfl, rfl, rfl, rfl, rfl, rfl, rfl, rfl, rfl, rfl, trivial⟩
                                  ·
                                    obtain rfl : i = (s : Int) := by omega
                                    have hfin := hT.on_eq hsg hcuts hon hseen.2.2
                                    refine V_nil (X_next ?_)
                                    refine C_false rfl ?_
                                    refine C_exit (X_then_exit (X_then_exit (X_block_exit (X_next ?_))))
                                    refine C_seq ?_
                                    refine C_seq ?_
                                    refine C_region ?_
                                    refine V_w0.q (QY_move rfl) rfl ?_
                                    refine V_w0.q (QY_move rfl) rfl ?_
                                    refine W_neq V_w0 rfl rfl rfl (fun h543 => False.elim (h543 (by rw [hsc, hpx]; congr 1 <;> omega))) (fun h543 => ?_)
                                    refine V_w0.q (QY_move rfl) rfl ?_
                                    refine V_walk.yes rfl rfl ?_
                                    refine V_w0.q (QY_move rfl) rfl ?_
                                    refine V_walk.yes rfl rfl ?_
                                    refine V_w0.q (QY_move rfl) rfl ?_
                                    refine V_walk.yes rfl rfl ?_
                                    refine W_neq V_w0 rfl rfl rfl (fun h547 => False.elim (h547 (by rw [hsz, hpz]; congr 1 <;> omega))) (fun h547 => ?_)
                                    refine V_w0.q (QY_pick_false rfl rfl) rfl ?_
                                    refine V_nil (X_next ?_)
                                    refine C_false rfl ?_
                                    refine C_skip (X_next ?_)
                                    refine C_seq ?_
                                    refine C_seq ?_
                                    refine C_region ?_
                                    refine V_w0.q (QY_assign rfl) rfl ?_
                                    refine V_nil (X_next ?_)
                                    refine C_block ?_
                                    refine C_loops (T := Int) (fun (v : Int) => [(0, .slice aF1 nf nf), (1, .slice aO1 no no), (2, .slice aL1 no no), (3, .int .u8 al), (4, .int .i32 tx), (5, .slice aS1 s s), (6, .slice aU1 q q), (15, .int .i32 (n : Int)), (16, .int .i32 (s : Int)), (17, .slice (some ⟨bM, 0, none⟩) n n), (20, .int .i32 p), (30, .slice (some ⟨bC, 0, none⟩) n n), (31, .slice aS2 d.r s), (32, .slice d.aD d.m d.cD), (33, .slice d.aB (q + 1) d.cB), (34, .slice d.aE (q + 1) d.cE), (35, .slice d.aT (q + 1) d.cT), (36, .slice (some ⟨bY, 0, none⟩) (q + 1) (q + 1)), (37, .slice d.aZ (q + 1) d.cZ), (38, .slice d.aW (q + 1) d.cW), (39, .slice (some ⟨bN, 0, none⟩) n n), (40, .int .i64 (q : Int)), (43, .slice (some ⟨bG, 0, none⟩) n n), (64, .int .i32 v)]) (fun (v : Int) => [(32, ⟨bF, nf, nf, ints .i32 f⟩), (33, ⟨bO, no, no, ints .i32 o⟩), (35, ⟨bC, n, n, ints .i32 d.comp⟩), (36, ⟨d.bB, d.sB, ((q + 1 : Nat) : Int), ints .i32 d.beg⟩), (37, ⟨d.bE, d.sE, ((q + 1 : Nat) : Int), ints .i32 d.en⟩), (39, ⟨d.bT, d.sT, ((q + 1 : Nat) : Int), ints .i32 d.cnt⟩), (40, ⟨d.bZ, d.sZ, ((q + 1 : Nat) : Int), ints .i64 d.siz⟩), (41, ⟨d.bW, d.sW, ((q + 1 : Nat) : Int), ints .i64 d.spt⟩), (42, ⟨bN, n, n, bools d.on⟩), (43, ⟨bS, s, s, ints .i32 st⟩), (44, ⟨d.bD, d.sD, d.m, ints .i32 d.fo⟩), (22, ⟨bU1, q, q, ints .i32 cu⟩), (21, ⟨bS1, s, s, ints .i32 st⟩), (20, ⟨bK, no, no, ints .u8 cl⟩), (23, ⟨bM, n, n, bools g⟩), (45, ⟨bY, (q + 1), ((q + 1 : Nat) : Int), ints .u8 d.cls⟩), (46, ⟨bG, n, n, ints .i32 sg⟩)]) (fun (v : Int) => 0 ≤ v ∧ v ≤ n) (fun (v : Int) => ((n : Int) - v).toNat) 0 ?_ ?_ ?_ ?_
                                    · exact ⟨by omega, by omega⟩
                                    · exact ⟨rfl, rfl, rfl, rfl, rfl, rfl, rfl, rfl, rfl, rfl, rfl, rfl, rfl, rfl, rfl, rfl, rfl, rfl, rfl, rfl, rfl, rfl, rfl, rfl, trivial⟩
                                    · exact ⟨rfl, rfl, rfl, rfl, rfl, rfl, rfl, rfl, rfl, rfl, rfl, rfl, rfl, rfl, rfl, rfl, rfl, trivial⟩
                                    rintro v ⟨hv0, hv1⟩
                                    show C _ _ _ _ _ _ [(0, .slice aF1 nf nf), (1, .slice aO1 no no), (2, .slice aL1 no no), (3, .int .u8 al), (4, .int .i32 tx), (5, .slice aS1 s s), (6, .slice aU1 q q), (15, .int .i32 (n : Int)), (16, .int .i32 (s : Int)), (17, .slice (some ⟨bM, 0, none⟩) n n), (20, .int .i32 p), (30, .slice (some ⟨bC, 0, none⟩) n n), (31, .slice aS2 d.r s), (32, .slice d.aD d.m d.cD), (33, .slice d.aB (q + 1) d.cB), (34, .slice d.aE (q + 1) d.cE), (35, .slice d.aT (q + 1) d.cT), (36, .slice (some ⟨bY, 0, none⟩) (q + 1) (q + 1)), (37, .slice d.aZ (q + 1) d.cZ), (38, .slice d.aW (q + 1) d.cW), (39, .slice (some ⟨bN, 0, none⟩) n n), (40, .int .i64 (q : Int)), (43, .slice (some ⟨bG, 0, none⟩) n n), (64, .int .i32 v)] [(32, ⟨bF, nf, nf, ints .i32 f⟩), (33, ⟨bO, no, no, ints .i32 o⟩), (35, ⟨bC, n, n, ints .i32 d.comp⟩), (36, ⟨d.bB, d.sB, ((q + 1 : Nat) : Int), ints .i32 d.beg⟩), (37, ⟨d.bE, d.sE, ((q + 1 : Nat) : Int), ints .i32 d.en⟩), (39, ⟨d.bT, d.sT, ((q + 1 : Nat) : Int), ints .i32 d.cnt⟩), (40, ⟨d.bZ, d.sZ, ((q + 1 : Nat) : Int), ints .i64 d.siz⟩), (41, ⟨d.bW, d.sW, ((q + 1 : Nat) : Int), ints .i64 d.spt⟩), (42, ⟨bN, n, n, bools d.on⟩), (43, ⟨bS, s, s, ints .i32 st⟩), (44, ⟨d.bD, d.sD, d.m, ints .i32 d.fo⟩), (22, ⟨bU1, q, q, ints .i32 cu⟩), (21, ⟨bS1, s, s, ints .i32 st⟩), (20, ⟨bK, no, no, ints .u8 cl⟩), (23, ⟨bM, n, n, bools g⟩), (45, ⟨bY, (q + 1), ((q + 1 : Nat) : Int), ints .u8 d.cls⟩), (46, ⟨bG, n, n, ints .i32 sg⟩)]
                                    refine C_seq ?_
                                    refine C_seq ?_
                                    refine C_region ?_
                                    refine V_w0.q (QY_move rfl) rfl ?_
                                    refine V_w0.q (QY_move rfl) rfl ?_
                                    refine W_lss V_w0 rfl rfl rfl (fun h551 => ?_) (fun h551 => ?_)
                                    ·
                                      refine V_nil (X_next ?_)
                                      refine C_true rfl ?_
                                      refine C_skip (X_next ?_)
                                      refine C_seq ?_
                                      refine C_block ?_
                                      refine C_seq ?_
                                      refine C_seq ?_
                                      refine C_draw mix (by kernel_rfl) ?_
                                      refine S_w0.q (QY_move rfl) rfl ?_
                                      refine S_w0.q (QY_move rfl) rfl ?_
                                      refine W_elem S_w0 rfl rfl (Rd_own (q := 35) rfl (by omega)) (by omega) (by omega) sl22 lf21 rfl rfl (fun _ => ?_)
                                      refine S_w0.q (QY_move rfl) rfl ?_
                                      refine S_w0.q (QY_move rfl) rfl ?_
                                      refine W_elem S_w0 rfl rfl (Rd_own (q := 46) rfl (by omega)) (by omega) (by omega) sl22 lf21 rfl rfl (fun _ => ?_)
                                      refine W_neq S_w0 rfl rfl rfl (fun h562 => False.elim (h562 (hT.comp_eq hsg hcuts v))) (fun h562 => ?_)
                                      refine S_nil (X_next ?_)
                                      refine C_false rfl ?_
                                      refine C_skip (X_next ?_)
                                      refine C_seq ?_
                                      refine C_draw mix (by kernel_rfl) ?_
                                      refine S_w0.q (QY_move rfl) rfl ?_
                                      refine S_w0.q (QY_move rfl) rfl ?_
                                      refine W_elem S_w0 rfl rfl (Rd_own (q := 42) rfl (by omega)) (by omega) (by omega) sl26 lf4 rfl rfl (fun _ => ?_)
                                      refine W_bool S_w0 566 rfl (fun h566 => ?_) (fun h566 => ?_)
                                      ·
                                        refine S_w0.q (QY_move rfl) rfl ?_
                                        refine S_w0.q (QY_move rfl) rfl ?_
                                        refine W_elem S_w0 rfl rfl (Rd_own (q := 23) rfl (by omega)) (by omega) (by omega) sl26 lf4 rfl rfl (fun _ => ?_)
                                        refine W_bool S_w0 570 rfl (fun h570 => ?_) (fun h570 => ?_)
                                        ·
                                          refine S_w0.q (QY_move rfl) rfl ?_
                                          refine S_walk.yes rfl rfl ?_
                                          refine S_w0.q (QY_move rfl) rfl ?_
                                          refine S_walk.yes rfl rfl ?_
                                          refine S_w0.q (QY_move rfl) rfl ?_
                                          refine S_walk.yes rfl rfl ?_
                                          refine W_elem2 S_walk rfl (fun _ => rfl) rfl rfl (Rd_own (q := 46) rfl (by omega)) (by omega) (by omega) sl22 lf21 rfl rfl (fun _ => ?_)
                                          refine S_walk.yes rfl rfl ?_
                                          refine W_eql S_w0 rfl rfl rfl (fun h576 => ?_) (fun h576 => ?_)
                                          ·
                                            refine S_w0.q (QY_pick_true rfl rfl) rfl ?_
                                            refine S_w0.q (QY_neqB Try.underlying4 rfl rfl) rfl ?_
                                            refine S_nil (X_next ?_)
                                            refine C_false rfl ?_
                                            refine C_skip (X_block (X_next ?_))
                                            refine C_region ?_
                                            refine V_w0.q (QY_move rfl) rfl ?_
                                            refine V_w0.q (QY_arith rfl rfl rfl ⟨by omega, by omega⟩) rfl ?_
                                            refine V_w0.q (QY_assign rfl) rfl ?_
                                            refine V_nil (X_then ?_)
                                            refine X_round (v + 1) ?_ ?_ ?_ ?_
                                            · exact ⟨by omega, by omega⟩
                                            · show ((n : Int) - (v + 1)).toNat < ((n : Int) - v).toNat
                                              omega
                                            · exact ⟨rfl, rfl, rfl, rfl, rfl, rfl, rfl, rfl, rfl, rfl, rfl, rfl, rfl, rfl, rfl, rfl, rfl, rfl, rfl, rfl, rfl, rfl, rfl, rfl, trivial⟩
                                            · exact ⟨rfl, rfl, rfl, rfl, rfl, rfl, rfl, rfl, rfl, rfl, rfl, rfl, rfl, rfl, rfl, rfl, rfl, trivial⟩
                                          ·
                                            refine S_w0.q (QY_pick_true rfl rfl) rfl ?_
                                            exact absurd ((hfin v).1 h566).2 h576
                                        ·
                                          refine S_w0.q (QY_move rfl) rfl ?_
                                          refine S_walk.no rfl rfl rfl ?_
                                          refine S_walk.no rfl rfl rfl ?_
                                          refine S_walk.no rfl rfl rfl ?_
                                          refine S_walk.no rfl rfl rfl ?_
                                          refine S_walk.no rfl rfl rfl ?_
                                          refine S_w0.q (QY_pick_false rfl rfl) rfl ?_
                                          exact absurd (h570.symm.trans ((hfin v).1 h566).1) (by decide)
                                      ·
                                        refine S_w0.q (QY_move rfl) rfl ?_
                                        refine S_w0.q (QY_move rfl) rfl ?_
                                        refine W_elem S_w0 rfl rfl (Rd_own (q := 23) rfl (by omega)) (by omega) (by omega) sl26 lf4 rfl rfl (fun _ => ?_)
                                        refine W_bool S_w0 570 rfl (fun h570 => ?_) (fun h570 => ?_)
                                        ·
                                          refine S_w0.q (QY_move rfl) rfl ?_
                                          refine S_walk.yes rfl rfl ?_
                                          refine S_w0.q (QY_move rfl) rfl ?_
                                          refine S_walk.yes rfl rfl ?_
                                          refine S_w0.q (QY_move rfl) rfl ?_
                                          refine S_walk.yes rfl rfl ?_
                                          refine W_elem2 S_walk rfl (fun _ => rfl) rfl rfl (Rd_own (q := 46) rfl (by omega)) (by omega) (by omega) sl22 lf21 rfl rfl (fun _ => ?_)
                                          refine S_walk.yes rfl rfl ?_
                                          refine W_eql S_w0 rfl rfl rfl (fun h576 => ?_) (fun h576 => ?_)
                                          ·
                                            refine S_w0.q (QY_pick_true rfl rfl) rfl ?_
                                            exact absurd (h566.symm.trans ((hfin v).2 ⟨h570, h576⟩)) (by decide)
                                          ·
                                            refine S_w0.q (QY_pick_true rfl rfl) rfl ?_
                                            refine S_w0.q (QY_neqB Try.underlying4 rfl rfl) rfl ?_
                                            refine S_nil (X_next ?_)
                                            refine C_false rfl ?_
                                            refine C_skip (X_block (X_next ?_))
                                            refine C_region ?_
                                            refine V_w0.q (QY_move rfl) rfl ?_
                                            refine V_w0.q (QY_arith rfl rfl rfl ⟨by omega, by omega⟩) rfl ?_
                                            refine V_w0.q (QY_assign rfl) rfl ?_
                                            refine V_nil (X_then ?_)
                                            refine X_round (v + 1) ?_ ?_ ?_ ?_
                                            · exact ⟨by omega, by omega⟩
                                            · show ((n : Int) - (v + 1)).toNat < ((n : Int) - v).toNat
                                              omega
                                            · exact ⟨rfl, rfl, rfl, rfl, rfl, rfl, rfl, rfl, rfl, rfl, rfl, rfl, rfl, rfl, rfl, rfl, rfl, rfl, rfl, rfl, rfl, rfl, rfl, rfl, trivial⟩
                                            · exact ⟨rfl, rfl, rfl, rfl, rfl, rfl, rfl, rfl, rfl, rfl, rfl, rfl, rfl, rfl, rfl, rfl, rfl, trivial⟩
                                        ·
                                          refine S_w0.q (QY_move rfl) rfl ?_
                                          refine S_walk.no rfl rfl rfl ?_
                                          refine S_walk.no rfl rfl rfl ?_
                                          refine S_walk.no rfl rfl rfl ?_
                                          refine S_walk.no rfl rfl rfl ?_
                                          refine S_walk.no rfl rfl rfl ?_
                                          refine S_w0.q (QY_pick_false rfl rfl) rfl ?_
                                          refine S_w0.q (QY_neqB Try.underlying4 rfl rfl) rfl ?_
                                          refine S_nil (X_next ?_)
                                          refine C_false rfl ?_
                                          refine C_skip (X_block (X_next ?_))
                                          refine C_region ?_
                                          refine V_w0.q (QY_move rfl) rfl ?_
                                          refine V_w0.q (QY_arith rfl rfl rfl ⟨by omega, by omega⟩) rfl ?_
                                          refine V_w0.q (QY_assign rfl) rfl ?_
                                          refine V_nil (X_then ?_)
                                          refine X_round (v + 1) ?_ ?_ ?_ ?_
                                          · exact ⟨by omega, by omega⟩
                                          · show ((n : Int) - (v + 1)).toNat < ((n : Int) - v).toNat
                                            omega
                                          · exact ⟨rfl, rfl, rfl, rfl, rfl, rfl, rfl, rfl, rfl, rfl, rfl, rfl, rfl, rfl, rfl, rfl, rfl, rfl, rfl, rfl, rfl, rfl, rfl, rfl, trivial⟩
                                          · exact ⟨rfl, rfl, rfl, rfl, rfl, rfl, rfl, rfl, rfl, rfl, rfl, rfl, rfl, rfl, rfl, rfl, rfl, trivial⟩
                                    ·
                                      refine V_nil (X_next ?_)
                                      refine C_false rfl ?_
                                      refine C_exit (X_then_exit (X_then_exit (X_block_exit (X_next ?_))))
                                      refine C_seq ?_
                                      refine C_region ?_
                                      refine V_w0.q (QY_assign rfl) rfl ?_
                                      refine V_nil (X_next ?_)
                                      refine C_ret (?_)
                                      refine X_ret1 rfl rfl (fun w hm => ?_)
                                      exact ⟨rfl, hm.below⟩
  ·
    refine V_w0.q (QY_not rfl) rfl ?_
    refine V_nil (X_next ?_)
    refine C_true rfl ?_
    refine C_seq ?_
    refine C_region ?_
    refine V_w0.q (QY_assign rfl) rfl ?_
    refine V_nil (X_next ?_)
    refine C_ret (X_then_ret (?_))
    refine X_ret1 rfl rfl (fun w hm => ?_)
    exact ⟨rfl, hm.below⟩

end Go.Proofs.Qxb6001307a
