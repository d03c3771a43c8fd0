/-
  OWN WORK (the rule applications laid by a program of our own, wip/gen). Small functions: zzBytes, adjNodes.
-/
import Derived.Test.Qxb6001307aKitD
import Derived.Test.Qxb6001307aTypes
namespace Go.Proofs.Qxb6001307a
open Go.RowKit
set_option linter.unusedSimpArgs false
set_option linter.unusedVariables false

theorem bytes8 (w : World) (a0 a1 a2 a5 a6 : Option Addr) (n0 n1 n2 n5 n6 c0 c1 c2 c5 c6 : Nat) (z3 z4 : Value) :
    Calls Try.prog 8 #[.slice a0 n0 c0, .slice a1 n1 c1, .slice a2 n2 c2, z3, z4, .slice a5 n5 c5, .slice a6 n6 c6] w fun e w' => ∃ y : Bool, (y = true → (n0 : Int) + n1 + n2 + n5 + n6 ≤ 1048576) ∧ e = .returned (.bool y) ∧ Mem (Old w) w [] w' := by
  refine enter (N := 61) (vs := [.slice a0 n0 c0, .slice a1 n1 c1, .slice a2 n2 c2, z3, z4, .slice a5 n5 c5, .slice a6 n6 c6]) Try.func8 rfl Try.ntmps8 rfl ?_ w (Mem.start w)
  refine C_seq ?_
  refine C_region ?_
  refine V_w0.q (QY_assign rfl) rfl ?_
  refine V_nil (X_next ?_)
  refine C_seq ?_
  refine C_region ?_
  refine V_w0.q (QY_assign rfl) rfl ?_
  refine V_nil (X_next ?_)
  refine C_seq ?_
  refine C_seq ?_
  refine C_region ?_
  refine V_w0.q (QY_move rfl) rfl ?_
  refine V_w0.q (QY_len sl22 rfl) rfl ?_
  refine W_gtr V_w0 rfl rfl rfl (fun h18 => ?_) (fun h18 => ?_)
  ·
    refine V_nil (X_next ?_)
    refine C_true rfl ?_
    refine C_seq ?_
    refine C_region ?_
    refine V_w0.q (QY_assign rfl) rfl ?_
    refine V_nil (X_next ?_)
    refine C_ret (X_then_ret (?_))
    refine X_ret1 rfl rfl (fun w hm => ?_)
    exact ⟨_, fun h => (by cases h), rfl, hm⟩
  ·
    refine V_nil (X_next ?_)
    refine C_false rfl ?_
    refine C_skip (X_next ?_)
    refine C_seq ?_
    refine C_region ?_
    refine V_w0.q (QY_move rfl) rfl ?_
    refine V_w0.q (QY_move rfl) rfl ?_
    refine V_w0.q (QY_len sl22 rfl) rfl ?_
    refine V_w0.q (QY_arith rfl rfl rfl ⟨by omega, by omega⟩) rfl ?_
    refine V_w0.q (QY_assign rfl) rfl ?_
    refine V_nil (X_next ?_)
    refine C_seq ?_
    refine C_seq ?_
    refine C_region ?_
    refine V_w0.q (QY_move rfl) rfl ?_
    refine W_gtr V_w0 rfl rfl rfl (fun h24 => ?_) (fun h24 => ?_)
    ·
      refine V_nil (X_next ?_)
      refine C_true rfl ?_
      refine C_seq ?_
      refine C_region ?_
      refine V_w0.q (QY_assign rfl) rfl ?_
      refine V_nil (X_next ?_)
      refine C_ret (X_then_ret (?_))
      refine X_ret1 rfl rfl (fun w hm => ?_)
      exact ⟨_, fun h => (by cases h), rfl, hm⟩
    ·
      refine V_nil (X_next ?_)
      refine C_false rfl ?_
      refine C_skip (X_next ?_)
      refine C_seq ?_
      refine C_seq ?_
      refine C_region ?_
      refine V_w0.q (QY_move rfl) rfl ?_
      refine V_w0.q (QY_len sl22 rfl) rfl ?_
      refine W_gtr V_w0 rfl rfl rfl (fun h27 => ?_) (fun h27 => ?_)
      ·
        refine V_nil (X_next ?_)
        refine C_true rfl ?_
        refine C_seq ?_
        refine C_region ?_
        refine V_w0.q (QY_assign rfl) rfl ?_
        refine V_nil (X_next ?_)
        refine C_ret (X_then_ret (?_))
        refine X_ret1 rfl rfl (fun w hm => ?_)
        exact ⟨_, fun h => (by cases h), rfl, hm⟩
      ·
        refine V_nil (X_next ?_)
        refine C_false rfl ?_
        refine C_skip (X_next ?_)
        refine C_seq ?_
        refine C_region ?_
        refine V_w0.q (QY_move rfl) rfl ?_
        refine V_w0.q (QY_move rfl) rfl ?_
        refine V_w0.q (QY_len sl22 rfl) rfl ?_
        refine V_w0.q (QY_arith rfl rfl rfl ⟨by omega, by omega⟩) rfl ?_
        refine V_w0.q (QY_assign rfl) rfl ?_
        refine V_nil (X_next ?_)
        refine C_seq ?_
        refine C_seq ?_
        refine C_region ?_
        refine V_w0.q (QY_move rfl) rfl ?_
        refine W_gtr V_w0 rfl rfl rfl (fun h33 => ?_) (fun h33 => ?_)
        ·
          refine V_nil (X_next ?_)
          refine C_true rfl ?_
          refine C_seq ?_
          refine C_region ?_
          refine V_w0.q (QY_assign rfl) rfl ?_
          refine V_nil (X_next ?_)
          refine C_ret (X_then_ret (?_))
          refine X_ret1 rfl rfl (fun w hm => ?_)
          exact ⟨_, fun h => (by cases h), rfl, hm⟩
        ·
          refine V_nil (X_next ?_)
          refine C_false rfl ?_
          refine C_skip (X_next ?_)
          refine C_seq ?_
          refine C_seq ?_
          refine C_region ?_
          refine V_w0.q (QY_move rfl) rfl ?_
          refine V_w0.q (QY_len sl23 rfl) rfl ?_
          refine W_gtr V_w0 rfl rfl rfl (fun h36 => ?_) (fun h36 => ?_)
          ·
            refine V_nil (X_next ?_)
            refine C_true rfl ?_
            refine C_seq ?_
            refine C_region ?_
            refine V_w0.q (QY_assign rfl) rfl ?_
            refine V_nil (X_next ?_)
            refine C_ret (X_then_ret (?_))
            refine X_ret1 rfl rfl (fun w hm => ?_)
            exact ⟨_, fun h => (by cases h), rfl, hm⟩
          ·
            refine V_nil (X_next ?_)
            refine C_false rfl ?_
            refine C_skip (X_next ?_)
            refine C_seq ?_
            refine C_region ?_
            refine V_w0.q (QY_move rfl) rfl ?_
            refine V_w0.q (QY_move rfl) rfl ?_
            refine V_w0.q (QY_len sl23 rfl) rfl ?_
            refine V_w0.q (QY_arith rfl rfl rfl ⟨by omega, by omega⟩) rfl ?_
            refine V_w0.q (QY_assign rfl) rfl ?_
            refine V_nil (X_next ?_)
            refine C_seq ?_
            refine C_seq ?_
            refine C_region ?_
            refine V_w0.q (QY_move rfl) rfl ?_
            refine W_gtr V_w0 rfl rfl rfl (fun h42 => ?_) (fun h42 => ?_)
            ·
              refine V_nil (X_next ?_)
              refine C_true rfl ?_
              refine C_seq ?_
              refine C_region ?_
              refine V_w0.q (QY_assign rfl) rfl ?_
              refine V_nil (X_next ?_)
              refine C_ret (X_then_ret (?_))
              refine X_ret1 rfl rfl (fun w hm => ?_)
              exact ⟨_, fun h => (by cases h), rfl, hm⟩
            ·
              refine V_nil (X_next ?_)
              refine C_false rfl ?_
              refine C_skip (X_next ?_)
              refine C_seq ?_
              refine C_seq ?_
              refine C_region ?_
              refine V_w0.q (QY_move rfl) rfl ?_
              refine V_w0.q (QY_len sl22 rfl) rfl ?_
              refine W_gtr V_w0 rfl rfl rfl (fun h45 => ?_) (fun h45 => ?_)
              ·
                refine V_nil (X_next ?_)
                refine C_true rfl ?_
                refine C_seq ?_
                refine C_region ?_
                refine V_w0.q (QY_assign rfl) rfl ?_
                refine V_nil (X_next ?_)
                refine C_ret (X_then_ret (?_))
                refine X_ret1 rfl rfl (fun w hm => ?_)
                exact ⟨_, fun h => (by cases h), rfl, hm⟩
              ·
                refine V_nil (X_next ?_)
                refine C_false rfl ?_
                refine C_skip (X_next ?_)
                refine C_seq ?_
                refine C_region ?_
                refine V_w0.q (QY_move rfl) rfl ?_
                refine V_w0.q (QY_move rfl) rfl ?_
                refine V_w0.q (QY_len sl22 rfl) rfl ?_
                refine V_w0.q (QY_arith rfl rfl rfl ⟨by omega, by omega⟩) rfl ?_
                refine V_w0.q (QY_assign rfl) rfl ?_
                refine V_nil (X_next ?_)
                refine C_seq ?_
                refine C_seq ?_
                refine C_region ?_
                refine V_w0.q (QY_move rfl) rfl ?_
                refine W_gtr V_w0 rfl rfl rfl (fun h51 => ?_) (fun h51 => ?_)
                ·
                  refine V_nil (X_next ?_)
                  refine C_true rfl ?_
                  refine C_seq ?_
                  refine C_region ?_
                  refine V_w0.q (QY_assign rfl) rfl ?_
                  refine V_nil (X_next ?_)
                  refine C_ret (X_then_ret (?_))
                  refine X_ret1 rfl rfl (fun w hm => ?_)
                  exact ⟨_, fun h => (by cases h), rfl, hm⟩
                ·
                  refine V_nil (X_next ?_)
                  refine C_false rfl ?_
                  refine C_skip (X_next ?_)
                  refine C_seq ?_
                  refine C_seq ?_
                  refine C_region ?_
                  refine V_w0.q (QY_move rfl) rfl ?_
                  refine V_w0.q (QY_len sl22 rfl) rfl ?_
                  refine W_gtr V_w0 rfl rfl rfl (fun h54 => ?_) (fun h54 => ?_)
                  ·
                    refine V_nil (X_next ?_)
                    refine C_true rfl ?_
                    refine C_seq ?_
                    refine C_region ?_
                    refine V_w0.q (QY_assign rfl) rfl ?_
                    refine V_nil (X_next ?_)
                    refine C_ret (X_then_ret (?_))
                    refine X_ret1 rfl rfl (fun w hm => ?_)
                    exact ⟨_, fun h => (by cases h), rfl, hm⟩
                  ·
                    refine V_nil (X_next ?_)
                    refine C_false rfl ?_
                    refine C_skip (X_next ?_)
                    refine C_seq ?_
                    refine C_region ?_
                    refine V_w0.q (QY_move rfl) rfl ?_
                    refine V_w0.q (QY_move rfl) rfl ?_
                    refine V_w0.q (QY_len sl22 rfl) rfl ?_
                    refine V_w0.q (QY_arith rfl rfl rfl ⟨by omega, by omega⟩) rfl ?_
                    refine V_w0.q (QY_assign rfl) rfl ?_
                    refine V_nil (X_next ?_)
                    refine C_seq ?_
                    refine C_seq ?_
                    refine C_region ?_
                    refine V_w0.q (QY_move rfl) rfl ?_
                    refine W_gtr V_w0 rfl rfl rfl (fun h60 => ?_) (fun h60 => ?_)
                    ·
                      refine V_nil (X_next ?_)
                      refine C_true rfl ?_
                      refine C_seq ?_
                      refine C_region ?_
                      refine V_w0.q (QY_assign rfl) rfl ?_
                      refine V_nil (X_next ?_)
                      refine C_ret (X_then_ret (?_))
                      refine X_ret1 rfl rfl (fun w hm => ?_)
                      exact ⟨_, fun h => (by cases h), rfl, hm⟩
                    ·
                      refine V_nil (X_next ?_)
                      refine C_false rfl ?_
                      refine C_skip (X_next ?_)
                      refine C_seq ?_
                      refine C_region ?_
                      refine V_w0.q (QY_assign rfl) rfl ?_
                      refine V_nil (X_next ?_)
                      refine C_ret (?_)
                      refine X_ret1 rfl rfl (fun w hm => ?_)
                      exact ⟨_, fun h => (by omega), rfl, hm⟩

/-- What adjNodes asks: 'n + 1' borders, the targets within the nodes. -/
def AdjOK (nf no nc : Nat) (f o : Int → Int) : Prop :=
  1 ≤ (nf : Int) ∧ f 0 = 0 ∧ (∀ u, 0 ≤ u → u < (nf : Int) - 1 → f u ≤ f (u + 1)) ∧ f ((nf : Int) - 1) = no ∧ (nc : Int) = no ∧ (∀ e, 0 ≤ e → e < (no : Int) → 0 ≤ o e ∧ o e < (nf : Int) - 1)

theorem adj9 (w : World) (aF aO aC : Option Addr) (nf no nc cF cO cC : Nat) (f o : Int → Int) (hF' : RdW w (.slice aF nf cF) nf (ints .i32 f)) (hO' : RdW w (.slice aO no cO) no (ints .i32 o))
    (hFw : ∀ i, 0 ≤ i → i < (nf : Int) → -2147483648 ≤ f i ∧ f i ≤ 2147483647) (hOw : ∀ i, 0 ≤ i → i < (no : Int) → -2147483648 ≤ o i ∧ o i ≤ 2147483647) (hnf : (nf : Int) ≤ 1048576) (hno : (no : Int) ≤ 1048576) (hnc : (nc : Int) ≤ 1048576) :
    Calls Try.prog 9 #[.slice aF nf cF, .slice aO no cO, .slice aC nc cC] w fun e w' => ∃ y : Int, (y = -1 ∨ (y = (nf : Int) - 1 ∧ AdjOK nf no nc f o)) ∧ e = .returned (.int .i32 y) ∧ Mem (Old w) w [] w' := by
  have hF : ∀ H, Rd (Old w) w H (.slice aF nf cF) nf (ints .i32 f) := fun H => hF'.rd
  have hO : ∀ H, Rd (Old w) w H (.slice aO no cO) no (ints .i32 o) := fun H => hO'.rd
  refine enter (N := 70) (vs := [.slice aF nf cF, .slice aO no cO, .slice aC nc cC]) Try.func9 rfl Try.ntmps9 rfl ?_ w (Mem.start w)
  refine C_seq ?_
  refine C_region ?_
  refine V_w0.q (QY_assign rfl) rfl ?_
  refine V_nil (X_next ?_)
  refine C_seq ?_
  refine C_seq ?_
  refine C_region ?_
  refine V_w0.q (QY_move rfl) rfl ?_
  refine V_w0.q (QY_len sl22 rfl) rfl ?_
  refine W_lss V_w0 rfl rfl rfl (fun h13 => ?_) (fun h13 => ?_)
  ·
    refine V_w0.q (QY_move rfl) rfl ?_
    refine V_walk.no rfl rfl rfl ?_
    refine V_walk.no rfl rfl rfl ?_
    refine V_walk.no rfl rfl rfl ?_
    refine V_walk.no rfl rfl rfl ?_
    refine V_w0.q (QY_pick_true rfl rfl) rfl ?_
    refine V_nil (X_next ?_)
    refine C_true rfl ?_
    refine C_seq ?_
    refine C_region ?_
    refine V_w0.q (QY_assign rfl) rfl ?_
    refine V_nil (X_next ?_)
    refine C_ret (X_then_ret (?_))
    refine X_ret1 rfl rfl (fun w hm => ?_)
    first | exact ⟨_, .inl rfl, rfl, hm⟩ | exact ⟨_, .inr ⟨rfl, ⟨by omega, by omega, by intro u h0 h1; exact hmono u h0 (by omega), by omega, by omega, by intro i h0 h1; exact hoth i h0 (by omega)⟩⟩, rfl, hm⟩
  ·
    refine V_w0.q (QY_move rfl) rfl ?_
    refine V_walk.yes rfl rfl ?_
    refine V_w0.q (QY_move rfl) rfl ?_
    refine V_walk.yes rfl rfl ?_
    refine W_elem2 V_walk rfl (fun _ => rfl) rfl rfl (hF _) (by omega) (by omega) sl22 lf21 rfl rfl (fun _ => ?_)
    refine V_walk.yes rfl rfl ?_
    refine W_neq V_w0 rfl rfl rfl (fun h18 => ?_) (fun h18 => ?_)
    ·
      refine V_w0.q (QY_pick_false rfl rfl) rfl ?_
      refine V_nil (X_next ?_)
      refine C_true rfl ?_
      refine C_seq ?_
      refine C_region ?_
      refine V_w0.q (QY_assign rfl) rfl ?_
      refine V_nil (X_next ?_)
      refine C_ret (X_then_ret (?_))
      refine X_ret1 rfl rfl (fun w hm => ?_)
      first | exact ⟨_, .inl rfl, rfl, hm⟩ | exact ⟨_, .inr ⟨rfl, ⟨by omega, by omega, by intro u h0 h1; exact hmono u h0 (by omega), by omega, by omega, by intro i h0 h1; exact hoth i h0 (by omega)⟩⟩, rfl, hm⟩
    ·
      refine V_w0.q (QY_pick_false rfl rfl) rfl ?_
      refine V_nil (X_next ?_)
      refine C_false rfl ?_
      refine C_skip (X_next ?_)
      refine C_seq ?_
      refine C_region ?_
      refine V_w0.q (QY_move rfl) rfl ?_
      refine V_w0.q (QY_len sl22 rfl) rfl ?_
      refine V_w0.q (QY_arith rfl rfl rfl ⟨by omega, by omega⟩) rfl ?_
      refine V_w0.q (QY_assign rfl) rfl ?_
      refine V_nil (X_next ?_)
      refine C_seq ?_
      refine C_seq ?_
      refine C_region ?_
      refine V_w0.q (QY_assign rfl) rfl ?_
      refine V_nil (X_next ?_)
      refine C_block ?_
      refine C_loops (T := Int) (fun (k : Int) => [(0, .slice aF nf cF), (1, .slice aO no cO), (2, .slice aC nc cC), (7, .int .i64 ((nf : Int) - 1)), (8, .int .i64 k)]) (fun (k : Int) => []) (fun (k : Int) => 0 ≤ k ∧ k ≤ (nf : Int) - 1 ∧ ∀ u, 0 ≤ u → u < k → f u ≤ f (u + 1)) (fun (k : Int) => ((nf : Int) - k).toNat) 0 ?_ ?_ ?_ ?_
      · exact ⟨by omega, by omega, fun u h0 h1 => by omega⟩
      · exact ⟨rfl, rfl, rfl, rfl, rfl, trivial⟩
      · exact trivial
      rintro k ⟨hk0, hk1, hmono⟩
      show C _ _ _ _ _ _ [(0, .slice aF nf cF), (1, .slice aO no cO), (2, .slice aC nc cC), (7, .int .i64 ((nf : Int) - 1)), (8, .int .i64 k)] []
      refine C_seq ?_
      refine C_seq ?_
      refine C_region ?_
      refine V_w0.q (QY_move rfl) rfl ?_
      refine V_w0.q (QY_move rfl) rfl ?_
      refine W_lss V_w0 rfl rfl rfl (fun h25 => ?_) (fun h25 => ?_)
      ·
        refine V_nil (X_next ?_)
        refine C_true rfl ?_
        refine C_skip (X_next ?_)
        refine C_seq ?_
        refine C_block ?_
        refine C_seq ?_
        refine C_draw mix (by kernel_rfl) ?_
        refine S_w0.q (QY_move rfl) rfl ?_
        refine S_w0.q (QY_move rfl) rfl ?_
        refine S_w0.q (QY_arith rfl rfl rfl ⟨by omega, by omega⟩) rfl ?_
        refine W_elem S_w0 rfl rfl (hF _) (by omega) (by omega) sl22 lf21 rfl rfl (fun _ => ?_)
        refine S_w0.q (QY_move rfl) rfl ?_
        refine S_w0.q (QY_move rfl) rfl ?_
        refine W_elem S_w0 rfl rfl (hF _) (by omega) (by omega) sl22 lf21 rfl rfl (fun _ => ?_)
        refine W_lss S_w0 rfl rfl rfl (fun h37 => ?_) (fun h37 => ?_)
        ·
          refine S_nil (X_next ?_)
          refine C_true rfl ?_
          refine C_seq ?_
          refine C_region ?_
          refine V_w0.q (QY_assign rfl) rfl ?_
          refine V_nil (X_next ?_)
          refine C_ret (X_block_ret (X_then_ret (X_then_ret (X_block_ret (X_then_ret (?_))))))
          refine X_ret1 rfl rfl (fun w hm => ?_)
          first | exact ⟨_, .inl rfl, rfl, hm⟩ | exact ⟨_, .inr ⟨rfl, ⟨by omega, by omega, by intro u h0 h1; exact hmono u h0 (by omega), by omega, by omega, by intro i h0 h1; exact hoth i h0 (by omega)⟩⟩, rfl, hm⟩
        ·
          refine S_nil (X_next ?_)
          refine C_false rfl ?_
          refine C_skip (X_block (X_next ?_))
          refine C_region ?_
          refine V_w0.q (QY_move rfl) rfl ?_
          refine V_w0.q (QY_arith rfl rfl rfl ⟨by omega, by omega⟩) rfl ?_
          refine V_w0.q (QY_assign rfl) rfl ?_
          refine V_nil (X_then ?_)
          refine X_round (k + 1) ?_ ?_ ?_ ?_
          · refine ⟨by omega, by omega, fun u h0 h1 => ?_⟩
            by_cases e : u = k
            · subst e; omega
            · exact hmono u h0 (by omega)
          · show ((nf : Int) - (k + 1)).toNat < ((nf : Int) - k).toNat
            omega
          · exact ⟨rfl, rfl, rfl, rfl, rfl, trivial⟩
          · exact trivial
      ·
        refine V_nil (X_next ?_)
        refine C_false rfl ?_
        refine C_exit (X_then_exit (X_then_exit (X_block_exit (X_next ?_))))
        refine C_seq ?_
        refine C_seq ?_
        refine C_region ?_
        refine V_w0.q (QY_move rfl) rfl ?_
        refine V_w0.q (QY_move rfl) rfl ?_
        refine W_elem V_w0 rfl rfl (hF _) (by omega) (by omega) sl22 lf21 rfl rfl (fun _ => ?_)
        have hf1 := hFw (↑nf - 1) (by omega) (by omega)
        refine V_w0.q (QY_conv it21 it3 rfl ⟨by omega, by omega⟩) rfl ?_
        refine V_w0.q (QY_move rfl) rfl ?_
        refine V_w0.q (QY_len sl22 rfl) rfl ?_
        refine W_neq V_w0 rfl rfl rfl (fun h45 => ?_) (fun h45 => ?_)
        ·
          refine V_w0.q (QY_move rfl) rfl ?_
          refine V_walk.no rfl rfl rfl ?_
          refine V_walk.no rfl rfl rfl ?_
          refine V_walk.no rfl rfl rfl ?_
          refine V_walk.no rfl rfl rfl ?_
          refine V_walk.no rfl rfl rfl ?_
          refine V_w0.q (QY_pick_true rfl rfl) rfl ?_
          refine V_nil (X_next ?_)
          refine C_true rfl ?_
          refine C_seq ?_
          refine C_region ?_
          refine V_w0.q (QY_assign rfl) rfl ?_
          refine V_nil (X_next ?_)
          refine C_ret (X_then_ret (?_))
          refine X_ret1 rfl rfl (fun w hm => ?_)
          first | exact ⟨_, .inl rfl, rfl, hm⟩ | exact ⟨_, .inr ⟨rfl, ⟨by omega, by omega, by intro u h0 h1; exact hmono u h0 (by omega), by omega, by omega, by intro i h0 h1; exact hoth i h0 (by omega)⟩⟩, rfl, hm⟩
        ·
          refine V_w0.q (QY_move rfl) rfl ?_
          refine V_walk.yes rfl rfl ?_
          refine V_w0.q (QY_move rfl) rfl ?_
          refine V_walk.yes rfl rfl ?_
          refine V_w0.q (QY_len sl23 rfl) rfl ?_
          refine V_walk.yes rfl rfl ?_
          refine V_w0.q (QY_move rfl) rfl ?_
          refine V_walk.yes rfl rfl ?_
          refine V_w0.q (QY_len sl22 rfl) rfl ?_
          refine V_walk.yes rfl rfl ?_
          refine W_neq V_w0 rfl rfl rfl (fun h51 => ?_) (fun h51 => ?_)
          ·
            refine V_w0.q (QY_pick_false rfl rfl) rfl ?_
            refine V_nil (X_next ?_)
            refine C_true rfl ?_
            refine C_seq ?_
            refine C_region ?_
            refine V_w0.q (QY_assign rfl) rfl ?_
            refine V_nil (X_next ?_)
            refine C_ret (X_then_ret (?_))
            refine X_ret1 rfl rfl (fun w hm => ?_)
            first | exact ⟨_, .inl rfl, rfl, hm⟩ | exact ⟨_, .inr ⟨rfl, ⟨by omega, by omega, by intro u h0 h1; exact hmono u h0 (by omega), by omega, by omega, by intro i h0 h1; exact hoth i h0 (by omega)⟩⟩, rfl, hm⟩
          ·
            refine V_w0.q (QY_pick_false rfl rfl) rfl ?_
            refine V_nil (X_next ?_)
            refine C_false rfl ?_
            refine C_skip (X_next ?_)
            refine C_seq ?_
            refine C_seq ?_
            refine C_region ?_
            refine V_w0.q (QY_move rfl) rfl ?_
            refine V_w0.q (QY_len sl22 rfl) rfl ?_
            refine V_w0.q (QY_move rfl) rfl ?_
            refine V_nil (X_next ?_)
            refine C_block ?_
            refine C_loops (T := Int) (fun (k : Int) => [(53, .slice aO no cO), (54, .int .i64 (no : Int)), (7, .int .i64 ((nf : Int) - 1)), (55, .int .i64 k)]) (fun (k : Int) => []) (fun (k : Int) => 0 ≤ k ∧ k ≤ (no : Int) ∧ ∀ e, 0 ≤ e → e < k → 0 ≤ o e ∧ o e < (nf : Int) - 1) (fun (k : Int) => ((no : Int) - k).toNat) 0 ?_ ?_ ?_ ?_
            · exact ⟨by omega, by omega, fun u h0 h1 => by omega⟩
            · exact ⟨rfl, rfl, rfl, rfl, trivial⟩
            · exact trivial
            rintro k ⟨hj0, hj1, hoth⟩
            show C _ _ _ _ _ _ [(53, .slice aO no cO), (54, .int .i64 (no : Int)), (7, .int .i64 ((nf : Int) - 1)), (55, .int .i64 k)] []
            refine C_seq ?_
            refine C_region ?_
            refine W_lss V_w0 rfl rfl rfl (fun h56 => ?_) (fun h56 => ?_)
            ·
              refine V_nil (X_next ?_)
              refine C_seq ?_
              refine C_true rfl ?_
              refine C_skip (X_next ?_)
              refine C_seq ?_
              refine C_block ?_
              refine C_seq ?_
              refine C_region ?_
              refine W_elem V_w0 rfl rfl (hO _) (by omega) (by omega) sl22 lf21 rfl rfl (fun _ => ?_)
              refine V_w0.q (QY_assign rfl) rfl ?_
              refine V_nil (X_next ?_)
              refine C_seq ?_
              refine C_region ?_
              refine V_w0.q (QY_move rfl) rfl ?_
              have ho1 := hOw k (by omega) (by omega)
              refine W_lss V_w0 rfl rfl rfl (fun h60 => ?_) (fun h60 => ?_)
              ·
                refine V_w0.q (QY_move rfl) rfl ?_
                refine V_walk.no rfl rfl rfl ?_
                refine V_walk.no rfl rfl rfl ?_
                refine V_walk.no rfl rfl rfl ?_
                refine V_walk.no rfl rfl rfl ?_
                refine V_w0.q (QY_pick_true rfl rfl) rfl ?_
                refine V_nil (X_next ?_)
                refine C_true rfl ?_
                refine C_seq ?_
                refine C_region ?_
                refine V_w0.q (QY_assign rfl) rfl ?_
                refine V_nil (X_next ?_)
                refine C_ret (X_block_ret (X_then_ret (X_then_ret (X_block_ret (X_then_ret (?_))))))
                refine X_ret1 rfl rfl (fun w hm => ?_)
                first | exact ⟨_, .inl rfl, rfl, hm⟩ | exact ⟨_, .inr ⟨rfl, ⟨by omega, by omega, by intro u h0 h1; exact hmono u h0 (by omega), by omega, by omega, by intro i h0 h1; exact hoth i h0 (by omega)⟩⟩, rfl, hm⟩
              ·
                refine V_w0.q (QY_move rfl) rfl ?_
                refine V_walk.yes rfl rfl ?_
                refine V_w0.q (QY_move rfl) rfl ?_
                refine V_walk.yes rfl rfl ?_
                refine V_w0.q (QY_conv it21 it3 rfl ⟨by omega, by omega⟩) rfl ?_
                refine V_walk.yes rfl rfl ?_
                refine V_w0.q (QY_move rfl) rfl ?_
                refine V_walk.yes rfl rfl ?_
                refine W_geq V_w0 rfl rfl rfl (fun h65 => ?_) (fun h65 => ?_)
                ·
                  refine V_w0.q (QY_pick_false rfl rfl) rfl ?_
                  refine V_nil (X_next ?_)
                  refine C_true rfl ?_
                  refine C_seq ?_
                  refine C_region ?_
                  refine V_w0.q (QY_assign rfl) rfl ?_
                  refine V_nil (X_next ?_)
                  refine C_ret (X_block_ret (X_then_ret (X_then_ret (X_block_ret (X_then_ret (?_))))))
                  refine X_ret1 rfl rfl (fun w hm => ?_)
                  first | exact ⟨_, .inl rfl, rfl, hm⟩ | exact ⟨_, .inr ⟨rfl, ⟨by omega, by omega, by intro u h0 h1; exact hmono u h0 (by omega), by omega, by omega, by intro i h0 h1; exact hoth i h0 (by omega)⟩⟩, rfl, hm⟩
                ·
                  refine V_w0.q (QY_pick_false rfl rfl) rfl ?_
                  refine V_nil (X_next ?_)
                  refine C_false rfl ?_
                  refine C_skip (X_block (X_next ?_))
                  refine C_region ?_
                  refine V_w0.q (QY_arith rfl rfl rfl ⟨by omega, by omega⟩) rfl ?_
                  refine V_w0.q (QY_move rfl) rfl ?_
                  refine V_nil (X_then ?_)
                  refine X_round (k + 1) ?_ ?_ ?_ ?_
                  · refine ⟨by omega, by omega, fun u h0 h1 => ?_⟩
                    by_cases e : u = k
                    · subst e; omega
                    · exact hoth u h0 (by omega)
                  · show ((no : Int) - (k + 1)).toNat < ((no : Int) - k).toNat
                    omega
                  · exact ⟨rfl, rfl, rfl, rfl, trivial⟩
                  · exact trivial
            ·
              refine V_nil (X_next ?_)
              refine C_seq ?_
              refine C_false rfl ?_
              refine C_exit (X_then_exit (X_then_exit (X_block_exit (X_next ?_))))
              refine C_seq ?_
              refine C_region ?_
              refine V_w0.q (QY_move rfl) rfl ?_
              refine V_w0.q (QY_conv it3 it21 rfl ⟨by omega, by omega⟩) rfl ?_
              refine V_w0.q (QY_assign rfl) rfl ?_
              refine V_nil (X_next ?_)
              refine C_ret (?_)
              refine X_ret1 rfl rfl (fun w hm => ?_)
              first | exact ⟨_, .inl rfl, rfl, hm⟩ | exact ⟨_, .inr ⟨rfl, ⟨by omega, by omega, by intro u h0 h1; exact hmono u h0 (by omega), by omega, by omega, by intro i h0 h1; exact hoth i h0 (by omega)⟩⟩, rfl, hm⟩

end Go.Proofs.Qxb6001307a
