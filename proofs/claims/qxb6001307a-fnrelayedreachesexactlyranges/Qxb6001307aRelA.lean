/-
  OWN WORK (the rule applications laid by a program of our own, wip/gen). The small functions of the relayed laws.
-/
import Derived.Test.Qxb6001307aKitJ
import Derived.Test.Qxb6001307aTypes
import Derived.Test.Qxb6001307aPlainZ
namespace Go.Proofs.Qxb6001307a
open Go.RowKit
set_option linter.unusedSimpArgs false
set_option linter.unusedVariables false

/-- Rows of numbers: what is read of a slice of slices. -/
def RdR (w : World) (a : Option Addr) (n cap : Nat) (A : Int → Option Addr) (L C : Int → Nat) (Z : Int → Int → Int) : Prop :=
  RdW w (.slice a n cap) n (fun i => .slice (A i) (L i) (C i)) ∧ ∀ i, 0 ≤ i → i < (n : Int) → RdW w (.slice (A i) (L i) (C i)) (L i) (ints .i32 (Z i))
def tot (L : Int → Nat) (k : Int) : Int := sumF (fun i => ((L i : Nat) : Int)) k.toNat
theorem tot_zero (L : Int → Nat) : tot L 0 = 0 := rfl
theorem tot_succ (L : Int → Nat) {k : Int} (h : 0 ≤ k) : tot L (k + 1) = tot L k + (L k : Nat) := by
  unfold tot
  rw [show (k + 1).toNat = k.toNat + 1 from by omega, sumF, show ((k.toNat : Nat) : Int) = k from by omega]
theorem tot_nonneg (L : Int → Nat) (k : Int) : 0 ≤ tot L k := by
  have := sumF_bound (h := fun i => ((L i : Nat) : Int)) (lo := 0) (hi := (tot L k).natAbs + 1) (n := 0) (fun j a b => by omega)
  unfold tot
  generalize k.toNat = n
  induction n with
  | zero => simp [sumF]
  | succ n ih => simp only [sumF]; omega
theorem tot_mono (L : Int → Nat) {j k : Int} (h0 : 0 ≤ j) (h : j ≤ k) : tot L j ≤ tot L k := by
  obtain ⟨d, hd⟩ : ∃ d : Nat, k = j + d := ⟨(k - j).toNat, by omega⟩
  subst hd
  clear h
  induction d with
  | zero => simp
  | succ d ih => rw [show j + ((d + 1 : Nat) : Int) = (j + d) + 1 from by omega, tot_succ L (by omega)]; omega

theorem bytes21 (w : World) (aF aO aL aN aR aP aQ aT aH : Option Addr) (nf no nc nl ns np nq nt nh cF cO cL cN cR cP cQ cT cH : Nat) (A1 A2 : Int → Option Addr) (L1 C1 L2 C2 : Int → Nat) (hN : RdW w (.slice aN nl cN) nl (fun i => .slice (A1 i) (L1 i) (C1 i))) (hT : RdW w (.slice aT nt cT) nt (fun i => .slice (A2 i) (L2 i) (C2 i))) :
    Calls Try.prog 21 #[.slice aF nf cF, .slice aO no cO, .slice aL nc cL, .slice aN nl cN, .slice aR ns cR, .slice aP np cP, .slice aQ nq cQ, .slice aT nt cT, .slice aH nh cH] w fun e w' => ∃ y : Bool, True ∧ e = .returned (.bool y) ∧ Mem (Old w) w [] w' := by
  refine enter (N := 145) (vs := [.slice aF nf cF, .slice aO no cO, .slice aL nc cL, .slice aN nl cN, .slice aR ns cR, .slice aP np cP, .slice aQ nq cQ, .slice aT nt cT, .slice aH nh cH]) Try.func21 rfl Try.ntmps21 rfl ?_ w (Mem.start w)
  refine C_seq ?_
  refine C_region ?_
  refine V_w0.q (QY_assign rfl) rfl ?_
  refine V_nil (X_next ?_)
  refine C_seq ?_
  refine C_region ?_
  refine V_w0.q (QY_assign rfl) rfl ?_
  refine V_nil (X_next ?_)
  refine C_seq ?_
  refine C_seq ?_
  refine C_region ?_
  refine V_w0.q (QY_move rfl) rfl ?_
  refine V_w0.q (QY_len sl22 rfl) rfl ?_
  refine W_gtr V_w0 rfl rfl rfl (fun h24 => ?_) (fun h24 => ?_)
  ·
    refine V_nil (X_next ?_)
    refine C_true rfl ?_
    refine C_seq ?_
    refine C_region ?_
    refine V_w0.q (QY_assign rfl) rfl ?_
    refine V_nil (X_next ?_)
    refine C_ret (X_then_ret (?_))
    refine X_ret1 rfl rfl (fun w hm => ?_)
    exact ⟨_, trivial, rfl, hm⟩
  ·
    refine V_nil (X_next ?_)
    refine C_false rfl ?_
    refine C_skip (X_next ?_)
    refine C_seq ?_
    refine C_region ?_
    refine V_w0.q (QY_move rfl) rfl ?_
    refine V_w0.q (QY_move rfl) rfl ?_
    refine V_w0.q (QY_len sl22 rfl) rfl ?_
    refine V_w0.q (QY_arith rfl rfl rfl ⟨by omega, by omega⟩) rfl ?_
    refine V_w0.q (QY_assign rfl) rfl ?_
    refine V_nil (X_next ?_)
    refine C_seq ?_
    refine C_seq ?_
    refine C_region ?_
    refine V_w0.q (QY_move rfl) rfl ?_
    refine W_gtr V_w0 rfl rfl rfl (fun h30 => ?_) (fun h30 => ?_)
    ·
      refine V_nil (X_next ?_)
      refine C_true rfl ?_
      refine C_seq ?_
      refine C_region ?_
      refine V_w0.q (QY_assign rfl) rfl ?_
      refine V_nil (X_next ?_)
      refine C_ret (X_then_ret (?_))
      refine X_ret1 rfl rfl (fun w hm => ?_)
      exact ⟨_, trivial, rfl, hm⟩
    ·
      refine V_nil (X_next ?_)
      refine C_false rfl ?_
      refine C_skip (X_next ?_)
      refine C_seq ?_
      refine C_seq ?_
      refine C_region ?_
      refine V_w0.q (QY_move rfl) rfl ?_
      refine V_w0.q (QY_len sl22 rfl) rfl ?_
      refine W_gtr V_w0 rfl rfl rfl (fun h33 => ?_) (fun h33 => ?_)
      ·
        refine V_nil (X_next ?_)
        refine C_true rfl ?_
        refine C_seq ?_
        refine C_region ?_
        refine V_w0.q (QY_assign rfl) rfl ?_
        refine V_nil (X_next ?_)
        refine C_ret (X_then_ret (?_))
        refine X_ret1 rfl rfl (fun w hm => ?_)
        exact ⟨_, trivial, rfl, hm⟩
      ·
        refine V_nil (X_next ?_)
        refine C_false rfl ?_
        refine C_skip (X_next ?_)
        refine C_seq ?_
        refine C_region ?_
        refine V_w0.q (QY_move rfl) rfl ?_
        refine V_w0.q (QY_move rfl) rfl ?_
        refine V_w0.q (QY_len sl22 rfl) rfl ?_
        refine V_w0.q (QY_arith rfl rfl rfl ⟨by omega, by omega⟩) rfl ?_
        refine V_w0.q (QY_assign rfl) rfl ?_
        refine V_nil (X_next ?_)
        refine C_seq ?_
        refine C_seq ?_
        refine C_region ?_
        refine V_w0.q (QY_move rfl) rfl ?_
        refine W_gtr V_w0 rfl rfl rfl (fun h39 => ?_) (fun h39 => ?_)
        ·
          refine V_nil (X_next ?_)
          refine C_true rfl ?_
          refine C_seq ?_
          refine C_region ?_
          refine V_w0.q (QY_assign rfl) rfl ?_
          refine V_nil (X_next ?_)
          refine C_ret (X_then_ret (?_))
          refine X_ret1 rfl rfl (fun w hm => ?_)
          exact ⟨_, trivial, rfl, hm⟩
        ·
          refine V_nil (X_next ?_)
          refine C_false rfl ?_
          refine C_skip (X_next ?_)
          refine C_seq ?_
          refine C_seq ?_
          refine C_region ?_
          refine V_w0.q (QY_move rfl) rfl ?_
          refine V_w0.q (QY_len sl23 rfl) rfl ?_
          refine W_gtr V_w0 rfl rfl rfl (fun h42 => ?_) (fun h42 => ?_)
          ·
            refine V_nil (X_next ?_)
            refine C_true rfl ?_
            refine C_seq ?_
            refine C_region ?_
            refine V_w0.q (QY_assign rfl) rfl ?_
            refine V_nil (X_next ?_)
            refine C_ret (X_then_ret (?_))
            refine X_ret1 rfl rfl (fun w hm => ?_)
            exact ⟨_, trivial, rfl, hm⟩
          ·
            refine V_nil (X_next ?_)
            refine C_false rfl ?_
            refine C_skip (X_next ?_)
            refine C_seq ?_
            refine C_region ?_
            refine V_w0.q (QY_move rfl) rfl ?_
            refine V_w0.q (QY_move rfl) rfl ?_
            refine V_w0.q (QY_len sl23 rfl) rfl ?_
            refine V_w0.q (QY_arith rfl rfl rfl ⟨by omega, by omega⟩) rfl ?_
            refine V_w0.q (QY_assign rfl) rfl ?_
            refine V_nil (X_next ?_)
            refine C_seq ?_
            refine C_seq ?_
            refine C_region ?_
            refine V_w0.q (QY_move rfl) rfl ?_
            refine W_gtr V_w0 rfl rfl rfl (fun h48 => ?_) (fun h48 => ?_)
            ·
              refine V_nil (X_next ?_)
              refine C_true rfl ?_
              refine C_seq ?_
              refine C_region ?_
              refine V_w0.q (QY_assign rfl) rfl ?_
              refine V_nil (X_next ?_)
              refine C_ret (X_then_ret (?_))
              refine X_ret1 rfl rfl (fun w hm => ?_)
              exact ⟨_, trivial, rfl, hm⟩
            ·
              refine V_nil (X_next ?_)
              refine C_false rfl ?_
              refine C_skip (X_next ?_)
              refine C_seq ?_
              refine C_seq ?_
              refine C_region ?_
              refine V_w0.q (QY_move rfl) rfl ?_
              refine V_w0.q (QY_len sl42 rfl) rfl ?_
              refine W_gtr V_w0 rfl rfl rfl (fun h51 => ?_) (fun h51 => ?_)
              ·
                refine V_nil (X_next ?_)
                refine C_true rfl ?_
                refine C_seq ?_
                refine C_region ?_
                refine V_w0.q (QY_assign rfl) rfl ?_
                refine V_nil (X_next ?_)
                refine C_ret (X_then_ret (?_))
                refine X_ret1 rfl rfl (fun w hm => ?_)
                exact ⟨_, trivial, rfl, hm⟩
              ·
                refine V_nil (X_next ?_)
                refine C_false rfl ?_
                refine C_skip (X_next ?_)
                refine C_seq ?_
                refine C_region ?_
                refine V_w0.q (QY_move rfl) rfl ?_
                refine V_w0.q (QY_move rfl) rfl ?_
                refine V_w0.q (QY_len sl42 rfl) rfl ?_
                refine V_w0.q (QY_arith rfl rfl rfl ⟨by omega, by omega⟩) rfl ?_
                refine V_w0.q (QY_assign rfl) rfl ?_
                refine V_nil (X_next ?_)
                refine C_seq ?_
                refine C_seq ?_
                refine C_region ?_
                refine V_w0.q (QY_move rfl) rfl ?_
                refine W_gtr V_w0 rfl rfl rfl (fun h57 => ?_) (fun h57 => ?_)
                ·
                  refine V_nil (X_next ?_)
                  refine C_true rfl ?_
                  refine C_seq ?_
                  refine C_region ?_
                  refine V_w0.q (QY_assign rfl) rfl ?_
                  refine V_nil (X_next ?_)
                  refine C_ret (X_then_ret (?_))
                  refine X_ret1 rfl rfl (fun w hm => ?_)
                  exact ⟨_, trivial, rfl, hm⟩
                ·
                  refine V_nil (X_next ?_)
                  refine C_false rfl ?_
                  refine C_skip (X_next ?_)
                  refine C_seq ?_
                  refine C_seq ?_
                  refine C_region ?_
                  refine V_w0.q (QY_assign rfl) rfl ?_
                  refine V_nil (X_next ?_)
                  refine C_block ?_
                  refine C_loops (T := Int × Int) (fun (zz9 : Int × Int) => match zz9 with | (k, z) => [(0, .slice aF nf cF), (1, .slice aO no cO), (2, .slice aL nc cL), (3, .slice aN nl cN), (4, .slice aR ns cR), (5, .slice aP np cP), (6, .slice aQ nq cQ), (7, .slice aT nt cT), (8, .slice aH nh cH), (19, .int .i64 z), (20, .int .i64 k)]) (fun (zz9 : Int × Int) => match zz9 with | (k, z) => []) (fun (zz9 : Int × Int) => match zz9 with | (k, z) => 0 ≤ k ∧ k ≤ nl ∧ 0 ≤ z ∧ z ≤ 1048576) (fun (zz9 : Int × Int) => match zz9 with | (k, z) => ((nl : Int) - k).toNat) (0, 0 + (nf : Int) + no + nc + nl) ?_ ?_ ?_ ?_
                  · exact ⟨by omega, by omega, by omega, by omega⟩
                  · exact ⟨rfl, rfl, rfl, rfl, rfl, rfl, rfl, rfl, rfl, rfl, rfl, trivial⟩
                  · exact trivial
                  rintro ⟨k, z⟩ ⟨hk0, hk1, hz0, hz1⟩
                  show C _ _ _ _ _ _ [(0, .slice aF nf cF), (1, .slice aO no cO), (2, .slice aL nc cL), (3, .slice aN nl cN), (4, .slice aR ns cR), (5, .slice aP np cP), (6, .slice aQ nq cQ), (7, .slice aT nt cT), (8, .slice aH nh cH), (19, .int .i64 z), (20, .int .i64 k)] []
                  refine C_seq ?_
                  refine C_seq ?_
                  refine C_region ?_
                  refine V_w0.q (QY_move rfl) rfl ?_
                  refine V_w0.q (QY_move rfl) rfl ?_
                  refine V_w0.q (QY_len sl42 rfl) rfl ?_
                  refine W_lss V_w0 rfl rfl rfl (fun h61 => ?_) (fun h61 => ?_)
                  ·
                    refine V_nil (X_next ?_)
                    refine C_true rfl ?_
                    refine C_skip (X_next ?_)
                    refine C_seq ?_
                    refine C_block ?_
                    refine C_seq ?_
                    refine C_seq ?_
                    refine C_region ?_
                    refine V_w0.q (QY_move rfl) rfl ?_
                    refine V_w0.q (QY_move rfl) rfl ?_
                    refine W_elem V_w0 rfl rfl (hN.rd) (by omega) (by omega) sl42 lf22 rfl rfl (fun _ => ?_)
                    refine V_w0.q (QY_len sl22 rfl) rfl ?_
                    refine W_gtr V_w0 rfl rfl rfl (fun h69 => ?_) (fun h69 => ?_)
                    ·
                      refine V_nil (X_next ?_)
                      refine C_true rfl ?_
                      refine C_seq ?_
                      refine C_region ?_
                      refine V_w0.q (QY_assign rfl) rfl ?_
                      refine V_nil (X_next ?_)
                      refine C_ret (X_then_ret (X_block_ret (X_then_ret (X_then_ret (X_block_ret (X_then_ret (?_)))))))
                      refine X_ret1 rfl rfl (fun w hm => ?_)
                      exact ⟨_, trivial, rfl, hm⟩
                    ·
                      refine V_nil (X_next ?_)
                      refine C_false rfl ?_
                      refine C_skip (X_next ?_)
                      refine C_seq ?_
                      refine C_region ?_
                      refine V_w0.q (QY_move rfl) rfl ?_
                      refine V_w0.q (QY_move rfl) rfl ?_
                      refine V_w0.q (QY_move rfl) rfl ?_
                      refine W_elem V_w0 rfl rfl (hN.rd) (by omega) (by omega) sl42 lf22 rfl rfl (fun _ => ?_)
                      refine V_w0.q (QY_len sl22 rfl) rfl ?_
                      refine V_w0.q (QY_arith rfl rfl rfl ⟨by omega, by omega⟩) rfl ?_
                      refine V_w0.q (QY_assign rfl) rfl ?_
                      refine V_nil (X_next ?_)
                      refine C_seq ?_
                      refine C_region ?_
                      refine V_w0.q (QY_move rfl) rfl ?_
                      refine W_gtr V_w0 rfl rfl rfl (fun h78 => ?_) (fun h78 => ?_)
                      ·
                        refine V_nil (X_next ?_)
                        refine C_true rfl ?_
                        refine C_seq ?_
                        refine C_region ?_
                        refine V_w0.q (QY_assign rfl) rfl ?_
                        refine V_nil (X_next ?_)
                        refine C_ret (X_block_ret (X_then_ret (X_then_ret (X_block_ret (X_then_ret (?_))))))
                        refine X_ret1 rfl rfl (fun w hm => ?_)
                        exact ⟨_, trivial, rfl, hm⟩
                      ·
                        refine V_nil (X_next ?_)
                        refine C_false rfl ?_
                        refine C_skip (X_block (X_next ?_))
                        refine C_region ?_
                        refine V_w0.q (QY_move rfl) rfl ?_
                        refine V_w0.q (QY_arith rfl rfl rfl ⟨by omega, by omega⟩) rfl ?_
                        refine V_w0.q (QY_assign rfl) rfl ?_
                        refine V_nil (X_then ?_)
                        refine X_round (k + 1, z + (L1 k : Nat)) ?_ ?_ ?_ ?_
                        · exact ⟨by omega, by omega, by omega, by omega⟩
                        · show ((nl : Int) - (k + 1)).toNat < ((nl : Int) - k).toNat
                          omega
                        · exact ⟨rfl, rfl, rfl, rfl, rfl, rfl, rfl, rfl, rfl, rfl, rfl, trivial⟩
                        · exact trivial
                  ·
                    refine V_nil (X_next ?_)
                    refine C_false rfl ?_
                    refine C_exit (X_then_exit (X_then_exit (X_block_exit (X_next ?_))))
                    refine C_seq ?_
                    refine C_seq ?_
                    refine C_region ?_
                    refine V_w0.q (QY_move rfl) rfl ?_
                    refine V_w0.q (QY_len sl22 rfl) rfl ?_
                    refine W_gtr V_w0 rfl rfl rfl (fun h81 => ?_) (fun h81 => ?_)
                    ·
                      refine V_nil (X_next ?_)
                      refine C_true rfl ?_
                      refine C_seq ?_
                      refine C_region ?_
                      refine V_w0.q (QY_assign rfl) rfl ?_
                      refine V_nil (X_next ?_)
                      refine C_ret (X_then_ret (?_))
                      refine X_ret1 rfl rfl (fun w hm => ?_)
                      exact ⟨_, trivial, rfl, hm⟩
                    ·
                      refine V_nil (X_next ?_)
                      refine C_false rfl ?_
                      refine C_skip (X_next ?_)
                      refine C_seq ?_
                      refine C_region ?_
                      refine V_w0.q (QY_move rfl) rfl ?_
                      refine V_w0.q (QY_move rfl) rfl ?_
                      refine V_w0.q (QY_len sl22 rfl) rfl ?_
                      refine V_w0.q (QY_arith rfl rfl rfl ⟨by omega, by omega⟩) rfl ?_
                      refine V_w0.q (QY_assign rfl) rfl ?_
                      refine V_nil (X_next ?_)
                      refine C_seq ?_
                      refine C_seq ?_
                      refine C_region ?_
                      refine V_w0.q (QY_move rfl) rfl ?_
                      refine W_gtr V_w0 rfl rfl rfl (fun h87 => ?_) (fun h87 => ?_)
                      ·
                        refine V_nil (X_next ?_)
                        refine C_true rfl ?_
                        refine C_seq ?_
                        refine C_region ?_
                        refine V_w0.q (QY_assign rfl) rfl ?_
                        refine V_nil (X_next ?_)
                        refine C_ret (X_then_ret (?_))
                        refine X_ret1 rfl rfl (fun w hm => ?_)
                        exact ⟨_, trivial, rfl, hm⟩
                      ·
                        refine V_nil (X_next ?_)
                        refine C_false rfl ?_
                        refine C_skip (X_next ?_)
                        refine C_seq ?_
                        refine C_seq ?_
                        refine C_region ?_
                        refine V_w0.q (QY_move rfl) rfl ?_
                        refine V_w0.q (QY_len sl22 rfl) rfl ?_
                        refine W_gtr V_w0 rfl rfl rfl (fun h90 => ?_) (fun h90 => ?_)
                        ·
                          refine V_nil (X_next ?_)
                          refine C_true rfl ?_
                          refine C_seq ?_
                          refine C_region ?_
                          refine V_w0.q (QY_assign rfl) rfl ?_
                          refine V_nil (X_next ?_)
                          refine C_ret (X_then_ret (?_))
                          refine X_ret1 rfl rfl (fun w hm => ?_)
                          exact ⟨_, trivial, rfl, hm⟩
                        ·
                          refine V_nil (X_next ?_)
                          refine C_false rfl ?_
                          refine C_skip (X_next ?_)
                          refine C_seq ?_
                          refine C_region ?_
                          refine V_w0.q (QY_move rfl) rfl ?_
                          refine V_w0.q (QY_move rfl) rfl ?_
                          refine V_w0.q (QY_len sl22 rfl) rfl ?_
                          refine V_w0.q (QY_arith rfl rfl rfl ⟨by omega, by omega⟩) rfl ?_
                          refine V_w0.q (QY_assign rfl) rfl ?_
                          refine V_nil (X_next ?_)
                          refine C_seq ?_
                          refine C_seq ?_
                          refine C_region ?_
                          refine V_w0.q (QY_move rfl) rfl ?_
                          refine W_gtr V_w0 rfl rfl rfl (fun h96 => ?_) (fun h96 => ?_)
                          ·
                            refine V_nil (X_next ?_)
                            refine C_true rfl ?_
                            refine C_seq ?_
                            refine C_region ?_
                            refine V_w0.q (QY_assign rfl) rfl ?_
                            refine V_nil (X_next ?_)
                            refine C_ret (X_then_ret (?_))
                            refine X_ret1 rfl rfl (fun w hm => ?_)
                            exact ⟨_, trivial, rfl, hm⟩
                          ·
                            refine V_nil (X_next ?_)
                            refine C_false rfl ?_
                            refine C_skip (X_next ?_)
                            refine C_seq ?_
                            refine C_seq ?_
                            refine C_region ?_
                            refine V_w0.q (QY_move rfl) rfl ?_
                            refine V_w0.q (QY_len sl22 rfl) rfl ?_
                            refine W_gtr V_w0 rfl rfl rfl (fun h99 => ?_) (fun h99 => ?_)
                            ·
                              refine V_nil (X_next ?_)
                              refine C_true rfl ?_
                              refine C_seq ?_
                              refine C_region ?_
                              refine V_w0.q (QY_assign rfl) rfl ?_
                              refine V_nil (X_next ?_)
                              refine C_ret (X_then_ret (?_))
                              refine X_ret1 rfl rfl (fun w hm => ?_)
                              exact ⟨_, trivial, rfl, hm⟩
                            ·
                              refine V_nil (X_next ?_)
                              refine C_false rfl ?_
                              refine C_skip (X_next ?_)
                              refine C_seq ?_
                              refine C_region ?_
                              refine V_w0.q (QY_move rfl) rfl ?_
                              refine V_w0.q (QY_move rfl) rfl ?_
                              refine V_w0.q (QY_len sl22 rfl) rfl ?_
                              refine V_w0.q (QY_arith rfl rfl rfl ⟨by omega, by omega⟩) rfl ?_
                              refine V_w0.q (QY_assign rfl) rfl ?_
                              refine V_nil (X_next ?_)
                              refine C_seq ?_
                              refine C_seq ?_
                              refine C_region ?_
                              refine V_w0.q (QY_move rfl) rfl ?_
                              refine W_gtr V_w0 rfl rfl rfl (fun h105 => ?_) (fun h105 => ?_)
                              ·
                                refine V_nil (X_next ?_)
                                refine C_true rfl ?_
                                refine C_seq ?_
                                refine C_region ?_
                                refine V_w0.q (QY_assign rfl) rfl ?_
                                refine V_nil (X_next ?_)
                                refine C_ret (X_then_ret (?_))
                                refine X_ret1 rfl rfl (fun w hm => ?_)
                                exact ⟨_, trivial, rfl, hm⟩
                              ·
                                refine V_nil (X_next ?_)
                                refine C_false rfl ?_
                                refine C_skip (X_next ?_)
                                refine C_seq ?_
                                refine C_seq ?_
                                refine C_region ?_
                                refine V_w0.q (QY_move rfl) rfl ?_
                                refine V_w0.q (QY_len sl42 rfl) rfl ?_
                                refine W_gtr V_w0 rfl rfl rfl (fun h108 => ?_) (fun h108 => ?_)
                                ·
                                  refine V_nil (X_next ?_)
                                  refine C_true rfl ?_
                                  refine C_seq ?_
                                  refine C_region ?_
                                  refine V_w0.q (QY_assign rfl) rfl ?_
                                  refine V_nil (X_next ?_)
                                  refine C_ret (X_then_ret (?_))
                                  refine X_ret1 rfl rfl (fun w hm => ?_)
                                  exact ⟨_, trivial, rfl, hm⟩
                                ·
                                  refine V_nil (X_next ?_)
                                  refine C_false rfl ?_
                                  refine C_skip (X_next ?_)
                                  refine C_seq ?_
                                  refine C_region ?_
                                  refine V_w0.q (QY_move rfl) rfl ?_
                                  refine V_w0.q (QY_move rfl) rfl ?_
                                  refine V_w0.q (QY_len sl42 rfl) rfl ?_
                                  refine V_w0.q (QY_arith rfl rfl rfl ⟨by omega, by omega⟩) rfl ?_
                                  refine V_w0.q (QY_assign rfl) rfl ?_
                                  refine V_nil (X_next ?_)
                                  refine C_seq ?_
                                  refine C_seq ?_
                                  refine C_region ?_
                                  refine V_w0.q (QY_move rfl) rfl ?_
                                  refine W_gtr V_w0 rfl rfl rfl (fun h114 => ?_) (fun h114 => ?_)
                                  ·
                                    refine V_nil (X_next ?_)
                                    refine C_true rfl ?_
                                    refine C_seq ?_
                                    refine C_region ?_
                                    refine V_w0.q (QY_assign rfl) rfl ?_
                                    refine V_nil (X_next ?_)
                                    refine C_ret (X_then_ret (?_))
                                    refine X_ret1 rfl rfl (fun w hm => ?_)
                                    exact ⟨_, trivial, rfl, hm⟩
                                  ·
                                    refine V_nil (X_next ?_)
                                    refine C_false rfl ?_
                                    refine C_skip (X_next ?_)
                                    refine C_seq ?_
                                    refine C_seq ?_
                                    refine C_region ?_
                                    refine V_w0.q (QY_assign rfl) rfl ?_
                                    refine V_nil (X_next ?_)
                                    refine C_block ?_
                                    refine C_loops (T := Int × Int) (fun (zz9 : Int × Int) => match zz9 with | (k, z) => [(0, .slice aF nf cF), (1, .slice aO no cO), (2, .slice aL nc cL), (3, .slice aN nl cN), (4, .slice aR ns cR), (5, .slice aP np cP), (6, .slice aQ nq cQ), (7, .slice aT nt cT), (8, .slice aH nh cH), (19, .int .i64 z), (21, .int .i64 k)]) (fun (zz9 : Int × Int) => match zz9 with | (k, z) => []) (fun (zz9 : Int × Int) => match zz9 with | (k, z) => 0 ≤ k ∧ k ≤ nt ∧ 0 ≤ z ∧ z ≤ 1048576) (fun (zz9 : Int × Int) => match zz9 with | (k, z) => ((nt : Int) - k).toNat) (0, z + (ns : Int) + np + nq + nt) ?_ ?_ ?_ ?_
                                    · exact ⟨by omega, by omega, by omega, by omega⟩
                                    · exact ⟨rfl, rfl, rfl, rfl, rfl, rfl, rfl, rfl, rfl, rfl, rfl, trivial⟩
                                    · exact trivial
                                    rintro ⟨k, z⟩ ⟨hj0, hj1, hy0, hy1⟩
                                    show C _ _ _ _ _ _ [(0, .slice aF nf cF), (1, .slice aO no cO), (2, .slice aL nc cL), (3, .slice aN nl cN), (4, .slice aR ns cR), (5, .slice aP np cP), (6, .slice aQ nq cQ), (7, .slice aT nt cT), (8, .slice aH nh cH), (19, .int .i64 z), (21, .int .i64 k)] []
                                    refine C_seq ?_
                                    refine C_seq ?_
                                    refine C_region ?_
                                    refine V_w0.q (QY_move rfl) rfl ?_
                                    refine V_w0.q (QY_move rfl) rfl ?_
                                    refine V_w0.q (QY_len sl42 rfl) rfl ?_
                                    refine W_lss V_w0 rfl rfl rfl (fun h118 => ?_) (fun h118 => ?_)
                                    ·
                                      refine V_nil (X_next ?_)
                                      refine C_true rfl ?_
                                      refine C_skip (X_next ?_)
                                      refine C_seq ?_
                                      refine C_block ?_
                                      refine C_seq ?_
                                      refine C_seq ?_
                                      refine C_region ?_
                                      refine V_w0.q (QY_move rfl) rfl ?_
                                      refine V_w0.q (QY_move rfl) rfl ?_
                                      refine W_elem V_w0 rfl rfl (hT.rd) (by omega) (by omega) sl42 lf22 rfl rfl (fun _ => ?_)
                                      refine V_w0.q (QY_len sl22 rfl) rfl ?_
                                      refine W_gtr V_w0 rfl rfl rfl (fun h126 => ?_) (fun h126 => ?_)
                                      ·
                                        refine V_nil (X_next ?_)
                                        refine C_true rfl ?_
                                        refine C_seq ?_
                                        refine C_region ?_
                                        refine V_w0.q (QY_assign rfl) rfl ?_
                                        refine V_nil (X_next ?_)
                                        refine C_ret (X_then_ret (X_block_ret (X_then_ret (X_then_ret (X_block_ret (X_then_ret (?_)))))))
                                        refine X_ret1 rfl rfl (fun w hm => ?_)
                                        exact ⟨_, trivial, rfl, hm⟩
                                      ·
                                        refine V_nil (X_next ?_)
                                        refine C_false rfl ?_
                                        refine C_skip (X_next ?_)
                                        refine C_seq ?_
                                        refine C_region ?_
                                        refine V_w0.q (QY_move rfl) rfl ?_
                                        refine V_w0.q (QY_move rfl) rfl ?_
                                        refine V_w0.q (QY_move rfl) rfl ?_
                                        refine W_elem V_w0 rfl rfl (hT.rd) (by omega) (by omega) sl42 lf22 rfl rfl (fun _ => ?_)
                                        refine V_w0.q (QY_len sl22 rfl) rfl ?_
                                        refine V_w0.q (QY_arith rfl rfl rfl ⟨by omega, by omega⟩) rfl ?_
                                        refine V_w0.q (QY_assign rfl) rfl ?_
                                        refine V_nil (X_next ?_)
                                        refine C_seq ?_
                                        refine C_region ?_
                                        refine V_w0.q (QY_move rfl) rfl ?_
                                        refine W_gtr V_w0 rfl rfl rfl (fun h135 => ?_) (fun h135 => ?_)
                                        ·
                                          refine V_nil (X_next ?_)
                                          refine C_true rfl ?_
                                          refine C_seq ?_
                                          refine C_region ?_
                                          refine V_w0.q (QY_assign rfl) rfl ?_
                                          refine V_nil (X_next ?_)
                                          refine C_ret (X_block_ret (X_then_ret (X_then_ret (X_block_ret (X_then_ret (?_))))))
                                          refine X_ret1 rfl rfl (fun w hm => ?_)
                                          exact ⟨_, trivial, rfl, hm⟩
                                        ·
                                          refine V_nil (X_next ?_)
                                          refine C_false rfl ?_
                                          refine C_skip (X_block (X_next ?_))
                                          refine C_region ?_
                                          refine V_w0.q (QY_move rfl) rfl ?_
                                          refine V_w0.q (QY_arith rfl rfl rfl ⟨by omega, by omega⟩) rfl ?_
                                          refine V_w0.q (QY_assign rfl) rfl ?_
                                          refine V_nil (X_then ?_)
                                          refine X_round (k + 1, z + (L2 k : Nat)) ?_ ?_ ?_ ?_
                                          · exact ⟨by omega, by omega, by omega, by omega⟩
                                          · show ((nt : Int) - (k + 1)).toNat < ((nt : Int) - k).toNat
                                            omega
                                          · exact ⟨rfl, rfl, rfl, rfl, rfl, rfl, rfl, rfl, rfl, rfl, rfl, trivial⟩
                                          · exact trivial
                                    ·
                                      refine V_nil (X_next ?_)
                                      refine C_false rfl ?_
                                      refine C_exit (X_then_exit (X_then_exit (X_block_exit (X_next ?_))))
                                      refine C_seq ?_
                                      refine C_seq ?_
                                      refine C_region ?_
                                      refine V_w0.q (QY_move rfl) rfl ?_
                                      refine V_w0.q (QY_len sl26 rfl) rfl ?_
                                      refine W_gtr V_w0 rfl rfl rfl (fun h138 => ?_) (fun h138 => ?_)
                                      ·
                                        refine V_nil (X_next ?_)
                                        refine C_true rfl ?_
                                        refine C_seq ?_
                                        refine C_region ?_
                                        refine V_w0.q (QY_assign rfl) rfl ?_
                                        refine V_nil (X_next ?_)
                                        refine C_ret (X_then_ret (?_))
                                        refine X_ret1 rfl rfl (fun w hm => ?_)
                                        exact ⟨_, trivial, rfl, hm⟩
                                      ·
                                        refine V_nil (X_next ?_)
                                        refine C_false rfl ?_
                                        refine C_skip (X_next ?_)
                                        refine C_seq ?_
                                        refine C_region ?_
                                        refine V_w0.q (QY_move rfl) rfl ?_
                                        refine V_w0.q (QY_move rfl) rfl ?_
                                        refine V_w0.q (QY_len sl26 rfl) rfl ?_
                                        refine V_w0.q (QY_arith rfl rfl rfl ⟨by omega, by omega⟩) rfl ?_
                                        refine V_w0.q (QY_assign rfl) rfl ?_
                                        refine V_nil (X_next ?_)
                                        refine C_seq ?_
                                        refine C_seq ?_
                                        refine C_region ?_
                                        refine V_w0.q (QY_move rfl) rfl ?_
                                        refine W_gtr V_w0 rfl rfl rfl (fun h144 => ?_) (fun h144 => ?_)
                                        ·
                                          refine V_nil (X_next ?_)
                                          refine C_true rfl ?_
                                          refine C_seq ?_
                                          refine C_region ?_
                                          refine V_w0.q (QY_assign rfl) rfl ?_
                                          refine V_nil (X_next ?_)
                                          refine C_ret (X_then_ret (?_))
                                          refine X_ret1 rfl rfl (fun w hm => ?_)
                                          exact ⟨_, trivial, rfl, hm⟩
                                        ·
                                          refine V_nil (X_next ?_)
                                          refine C_false rfl ?_
                                          refine C_skip (X_next ?_)
                                          refine C_seq ?_
                                          refine C_region ?_
                                          refine V_w0.q (QY_assign rfl) rfl ?_
                                          refine V_nil (X_next ?_)
                                          refine C_ret (?_)
                                          refine X_ret1 rfl rfl (fun w hm => ?_)
                                          exact ⟨_, trivial, rfl, hm⟩

theorem bytes29 (w : World) (aF aO aL aN aR aP aQ aT aH : Option Addr) (nf no nc nl ns np nq nt nh cF cO cL cN cR cP cQ cT cH : Nat) (A1 A2 : Int → Option Addr) (L1 C1 L2 C2 : Int → Nat) (hN : RdW w (.slice aN nl cN) nl (fun i => .slice (A1 i) (L1 i) (C1 i))) (hT : RdW w (.slice aT nt cT) nt (fun i => .slice (A2 i) (L2 i) (C2 i))) :
    Calls Try.prog 29 #[.slice aF nf cF, .slice aO no cO, .slice aL nc cL, .slice aN nl cN, .slice aR ns cR, .slice aP np cP, .slice aQ nq cQ, .slice aT nt cT, .slice aH nh cH] w fun e w' => ∃ y : Bool, True ∧ e = .returned (.bool y) ∧ Mem (Old w) w [] w' := by
  refine enter (N := 145) (vs := [.slice aF nf cF, .slice aO no cO, .slice aL nc cL, .slice aN nl cN, .slice aR ns cR, .slice aP np cP, .slice aQ nq cQ, .slice aT nt cT, .slice aH nh cH]) Try.func29 rfl Try.ntmps29 rfl ?_ w (Mem.start w)
  refine C_seq ?_
  refine C_region ?_
  refine V_w0.q (QY_assign rfl) rfl ?_
  refine V_nil (X_next ?_)
  refine C_seq ?_
  refine C_region ?_
  refine V_w0.q (QY_assign rfl) rfl ?_
  refine V_nil (X_next ?_)
  refine C_seq ?_
  refine C_seq ?_
  refine C_region ?_
  refine V_w0.q (QY_move rfl) rfl ?_
  refine V_w0.q (QY_len sl22 rfl) rfl ?_
  refine W_gtr V_w0 rfl rfl rfl (fun h24 => ?_) (fun h24 => ?_)
  ·
    refine V_nil (X_next ?_)
    refine C_true rfl ?_
    refine C_seq ?_
    refine C_region ?_
    refine V_w0.q (QY_assign rfl) rfl ?_
    refine V_nil (X_next ?_)
    refine C_ret (X_then_ret (?_))
    refine X_ret1 rfl rfl (fun w hm => ?_)
    exact ⟨_, trivial, rfl, hm⟩
  ·
    refine V_nil (X_next ?_)
    refine C_false rfl ?_
    refine C_skip (X_next ?_)
    refine C_seq ?_
    refine C_region ?_
    refine V_w0.q (QY_move rfl) rfl ?_
    refine V_w0.q (QY_move rfl) rfl ?_
    refine V_w0.q (QY_len sl22 rfl) rfl ?_
    refine V_w0.q (QY_arith rfl rfl rfl ⟨by omega, by omega⟩) rfl ?_
    refine V_w0.q (QY_assign rfl) rfl ?_
    refine V_nil (X_next ?_)
    refine C_seq ?_
    refine C_seq ?_
    refine C_region ?_
    refine V_w0.q (QY_move rfl) rfl ?_
    refine W_gtr V_w0 rfl rfl rfl (fun h30 => ?_) (fun h30 => ?_)
    ·
      refine V_nil (X_next ?_)
      refine C_true rfl ?_
      refine C_seq ?_
      refine C_region ?_
      refine V_w0.q (QY_assign rfl) rfl ?_
      refine V_nil (X_next ?_)
      refine C_ret (X_then_ret (?_))
      refine X_ret1 rfl rfl (fun w hm => ?_)
      exact ⟨_, trivial, rfl, hm⟩
    ·
      refine V_nil (X_next ?_)
      refine C_false rfl ?_
      refine C_skip (X_next ?_)
      refine C_seq ?_
      refine C_seq ?_
      refine C_region ?_
      refine V_w0.q (QY_move rfl) rfl ?_
      refine V_w0.q (QY_len sl22 rfl) rfl ?_
      refine W_gtr V_w0 rfl rfl rfl (fun h33 => ?_) (fun h33 => ?_)
      ·
        refine V_nil (X_next ?_)
        refine C_true rfl ?_
        refine C_seq ?_
        refine C_region ?_
        refine V_w0.q (QY_assign rfl) rfl ?_
        refine V_nil (X_next ?_)
        refine C_ret (X_then_ret (?_))
        refine X_ret1 rfl rfl (fun w hm => ?_)
        exact ⟨_, trivial, rfl, hm⟩
      ·
        refine V_nil (X_next ?_)
        refine C_false rfl ?_
        refine C_skip (X_next ?_)
        refine C_seq ?_
        refine C_region ?_
        refine V_w0.q (QY_move rfl) rfl ?_
        refine V_w0.q (QY_move rfl) rfl ?_
        refine V_w0.q (QY_len sl22 rfl) rfl ?_
        refine V_w0.q (QY_arith rfl rfl rfl ⟨by omega, by omega⟩) rfl ?_
        refine V_w0.q (QY_assign rfl) rfl ?_
        refine V_nil (X_next ?_)
        refine C_seq ?_
        refine C_seq ?_
        refine C_region ?_
        refine V_w0.q (QY_move rfl) rfl ?_
        refine W_gtr V_w0 rfl rfl rfl (fun h39 => ?_) (fun h39 => ?_)
        ·
          refine V_nil (X_next ?_)
          refine C_true rfl ?_
          refine C_seq ?_
          refine C_region ?_
          refine V_w0.q (QY_assign rfl) rfl ?_
          refine V_nil (X_next ?_)
          refine C_ret (X_then_ret (?_))
          refine X_ret1 rfl rfl (fun w hm => ?_)
          exact ⟨_, trivial, rfl, hm⟩
        ·
          refine V_nil (X_next ?_)
          refine C_false rfl ?_
          refine C_skip (X_next ?_)
          refine C_seq ?_
          refine C_seq ?_
          refine C_region ?_
          refine V_w0.q (QY_move rfl) rfl ?_
          refine V_w0.q (QY_len sl23 rfl) rfl ?_
          refine W_gtr V_w0 rfl rfl rfl (fun h42 => ?_) (fun h42 => ?_)
          ·
            refine V_nil (X_next ?_)
            refine C_true rfl ?_
            refine C_seq ?_
            refine C_region ?_
            refine V_w0.q (QY_assign rfl) rfl ?_
            refine V_nil (X_next ?_)
            refine C_ret (X_then_ret (?_))
            refine X_ret1 rfl rfl (fun w hm => ?_)
            exact ⟨_, trivial, rfl, hm⟩
          ·
            refine V_nil (X_next ?_)
            refine C_false rfl ?_
            refine C_skip (X_next ?_)
            refine C_seq ?_
            refine C_region ?_
            refine V_w0.q (QY_move rfl) rfl ?_
            refine V_w0.q (QY_move rfl) rfl ?_
            refine V_w0.q (QY_len sl23 rfl) rfl ?_
            refine V_w0.q (QY_arith rfl rfl rfl ⟨by omega, by omega⟩) rfl ?_
            refine V_w0.q (QY_assign rfl) rfl ?_
            refine V_nil (X_next ?_)
            refine C_seq ?_
            refine C_seq ?_
            refine C_region ?_
            refine V_w0.q (QY_move rfl) rfl ?_
            refine W_gtr V_w0 rfl rfl rfl (fun h48 => ?_) (fun h48 => ?_)
            ·
              refine V_nil (X_next ?_)
              refine C_true rfl ?_
              refine C_seq ?_
              refine C_region ?_
              refine V_w0.q (QY_assign rfl) rfl ?_
              refine V_nil (X_next ?_)
              refine C_ret (X_then_ret (?_))
              refine X_ret1 rfl rfl (fun w hm => ?_)
              exact ⟨_, trivial, rfl, hm⟩
            ·
              refine V_nil (X_next ?_)
              refine C_false rfl ?_
              refine C_skip (X_next ?_)
              refine C_seq ?_
              refine C_seq ?_
              refine C_region ?_
              refine V_w0.q (QY_move rfl) rfl ?_
              refine V_w0.q (QY_len sl42 rfl) rfl ?_
              refine W_gtr V_w0 rfl rfl rfl (fun h51 => ?_) (fun h51 => ?_)
              ·
                refine V_nil (X_next ?_)
                refine C_true rfl ?_
                refine C_seq ?_
                refine C_region ?_
                refine V_w0.q (QY_assign rfl) rfl ?_
                refine V_nil (X_next ?_)
                refine C_ret (X_then_ret (?_))
                refine X_ret1 rfl rfl (fun w hm => ?_)
                exact ⟨_, trivial, rfl, hm⟩
              ·
                refine V_nil (X_next ?_)
                refine C_false rfl ?_
                refine C_skip (X_next ?_)
                refine C_seq ?_
                refine C_region ?_
                refine V_w0.q (QY_move rfl) rfl ?_
                refine V_w0.q (QY_move rfl) rfl ?_
                refine V_w0.q (QY_len sl42 rfl) rfl ?_
                refine V_w0.q (QY_arith rfl rfl rfl ⟨by omega, by omega⟩) rfl ?_
                refine V_w0.q (QY_assign rfl) rfl ?_
                refine V_nil (X_next ?_)
                refine C_seq ?_
                refine C_seq ?_
                refine C_region ?_
                refine V_w0.q (QY_move rfl) rfl ?_
                refine W_gtr V_w0 rfl rfl rfl (fun h57 => ?_) (fun h57 => ?_)
                ·
                  refine V_nil (X_next ?_)
                  refine C_true rfl ?_
                  refine C_seq ?_
                  refine C_region ?_
                  refine V_w0.q (QY_assign rfl) rfl ?_
                  refine V_nil (X_next ?_)
                  refine C_ret (X_then_ret (?_))
                  refine X_ret1 rfl rfl (fun w hm => ?_)
                  exact ⟨_, trivial, rfl, hm⟩
                ·
                  refine V_nil (X_next ?_)
                  refine C_false rfl ?_
                  refine C_skip (X_next ?_)
                  refine C_seq ?_
                  refine C_seq ?_
                  refine C_region ?_
                  refine V_w0.q (QY_assign rfl) rfl ?_
                  refine V_nil (X_next ?_)
                  refine C_block ?_
                  refine C_loops (T := Int × Int) (fun (zz9 : Int × Int) => match zz9 with | (k, z) => [(0, .slice aF nf cF), (1, .slice aO no cO), (2, .slice aL nc cL), (3, .slice aN nl cN), (4, .slice aR ns cR), (5, .slice aP np cP), (6, .slice aQ nq cQ), (7, .slice aT nt cT), (8, .slice aH nh cH), (19, .int .i64 z), (20, .int .i64 k)]) (fun (zz9 : Int × Int) => match zz9 with | (k, z) => []) (fun (zz9 : Int × Int) => match zz9 with | (k, z) => 0 ≤ k ∧ k ≤ nl ∧ 0 ≤ z ∧ z ≤ 1048576) (fun (zz9 : Int × Int) => match zz9 with | (k, z) => ((nl : Int) - k).toNat) (0, 0 + (nf : Int) + no + nc + nl) ?_ ?_ ?_ ?_
                  · exact ⟨by omega, by omega, by omega, by omega⟩
                  · exact ⟨rfl, rfl, rfl, rfl, rfl, rfl, rfl, rfl, rfl, rfl, rfl, trivial⟩
                  · exact trivial
                  rintro ⟨k, z⟩ ⟨hk0, hk1, hz0, hz1⟩
                  show C _ _ _ _ _ _ [(0, .slice aF nf cF), (1, .slice aO no cO), (2, .slice aL nc cL), (3, .slice aN nl cN), (4, .slice aR ns cR), (5, .slice aP np cP), (6, .slice aQ nq cQ), (7, .slice aT nt cT), (8, .slice aH nh cH), (19, .int .i64 z), (20, .int .i64 k)] []
                  refine C_seq ?_
                  refine C_seq ?_
                  refine C_region ?_
                  refine V_w0.q (QY_move rfl) rfl ?_
                  refine V_w0.q (QY_move rfl) rfl ?_
                  refine V_w0.q (QY_len sl42 rfl) rfl ?_
                  refine W_lss V_w0 rfl rfl rfl (fun h61 => ?_) (fun h61 => ?_)
                  ·
                    refine V_nil (X_next ?_)
                    refine C_true rfl ?_
                    refine C_skip (X_next ?_)
                    refine C_seq ?_
                    refine C_block ?_
                    refine C_seq ?_
                    refine C_seq ?_
                    refine C_region ?_
                    refine V_w0.q (QY_move rfl) rfl ?_
                    refine V_w0.q (QY_move rfl) rfl ?_
                    refine W_elem V_w0 rfl rfl (hN.rd) (by omega) (by omega) sl42 lf22 rfl rfl (fun _ => ?_)
                    refine V_w0.q (QY_len sl22 rfl) rfl ?_
                    refine W_gtr V_w0 rfl rfl rfl (fun h69 => ?_) (fun h69 => ?_)
                    ·
                      refine V_nil (X_next ?_)
                      refine C_true rfl ?_
                      refine C_seq ?_
                      refine C_region ?_
                      refine V_w0.q (QY_assign rfl) rfl ?_
                      refine V_nil (X_next ?_)
                      refine C_ret (X_then_ret (X_block_ret (X_then_ret (X_then_ret (X_block_ret (X_then_ret (?_)))))))
                      refine X_ret1 rfl rfl (fun w hm => ?_)
                      exact ⟨_, trivial, rfl, hm⟩
                    ·
                      refine V_nil (X_next ?_)
                      refine C_false rfl ?_
                      refine C_skip (X_next ?_)
                      refine C_seq ?_
                      refine C_region ?_
                      refine V_w0.q (QY_move rfl) rfl ?_
                      refine V_w0.q (QY_move rfl) rfl ?_
                      refine V_w0.q (QY_move rfl) rfl ?_
                      refine W_elem V_w0 rfl rfl (hN.rd) (by omega) (by omega) sl42 lf22 rfl rfl (fun _ => ?_)
                      refine V_w0.q (QY_len sl22 rfl) rfl ?_
                      refine V_w0.q (QY_arith rfl rfl rfl ⟨by omega, by omega⟩) rfl ?_
                      refine V_w0.q (QY_assign rfl) rfl ?_
                      refine V_nil (X_next ?_)
                      refine C_seq ?_
                      refine C_region ?_
                      refine V_w0.q (QY_move rfl) rfl ?_
                      refine W_gtr V_w0 rfl rfl rfl (fun h78 => ?_) (fun h78 => ?_)
                      ·
                        refine V_nil (X_next ?_)
                        refine C_true rfl ?_
                        refine C_seq ?_
                        refine C_region ?_
                        refine V_w0.q (QY_assign rfl) rfl ?_
                        refine V_nil (X_next ?_)
                        refine C_ret (X_block_ret (X_then_ret (X_then_ret (X_block_ret (X_then_ret (?_))))))
                        refine X_ret1 rfl rfl (fun w hm => ?_)
                        exact ⟨_, trivial, rfl, hm⟩
                      ·
                        refine V_nil (X_next ?_)
                        refine C_false rfl ?_
                        refine C_skip (X_block (X_next ?_))
                        refine C_region ?_
                        refine V_w0.q (QY_move rfl) rfl ?_
                        refine V_w0.q (QY_arith rfl rfl rfl ⟨by omega, by omega⟩) rfl ?_
                        refine V_w0.q (QY_assign rfl) rfl ?_
                        refine V_nil (X_then ?_)
                        refine X_round (k + 1, z + (L1 k : Nat)) ?_ ?_ ?_ ?_
                        · exact ⟨by omega, by omega, by omega, by omega⟩
                        · show ((nl : Int) - (k + 1)).toNat < ((nl : Int) - k).toNat
                          omega
                        · exact ⟨rfl, rfl, rfl, rfl, rfl, rfl, rfl, rfl, rfl, rfl, rfl, trivial⟩
                        · exact trivial
                  ·
                    refine V_nil (X_next ?_)
                    refine C_false rfl ?_
                    refine C_exit (X_then_exit (X_then_exit (X_block_exit (X_next ?_))))
                    refine C_seq ?_
                    refine C_seq ?_
                    refine C_region ?_
                    refine V_w0.q (QY_move rfl) rfl ?_
                    refine V_w0.q (QY_len sl22 rfl) rfl ?_
                    refine W_gtr V_w0 rfl rfl rfl (fun h81 => ?_) (fun h81 => ?_)
                    ·
                      refine V_nil (X_next ?_)
                      refine C_true rfl ?_
                      refine C_seq ?_
                      refine C_region ?_
                      refine V_w0.q (QY_assign rfl) rfl ?_
                      refine V_nil (X_next ?_)
                      refine C_ret (X_then_ret (?_))
                      refine X_ret1 rfl rfl (fun w hm => ?_)
                      exact ⟨_, trivial, rfl, hm⟩
                    ·
                      refine V_nil (X_next ?_)
                      refine C_false rfl ?_
                      refine C_skip (X_next ?_)
                      refine C_seq ?_
                      refine C_region ?_
                      refine V_w0.q (QY_move rfl) rfl ?_
                      refine V_w0.q (QY_move rfl) rfl ?_
                      refine V_w0.q (QY_len sl22 rfl) rfl ?_
                      refine V_w0.q (QY_arith rfl rfl rfl ⟨by omega, by omega⟩) rfl ?_
                      refine V_w0.q (QY_assign rfl) rfl ?_
                      refine V_nil (X_next ?_)
                      refine C_seq ?_
                      refine C_seq ?_
                      refine C_region ?_
                      refine V_w0.q (QY_move rfl) rfl ?_
                      refine W_gtr V_w0 rfl rfl rfl (fun h87 => ?_) (fun h87 => ?_)
                      ·
                        refine V_nil (X_next ?_)
                        refine C_true rfl ?_
                        refine C_seq ?_
                        refine C_region ?_
                        refine V_w0.q (QY_assign rfl) rfl ?_
                        refine V_nil (X_next ?_)
                        refine C_ret (X_then_ret (?_))
                        refine X_ret1 rfl rfl (fun w hm => ?_)
                        exact ⟨_, trivial, rfl, hm⟩
                      ·
                        refine V_nil (X_next ?_)
                        refine C_false rfl ?_
                        refine C_skip (X_next ?_)
                        refine C_seq ?_
                        refine C_seq ?_
                        refine C_region ?_
                        refine V_w0.q (QY_move rfl) rfl ?_
                        refine V_w0.q (QY_len sl22 rfl) rfl ?_
                        refine W_gtr V_w0 rfl rfl rfl (fun h90 => ?_) (fun h90 => ?_)
                        ·
                          refine V_nil (X_next ?_)
                          refine C_true rfl ?_
                          refine C_seq ?_
                          refine C_region ?_
                          refine V_w0.q (QY_assign rfl) rfl ?_
                          refine V_nil (X_next ?_)
                          refine C_ret (X_then_ret (?_))
                          refine X_ret1 rfl rfl (fun w hm => ?_)
                          exact ⟨_, trivial, rfl, hm⟩
                        ·
                          refine V_nil (X_next ?_)
                          refine C_false rfl ?_
                          refine C_skip (X_next ?_)
                          refine C_seq ?_
                          refine C_region ?_
                          refine V_w0.q (QY_move rfl) rfl ?_
                          refine V_w0.q (QY_move rfl) rfl ?_
                          refine V_w0.q (QY_len sl22 rfl) rfl ?_
                          refine V_w0.q (QY_arith rfl rfl rfl ⟨by omega, by omega⟩) rfl ?_
                          refine V_w0.q (QY_assign rfl) rfl ?_
                          refine V_nil (X_next ?_)
                          refine C_seq ?_
                          refine C_seq ?_
                          refine C_region ?_
                          refine V_w0.q (QY_move rfl) rfl ?_
                          refine W_gtr V_w0 rfl rfl rfl (fun h96 => ?_) (fun h96 => ?_)
                          ·
                            refine V_nil (X_next ?_)
                            refine C_true rfl ?_
                            refine C_seq ?_
                            refine C_region ?_
                            refine V_w0.q (QY_assign rfl) rfl ?_
                            refine V_nil (X_next ?_)
                            refine C_ret (X_then_ret (?_))
                            refine X_ret1 rfl rfl (fun w hm => ?_)
                            exact ⟨_, trivial, rfl, hm⟩
                          ·
                            refine V_nil (X_next ?_)
                            refine C_false rfl ?_
                            refine C_skip (X_next ?_)
                            refine C_seq ?_
                            refine C_seq ?_
                            refine C_region ?_
                            refine V_w0.q (QY_move rfl) rfl ?_
                            refine V_w0.q (QY_len sl22 rfl) rfl ?_
                            refine W_gtr V_w0 rfl rfl rfl (fun h99 => ?_) (fun h99 => ?_)
                            ·
                              refine V_nil (X_next ?_)
                              refine C_true rfl ?_
                              refine C_seq ?_
                              refine C_region ?_
                              refine V_w0.q (QY_assign rfl) rfl ?_
                              refine V_nil (X_next ?_)
                              refine C_ret (X_then_ret (?_))
                              refine X_ret1 rfl rfl (fun w hm => ?_)
                              exact ⟨_, trivial, rfl, hm⟩
                            ·
                              refine V_nil (X_next ?_)
                              refine C_false rfl ?_
                              refine C_skip (X_next ?_)
                              refine C_seq ?_
                              refine C_region ?_
                              refine V_w0.q (QY_move rfl) rfl ?_
                              refine V_w0.q (QY_move rfl) rfl ?_
                              refine V_w0.q (QY_len sl22 rfl) rfl ?_
                              refine V_w0.q (QY_arith rfl rfl rfl ⟨by omega, by omega⟩) rfl ?_
                              refine V_w0.q (QY_assign rfl) rfl ?_
                              refine V_nil (X_next ?_)
                              refine C_seq ?_
                              refine C_seq ?_
                              refine C_region ?_
                              refine V_w0.q (QY_move rfl) rfl ?_
                              refine W_gtr V_w0 rfl rfl rfl (fun h105 => ?_) (fun h105 => ?_)
                              ·
                                refine V_nil (X_next ?_)
                                refine C_true rfl ?_
                                refine C_seq ?_
                                refine C_region ?_
                                refine V_w0.q (QY_assign rfl) rfl ?_
                                refine V_nil (X_next ?_)
                                refine C_ret (X_then_ret (?_))
                                refine X_ret1 rfl rfl (fun w hm => ?_)
                                exact ⟨_, trivial, rfl, hm⟩
                              ·
                                refine V_nil (X_next ?_)
                                refine C_false rfl ?_
                                refine C_skip (X_next ?_)
                                refine C_seq ?_
                                refine C_seq ?_
                                refine C_region ?_
                                refine V_w0.q (QY_move rfl) rfl ?_
                                refine V_w0.q (QY_len sl42 rfl) rfl ?_
                                refine W_gtr V_w0 rfl rfl rfl (fun h108 => ?_) (fun h108 => ?_)
                                ·
                                  refine V_nil (X_next ?_)
                                  refine C_true rfl ?_
                                  refine C_seq ?_
                                  refine C_region ?_
                                  refine V_w0.q (QY_assign rfl) rfl ?_
                                  refine V_nil (X_next ?_)
                                  refine C_ret (X_then_ret (?_))
                                  refine X_ret1 rfl rfl (fun w hm => ?_)
                                  exact ⟨_, trivial, rfl, hm⟩
                                ·
                                  refine V_nil (X_next ?_)
                                  refine C_false rfl ?_
                                  refine C_skip (X_next ?_)
                                  refine C_seq ?_
                                  refine C_region ?_
                                  refine V_w0.q (QY_move rfl) rfl ?_
                                  refine V_w0.q (QY_move rfl) rfl ?_
                                  refine V_w0.q (QY_len sl42 rfl) rfl ?_
                                  refine V_w0.q (QY_arith rfl rfl rfl ⟨by omega, by omega⟩) rfl ?_
                                  refine V_w0.q (QY_assign rfl) rfl ?_
                                  refine V_nil (X_next ?_)
                                  refine C_seq ?_
                                  refine C_seq ?_
                                  refine C_region ?_
                                  refine V_w0.q (QY_move rfl) rfl ?_
                                  refine W_gtr V_w0 rfl rfl rfl (fun h114 => ?_) (fun h114 => ?_)
                                  ·
                                    refine V_nil (X_next ?_)
                                    refine C_true rfl ?_
                                    refine C_seq ?_
                                    refine C_region ?_
                                    refine V_w0.q (QY_assign rfl) rfl ?_
                                    refine V_nil (X_next ?_)
                                    refine C_ret (X_then_ret (?_))
                                    refine X_ret1 rfl rfl (fun w hm => ?_)
                                    exact ⟨_, trivial, rfl, hm⟩
                                  ·
                                    refine V_nil (X_next ?_)
                                    refine C_false rfl ?_
                                    refine C_skip (X_next ?_)
                                    refine C_seq ?_
                                    refine C_seq ?_
                                    refine C_region ?_
                                    refine V_w0.q (QY_assign rfl) rfl ?_
                                    refine V_nil (X_next ?_)
                                    refine C_block ?_
                                    refine C_loops (T := Int × Int) (fun (zz9 : Int × Int) => match zz9 with | (k, z) => [(0, .slice aF nf cF), (1, .slice aO no cO), (2, .slice aL nc cL), (3, .slice aN nl cN), (4, .slice aR ns cR), (5, .slice aP np cP), (6, .slice aQ nq cQ), (7, .slice aT nt cT), (8, .slice aH nh cH), (19, .int .i64 z), (21, .int .i64 k)]) (fun (zz9 : Int × Int) => match zz9 with | (k, z) => []) (fun (zz9 : Int × Int) => match zz9 with | (k, z) => 0 ≤ k ∧ k ≤ nt ∧ 0 ≤ z ∧ z ≤ 1048576) (fun (zz9 : Int × Int) => match zz9 with | (k, z) => ((nt : Int) - k).toNat) (0, z + (ns : Int) + np + nq + nt) ?_ ?_ ?_ ?_
                                    · exact ⟨by omega, by omega, by omega, by omega⟩
                                    · exact ⟨rfl, rfl, rfl, rfl, rfl, rfl, rfl, rfl, rfl, rfl, rfl, trivial⟩
                                    · exact trivial
                                    rintro ⟨k, z⟩ ⟨hj0, hj1, hy0, hy1⟩
                                    show C _ _ _ _ _ _ [(0, .slice aF nf cF), (1, .slice aO no cO), (2, .slice aL nc cL), (3, .slice aN nl cN), (4, .slice aR ns cR), (5, .slice aP np cP), (6, .slice aQ nq cQ), (7, .slice aT nt cT), (8, .slice aH nh cH), (19, .int .i64 z), (21, .int .i64 k)] []
                                    refine C_seq ?_
                                    refine C_seq ?_
                                    refine C_region ?_
                                    refine V_w0.q (QY_move rfl) rfl ?_
                                    refine V_w0.q (QY_move rfl) rfl ?_
                                    refine V_w0.q (QY_len sl42 rfl) rfl ?_
                                    refine W_lss V_w0 rfl rfl rfl (fun h118 => ?_) (fun h118 => ?_)
                                    ·
                                      refine V_nil (X_next ?_)
                                      refine C_true rfl ?_
                                      refine C_skip (X_next ?_)
                                      refine C_seq ?_
                                      refine C_block ?_
                                      refine C_seq ?_
                                      refine C_seq ?_
                                      refine C_region ?_
                                      refine V_w0.q (QY_move rfl) rfl ?_
                                      refine V_w0.q (QY_move rfl) rfl ?_
                                      refine W_elem V_w0 rfl rfl (hT.rd) (by omega) (by omega) sl42 lf22 rfl rfl (fun _ => ?_)
                                      refine V_w0.q (QY_len sl22 rfl) rfl ?_
                                      refine W_gtr V_w0 rfl rfl rfl (fun h126 => ?_) (fun h126 => ?_)
                                      ·
                                        refine V_nil (X_next ?_)
                                        refine C_true rfl ?_
                                        refine C_seq ?_
                                        refine C_region ?_
                                        refine V_w0.q (QY_assign rfl) rfl ?_
                                        refine V_nil (X_next ?_)
                                        refine C_ret (X_then_ret (X_block_ret (X_then_ret (X_then_ret (X_block_ret (X_then_ret (?_)))))))
                                        refine X_ret1 rfl rfl (fun w hm => ?_)
                                        exact ⟨_, trivial, rfl, hm⟩
                                      ·
                                        refine V_nil (X_next ?_)
                                        refine C_false rfl ?_
                                        refine C_skip (X_next ?_)
                                        refine C_seq ?_
                                        refine C_region ?_
                                        refine V_w0.q (QY_move rfl) rfl ?_
                                        refine V_w0.q (QY_move rfl) rfl ?_
                                        refine V_w0.q (QY_move rfl) rfl ?_
                                        refine W_elem V_w0 rfl rfl (hT.rd) (by omega) (by omega) sl42 lf22 rfl rfl (fun _ => ?_)
                                        refine V_w0.q (QY_len sl22 rfl) rfl ?_
                                        refine V_w0.q (QY_arith rfl rfl rfl ⟨by omega, by omega⟩) rfl ?_
                                        refine V_w0.q (QY_assign rfl) rfl ?_
                                        refine V_nil (X_next ?_)
                                        refine C_seq ?_
                                        refine C_region ?_
                                        refine V_w0.q (QY_move rfl) rfl ?_
                                        refine W_gtr V_w0 rfl rfl rfl (fun h135 => ?_) (fun h135 => ?_)
                                        ·
                                          refine V_nil (X_next ?_)
                                          refine C_true rfl ?_
                                          refine C_seq ?_
                                          refine C_region ?_
                                          refine V_w0.q (QY_assign rfl) rfl ?_
                                          refine V_nil (X_next ?_)
                                          refine C_ret (X_block_ret (X_then_ret (X_then_ret (X_block_ret (X_then_ret (?_))))))
                                          refine X_ret1 rfl rfl (fun w hm => ?_)
                                          exact ⟨_, trivial, rfl, hm⟩
                                        ·
                                          refine V_nil (X_next ?_)
                                          refine C_false rfl ?_
                                          refine C_skip (X_block (X_next ?_))
                                          refine C_region ?_
                                          refine V_w0.q (QY_move rfl) rfl ?_
                                          refine V_w0.q (QY_arith rfl rfl rfl ⟨by omega, by omega⟩) rfl ?_
                                          refine V_w0.q (QY_assign rfl) rfl ?_
                                          refine V_nil (X_then ?_)
                                          refine X_round (k + 1, z + (L2 k : Nat)) ?_ ?_ ?_ ?_
                                          · exact ⟨by omega, by omega, by omega, by omega⟩
                                          · show ((nt : Int) - (k + 1)).toNat < ((nt : Int) - k).toNat
                                            omega
                                          · exact ⟨rfl, rfl, rfl, rfl, rfl, rfl, rfl, rfl, rfl, rfl, rfl, trivial⟩
                                          · exact trivial
                                    ·
                                      refine V_nil (X_next ?_)
                                      refine C_false rfl ?_
                                      refine C_exit (X_then_exit (X_then_exit (X_block_exit (X_next ?_))))
                                      refine C_seq ?_
                                      refine C_seq ?_
                                      refine C_region ?_
                                      refine V_w0.q (QY_move rfl) rfl ?_
                                      refine V_w0.q (QY_len sl26 rfl) rfl ?_
                                      refine W_gtr V_w0 rfl rfl rfl (fun h138 => ?_) (fun h138 => ?_)
                                      ·
                                        refine V_nil (X_next ?_)
                                        refine C_true rfl ?_
                                        refine C_seq ?_
                                        refine C_region ?_
                                        refine V_w0.q (QY_assign rfl) rfl ?_
                                        refine V_nil (X_next ?_)
                                        refine C_ret (X_then_ret (?_))
                                        refine X_ret1 rfl rfl (fun w hm => ?_)
                                        exact ⟨_, trivial, rfl, hm⟩
                                      ·
                                        refine V_nil (X_next ?_)
                                        refine C_false rfl ?_
                                        refine C_skip (X_next ?_)
                                        refine C_seq ?_
                                        refine C_region ?_
                                        refine V_w0.q (QY_move rfl) rfl ?_
                                        refine V_w0.q (QY_move rfl) rfl ?_
                                        refine V_w0.q (QY_len sl26 rfl) rfl ?_
                                        refine V_w0.q (QY_arith rfl rfl rfl ⟨by omega, by omega⟩) rfl ?_
                                        refine V_w0.q (QY_assign rfl) rfl ?_
                                        refine V_nil (X_next ?_)
                                        refine C_seq ?_
                                        refine C_seq ?_
                                        refine C_region ?_
                                        refine V_w0.q (QY_move rfl) rfl ?_
                                        refine W_gtr V_w0 rfl rfl rfl (fun h144 => ?_) (fun h144 => ?_)
                                        ·
                                          refine V_nil (X_next ?_)
                                          refine C_true rfl ?_
                                          refine C_seq ?_
                                          refine C_region ?_
                                          refine V_w0.q (QY_assign rfl) rfl ?_
                                          refine V_nil (X_next ?_)
                                          refine C_ret (X_then_ret (?_))
                                          refine X_ret1 rfl rfl (fun w hm => ?_)
                                          exact ⟨_, trivial, rfl, hm⟩
                                        ·
                                          refine V_nil (X_next ?_)
                                          refine C_false rfl ?_
                                          refine C_skip (X_next ?_)
                                          refine C_seq ?_
                                          refine C_region ?_
                                          refine V_w0.q (QY_assign rfl) rfl ?_
                                          refine V_nil (X_next ?_)
                                          refine C_ret (?_)
                                          refine X_ret1 rfl rfl (fun w hm => ?_)
                                          exact ⟨_, trivial, rfl, hm⟩

theorem bytes30 (w : World) (aF aO aL aN aR aP aQ aT aH : Option Addr) (nf no nc nl ns np nq nt nh cF cO cL cN cR cP cQ cT cH : Nat) (A1 A2 : Int → Option Addr) (L1 C1 L2 C2 : Int → Nat) (hN : RdW w (.slice aN nl cN) nl (fun i => .slice (A1 i) (L1 i) (C1 i))) (hT : RdW w (.slice aT nt cT) nt (fun i => .slice (A2 i) (L2 i) (C2 i))) :
    Calls Try.prog 30 #[.slice aF nf cF, .slice aO no cO, .slice aL nc cL, .slice aN nl cN, .slice aR ns cR, .slice aP np cP, .slice aQ nq cQ, .slice aT nt cT, .slice aH nh cH] w fun e w' => ∃ y : Bool, True ∧ e = .returned (.bool y) ∧ Mem (Old w) w [] w' := by
  refine enter (N := 145) (vs := [.slice aF nf cF, .slice aO no cO, .slice aL nc cL, .slice aN nl cN, .slice aR ns cR, .slice aP np cP, .slice aQ nq cQ, .slice aT nt cT, .slice aH nh cH]) Try.func30 rfl Try.ntmps30 rfl ?_ w (Mem.start w)
  refine C_seq ?_
  refine C_region ?_
  refine V_w0.q (QY_assign rfl) rfl ?_
  refine V_nil (X_next ?_)
  refine C_seq ?_
  refine C_region ?_
  refine V_w0.q (QY_assign rfl) rfl ?_
  refine V_nil (X_next ?_)
  refine C_seq ?_
  refine C_seq ?_
  refine C_region ?_
  refine V_w0.q (QY_move rfl) rfl ?_
  refine V_w0.q (QY_len sl22 rfl) rfl ?_
  refine W_gtr V_w0 rfl rfl rfl (fun h24 => ?_) (fun h24 => ?_)
  ·
    refine V_nil (X_next ?_)
    refine C_true rfl ?_
    refine C_seq ?_
    refine C_region ?_
    refine V_w0.q (QY_assign rfl) rfl ?_
    refine V_nil (X_next ?_)
    refine C_ret (X_then_ret (?_))
    refine X_ret1 rfl rfl (fun w hm => ?_)
    exact ⟨_, trivial, rfl, hm⟩
  ·
    refine V_nil (X_next ?_)
    refine C_false rfl ?_
    refine C_skip (X_next ?_)
    refine C_seq ?_
    refine C_region ?_
    refine V_w0.q (QY_move rfl) rfl ?_
    refine V_w0.q (QY_move rfl) rfl ?_
    refine V_w0.q (QY_len sl22 rfl) rfl ?_
    refine V_w0.q (QY_arith rfl rfl rfl ⟨by omega, by omega⟩) rfl ?_
    refine V_w0.q (QY_assign rfl) rfl ?_
    refine V_nil (X_next ?_)
    refine C_seq ?_
    refine C_seq ?_
    refine C_region ?_
    refine V_w0.q (QY_move rfl) rfl ?_
    refine W_gtr V_w0 rfl rfl rfl (fun h30 => ?_) (fun h30 => ?_)
    ·
      refine V_nil (X_next ?_)
      refine C_true rfl ?_
      refine C_seq ?_
      refine C_region ?_
      refine V_w0.q (QY_assign rfl) rfl ?_
      refine V_nil (X_next ?_)
      refine C_ret (X_then_ret (?_))
      refine X_ret1 rfl rfl (fun w hm => ?_)
      exact ⟨_, trivial, rfl, hm⟩
    ·
      refine V_nil (X_next ?_)
      refine C_false rfl ?_
      refine C_skip (X_next ?_)
      refine C_seq ?_
      refine C_seq ?_
      refine C_region ?_
      refine V_w0.q (QY_move rfl) rfl ?_
      refine V_w0.q (QY_len sl22 rfl) rfl ?_
      refine W_gtr V_w0 rfl rfl rfl (fun h33 => ?_) (fun h33 => ?_)
      ·
        refine V_nil (X_next ?_)
        refine C_true rfl ?_
        refine C_seq ?_
        refine C_region ?_
        refine V_w0.q (QY_assign rfl) rfl ?_
        refine V_nil (X_next ?_)
        refine C_ret (X_then_ret (?_))
        refine X_ret1 rfl rfl (fun w hm => ?_)
        exact ⟨_, trivial, rfl, hm⟩
      ·
        refine V_nil (X_next ?_)
        refine C_false rfl ?_
        refine C_skip (X_next ?_)
        refine C_seq ?_
        refine C_region ?_
        refine V_w0.q (QY_move rfl) rfl ?_
        refine V_w0.q (QY_move rfl) rfl ?_
        refine V_w0.q (QY_len sl22 rfl) rfl ?_
        refine V_w0.q (QY_arith rfl rfl rfl ⟨by omega, by omega⟩) rfl ?_
        refine V_w0.q (QY_assign rfl) rfl ?_
        refine V_nil (X_next ?_)
        refine C_seq ?_
        refine C_seq ?_
        refine C_region ?_
        refine V_w0.q (QY_move rfl) rfl ?_
        refine W_gtr V_w0 rfl rfl rfl (fun h39 => ?_) (fun h39 => ?_)
        ·
          refine V_nil (X_next ?_)
          refine C_true rfl ?_
          refine C_seq ?_
          refine C_region ?_
          refine V_w0.q (QY_assign rfl) rfl ?_
          refine V_nil (X_next ?_)
          refine C_ret (X_then_ret (?_))
          refine X_ret1 rfl rfl (fun w hm => ?_)
          exact ⟨_, trivial, rfl, hm⟩
        ·
          refine V_nil (X_next ?_)
          refine C_false rfl ?_
          refine C_skip (X_next ?_)
          refine C_seq ?_
          refine C_seq ?_
          refine C_region ?_
          refine V_w0.q (QY_move rfl) rfl ?_
          refine V_w0.q (QY_len sl23 rfl) rfl ?_
          refine W_gtr V_w0 rfl rfl rfl (fun h42 => ?_) (fun h42 => ?_)
          ·
            refine V_nil (X_next ?_)
            refine C_true rfl ?_
            refine C_seq ?_
            refine C_region ?_
            refine V_w0.q (QY_assign rfl) rfl ?_
            refine V_nil (X_next ?_)
            refine C_ret (X_then_ret (?_))
            refine X_ret1 rfl rfl (fun w hm => ?_)
            exact ⟨_, trivial, rfl, hm⟩
          ·
            refine V_nil (X_next ?_)
            refine C_false rfl ?_
            refine C_skip (X_next ?_)
            refine C_seq ?_
            refine C_region ?_
            refine V_w0.q (QY_move rfl) rfl ?_
            refine V_w0.q (QY_move rfl) rfl ?_
            refine V_w0.q (QY_len sl23 rfl) rfl ?_
            refine V_w0.q (QY_arith rfl rfl rfl ⟨by omega, by omega⟩) rfl ?_
            refine V_w0.q (QY_assign rfl) rfl ?_
            refine V_nil (X_next ?_)
            refine C_seq ?_
            refine C_seq ?_
            refine C_region ?_
            refine V_w0.q (QY_move rfl) rfl ?_
            refine W_gtr V_w0 rfl rfl rfl (fun h48 => ?_) (fun h48 => ?_)
            ·
              refine V_nil (X_next ?_)
              refine C_true rfl ?_
              refine C_seq ?_
              refine C_region ?_
              refine V_w0.q (QY_assign rfl) rfl ?_
              refine V_nil (X_next ?_)
              refine C_ret (X_then_ret (?_))
              refine X_ret1 rfl rfl (fun w hm => ?_)
              exact ⟨_, trivial, rfl, hm⟩
            ·
              refine V_nil (X_next ?_)
              refine C_false rfl ?_
              refine C_skip (X_next ?_)
              refine C_seq ?_
              refine C_seq ?_
              refine C_region ?_
              refine V_w0.q (QY_move rfl) rfl ?_
              refine V_w0.q (QY_len sl42 rfl) rfl ?_
              refine W_gtr V_w0 rfl rfl rfl (fun h51 => ?_) (fun h51 => ?_)
              ·
                refine V_nil (X_next ?_)
                refine C_true rfl ?_
                refine C_seq ?_
                refine C_region ?_
                refine V_w0.q (QY_assign rfl) rfl ?_
                refine V_nil (X_next ?_)
                refine C_ret (X_then_ret (?_))
                refine X_ret1 rfl rfl (fun w hm => ?_)
                exact ⟨_, trivial, rfl, hm⟩
              ·
                refine V_nil (X_next ?_)
                refine C_false rfl ?_
                refine C_skip (X_next ?_)
                refine C_seq ?_
                refine C_region ?_
                refine V_w0.q (QY_move rfl) rfl ?_
                refine V_w0.q (QY_move rfl) rfl ?_
                refine V_w0.q (QY_len sl42 rfl) rfl ?_
                refine V_w0.q (QY_arith rfl rfl rfl ⟨by omega, by omega⟩) rfl ?_
                refine V_w0.q (QY_assign rfl) rfl ?_
                refine V_nil (X_next ?_)
                refine C_seq ?_
                refine C_seq ?_
                refine C_region ?_
                refine V_w0.q (QY_move rfl) rfl ?_
                refine W_gtr V_w0 rfl rfl rfl (fun h57 => ?_) (fun h57 => ?_)
                ·
                  refine V_nil (X_next ?_)
                  refine C_true rfl ?_
                  refine C_seq ?_
                  refine C_region ?_
                  refine V_w0.q (QY_assign rfl) rfl ?_
                  refine V_nil (X_next ?_)
                  refine C_ret (X_then_ret (?_))
                  refine X_ret1 rfl rfl (fun w hm => ?_)
                  exact ⟨_, trivial, rfl, hm⟩
                ·
                  refine V_nil (X_next ?_)
                  refine C_false rfl ?_
                  refine C_skip (X_next ?_)
                  refine C_seq ?_
                  refine C_seq ?_
                  refine C_region ?_
                  refine V_w0.q (QY_assign rfl) rfl ?_
                  refine V_nil (X_next ?_)
                  refine C_block ?_
                  refine C_loops (T := Int × Int) (fun (zz9 : Int × Int) => match zz9 with | (k, z) => [(0, .slice aF nf cF), (1, .slice aO no cO), (2, .slice aL nc cL), (3, .slice aN nl cN), (4, .slice aR ns cR), (5, .slice aP np cP), (6, .slice aQ nq cQ), (7, .slice aT nt cT), (8, .slice aH nh cH), (19, .int .i64 z), (20, .int .i64 k)]) (fun (zz9 : Int × Int) => match zz9 with | (k, z) => []) (fun (zz9 : Int × Int) => match zz9 with | (k, z) => 0 ≤ k ∧ k ≤ nl ∧ 0 ≤ z ∧ z ≤ 1048576) (fun (zz9 : Int × Int) => match zz9 with | (k, z) => ((nl : Int) - k).toNat) (0, 0 + (nf : Int) + no + nc + nl) ?_ ?_ ?_ ?_
                  · exact ⟨by omega, by omega, by omega, by omega⟩
                  · exact ⟨rfl, rfl, rfl, rfl, rfl, rfl, rfl, rfl, rfl, rfl, rfl, trivial⟩
                  · exact trivial
                  rintro ⟨k, z⟩ ⟨hk0, hk1, hz0, hz1⟩
                  show C _ _ _ _ _ _ [(0, .slice aF nf cF), (1, .slice aO no cO), (2, .slice aL nc cL), (3, .slice aN nl cN), (4, .slice aR ns cR), (5, .slice aP np cP), (6, .slice aQ nq cQ), (7, .slice aT nt cT), (8, .slice aH nh cH), (19, .int .i64 z), (20, .int .i64 k)] []
                  refine C_seq ?_
                  refine C_seq ?_
                  refine C_region ?_
                  refine V_w0.q (QY_move rfl) rfl ?_
                  refine V_w0.q (QY_move rfl) rfl ?_
                  refine V_w0.q (QY_len sl42 rfl) rfl ?_
                  refine W_lss V_w0 rfl rfl rfl (fun h61 => ?_) (fun h61 => ?_)
                  ·
                    refine V_nil (X_next ?_)
                    refine C_true rfl ?_
                    refine C_skip (X_next ?_)
                    refine C_seq ?_
                    refine C_block ?_
                    refine C_seq ?_
                    refine C_seq ?_
                    refine C_region ?_
                    refine V_w0.q (QY_move rfl) rfl ?_
                    refine V_w0.q (QY_move rfl) rfl ?_
                    refine W_elem V_w0 rfl rfl (hN.rd) (by omega) (by omega) sl42 lf22 rfl rfl (fun _ => ?_)
                    refine V_w0.q (QY_len sl22 rfl) rfl ?_
                    refine W_gtr V_w0 rfl rfl rfl (fun h69 => ?_) (fun h69 => ?_)
                    ·
                      refine V_nil (X_next ?_)
                      refine C_true rfl ?_
                      refine C_seq ?_
                      refine C_region ?_
                      refine V_w0.q (QY_assign rfl) rfl ?_
                      refine V_nil (X_next ?_)
                      refine C_ret (X_then_ret (X_block_ret (X_then_ret (X_then_ret (X_block_ret (X_then_ret (?_)))))))
                      refine X_ret1 rfl rfl (fun w hm => ?_)
                      exact ⟨_, trivial, rfl, hm⟩
                    ·
                      refine V_nil (X_next ?_)
                      refine C_false rfl ?_
                      refine C_skip (X_next ?_)
                      refine C_seq ?_
                      refine C_region ?_
                      refine V_w0.q (QY_move rfl) rfl ?_
                      refine V_w0.q (QY_move rfl) rfl ?_
                      refine V_w0.q (QY_move rfl) rfl ?_
                      refine W_elem V_w0 rfl rfl (hN.rd) (by omega) (by omega) sl42 lf22 rfl rfl (fun _ => ?_)
                      refine V_w0.q (QY_len sl22 rfl) rfl ?_
                      refine V_w0.q (QY_arith rfl rfl rfl ⟨by omega, by omega⟩) rfl ?_
                      refine V_w0.q (QY_assign rfl) rfl ?_
                      refine V_nil (X_next ?_)
                      refine C_seq ?_
                      refine C_region ?_
                      refine V_w0.q (QY_move rfl) rfl ?_
                      refine W_gtr V_w0 rfl rfl rfl (fun h78 => ?_) (fun h78 => ?_)
                      ·
                        refine V_nil (X_next ?_)
                        refine C_true rfl ?_
                        refine C_seq ?_
                        refine C_region ?_
                        refine V_w0.q (QY_assign rfl) rfl ?_
                        refine V_nil (X_next ?_)
                        refine C_ret (X_block_ret (X_then_ret (X_then_ret (X_block_ret (X_then_ret (?_))))))
                        refine X_ret1 rfl rfl (fun w hm => ?_)
                        exact ⟨_, trivial, rfl, hm⟩
                      ·
                        refine V_nil (X_next ?_)
                        refine C_false rfl ?_
                        refine C_skip (X_block (X_next ?_))
                        refine C_region ?_
                        refine V_w0.q (QY_move rfl) rfl ?_
                        refine V_w0.q (QY_arith rfl rfl rfl ⟨by omega, by omega⟩) rfl ?_
                        refine V_w0.q (QY_assign rfl) rfl ?_
                        refine V_nil (X_then ?_)
                        refine X_round (k + 1, z + (L1 k : Nat)) ?_ ?_ ?_ ?_
                        · exact ⟨by omega, by omega, by omega, by omega⟩
                        · show ((nl : Int) - (k + 1)).toNat < ((nl : Int) - k).toNat
                          omega
                        · exact ⟨rfl, rfl, rfl, rfl, rfl, rfl, rfl, rfl, rfl, rfl, rfl, trivial⟩
                        · exact trivial
                  ·
                    refine V_nil (X_next ?_)
                    refine C_false rfl ?_
                    refine C_exit (X_then_exit (X_then_exit (X_block_exit (X_next ?_))))
                    refine C_seq ?_
                    refine C_seq ?_
                    refine C_region ?_
                    refine V_w0.q (QY_move rfl) rfl ?_
                    refine V_w0.q (QY_len sl22 rfl) rfl ?_
                    refine W_gtr V_w0 rfl rfl rfl (fun h81 => ?_) (fun h81 => ?_)
                    ·
                      refine V_nil (X_next ?_)
                      refine C_true rfl ?_
                      refine C_seq ?_
                      refine C_region ?_
                      refine V_w0.q (QY_assign rfl) rfl ?_
                      refine V_nil (X_next ?_)
                      refine C_ret (X_then_ret (?_))
                      refine X_ret1 rfl rfl (fun w hm => ?_)
                      exact ⟨_, trivial, rfl, hm⟩
                    ·
                      refine V_nil (X_next ?_)
                      refine C_false rfl ?_
                      refine C_skip (X_next ?_)
                      refine C_seq ?_
                      refine C_region ?_
                      refine V_w0.q (QY_move rfl) rfl ?_
                      refine V_w0.q (QY_move rfl) rfl ?_
                      refine V_w0.q (QY_len sl22 rfl) rfl ?_
                      refine V_w0.q (QY_arith rfl rfl rfl ⟨by omega, by omega⟩) rfl ?_
                      refine V_w0.q (QY_assign rfl) rfl ?_
                      refine V_nil (X_next ?_)
                      refine C_seq ?_
                      refine C_seq ?_
                      refine C_region ?_
                      refine V_w0.q (QY_move rfl) rfl ?_
                      refine W_gtr V_w0 rfl rfl rfl (fun h87 => ?_) (fun h87 => ?_)
                      ·
                        refine V_nil (X_next ?_)
                        refine C_true rfl ?_
                        refine C_seq ?_
                        refine C_region ?_
                        refine V_w0.q (QY_assign rfl) rfl ?_
                        refine V_nil (X_next ?_)
                        refine C_ret (X_then_ret (?_))
                        refine X_ret1 rfl rfl (fun w hm => ?_)
                        exact ⟨_, trivial, rfl, hm⟩
                      ·
                        refine V_nil (X_next ?_)
                        refine C_false rfl ?_
                        refine C_skip (X_next ?_)
                        refine C_seq ?_
                        refine C_seq ?_
                        refine C_region ?_
                        refine V_w0.q (QY_move rfl) rfl ?_
                        refine V_w0.q (QY_len sl22 rfl) rfl ?_
                        refine W_gtr V_w0 rfl rfl rfl (fun h90 => ?_) (fun h90 => ?_)
                        ·
                          refine V_nil (X_next ?_)
                          refine C_true rfl ?_
                          refine C_seq ?_
                          refine C_region ?_
                          refine V_w0.q (QY_assign rfl) rfl ?_
                          refine V_nil (X_next ?_)
                          refine C_ret (X_then_ret (?_))
                          refine X_ret1 rfl rfl (fun w hm => ?_)
                          exact ⟨_, trivial, rfl, hm⟩
                        ·
                          refine V_nil (X_next ?_)
                          refine C_false rfl ?_
                          refine C_skip (X_next ?_)
                          refine C_seq ?_
                          refine C_region ?_
                          refine V_w0.q (QY_move rfl) rfl ?_
                          refine V_w0.q (QY_move rfl) rfl ?_
                          refine V_w0.q (QY_len sl22 rfl) rfl ?_
                          refine V_w0.q (QY_arith rfl rfl rfl ⟨by omega, by omega⟩) rfl ?_
                          refine V_w0.q (QY_assign rfl) rfl ?_
                          refine V_nil (X_next ?_)
                          refine C_seq ?_
                          refine C_seq ?_
                          refine C_region ?_
                          refine V_w0.q (QY_move rfl) rfl ?_
                          refine W_gtr V_w0 rfl rfl rfl (fun h96 => ?_) (fun h96 => ?_)
                          ·
                            refine V_nil (X_next ?_)
                            refine C_true rfl ?_
                            refine C_seq ?_
                            refine C_region ?_
                            refine V_w0.q (QY_assign rfl) rfl ?_
                            refine V_nil (X_next ?_)
                            refine C_ret (X_then_ret (?_))
                            refine X_ret1 rfl rfl (fun w hm => ?_)
                            exact ⟨_, trivial, rfl, hm⟩
                          ·
                            refine V_nil (X_next ?_)
                            refine C_false rfl ?_
                            refine C_skip (X_next ?_)
                            refine C_seq ?_
                            refine C_seq ?_
                            refine C_region ?_
                            refine V_w0.q (QY_move rfl) rfl ?_
                            refine V_w0.q (QY_len sl22 rfl) rfl ?_
                            refine W_gtr V_w0 rfl rfl rfl (fun h99 => ?_) (fun h99 => ?_)
                            ·
                              refine V_nil (X_next ?_)
                              refine C_true rfl ?_
                              refine C_seq ?_
                              refine C_region ?_
                              refine V_w0.q (QY_assign rfl) rfl ?_
                              refine V_nil (X_next ?_)
                              refine C_ret (X_then_ret (?_))
                              refine X_ret1 rfl rfl (fun w hm => ?_)
                              exact ⟨_, trivial, rfl, hm⟩
                            ·
                              refine V_nil (X_next ?_)
                              refine C_false rfl ?_
                              refine C_skip (X_next ?_)
                              refine C_seq ?_
                              refine C_region ?_
                              refine V_w0.q (QY_move rfl) rfl ?_
                              refine V_w0.q (QY_move rfl) rfl ?_
                              refine V_w0.q (QY_len sl22 rfl) rfl ?_
                              refine V_w0.q (QY_arith rfl rfl rfl ⟨by omega, by omega⟩) rfl ?_
                              refine V_w0.q (QY_assign rfl) rfl ?_
                              refine V_nil (X_next ?_)
                              refine C_seq ?_
                              refine C_seq ?_
                              refine C_region ?_
                              refine V_w0.q (QY_move rfl) rfl ?_
                              refine W_gtr V_w0 rfl rfl rfl (fun h105 => ?_) (fun h105 => ?_)
                              ·
                                refine V_nil (X_next ?_)
                                refine C_true rfl ?_
                                refine C_seq ?_
                                refine C_region ?_
                                refine V_w0.q (QY_assign rfl) rfl ?_
                                refine V_nil (X_next ?_)
                                refine C_ret (X_then_ret (?_))
                                refine X_ret1 rfl rfl (fun w hm => ?_)
                                exact ⟨_, trivial, rfl, hm⟩
                              ·
                                refine V_nil (X_next ?_)
                                refine C_false rfl ?_
                                refine C_skip (X_next ?_)
                                refine C_seq ?_
                                refine C_seq ?_
                                refine C_region ?_
                                refine V_w0.q (QY_move rfl) rfl ?_
                                refine V_w0.q (QY_len sl42 rfl) rfl ?_
                                refine W_gtr V_w0 rfl rfl rfl (fun h108 => ?_) (fun h108 => ?_)
                                ·
                                  refine V_nil (X_next ?_)
                                  refine C_true rfl ?_
                                  refine C_seq ?_
                                  refine C_region ?_
                                  refine V_w0.q (QY_assign rfl) rfl ?_
                                  refine V_nil (X_next ?_)
                                  refine C_ret (X_then_ret (?_))
                                  refine X_ret1 rfl rfl (fun w hm => ?_)
                                  exact ⟨_, trivial, rfl, hm⟩
                                ·
                                  refine V_nil (X_next ?_)
                                  refine C_false rfl ?_
                                  refine C_skip (X_next ?_)
                                  refine C_seq ?_
                                  refine C_region ?_
                                  refine V_w0.q (QY_move rfl) rfl ?_
                                  refine V_w0.q (QY_move rfl) rfl ?_
                                  refine V_w0.q (QY_len sl42 rfl) rfl ?_
                                  refine V_w0.q (QY_arith rfl rfl rfl ⟨by omega, by omega⟩) rfl ?_
                                  refine V_w0.q (QY_assign rfl) rfl ?_
                                  refine V_nil (X_next ?_)
                                  refine C_seq ?_
                                  refine C_seq ?_
                                  refine C_region ?_
                                  refine V_w0.q (QY_move rfl) rfl ?_
                                  refine W_gtr V_w0 rfl rfl rfl (fun h114 => ?_) (fun h114 => ?_)
                                  ·
                                    refine V_nil (X_next ?_)
                                    refine C_true rfl ?_
                                    refine C_seq ?_
                                    refine C_region ?_
                                    refine V_w0.q (QY_assign rfl) rfl ?_
                                    refine V_nil (X_next ?_)
                                    refine C_ret (X_then_ret (?_))
                                    refine X_ret1 rfl rfl (fun w hm => ?_)
                                    exact ⟨_, trivial, rfl, hm⟩
                                  ·
                                    refine V_nil (X_next ?_)
                                    refine C_false rfl ?_
                                    refine C_skip (X_next ?_)
                                    refine C_seq ?_
                                    refine C_seq ?_
                                    refine C_region ?_
                                    refine V_w0.q (QY_assign rfl) rfl ?_
                                    refine V_nil (X_next ?_)
                                    refine C_block ?_
                                    refine C_loops (T := Int × Int) (fun (zz9 : Int × Int) => match zz9 with | (k, z) => [(0, .slice aF nf cF), (1, .slice aO no cO), (2, .slice aL nc cL), (3, .slice aN nl cN), (4, .slice aR ns cR), (5, .slice aP np cP), (6, .slice aQ nq cQ), (7, .slice aT nt cT), (8, .slice aH nh cH), (19, .int .i64 z), (21, .int .i64 k)]) (fun (zz9 : Int × Int) => match zz9 with | (k, z) => []) (fun (zz9 : Int × Int) => match zz9 with | (k, z) => 0 ≤ k ∧ k ≤ nt ∧ 0 ≤ z ∧ z ≤ 1048576) (fun (zz9 : Int × Int) => match zz9 with | (k, z) => ((nt : Int) - k).toNat) (0, z + (ns : Int) + np + nq + nt) ?_ ?_ ?_ ?_
                                    · exact ⟨by omega, by omega, by omega, by omega⟩
                                    · exact ⟨rfl, rfl, rfl, rfl, rfl, rfl, rfl, rfl, rfl, rfl, rfl, trivial⟩
                                    · exact trivial
                                    rintro ⟨k, z⟩ ⟨hj0, hj1, hy0, hy1⟩
                                    show C _ _ _ _ _ _ [(0, .slice aF nf cF), (1, .slice aO no cO), (2, .slice aL nc cL), (3, .slice aN nl cN), (4, .slice aR ns cR), (5, .slice aP np cP), (6, .slice aQ nq cQ), (7, .slice aT nt cT), (8, .slice aH nh cH), (19, .int .i64 z), (21, .int .i64 k)] []
                                    refine C_seq ?_
                                    refine C_seq ?_
                                    refine C_region ?_
                                    refine V_w0.q (QY_move rfl) rfl ?_
                                    refine V_w0.q (QY_move rfl) rfl ?_
                                    refine V_w0.q (QY_len sl42 rfl) rfl ?_
                                    refine W_lss V_w0 rfl rfl rfl (fun h118 => ?_) (fun h118 => ?_)
                                    ·
                                      refine V_nil (X_next ?_)
                                      refine C_true rfl ?_
                                      refine C_skip (X_next ?_)
                                      refine C_seq ?_
                                      refine C_block ?_
                                      refine C_seq ?_
                                      refine C_seq ?_
                                      refine C_region ?_
                                      refine V_w0.q (QY_move rfl) rfl ?_
                                      refine V_w0.q (QY_move rfl) rfl ?_
                                      refine W_elem V_w0 rfl rfl (hT.rd) (by omega) (by omega) sl42 lf22 rfl rfl (fun _ => ?_)
                                      refine V_w0.q (QY_len sl22 rfl) rfl ?_
                                      refine W_gtr V_w0 rfl rfl rfl (fun h126 => ?_) (fun h126 => ?_)
                                      ·
                                        refine V_nil (X_next ?_)
                                        refine C_true rfl ?_
                                        refine C_seq ?_
                                        refine C_region ?_
                                        refine V_w0.q (QY_assign rfl) rfl ?_
                                        refine V_nil (X_next ?_)
                                        refine C_ret (X_then_ret (X_block_ret (X_then_ret (X_then_ret (X_block_ret (X_then_ret (?_)))))))
                                        refine X_ret1 rfl rfl (fun w hm => ?_)
                                        exact ⟨_, trivial, rfl, hm⟩
                                      ·
                                        refine V_nil (X_next ?_)
                                        refine C_false rfl ?_
                                        refine C_skip (X_next ?_)
                                        refine C_seq ?_
                                        refine C_region ?_
                                        refine V_w0.q (QY_move rfl) rfl ?_
                                        refine V_w0.q (QY_move rfl) rfl ?_
                                        refine V_w0.q (QY_move rfl) rfl ?_
                                        refine W_elem V_w0 rfl rfl (hT.rd) (by omega) (by omega) sl42 lf22 rfl rfl (fun _ => ?_)
                                        refine V_w0.q (QY_len sl22 rfl) rfl ?_
                                        refine V_w0.q (QY_arith rfl rfl rfl ⟨by omega, by omega⟩) rfl ?_
                                        refine V_w0.q (QY_assign rfl) rfl ?_
                                        refine V_nil (X_next ?_)
                                        refine C_seq ?_
                                        refine C_region ?_
                                        refine V_w0.q (QY_move rfl) rfl ?_
                                        refine W_gtr V_w0 rfl rfl rfl (fun h135 => ?_) (fun h135 => ?_)
                                        ·
                                          refine V_nil (X_next ?_)
                                          refine C_true rfl ?_
                                          refine C_seq ?_
                                          refine C_region ?_
                                          refine V_w0.q (QY_assign rfl) rfl ?_
                                          refine V_nil (X_next ?_)
                                          refine C_ret (X_block_ret (X_then_ret (X_then_ret (X_block_ret (X_then_ret (?_))))))
                                          refine X_ret1 rfl rfl (fun w hm => ?_)
                                          exact ⟨_, trivial, rfl, hm⟩
                                        ·
                                          refine V_nil (X_next ?_)
                                          refine C_false rfl ?_
                                          refine C_skip (X_block (X_next ?_))
                                          refine C_region ?_
                                          refine V_w0.q (QY_move rfl) rfl ?_
                                          refine V_w0.q (QY_arith rfl rfl rfl ⟨by omega, by omega⟩) rfl ?_
                                          refine V_w0.q (QY_assign rfl) rfl ?_
                                          refine V_nil (X_then ?_)
                                          refine X_round (k + 1, z + (L2 k : Nat)) ?_ ?_ ?_ ?_
                                          · exact ⟨by omega, by omega, by omega, by omega⟩
                                          · show ((nt : Int) - (k + 1)).toNat < ((nt : Int) - k).toNat
                                            omega
                                          · exact ⟨rfl, rfl, rfl, rfl, rfl, rfl, rfl, rfl, rfl, rfl, rfl, trivial⟩
                                          · exact trivial
                                    ·
                                      refine V_nil (X_next ?_)
                                      refine C_false rfl ?_
                                      refine C_exit (X_then_exit (X_then_exit (X_block_exit (X_next ?_))))
                                      refine C_seq ?_
                                      refine C_seq ?_
                                      refine C_region ?_
                                      refine V_w0.q (QY_move rfl) rfl ?_
                                      refine V_w0.q (QY_len sl26 rfl) rfl ?_
                                      refine W_gtr V_w0 rfl rfl rfl (fun h138 => ?_) (fun h138 => ?_)
                                      ·
                                        refine V_nil (X_next ?_)
                                        refine C_true rfl ?_
                                        refine C_seq ?_
                                        refine C_region ?_
                                        refine V_w0.q (QY_assign rfl) rfl ?_
                                        refine V_nil (X_next ?_)
                                        refine C_ret (X_then_ret (?_))
                                        refine X_ret1 rfl rfl (fun w hm => ?_)
                                        exact ⟨_, trivial, rfl, hm⟩
                                      ·
                                        refine V_nil (X_next ?_)
                                        refine C_false rfl ?_
                                        refine C_skip (X_next ?_)
                                        refine C_seq ?_
                                        refine C_region ?_
                                        refine V_w0.q (QY_move rfl) rfl ?_
                                        refine V_w0.q (QY_move rfl) rfl ?_
                                        refine V_w0.q (QY_len sl26 rfl) rfl ?_
                                        refine V_w0.q (QY_arith rfl rfl rfl ⟨by omega, by omega⟩) rfl ?_
                                        refine V_w0.q (QY_assign rfl) rfl ?_
                                        refine V_nil (X_next ?_)
                                        refine C_seq ?_
                                        refine C_seq ?_
                                        refine C_region ?_
                                        refine V_w0.q (QY_move rfl) rfl ?_
                                        refine W_gtr V_w0 rfl rfl rfl (fun h144 => ?_) (fun h144 => ?_)
                                        ·
                                          refine V_nil (X_next ?_)
                                          refine C_true rfl ?_
                                          refine C_seq ?_
                                          refine C_region ?_
                                          refine V_w0.q (QY_assign rfl) rfl ?_
                                          refine V_nil (X_next ?_)
                                          refine C_ret (X_then_ret (?_))
                                          refine X_ret1 rfl rfl (fun w hm => ?_)
                                          exact ⟨_, trivial, rfl, hm⟩
                                        ·
                                          refine V_nil (X_next ?_)
                                          refine C_false rfl ?_
                                          refine C_skip (X_next ?_)
                                          refine C_seq ?_
                                          refine C_region ?_
                                          refine V_w0.q (QY_assign rfl) rfl ?_
                                          refine V_nil (X_next ?_)
                                          refine C_ret (?_)
                                          refine X_ret1 rfl rfl (fun w hm => ?_)
                                          exact ⟨_, trivial, rfl, hm⟩

theorem lens22 (w : World) (aF aO aL aN aR aP aQ aT aH : Option Addr) (nf no nc nl ns np nq nt nh cF cO cL cN cR cP cQ cT cH : Nat) (A1 A2 : Int → Option Addr) (L1 C1 L2 C2 : Int → Nat) (hN : RdW w (.slice aN nl cN) nl (fun i => .slice (A1 i) (L1 i) (C1 i))) (hT : RdW w (.slice aT nt cT) nt (fun i => .slice (A2 i) (L2 i) (C2 i))) :
    Calls Try.prog 22 #[.slice aF nf cF, .slice aO no cO, .slice aL nc cL, .slice aN nl cN, .slice aR ns cR, .slice aP np cP, .slice aQ nq cQ, .slice aT nt cT, .slice aH nh cH] w fun e w' => ∃ y : Bool, (y = true → (nf : Int) ≤ 4097 ∧ (no : Int) ≤ 262144 ∧ (nc : Int) ≤ 1048576 ∧ (nl : Int) ≤ 65536 ∧ (ns : Int) ≤ 4096 ∧ (np : Int) ≤ 4096 ∧ (nq : Int) ≤ 4096 ∧ (nt : Int) ≤ 65536 ∧ (nh : Int) ≤ 65536 ∧ tot L1 nl ≤ 4096 ∧ tot L2 nt ≤ 4096) ∧ e = .returned (.bool y) ∧ Mem (Old w) w [] w' := by
  refine enter (N := 139) (vs := [.slice aF nf cF, .slice aO no cO, .slice aL nc cL, .slice aN nl cN, .slice aR ns cR, .slice aP np cP, .slice aQ nq cQ, .slice aT nt cT, .slice aH nh cH]) Try.func22 rfl Try.ntmps22 rfl ?_ w (Mem.start w)
  refine C_seq ?_
  refine C_region ?_
  refine V_w0.q (QY_assign rfl) rfl ?_
  refine V_nil (X_next ?_)
  refine C_seq ?_
  refine C_seq ?_
  refine C_region ?_
  refine V_w0.q (QY_move rfl) rfl ?_
  refine V_w0.q (QY_len sl22 rfl) rfl ?_
  refine W_gtr V_w0 rfl rfl rfl (fun h28 => ?_) (fun h28 => ?_)
  ·
    refine V_w0.q (QY_move rfl) rfl ?_
    refine V_walk.no rfl rfl rfl ?_
    refine V_walk.no rfl rfl rfl ?_
    refine V_walk.no rfl rfl rfl ?_
    refine V_w0.q (QY_pick_true rfl rfl) rfl ?_
    refine V_w0.q (QY_move rfl) rfl ?_
    refine V_walk.no rfl rfl rfl ?_
    refine V_walk.no rfl rfl rfl ?_
    refine V_walk.no rfl rfl rfl ?_
    refine V_w0.q (QY_pick_true rfl rfl) rfl ?_
    refine V_w0.q (QY_move rfl) rfl ?_
    refine V_walk.no rfl rfl rfl ?_
    refine V_walk.no rfl rfl rfl ?_
    refine V_walk.no rfl rfl rfl ?_
    refine V_w0.q (QY_pick_true rfl rfl) rfl ?_
    refine V_nil (X_next ?_)
    refine C_true rfl ?_
    refine C_seq ?_
    refine C_region ?_
    refine V_w0.q (QY_assign rfl) rfl ?_
    refine V_nil (X_next ?_)
    refine C_ret (X_then_ret (?_))
    refine X_ret1 rfl rfl (fun w hm => ?_)
    exact ⟨_, (fun h => by cases h), rfl, hm⟩
  ·
    refine V_w0.q (QY_move rfl) rfl ?_
    refine V_walk.yes rfl rfl ?_
    refine V_w0.q (QY_move rfl) rfl ?_
    refine V_walk.yes rfl rfl ?_
    refine V_w0.q (QY_len sl22 rfl) rfl ?_
    refine V_walk.yes rfl rfl ?_
    refine W_gtr V_w0 rfl rfl rfl (fun h32 => ?_) (fun h32 => ?_)
    ·
      refine V_w0.q (QY_pick_false rfl rfl) rfl ?_
      refine V_w0.q (QY_move rfl) rfl ?_
      refine V_walk.no rfl rfl rfl ?_
      refine V_walk.no rfl rfl rfl ?_
      refine V_walk.no rfl rfl rfl ?_
      refine V_w0.q (QY_pick_true rfl rfl) rfl ?_
      refine V_w0.q (QY_move rfl) rfl ?_
      refine V_walk.no rfl rfl rfl ?_
      refine V_walk.no rfl rfl rfl ?_
      refine V_walk.no rfl rfl rfl ?_
      refine V_w0.q (QY_pick_true rfl rfl) rfl ?_
      refine V_nil (X_next ?_)
      refine C_true rfl ?_
      refine C_seq ?_
      refine C_region ?_
      refine V_w0.q (QY_assign rfl) rfl ?_
      refine V_nil (X_next ?_)
      refine C_ret (X_then_ret (?_))
      refine X_ret1 rfl rfl (fun w hm => ?_)
      exact ⟨_, (fun h => by cases h), rfl, hm⟩
    ·
      refine V_w0.q (QY_pick_false rfl rfl) rfl ?_
      refine V_w0.q (QY_move rfl) rfl ?_
      refine V_walk.yes rfl rfl ?_
      refine V_w0.q (QY_move rfl) rfl ?_
      refine V_walk.yes rfl rfl ?_
      refine V_w0.q (QY_len sl23 rfl) rfl ?_
      refine V_walk.yes rfl rfl ?_
      refine W_gtr V_w0 rfl rfl rfl (fun h37 => ?_) (fun h37 => ?_)
      ·
        refine V_w0.q (QY_pick_false rfl rfl) rfl ?_
        refine V_w0.q (QY_move rfl) rfl ?_
        refine V_walk.no rfl rfl rfl ?_
        refine V_walk.no rfl rfl rfl ?_
        refine V_walk.no rfl rfl rfl ?_
        refine V_w0.q (QY_pick_true rfl rfl) rfl ?_
        refine V_nil (X_next ?_)
        refine C_true rfl ?_
        refine C_seq ?_
        refine C_region ?_
        refine V_w0.q (QY_assign rfl) rfl ?_
        refine V_nil (X_next ?_)
        refine C_ret (X_then_ret (?_))
        refine X_ret1 rfl rfl (fun w hm => ?_)
        exact ⟨_, (fun h => by cases h), rfl, hm⟩
      ·
        refine V_w0.q (QY_pick_false rfl rfl) rfl ?_
        refine V_w0.q (QY_move rfl) rfl ?_
        refine V_walk.yes rfl rfl ?_
        refine V_w0.q (QY_move rfl) rfl ?_
        refine V_walk.yes rfl rfl ?_
        refine V_w0.q (QY_len sl42 rfl) rfl ?_
        refine V_walk.yes rfl rfl ?_
        refine W_gtr V_w0 rfl rfl rfl (fun h42 => ?_) (fun h42 => ?_)
        ·
          refine V_w0.q (QY_pick_false rfl rfl) rfl ?_
          refine V_nil (X_next ?_)
          refine C_true rfl ?_
          refine C_seq ?_
          refine C_region ?_
          refine V_w0.q (QY_assign rfl) rfl ?_
          refine V_nil (X_next ?_)
          refine C_ret (X_then_ret (?_))
          refine X_ret1 rfl rfl (fun w hm => ?_)
          exact ⟨_, (fun h => by cases h), rfl, hm⟩
        ·
          refine V_w0.q (QY_pick_false rfl rfl) rfl ?_
          refine V_nil (X_next ?_)
          refine C_false rfl ?_
          refine C_skip (X_next ?_)
          refine C_seq ?_
          refine C_seq ?_
          refine C_region ?_
          refine V_w0.q (QY_move rfl) rfl ?_
          refine V_w0.q (QY_len sl22 rfl) rfl ?_
          refine W_gtr V_w0 rfl rfl rfl (fun h46 => ?_) (fun h46 => ?_)
          ·
            refine V_w0.q (QY_move rfl) rfl ?_
            refine V_walk.no rfl rfl rfl ?_
            refine V_walk.no rfl rfl rfl ?_
            refine V_walk.no rfl rfl rfl ?_
            refine V_w0.q (QY_pick_true rfl rfl) rfl ?_
            refine V_w0.q (QY_move rfl) rfl ?_
            refine V_walk.no rfl rfl rfl ?_
            refine V_walk.no rfl rfl rfl ?_
            refine V_walk.no rfl rfl rfl ?_
            refine V_w0.q (QY_pick_true rfl rfl) rfl ?_
            refine V_nil (X_next ?_)
            refine C_true rfl ?_
            refine C_seq ?_
            refine C_region ?_
            refine V_w0.q (QY_assign rfl) rfl ?_
            refine V_nil (X_next ?_)
            refine C_ret (X_then_ret (?_))
            refine X_ret1 rfl rfl (fun w hm => ?_)
            exact ⟨_, (fun h => by cases h), rfl, hm⟩
          ·
            refine V_w0.q (QY_move rfl) rfl ?_
            refine V_walk.yes rfl rfl ?_
            refine V_w0.q (QY_move rfl) rfl ?_
            refine V_walk.yes rfl rfl ?_
            refine V_w0.q (QY_len sl22 rfl) rfl ?_
            refine V_walk.yes rfl rfl ?_
            refine W_gtr V_w0 rfl rfl rfl (fun h50 => ?_) (fun h50 => ?_)
            ·
              refine V_w0.q (QY_pick_false rfl rfl) rfl ?_
              refine V_w0.q (QY_move rfl) rfl ?_
              refine V_walk.no rfl rfl rfl ?_
              refine V_walk.no rfl rfl rfl ?_
              refine V_walk.no rfl rfl rfl ?_
              refine V_w0.q (QY_pick_true rfl rfl) rfl ?_
              refine V_nil (X_next ?_)
              refine C_true rfl ?_
              refine C_seq ?_
              refine C_region ?_
              refine V_w0.q (QY_assign rfl) rfl ?_
              refine V_nil (X_next ?_)
              refine C_ret (X_then_ret (?_))
              refine X_ret1 rfl rfl (fun w hm => ?_)
              exact ⟨_, (fun h => by cases h), rfl, hm⟩
            ·
              refine V_w0.q (QY_pick_false rfl rfl) rfl ?_
              refine V_w0.q (QY_move rfl) rfl ?_
              refine V_walk.yes rfl rfl ?_
              refine V_w0.q (QY_move rfl) rfl ?_
              refine V_walk.yes rfl rfl ?_
              refine V_w0.q (QY_len sl22 rfl) rfl ?_
              refine V_walk.yes rfl rfl ?_
              refine W_gtr V_w0 rfl rfl rfl (fun h55 => ?_) (fun h55 => ?_)
              ·
                refine V_w0.q (QY_pick_false rfl rfl) rfl ?_
                refine V_nil (X_next ?_)
                refine C_true rfl ?_
                refine C_seq ?_
                refine C_region ?_
                refine V_w0.q (QY_assign rfl) rfl ?_
                refine V_nil (X_next ?_)
                refine C_ret (X_then_ret (?_))
                refine X_ret1 rfl rfl (fun w hm => ?_)
                exact ⟨_, (fun h => by cases h), rfl, hm⟩
              ·
                refine V_w0.q (QY_pick_false rfl rfl) rfl ?_
                refine V_nil (X_next ?_)
                refine C_false rfl ?_
                refine C_skip (X_next ?_)
                refine C_seq ?_
                refine C_seq ?_
                refine C_region ?_
                refine V_w0.q (QY_move rfl) rfl ?_
                refine V_w0.q (QY_len sl42 rfl) rfl ?_
                refine W_gtr V_w0 rfl rfl rfl (fun h59 => ?_) (fun h59 => ?_)
                ·
                  refine V_w0.q (QY_move rfl) rfl ?_
                  refine V_walk.no rfl rfl rfl ?_
                  refine V_walk.no rfl rfl rfl ?_
                  refine V_walk.no rfl rfl rfl ?_
                  refine V_w0.q (QY_pick_true rfl rfl) rfl ?_
                  refine V_nil (X_next ?_)
                  refine C_true rfl ?_
                  refine C_seq ?_
                  refine C_region ?_
                  refine V_w0.q (QY_assign rfl) rfl ?_
                  refine V_nil (X_next ?_)
                  refine C_ret (X_then_ret (?_))
                  refine X_ret1 rfl rfl (fun w hm => ?_)
                  exact ⟨_, (fun h => by cases h), rfl, hm⟩
                ·
                  refine V_w0.q (QY_move rfl) rfl ?_
                  refine V_walk.yes rfl rfl ?_
                  refine V_w0.q (QY_move rfl) rfl ?_
                  refine V_walk.yes rfl rfl ?_
                  refine V_w0.q (QY_len sl26 rfl) rfl ?_
                  refine V_walk.yes rfl rfl ?_
                  refine W_gtr V_w0 rfl rfl rfl (fun h63 => ?_) (fun h63 => ?_)
                  ·
                    refine V_w0.q (QY_pick_false rfl rfl) rfl ?_
                    refine V_nil (X_next ?_)
                    refine C_true rfl ?_
                    refine C_seq ?_
                    refine C_region ?_
                    refine V_w0.q (QY_assign rfl) rfl ?_
                    refine V_nil (X_next ?_)
                    refine C_ret (X_then_ret (?_))
                    refine X_ret1 rfl rfl (fun w hm => ?_)
                    exact ⟨_, (fun h => by cases h), rfl, hm⟩
                  ·
                    refine V_w0.q (QY_pick_false rfl rfl) rfl ?_
                    refine V_nil (X_next ?_)
                    refine C_false rfl ?_
                    refine C_skip (X_next ?_)
                    refine C_seq ?_
                    refine C_region ?_
                    refine V_w0.q (QY_move rfl) rfl ?_
                    refine V_w0.q (QY_len sl22 rfl) rfl ?_
                    refine V_w0.q (QY_arith rfl rfl rfl ⟨by omega, by omega⟩) rfl ?_
                    refine V_w0.q (QY_move rfl) rfl ?_
                    refine V_w0.q (QY_len sl22 rfl) rfl ?_
                    refine V_w0.q (QY_arith rfl rfl rfl ⟨by omega, by omega⟩) rfl ?_
                    refine V_w0.q (QY_arith rfl rfl rfl ⟨by omega, by omega⟩) rfl ?_
                    refine V_w0.q (QY_move rfl) rfl ?_
                    refine V_w0.q (QY_len sl23 rfl) rfl ?_
                    refine V_w0.q (QY_arith rfl rfl rfl ⟨by omega, by omega⟩) rfl ?_
                    refine V_w0.q (QY_move rfl) rfl ?_
                    refine V_w0.q (QY_len sl42 rfl) rfl ?_
                    refine V_w0.q (QY_arith rfl rfl rfl ⟨by omega, by omega⟩) rfl ?_
                    refine V_w0.q (QY_arith rfl rfl rfl ⟨by omega, by omega⟩) rfl ?_
                    refine V_w0.q (QY_move rfl) rfl ?_
                    refine V_w0.q (QY_len sl22 rfl) rfl ?_
                    refine V_w0.q (QY_arith rfl rfl rfl ⟨by omega, by omega⟩) rfl ?_
                    refine V_w0.q (QY_arith rfl rfl rfl ⟨by omega, by omega⟩) rfl ?_
                    refine V_w0.q (QY_move rfl) rfl ?_
                    refine V_w0.q (QY_len sl22 rfl) rfl ?_
                    refine V_w0.q (QY_arith rfl rfl rfl ⟨by omega, by omega⟩) rfl ?_
                    refine V_w0.q (QY_arith rfl rfl rfl ⟨by omega, by omega⟩) rfl ?_
                    refine V_w0.q (QY_move rfl) rfl ?_
                    refine V_w0.q (QY_len sl22 rfl) rfl ?_
                    refine V_w0.q (QY_arith rfl rfl rfl ⟨by omega, by omega⟩) rfl ?_
                    refine V_w0.q (QY_arith rfl rfl rfl ⟨by omega, by omega⟩) rfl ?_
                    refine V_w0.q (QY_move rfl) rfl ?_
                    refine V_w0.q (QY_len sl42 rfl) rfl ?_
                    refine V_w0.q (QY_arith rfl rfl rfl ⟨by omega, by omega⟩) rfl ?_
                    refine V_w0.q (QY_arith rfl rfl rfl ⟨by omega, by omega⟩) rfl ?_
                    refine V_w0.q (QY_move rfl) rfl ?_
                    refine V_w0.q (QY_len sl26 rfl) rfl ?_
                    refine V_w0.q (QY_arith rfl rfl rfl ⟨by omega, by omega⟩) rfl ?_
                    refine V_w0.q (QY_assign rfl) rfl ?_
                    refine V_nil (X_next ?_)
                    refine C_seq ?_
                    refine C_region ?_
                    refine V_w0.q (QY_assign rfl) rfl ?_
                    refine V_nil (X_next ?_)
                    refine C_seq ?_
                    refine C_seq ?_
                    refine C_region ?_
                    refine V_w0.q (QY_move rfl) rfl ?_
                    refine V_w0.q (QY_len sl42 rfl) rfl ?_
                    refine V_w0.q (QY_move rfl) rfl ?_
                    refine V_nil (X_next ?_)
                    refine C_block ?_
                    refine C_loops (T := Int) (fun (k : Int) => [(3, .slice aN nl cN), (7, .slice aT nt cT), (19, .int .i64 (4 * (nf : Int) + 4 * no + nc + 24 * nl + 4 * ns + 4 * np + 4 * nq + 24 * nt + nh)), (20, .int .i64 (tot L1 k)), (98, .slice aN nl cN), (99, .int .i64 (nl : Int)), (100, .int .i64 k)]) (fun (k : Int) => []) (fun (k : Int) => 0 ≤ k ∧ k ≤ nl ∧ tot L1 k ≤ 4096) (fun (k : Int) => ((nl : Int) - k).toNat) 0 ?_ ?_ ?_ ?_
                    · exact ⟨by omega, by omega, by rw [tot_zero]; omega⟩
                    · exact ⟨rfl, rfl, rfl, rfl, rfl, rfl, rfl, trivial⟩
                    · exact trivial
                    rintro k ⟨hk0, hk1, hz1⟩
                    show C _ _ _ _ _ _ [(3, .slice aN nl cN), (7, .slice aT nt cT), (19, .int .i64 (4 * (nf : Int) + 4 * no + nc + 24 * nl + 4 * ns + 4 * np + 4 * nq + 24 * nt + nh)), (20, .int .i64 (tot L1 k)), (98, .slice aN nl cN), (99, .int .i64 (nl : Int)), (100, .int .i64 k)] []
                    have htn := tot_nonneg L1 k
                    have hts := tot_succ L1 hk0
                    refine C_seq ?_
                    refine C_region ?_
                    refine W_lss V_w0 rfl rfl rfl (fun h101 => ?_) (fun h101 => ?_)
                    ·
                      refine V_nil (X_next ?_)
                      refine C_seq ?_
                      refine C_true rfl ?_
                      refine C_skip (X_next ?_)
                      refine C_seq ?_
                      refine C_block ?_
                      refine C_seq ?_
                      refine C_region ?_
                      refine W_elem V_w0 rfl rfl (hN.rd) (by omega) (by omega) sl42 lf22 rfl rfl (fun _ => ?_)
                      refine V_w0.q (QY_assign rfl) rfl ?_
                      refine V_nil (X_next ?_)
                      refine C_seq ?_
                      refine C_seq ?_
                      refine C_region ?_
                      refine V_w0.q (QY_move rfl) rfl ?_
                      refine V_w0.q (QY_len sl22 rfl) rfl ?_
                      refine W_gtr V_w0 rfl rfl rfl (fun h106 => ?_) (fun h106 => ?_)
                      ·
                        refine V_nil (X_next ?_)
                        refine C_true rfl ?_
                        refine C_seq ?_
                        refine C_region ?_
                        refine V_w0.q (QY_assign rfl) rfl ?_
                        refine V_nil (X_next ?_)
                        refine C_ret (X_then_ret (X_block_ret (X_then_ret (X_then_ret (X_block_ret (X_then_ret (?_)))))))
                        refine X_ret1 rfl rfl (fun w hm => ?_)
                        exact ⟨_, (fun h => by cases h), rfl, hm⟩
                      ·
                        refine V_nil (X_next ?_)
                        refine C_false rfl ?_
                        refine C_skip (X_next ?_)
                        refine C_seq ?_
                        refine C_region ?_
                        refine V_w0.q (QY_move rfl) rfl ?_
                        refine V_w0.q (QY_move rfl) rfl ?_
                        refine V_w0.q (QY_len sl22 rfl) rfl ?_
                        refine V_w0.q (QY_arith (z := tot L1 (k + 1)) rfl rfl (by rw [hts]; rfl) ⟨by omega, by omega⟩) rfl ?_
                        refine V_w0.q (QY_assign rfl) rfl ?_
                        refine V_nil (X_next ?_)
                        refine C_seq ?_
                        refine C_region ?_
                        refine V_w0.q (QY_move rfl) rfl ?_
                        refine W_gtr V_w0 rfl rfl rfl (fun h112 => ?_) (fun h112 => ?_)
                        ·
                          refine V_nil (X_next ?_)
                          refine C_true rfl ?_
                          refine C_seq ?_
                          refine C_region ?_
                          refine V_w0.q (QY_assign rfl) rfl ?_
                          refine V_nil (X_next ?_)
                          refine C_ret (X_block_ret (X_then_ret (X_then_ret (X_block_ret (X_then_ret (?_))))))
                          refine X_ret1 rfl rfl (fun w hm => ?_)
                          exact ⟨_, (fun h => by cases h), rfl, hm⟩
                        ·
                          refine V_nil (X_next ?_)
                          refine C_false rfl ?_
                          refine C_skip (X_block (X_next ?_))
                          refine C_region ?_
                          refine V_w0.q (QY_arith rfl rfl rfl ⟨by omega, by omega⟩) rfl ?_
                          refine V_w0.q (QY_move rfl) rfl ?_
                          refine V_nil (X_then ?_)
                          refine X_round (k + 1) ?_ ?_ ?_ ?_
                          · exact ⟨by omega, by omega, by omega⟩
                          · show ((nl : Int) - (k + 1)).toNat < ((nl : Int) - k).toNat
                            omega
                          · exact ⟨rfl, rfl, rfl, rfl, rfl, rfl, rfl, trivial⟩
                          · exact trivial
                    ·
                      obtain rfl : k = (nl : Int) := by omega
                      refine V_nil (X_next ?_)
                      refine C_seq ?_
                      refine C_false rfl ?_
                      refine C_exit (X_then_exit (X_then_exit (X_block_exit (X_next ?_))))
                      refine C_seq ?_
                      refine C_region ?_
                      refine V_w0.q (QY_assign rfl) rfl ?_
                      refine V_nil (X_next ?_)
                      refine C_seq ?_
                      refine C_seq ?_
                      refine C_region ?_
                      refine V_w0.q (QY_move rfl) rfl ?_
                      refine V_w0.q (QY_len sl42 rfl) rfl ?_
                      refine V_w0.q (QY_move rfl) rfl ?_
                      refine V_nil (X_next ?_)
                      refine C_block ?_
                      refine C_loops (T := Int) (fun (j : Int) => [(3, .slice aN nl cN), (7, .slice aT nt cT), (19, .int .i64 (4 * (nf : Int) + 4 * no + nc + 24 * nl + 4 * ns + 4 * np + 4 * nq + 24 * nt + nh)), (20, .int .i64 (tot L1 nl)), (23, .int .i64 (tot L2 j)), (114, .slice aT nt cT), (115, .int .i64 (nt : Int)), (116, .int .i64 j)]) (fun (j : Int) => []) (fun (j : Int) => 0 ≤ j ∧ j ≤ nt ∧ tot L2 j ≤ 4096) (fun (j : Int) => ((nt : Int) - j).toNat) 0 ?_ ?_ ?_ ?_
                      · exact ⟨by omega, by omega, by rw [tot_zero]; omega⟩
                      · exact ⟨rfl, rfl, rfl, rfl, rfl, rfl, rfl, rfl, trivial⟩
                      · exact trivial
                      rintro j ⟨hj0, hj1, hy1⟩
                      show C _ _ _ _ _ _ [(3, .slice aN nl cN), (7, .slice aT nt cT), (19, .int .i64 (4 * (nf : Int) + 4 * no + nc + 24 * nl + 4 * ns + 4 * np + 4 * nq + 24 * nt + nh)), (20, .int .i64 (tot L1 nl)), (23, .int .i64 (tot L2 j)), (114, .slice aT nt cT), (115, .int .i64 (nt : Int)), (116, .int .i64 j)] []
                      have htm := tot_nonneg L2 j
                      have htt := tot_succ L2 hj0
                      refine C_seq ?_
                      refine C_region ?_
                      refine W_lss V_w0 rfl rfl rfl (fun h117 => ?_) (fun h117 => ?_)
                      ·
                        refine V_nil (X_next ?_)
                        refine C_seq ?_
                        refine C_true rfl ?_
                        refine C_skip (X_next ?_)
                        refine C_seq ?_
                        refine C_block ?_
                        refine C_seq ?_
                        refine C_region ?_
                        refine W_elem V_w0 rfl rfl (hT.rd) (by omega) (by omega) sl42 lf22 rfl rfl (fun _ => ?_)
                        refine V_w0.q (QY_assign rfl) rfl ?_
                        refine V_nil (X_next ?_)
                        refine C_seq ?_
                        refine C_seq ?_
                        refine C_region ?_
                        refine V_w0.q (QY_move rfl) rfl ?_
                        refine V_w0.q (QY_len sl22 rfl) rfl ?_
                        refine W_gtr V_w0 rfl rfl rfl (fun h122 => ?_) (fun h122 => ?_)
                        ·
                          refine V_nil (X_next ?_)
                          refine C_true rfl ?_
                          refine C_seq ?_
                          refine C_region ?_
                          refine V_w0.q (QY_assign rfl) rfl ?_
                          refine V_nil (X_next ?_)
                          refine C_ret (X_then_ret (X_block_ret (X_then_ret (X_then_ret (X_block_ret (X_then_ret (?_)))))))
                          refine X_ret1 rfl rfl (fun w hm => ?_)
                          exact ⟨_, (fun h => by cases h), rfl, hm⟩
                        ·
                          refine V_nil (X_next ?_)
                          refine C_false rfl ?_
                          refine C_skip (X_next ?_)
                          refine C_seq ?_
                          refine C_region ?_
                          refine V_w0.q (QY_move rfl) rfl ?_
                          refine V_w0.q (QY_move rfl) rfl ?_
                          refine V_w0.q (QY_len sl22 rfl) rfl ?_
                          refine V_w0.q (QY_arith (z := tot L2 (j + 1)) rfl rfl (by rw [htt]; rfl) ⟨by omega, by omega⟩) rfl ?_
                          refine V_w0.q (QY_assign rfl) rfl ?_
                          refine V_nil (X_next ?_)
                          refine C_seq ?_
                          refine C_region ?_
                          refine V_w0.q (QY_move rfl) rfl ?_
                          refine W_gtr V_w0 rfl rfl rfl (fun h128 => ?_) (fun h128 => ?_)
                          ·
                            refine V_nil (X_next ?_)
                            refine C_true rfl ?_
                            refine C_seq ?_
                            refine C_region ?_
                            refine V_w0.q (QY_assign rfl) rfl ?_
                            refine V_nil (X_next ?_)
                            refine C_ret (X_block_ret (X_then_ret (X_then_ret (X_block_ret (X_then_ret (?_))))))
                            refine X_ret1 rfl rfl (fun w hm => ?_)
                            exact ⟨_, (fun h => by cases h), rfl, hm⟩
                          ·
                            refine V_nil (X_next ?_)
                            refine C_false rfl ?_
                            refine C_skip (X_block (X_next ?_))
                            refine C_region ?_
                            refine V_w0.q (QY_arith rfl rfl rfl ⟨by omega, by omega⟩) rfl ?_
                            refine V_w0.q (QY_move rfl) rfl ?_
                            refine V_nil (X_then ?_)
                            refine X_round (j + 1) ?_ ?_ ?_ ?_
                            · exact ⟨by omega, by omega, by omega⟩
                            · show ((nt : Int) - (j + 1)).toNat < ((nt : Int) - j).toNat
                              omega
                            · exact ⟨rfl, rfl, rfl, rfl, rfl, rfl, rfl, rfl, trivial⟩
                            · exact trivial
                      ·
                        obtain rfl : j = (nt : Int) := by omega
                        refine V_nil (X_next ?_)
                        refine C_seq ?_
                        refine C_false rfl ?_
                        refine C_exit (X_then_exit (X_then_exit (X_block_exit (X_next ?_))))
                        refine C_seq ?_
                        refine C_region ?_
                        refine V_w0.q (QY_move rfl) rfl ?_
                        refine V_w0.q (QY_move rfl) rfl ?_
                        refine V_w0.q (QY_arith rfl rfl rfl ⟨by omega, by omega⟩) rfl ?_
                        refine V_w0.q (QY_move rfl) rfl ?_
                        refine V_w0.q (QY_arith rfl rfl rfl ⟨by omega, by omega⟩) rfl ?_
                        refine V_w0.q (QY_arith rfl rfl rfl ⟨by omega, by omega⟩) rfl ?_
                        refine V_w0.q (QY_arith rfl rfl rfl ⟨by omega, by omega⟩) rfl ?_
                        refine V_w0.q (QY_assign rfl) rfl ?_
                        refine V_nil (X_next ?_)
                        refine C_seq ?_
                        refine C_region ?_
                        refine V_w0.q (QY_move rfl) rfl ?_
                        refine W_leq V_w0 rfl rfl rfl (fun h138 => ?_) (fun h138 => ?_)
                        ·
                          refine V_w0.q (QY_assign rfl) rfl ?_
                          refine V_nil (X_next ?_)
                          refine C_ret (?_)
                          refine X_ret1 rfl rfl (fun w hm => ?_)
                          exact ⟨_, (fun _ => ⟨by omega, by omega, by omega, by omega, by omega, by omega, by omega, by omega, by omega, by omega, by omega⟩), rfl, hm⟩
                        ·
                          refine V_w0.q (QY_assign rfl) rfl ?_
                          refine V_nil (X_next ?_)
                          refine C_ret (?_)
                          refine X_ret1 rfl rfl (fun w hm => ?_)
                          exact ⟨_, (fun h => by cases h), rfl, hm⟩

end Go.Proofs.Qxb6001307a
