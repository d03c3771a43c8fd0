/-
  OWN WORK (the rule applications laid by a program of our own, wip/gen). relayCount, adjTotalOK, leafList, adjSorted.
-/
import Derived.Test.Qxb6001307aRelB
namespace Go.Proofs.Qxb6001307a
open Go.RowKit
set_option linter.unusedSimpArgs false
set_option linter.unusedVariables false

/-- Where list 'l' has its first relay: the places of the lists before it that a span or a covering leaf holds. -/
def used (lf lt : Int → Int) (l : Int) : Prop := lf l < lf (l + 1) ∨ 0 ≤ lt l
def rel (lf lt : Int → Int) (L : Int → Nat) (k : Int) : Int := sumF (fun l => if lf l < lf (l + 1) ∨ 0 ≤ lt l then ((L l : Nat) : Int) else 0) k.toNat
theorem rel_yes {lf lt : Int → Int} {L : Int → Nat} {k : Int} (h : 0 ≤ k) (hu : lf k < lf (k + 1) ∨ 0 ≤ lt k) : rel lf lt L (k + 1) = rel lf lt L k + (L k : Nat) := by
  unfold rel
  rw [show (k + 1).toNat = k.toNat + 1 from by omega, sumF, show ((k.toNat : Nat) : Int) = k from by omega]
  show _ + (if lf k < lf (k + 1) ∨ 0 ≤ lt k then ((L k : Nat) : Int) else 0) = _
  rw [if_pos hu]
theorem rel_no {lf lt : Int → Int} {L : Int → Nat} {k : Int} (h : 0 ≤ k) (hu : ¬ (lf k < lf (k + 1) ∨ 0 ≤ lt k)) : rel lf lt L (k + 1) = rel lf lt L k := by
  unfold rel
  rw [show (k + 1).toNat = k.toNat + 1 from by omega, sumF, show ((k.toNat : Nat) : Int) = k from by omega]
  show _ + (if lf k < lf (k + 1) ∨ 0 ≤ lt k then ((L k : Nat) : Int) else 0) = _
  rw [if_neg hu]
  omega
theorem rel_zero (lf lt : Int → Int) (L : Int → Nat) : rel lf lt L 0 = 0 := rfl
theorem rel_b (lf lt : Int → Int) (L : Int → Nat) {k : Int} (h : 0 ≤ k) : 0 ≤ rel lf lt L k ∧ rel lf lt L k ≤ tot L k := by
  obtain ⟨d, hd⟩ : ∃ d : Nat, k = d := ⟨k.toNat, by omega⟩
  subst hd
  induction d with
  | zero => rw [show ((0 : Nat) : Int) = 0 from rfl, rel_zero, tot_zero]; omega
  | succ d ih =>
    have ih := ih (by omega)
    rw [show ((d + 1 : Nat) : Int) = (d : Int) + 1 from by omega, tot_succ L (by omega)]
    by_cases hu : lf d < lf ((d : Int) + 1) ∨ 0 ≤ lt d
    · rw [rel_yes (by omega) hu]; omega
    · rw [rel_no (by omega) hu]; omega
theorem rel_mono (lf lt : Int → Int) (L : Int → Nat) {j k : Int} (h0 : 0 ≤ j) (h : j ≤ k) : rel lf lt L j ≤ rel lf lt L k := by
  obtain ⟨d, hd⟩ : ∃ d : Nat, k = j + d := ⟨(k - j).toNat, by omega⟩
  subst hd
  clear h
  induction d with
  | zero => simp
  | succ d ih =>
    rw [show j + ((d + 1 : Nat) : Int) = (j + d) + 1 from by omega]
    by_cases hu : lf (j + d) < lf (j + d + 1) ∨ 0 ≤ lt (j + d)
    · rw [rel_yes (by omega) hu]; omega
    · rw [rel_no (by omega) hu]; exact ih

theorem count26 (w : World) (aN aV aW : Option Addr) (nl nv nw cN cV cW : Nat) (A : Int → Option Addr) (L Cq : Int → Nat) (lf lt : Int → Int) (hN : RdW w (.slice aN nl cN) nl (fun i => .slice (A i) (L i) (Cq i))) (hlf : RdW w (.slice aV nv cV) nv (ints .i32 lf)) (hlt : RdW w (.slice aW nw cW) nw (ints .i32 lt))
    (hnv : (nv : Int) = (nl : Int) + 1) (hnw : nw = nl) (htot : tot L nl ≤ 4096) (hnl : (nl : Int) ≤ 65536) :
    Calls Try.prog 26 #[.slice aN nl cN, .slice aV nv cV, .slice aW nw cW] w fun e w' => ∃ y : Int, y = rel lf lt L nl ∧ e = .returned (.int .i32 y) ∧ Mem (Old w) w [] w' := by
  refine enter (N := 41) (vs := [.slice aN nl cN, .slice aV nv cV, .slice aW nw cW]) Try.func26 rfl Try.ntmps26 rfl ?_ w (Mem.start w)
  refine C_seq ?_
  refine C_region ?_
  refine V_w0.q (QY_assign rfl) rfl ?_
  refine V_nil (X_next ?_)
  refine C_seq ?_
  refine C_region ?_
  refine V_w0.q (QY_assign rfl) rfl ?_
  refine V_nil (X_next ?_)
  refine C_seq ?_
  refine C_seq ?_
  refine C_region ?_
  refine V_w0.q (QY_assign rfl) rfl ?_
  refine V_nil (X_next ?_)
  refine C_block ?_
  refine C_loops (T := Int × Int) (fun (zz9 : Int × Int) => match zz9 with | (k, c) => [(0, .slice aN nl cN), (1, .slice aV nv cV), (2, .slice aW nw cW), (7, .int .i32 c), (8, .int .i64 k)]) (fun (zz9 : Int × Int) => match zz9 with | (k, c) => []) (fun (zz9 : Int × Int) => match zz9 with | (k, c) => 0 ≤ k ∧ k ≤ nl ∧ c = rel lf lt L k) (fun (zz9 : Int × Int) => match zz9 with | (k, c) => ((nl : Int) - k).toNat) (0, 0) ?_ ?_ ?_ ?_
  · exact ⟨by omega, by omega, rfl⟩
  · exact ⟨rfl, rfl, rfl, rfl, rfl, trivial⟩
  · exact trivial
  rintro ⟨k, c⟩ ⟨hk0, hk1, hc⟩
  show C _ _ _ _ _ _ [(0, .slice aN nl cN), (1, .slice aV nv cV), (2, .slice aW nw cW), (7, .int .i32 c), (8, .int .i64 k)] []
  have hrb := rel_b lf lt L hk0
  refine C_seq ?_
  refine C_seq ?_
  refine C_region ?_
  refine V_w0.q (QY_move rfl) rfl ?_
  refine V_w0.q (QY_move rfl) rfl ?_
  refine V_w0.q (QY_len sl42 rfl) rfl ?_
  refine W_lss V_w0 rfl rfl rfl (fun h12 => ?_) (fun h12 => ?_)
  ·
    have htm := tot_mono L (j := k + 1) (k := nl) (by omega) (by omega)
    have hts := tot_succ L hk0
    refine V_nil (X_next ?_)
    refine C_true rfl ?_
    refine C_skip (X_next ?_)
    refine C_cut (T := Int) (fun (c1 : Int) => [(0, .slice aN nl cN), (1, .slice aV nv cV), (2, .slice aW nw cW), (7, .int .i32 c1), (8, .int .i64 k)]) (fun (c1 : Int) => []) (fun (c1 : Int) => c1 = rel lf lt L (k + 1)) ?_ ?_
    ·
      refine C_block ?_
      refine C_seq ?_
      refine C_draw mix (by kernel_rfl) ?_
      refine S_w0.q (QY_move rfl) rfl ?_
      refine S_w0.q (QY_move rfl) rfl ?_
      refine W_elem S_w0 rfl rfl (hlf.rd) (by omega) (by omega) sl22 lf21 rfl rfl (fun _ => ?_)
      refine S_w0.q (QY_move rfl) rfl ?_
      refine S_w0.q (QY_move rfl) rfl ?_
      refine S_w0.q (QY_arith rfl rfl rfl ⟨by omega, by omega⟩) rfl ?_
      refine W_elem S_w0 rfl rfl (hlf.rd) (by omega) (by omega) sl22 lf21 rfl rfl (fun _ => ?_)
      refine W_lss S_w0 rfl rfl rfl (fun h24 => ?_) (fun h24 => ?_)
      ·
        refine S_w0.q (QY_move rfl) rfl ?_
        refine S_walk.no rfl rfl rfl ?_
        refine S_walk.no rfl rfl rfl ?_
        refine S_walk.no rfl rfl rfl ?_
        refine S_walk.no rfl rfl rfl ?_
        refine S_walk.no rfl rfl rfl ?_
        refine S_w0.q (QY_pick_true rfl rfl) rfl ?_
        refine S_nil (X_next ?_)
        refine C_true rfl ?_
        refine C_region ?_
        refine V_w0.q (QY_move rfl) rfl ?_
        refine V_w0.q (QY_move rfl) rfl ?_
        refine V_w0.q (QY_move rfl) rfl ?_
        refine W_elem V_w0 rfl rfl (hN.rd) (by omega) (by omega) sl42 lf22 rfl rfl (fun _ => ?_)
        refine V_w0.q (QY_len sl22 rfl) rfl ?_
        refine V_w0.q (QY_conv it3 it21 rfl ⟨by omega, by omega⟩) rfl ?_
        refine V_w0.q (QY_arith rfl rfl rfl ⟨by omega, by omega⟩) rfl ?_
        refine V_w0.q (QY_assign rfl) rfl ?_
        refine V_nil (X_block (X_then ?_))
        refine X_cut (c + (L k : Nat)) ?_ ?_ ?_
        · show _ = _
          rw [rel_yes hk0 (.inl h24), ← hc]
        · exact ⟨rfl, rfl, rfl, rfl, rfl, trivial⟩
        · exact trivial
      ·
        refine S_w0.q (QY_move rfl) rfl ?_
        refine S_walk.yes rfl rfl ?_
        refine S_w0.q (QY_move rfl) rfl ?_
        refine S_walk.yes rfl rfl ?_
        refine S_w0.q (QY_move rfl) rfl ?_
        refine S_walk.yes rfl rfl ?_
        refine W_elem2 S_walk rfl (fun _ => rfl) rfl rfl (hlt.rd) (by omega) (by omega) sl22 lf21 rfl rfl (fun _ => ?_)
        refine S_walk.yes rfl rfl ?_
        refine W_geq S_w0 rfl rfl rfl (fun h30 => ?_) (fun h30 => ?_)
        ·
          refine S_w0.q (QY_pick_false rfl rfl) rfl ?_
          refine S_nil (X_next ?_)
          refine C_true rfl ?_
          refine C_region ?_
          refine V_w0.q (QY_move rfl) rfl ?_
          refine V_w0.q (QY_move rfl) rfl ?_
          refine V_w0.q (QY_move rfl) rfl ?_
          refine W_elem V_w0 rfl rfl (hN.rd) (by omega) (by omega) sl42 lf22 rfl rfl (fun _ => ?_)
          refine V_w0.q (QY_len sl22 rfl) rfl ?_
          refine V_w0.q (QY_conv it3 it21 rfl ⟨by omega, by omega⟩) rfl ?_
          refine V_w0.q (QY_arith rfl rfl rfl ⟨by omega, by omega⟩) rfl ?_
          refine V_w0.q (QY_assign rfl) rfl ?_
          refine V_nil (X_block (X_then ?_))
          refine X_cut (c + (L k : Nat)) ?_ ?_ ?_
          · show _ = _
            rw [rel_yes hk0 (.inr h30), ← hc]
          · exact ⟨rfl, rfl, rfl, rfl, rfl, trivial⟩
          · exact trivial
        ·
          refine S_w0.q (QY_pick_false rfl rfl) rfl ?_
          refine S_nil (X_next ?_)
          refine C_false rfl ?_
          refine C_skip (X_block (X_then ?_))
          refine X_cut c ?_ ?_ ?_
          · show _ = _
            rw [rel_no hk0 (by omega)]; exact hc
          · exact ⟨rfl, rfl, rfl, rfl, rfl, trivial⟩
          · exact trivial
    rintro c1 hc1
    show C _ _ _ _ _ _ [(0, .slice aN nl cN), (1, .slice aV nv cV), (2, .slice aW nw cW), (7, .int .i32 c1), (8, .int .i64 k)] []
    refine C_region ?_
    refine V_w0.q (QY_move rfl) rfl ?_
    refine V_w0.q (QY_arith rfl rfl rfl ⟨by omega, by omega⟩) rfl ?_
    refine V_w0.q (QY_assign rfl) rfl ?_
    refine V_nil (X_then ?_)
    refine X_round (k + 1, c1) ?_ ?_ ?_ ?_
    · exact ⟨by omega, by omega, hc1⟩
    · show ((nl : Int) - (k + 1)).toNat < ((nl : Int) - k).toNat
      omega
    · exact ⟨rfl, rfl, rfl, rfl, rfl, trivial⟩
    · exact trivial
  ·
    obtain rfl : k = (nl : Int) := by omega
    refine V_nil (X_next ?_)
    refine C_false rfl ?_
    refine C_exit (X_then_exit (X_then_exit (X_block_exit (X_next ?_))))
    refine C_seq ?_
    refine C_region ?_
    refine V_w0.q (QY_move rfl) rfl ?_
    refine V_w0.q (QY_assign rfl) rfl ?_
    refine V_nil (X_next ?_)
    refine C_ret (?_)
    refine X_ret1 rfl rfl (fun w hm => ?_)
    exact ⟨c, hc, rfl, hm⟩

theorem adjT27 (w : World) (aF aO aC : Option Addr) (nf no nc cF cO cC t : Nat) (f o : Int → Int) (hF : RdW w (.slice aF nf cF) nf (ints .i32 f)) (hO : RdW w (.slice aO no cO) no (ints .i32 o)) (hnf : (nf : Int) = (t : Int) + 1) (h00 : f 0 = 0) (hmono : ∀ u, 0 ≤ u → u < (t : Int) → f u ≤ f (u + 1)) (hlast : f t = no) (hnc : nc = no)
    (hrange : ∀ e, 0 ≤ e → e < (no : Int) → 0 ≤ o e ∧ o e < (t : Int)) (ht : (t : Int) ≤ 1048576) (hno : (no : Int) ≤ 1048576) :
    Calls Try.prog 27 #[.slice aF nf cF, .slice aO no cO, .slice aC nc cC, .int .i32 (t : Int)] w fun e w' => ∃ y : Unit, True ∧ e = .returned (.bool true) ∧ Mem (Old w) w [] w' := by
  refine enter (N := 68) (vs := [.slice aF nf cF, .slice aO no cO, .slice aC nc cC, .int .i32 (t : Int)]) Try.func27 rfl Try.ntmps27 rfl ?_ w (Mem.start w)
  refine C_seq ?_
  refine C_region ?_
  refine V_w0.q (QY_assign rfl) rfl ?_
  refine V_nil (X_next ?_)
  refine C_seq ?_
  refine C_seq ?_
  refine C_region ?_
  refine V_w0.q (QY_move rfl) rfl ?_
  refine V_w0.q (QY_len sl22 rfl) rfl ?_
  refine V_w0.q (QY_move rfl) rfl ?_
  refine V_w0.q (QY_conv it21 it3 rfl ⟨by omega, by omega⟩) rfl ?_
  refine V_w0.q (QY_arith rfl rfl rfl ⟨by omega, by omega⟩) rfl ?_
  refine W_neq V_w0 rfl rfl rfl (fun h17 => False.elim (by omega)) (fun h17 => ?_)
  refine V_w0.q (QY_move rfl) rfl ?_
  refine V_walk.yes rfl rfl ?_
  refine V_w0.q (QY_move rfl) rfl ?_
  refine V_walk.yes rfl rfl ?_
  refine W_elem2 V_walk rfl (fun _ => rfl) rfl rfl (hF.rd) (by omega) (by omega) sl22 lf21 rfl rfl (fun _ => ?_)
  refine V_walk.yes rfl rfl ?_
  refine W_neq V_w0 rfl rfl rfl (fun h22 => False.elim (h22 h00)) (fun h22 => ?_)
  refine V_w0.q (QY_pick_false rfl rfl) rfl ?_
  refine V_nil (X_next ?_)
  refine C_false rfl ?_
  refine C_skip (X_next ?_)
  refine C_seq ?_
  refine C_seq ?_
  refine C_region ?_
  refine V_w0.q (QY_assign rfl) rfl ?_
  refine V_nil (X_next ?_)
  refine C_block ?_
  refine C_loops (T := Int) (fun (u : Int) => [(0, .slice aF nf cF), (1, .slice aO no cO), (2, .slice aC nc cC), (3, .int .i32 (t : Int)), (9, .int .i32 u)]) (fun (u : Int) => []) (fun (u : Int) => 0 ≤ u ∧ u ≤ t) (fun (u : Int) => ((t : Int) - u).toNat) 0 ?_ ?_ ?_ ?_
  · exact ⟨by omega, by omega⟩
  · exact ⟨rfl, rfl, rfl, rfl, rfl, trivial⟩
  · exact trivial
  rintro u ⟨hu0, hu1⟩
  show C _ _ _ _ _ _ [(0, .slice aF nf cF), (1, .slice aO no cO), (2, .slice aC nc cC), (3, .int .i32 (t : Int)), (9, .int .i32 u)] []
  refine C_seq ?_
  refine C_seq ?_
  refine C_region ?_
  refine V_w0.q (QY_move rfl) rfl ?_
  refine V_w0.q (QY_move rfl) rfl ?_
  refine W_lss V_w0 rfl rfl rfl (fun h26 => ?_) (fun h26 => ?_)
  ·
    have hmo := hmono u hu0 (by omega)
    refine V_nil (X_next ?_)
    refine C_true rfl ?_
    refine C_skip (X_next ?_)
    refine C_seq ?_
    refine C_block ?_
    refine C_seq ?_
    refine C_draw mix (by kernel_rfl) ?_
    refine S_w0.q (QY_move rfl) rfl ?_
    refine S_w0.q (QY_move rfl) rfl ?_
    refine S_w0.q (QY_arith rfl rfl rfl ⟨by omega, by omega⟩) rfl ?_
    refine W_elem S_w0 rfl rfl (hF.rd) (by omega) (by omega) sl22 lf21 rfl rfl (fun _ => ?_)
    refine S_w0.q (QY_move rfl) rfl ?_
    refine S_w0.q (QY_move rfl) rfl ?_
    refine W_elem S_w0 rfl rfl (hF.rd) (by omega) (by omega) sl22 lf21 rfl rfl (fun _ => ?_)
    refine W_lss S_w0 rfl rfl rfl (fun h38 => False.elim (by omega)) (fun h38 => ?_)
    refine S_nil (X_next ?_)
    refine C_false rfl ?_
    refine C_skip (X_block (X_next ?_))
    refine C_region ?_
    refine V_w0.q (QY_move rfl) rfl ?_
    refine V_w0.q (QY_arith rfl rfl rfl ⟨by omega, by omega⟩) rfl ?_
    refine V_w0.q (QY_assign rfl) rfl ?_
    refine V_nil (X_then ?_)
    refine X_round (u + 1) ?_ ?_ ?_ ?_
    · exact ⟨by omega, by omega⟩
    · show ((t : Int) - (u + 1)).toNat < ((t : Int) - u).toNat
      omega
    · exact ⟨rfl, rfl, rfl, rfl, rfl, trivial⟩
    · exact trivial
  ·
    refine V_nil (X_next ?_)
    refine C_false rfl ?_
    refine C_exit (X_then_exit (X_then_exit (X_block_exit (X_next ?_))))
    refine C_seq ?_
    refine C_seq ?_
    refine C_region ?_
    refine V_w0.q (QY_move rfl) rfl ?_
    refine V_w0.q (QY_move rfl) rfl ?_
    refine W_elem V_w0 rfl rfl (hF.rd) (by omega) (by omega) sl22 lf21 rfl rfl (fun _ => ?_)
    refine V_w0.q (QY_conv it21 it3 rfl ⟨by omega, by omega⟩) rfl ?_
    refine V_w0.q (QY_move rfl) rfl ?_
    refine V_w0.q (QY_len sl22 rfl) rfl ?_
    refine W_neq V_w0 rfl rfl rfl (fun h46 => False.elim (by omega)) (fun h46 => ?_)
    refine V_w0.q (QY_move rfl) rfl ?_
    refine V_walk.yes rfl rfl ?_
    refine V_w0.q (QY_move rfl) rfl ?_
    refine V_walk.yes rfl rfl ?_
    refine V_w0.q (QY_len sl23 rfl) rfl ?_
    refine V_walk.yes rfl rfl ?_
    refine V_w0.q (QY_move rfl) rfl ?_
    refine V_walk.yes rfl rfl ?_
    refine V_w0.q (QY_len sl22 rfl) rfl ?_
    refine V_walk.yes rfl rfl ?_
    refine W_neq V_w0 rfl rfl rfl (fun h52 => False.elim (by omega)) (fun h52 => ?_)
    refine V_w0.q (QY_pick_false rfl rfl) rfl ?_
    refine V_nil (X_next ?_)
    refine C_false rfl ?_
    refine C_skip (X_next ?_)
    refine C_seq ?_
    refine C_seq ?_
    refine C_region ?_
    refine V_w0.q (QY_move rfl) rfl ?_
    refine V_w0.q (QY_len sl22 rfl) rfl ?_
    refine V_w0.q (QY_move rfl) rfl ?_
    refine V_nil (X_next ?_)
    refine C_block ?_
    refine C_loops (T := Int) (fun (k : Int) => [(3, .int .i32 (t : Int)), (54, .slice aO no cO), (55, .int .i64 (no : Int)), (56, .int .i64 k)]) (fun (k : Int) => []) (fun (k : Int) => 0 ≤ k ∧ k ≤ no) (fun (k : Int) => ((no : Int) - k).toNat) 0 ?_ ?_ ?_ ?_
    · exact ⟨by omega, by omega⟩
    · exact ⟨rfl, rfl, rfl, rfl, trivial⟩
    · exact trivial
    rintro k ⟨hk0, hk1⟩
    show C _ _ _ _ _ _ [(3, .int .i32 (t : Int)), (54, .slice aO no cO), (55, .int .i64 (no : Int)), (56, .int .i64 k)] []
    refine C_seq ?_
    refine C_region ?_
    refine W_lss V_w0 rfl rfl rfl (fun h57 => ?_) (fun h57 => ?_)
    ·
      have hra := hrange k hk0 (by omega)
      refine V_nil (X_next ?_)
      refine C_seq ?_
      refine C_true rfl ?_
      refine C_skip (X_next ?_)
      refine C_seq ?_
      refine C_block ?_
      refine C_seq ?_
      refine C_region ?_
      refine W_elem V_w0 rfl rfl (hO.rd) (by omega) (by omega) sl22 lf21 rfl rfl (fun _ => ?_)
      refine V_w0.q (QY_assign rfl) rfl ?_
      refine V_nil (X_next ?_)
      refine C_seq ?_
      refine C_region ?_
      refine V_w0.q (QY_move rfl) rfl ?_
      refine W_lss V_w0 rfl rfl rfl (fun h61 => False.elim (by omega)) (fun h61 => ?_)
      refine V_w0.q (QY_move rfl) rfl ?_
      refine V_walk.yes rfl rfl ?_
      refine V_w0.q (QY_move rfl) rfl ?_
      refine V_walk.yes rfl rfl ?_
      refine V_w0.q (QY_move rfl) rfl ?_
      refine V_walk.yes rfl rfl ?_
      refine W_geq V_w0 rfl rfl rfl (fun h65 => False.elim (by omega)) (fun h65 => ?_)
      refine V_w0.q (QY_pick_false rfl rfl) rfl ?_
      refine V_nil (X_next ?_)
      refine C_false rfl ?_
      refine C_skip (X_block (X_next ?_))
      refine C_region ?_
      refine V_w0.q (QY_arith rfl rfl rfl ⟨by omega, by omega⟩) rfl ?_
      refine V_w0.q (QY_move rfl) rfl ?_
      refine V_nil (X_then ?_)
      refine X_round (k + 1) ?_ ?_ ?_ ?_
      · exact ⟨by omega, by omega⟩
      · show ((no : Int) - (k + 1)).toNat < ((no : Int) - k).toNat
        omega
      · exact ⟨rfl, rfl, rfl, rfl, trivial⟩
      · exact trivial
    ·
      refine V_nil (X_next ?_)
      refine C_seq ?_
      refine C_false rfl ?_
      refine C_exit (X_then_exit (X_then_exit (X_block_exit (X_next ?_))))
      refine C_seq ?_
      refine C_region ?_
      refine V_w0.q (QY_assign rfl) rfl ?_
      refine V_nil (X_next ?_)
      refine C_ret (?_)
      refine X_ret1 rfl rfl (fun w hm => ?_)
      exact ⟨(), trivial, rfl, hm⟩

theorem leaf28 (w : World) (aH aU aT : Option Addr) (nh nu nt cH cU cT : Nat) (A : Int → Option Addr) (L Cq : Int → Nat) (Z : Int → Int → Int) (ht th : Int → Int) (h : Int) (hht : RdW w (.slice aH nh cH) nh (ints .i32 ht)) (hth : RdW w (.slice aU nu cU) nu (ints .i32 th)) (hT : RdR w aT nt cT A L Cq Z)
    (h0 : 0 ≤ h) (h1 : h < (nh : Int)) (hnu : nu = nt) (ht0 : 0 ≤ ht h) (ht1 : ht h < (nt : Int)) (hs0 : 0 ≤ th (ht h)) (hs1 : th (ht h) ≤ h) (hs2 : h < th (ht h) + 2 * (L (ht h) : Nat) - 1) (hnh : (nh : Int) ≤ 1048576) (hL : (L (ht h) : Int) ≤ 4096) :
    Calls Try.prog 28 #[.int .i32 h, .slice aH nh cH, .slice aU nu cU, .slice aT nt cT] w fun e w' => ∃ y : Int, y = (if h - th (ht h) + 1 < (L (ht h) : Nat) then -1 else Z (ht h) (h - th (ht h) + 1 - (L (ht h) : Nat))) ∧ e = .returned (.int .i32 y) ∧ Mem (Old w) w [] w' := by
  refine enter (N := 41) (vs := [.int .i32 h, .slice aH nh cH, .slice aU nu cU, .slice aT nt cT]) Try.func28 rfl Try.ntmps28 rfl ?_ w (Mem.start w)
  refine C_seq ?_
  refine C_region ?_
  refine V_w0.q (QY_assign rfl) rfl ?_
  refine V_nil (X_next ?_)
  refine C_seq ?_
  refine C_region ?_
  refine V_w0.q (QY_move rfl) rfl ?_
  refine V_w0.q (QY_move rfl) rfl ?_
  refine W_elem V_w0 rfl rfl (hht.rd) (by omega) (by omega) sl22 lf21 rfl rfl (fun _ => ?_)
  refine V_w0.q (QY_assign rfl) rfl ?_
  refine V_nil (X_next ?_)
  refine C_seq ?_
  refine C_region ?_
  refine V_w0.q (QY_move rfl) rfl ?_
  refine V_w0.q (QY_move rfl) rfl ?_
  refine W_elem V_w0 rfl rfl (hT.1.rd) (by omega) (by omega) sl42 lf22 rfl rfl (fun _ => ?_)
  refine V_w0.q (QY_len sl22 rfl) rfl ?_
  refine V_w0.q (QY_conv it3 it21 rfl ⟨by omega, by omega⟩) rfl ?_
  refine V_w0.q (QY_assign rfl) rfl ?_
  refine V_nil (X_next ?_)
  refine C_seq ?_
  refine C_region ?_
  refine V_w0.q (QY_move rfl) rfl ?_
  refine V_w0.q (QY_move rfl) rfl ?_
  refine V_w0.q (QY_move rfl) rfl ?_
  refine W_elem V_w0 rfl rfl (hth.rd) (by omega) (by omega) sl22 lf21 rfl rfl (fun _ => ?_)
  refine V_w0.q (QY_arith rfl rfl rfl ⟨by omega, by omega⟩) rfl ?_
  refine V_w0.q (QY_arith rfl rfl rfl ⟨by omega, by omega⟩) rfl ?_
  refine V_w0.q (QY_assign rfl) rfl ?_
  refine V_nil (X_next ?_)
  refine C_seq ?_
  refine C_seq ?_
  refine C_region ?_
  refine V_w0.q (QY_move rfl) rfl ?_
  refine V_w0.q (QY_move rfl) rfl ?_
  refine W_lss V_w0 rfl rfl rfl (fun h31 => ?_) (fun h31 => ?_)
  ·
    refine V_nil (X_next ?_)
    refine C_true rfl ?_
    refine C_seq ?_
    refine C_region ?_
    refine V_w0.q (QY_assign rfl) rfl ?_
    refine V_nil (X_next ?_)
    refine C_ret (X_then_ret (?_))
    refine X_ret1 rfl rfl (fun w hm => ?_)
    exact ⟨_, by rw [if_pos h31], rfl, hm⟩
  ·
    refine V_nil (X_next ?_)
    refine C_false rfl ?_
    refine C_skip (X_next ?_)
    refine C_seq ?_
    refine C_region ?_
    refine V_w0.q (QY_move rfl) rfl ?_
    refine V_w0.q (QY_move rfl) rfl ?_
    refine W_elem V_w0 rfl rfl (hT.1.rd) (by omega) (by omega) sl42 lf22 rfl rfl (fun _ => ?_)
    refine V_w0.q (QY_move rfl) rfl ?_
    refine V_w0.q (QY_move rfl) rfl ?_
    refine V_w0.q (QY_arith rfl rfl rfl ⟨by omega, by omega⟩) rfl ?_
    refine W_elem V_w0 rfl rfl ((hT.2 (ht h) (by omega) (by omega)).rd) (by omega) (by omega) sl22 lf21 rfl rfl (fun _ => ?_)
    refine V_w0.q (QY_assign rfl) rfl ?_
    refine V_nil (X_next ?_)
    refine C_ret (?_)
    refine X_ret1 rfl rfl (fun w hm => ?_)
    exact ⟨_, by rw [if_neg h31], rfl, hm⟩

def Srt (f o : Int → Int) (n : Int) : Prop := ∀ v e, 0 ≤ v → v < n → f v < e → e < f (v + 1) → o (e - 1) ≤ o e
theorem sorted31 (w : World) (aF aO : Option Addr) (nf no cF cO n : Nat) (f o : Int → Int) (hF : RdW w (.slice aF nf cF) nf (ints .i32 f)) (hO : RdW w (.slice aO no cO) no (ints .i32 o)) (hnf : (nf : Int) = (n : Int) + 1) (hbd : ∀ u, 0 ≤ u → u ≤ (n : Int) → 0 ≤ f u ∧ f u ≤ no) (hmono : ∀ u, 0 ≤ u → u < (n : Int) → f u ≤ f (u + 1)) (hn : (n : Int) ≤ 1048576) (hno : (no : Int) ≤ 1048576) :
    Calls Try.prog 31 #[.slice aF nf cF, .slice aO no cO, .int .i32 (n : Int)] w fun e w' => ∃ y : Bool, (y = true ↔ Srt f o n) ∧ e = .returned (.bool y) ∧ Mem (Old w) w [] w' := by
  refine enter (N := 38) (vs := [.slice aF nf cF, .slice aO no cO, .int .i32 (n : Int)]) Try.func31 rfl Try.ntmps31 rfl ?_ w (Mem.start w)
  refine C_seq ?_
  refine C_region ?_
  refine V_w0.q (QY_assign rfl) rfl ?_
  refine V_nil (X_next ?_)
  refine C_seq ?_
  refine C_seq ?_
  refine C_region ?_
  refine V_w0.q (QY_assign rfl) rfl ?_
  refine V_nil (X_next ?_)
  refine C_block ?_
  refine C_loops (T := Int) (fun (u : Int) => [(0, .slice aF nf cF), (1, .slice aO no cO), (2, .int .i32 (n : Int)), (7, .int .i32 u)]) (fun (u : Int) => []) (fun (u : Int) => 0 ≤ u ∧ u ≤ n ∧ Srt f o u) (fun (u : Int) => ((n : Int) - u).toNat) 0 ?_ ?_ ?_ ?_
  · exact ⟨by omega, by omega, fun v e v0 v1 => by omega⟩
  · exact ⟨rfl, rfl, rfl, rfl, trivial⟩
  · exact trivial
  rintro u ⟨hu0, hu1, hs⟩
  show C _ _ _ _ _ _ [(0, .slice aF nf cF), (1, .slice aO no cO), (2, .int .i32 (n : Int)), (7, .int .i32 u)] []
  refine C_seq ?_
  refine C_seq ?_
  refine C_region ?_
  refine V_w0.q (QY_move rfl) rfl ?_
  refine V_w0.q (QY_move rfl) rfl ?_
  refine W_lss V_w0 rfl rfl rfl (fun h11 => ?_) (fun h11 => ?_)
  ·
    have hb := hbd u hu0 (by omega)
    have hb1 := hbd (u + 1) (by omega) (by omega)
    have hmo := hmono u hu0 (by omega)
    refine V_nil (X_next ?_)
    refine C_true rfl ?_
    refine C_skip (X_next ?_)
    refine C_seq ?_
    refine C_block ?_
    refine C_seq ?_
    refine C_region ?_
    refine V_w0.q (QY_move rfl) rfl ?_
    refine V_w0.q (QY_move rfl) rfl ?_
    refine W_elem V_w0 rfl rfl (hF.rd) (by omega) (by omega) sl22 lf21 rfl rfl (fun _ => ?_)
    refine V_w0.q (QY_arith rfl rfl rfl ⟨by omega, by omega⟩) rfl ?_
    refine V_w0.q (QY_assign rfl) rfl ?_
    refine V_nil (X_next ?_)
    refine C_block ?_
    refine C_loops (T := Int) (fun (e : Int) => [(0, .slice aF nf cF), (1, .slice aO no cO), (2, .int .i32 (n : Int)), (7, .int .i32 u), (8, .int .i32 e)]) (fun (e : Int) => []) (fun (e : Int) => f u + 1 ≤ e ∧ e ≤ max (f u + 1) (f (u + 1)) ∧ ∀ e9, f u < e9 → e9 < e → o (e9 - 1) ≤ o e9) (fun (e : Int) => (f (u + 1) - e).toNat) (f u + 1) ?_ ?_ ?_ ?_
    · exact ⟨by omega, by omega, fun e9 a b => by omega⟩
    · exact ⟨rfl, rfl, rfl, rfl, rfl, trivial⟩
    · exact trivial
    rintro e ⟨he0, he1, hrow⟩
    show C _ _ _ _ _ _ [(0, .slice aF nf cF), (1, .slice aO no cO), (2, .int .i32 (n : Int)), (7, .int .i32 u), (8, .int .i32 e)] []
    refine C_seq ?_
    refine C_seq ?_
    refine C_region ?_
    refine V_w0.q (QY_move rfl) rfl ?_
    refine V_w0.q (QY_move rfl) rfl ?_
    refine V_w0.q (QY_move rfl) rfl ?_
    refine V_w0.q (QY_arith rfl rfl rfl ⟨by omega, by omega⟩) rfl ?_
    refine W_elem V_w0 rfl rfl (hF.rd) (by omega) (by omega) sl22 lf21 rfl rfl (fun _ => ?_)
    refine W_lss V_w0 rfl rfl rfl (fun h25 => ?_) (fun h25 => ?_)
    ·
      refine V_nil (X_next ?_)
      refine C_true rfl ?_
      refine C_skip (X_next ?_)
      refine C_seq ?_
      refine C_block ?_
      refine C_seq ?_
      refine C_draw mix (by kernel_rfl) ?_
      refine S_w0.q (QY_move rfl) rfl ?_
      refine S_w0.q (QY_move rfl) rfl ?_
      refine S_w0.q (QY_arith rfl rfl rfl ⟨by omega, by omega⟩) rfl ?_
      refine W_elem S_w0 rfl rfl (hO.rd) (by omega) (by omega) sl22 lf21 rfl rfl (fun _ => ?_)
      refine S_w0.q (QY_move rfl) rfl ?_
      refine S_w0.q (QY_move rfl) rfl ?_
      refine W_elem S_w0 rfl rfl (hO.rd) (by omega) (by omega) sl22 lf21 rfl rfl (fun _ => ?_)
      refine W_gtr S_w0 rfl rfl rfl (fun h37 => ?_) (fun h37 => ?_)
      ·
        refine S_nil (X_next ?_)
        refine C_true rfl ?_
        refine C_seq ?_
        refine C_region ?_
        refine V_w0.q (QY_assign rfl) rfl ?_
        refine V_nil (X_next ?_)
        refine C_ret (X_block_ret (X_then_ret (X_then_ret (X_block_ret (X_block_ret (X_then_ret (X_then_ret (X_block_ret (X_then_ret (?_))))))))))
        refine X_ret1 rfl rfl (fun w hm => ?_)
        exact ⟨false, ⟨(fun h => by cases h), fun h => by have := h u e hu0 (by omega) (by omega) (by omega); omega⟩, rfl, hm⟩
      ·
        refine S_nil (X_next ?_)
        refine C_false rfl ?_
        refine C_skip (X_block (X_next ?_))
        refine C_region ?_
        refine V_w0.q (QY_move rfl) rfl ?_
        refine V_w0.q (QY_arith rfl rfl rfl ⟨by omega, by omega⟩) rfl ?_
        refine V_w0.q (QY_assign rfl) rfl ?_
        refine V_nil (X_then ?_)
        refine X_round (e + 1) ?_ ?_ ?_ ?_
        · refine ⟨by omega, by omega, fun e9 a b => ?_⟩
          by_cases ee : e = e9
          · subst ee; omega
          · exact hrow e9 a (by omega)
        · show (f (u + 1) - (e + 1)).toNat < (f (u + 1) - e).toNat
          omega
        · exact ⟨rfl, rfl, rfl, rfl, rfl, trivial⟩
        · exact trivial
    ·
      refine V_nil (X_next ?_)
      refine C_false rfl ?_
      refine C_exit (X_then_exit (X_then_exit (X_block_exit (X_block (X_next ?_)))))
      refine C_region ?_
      refine V_w0.q (QY_move rfl) rfl ?_
      refine V_w0.q (QY_arith rfl rfl rfl ⟨by omega, by omega⟩) rfl ?_
      refine V_w0.q (QY_assign rfl) rfl ?_
      refine V_nil (X_then ?_)
      refine X_round (u + 1) ?_ ?_ ?_ ?_
      · refine ⟨by omega, by omega, fun v e9 v0 v1 e0 e1 => ?_⟩
        by_cases ev : u = v
        · subst ev; exact hrow e9 e0 (by omega)
        · exact hs v e9 v0 (by omega) e0 e1
      · show ((n : Int) - (u + 1)).toNat < ((n : Int) - u).toNat
        omega
      · exact ⟨rfl, rfl, rfl, rfl, trivial⟩
      · exact trivial
  ·
    obtain rfl : u = (n : Int) := by omega
    refine V_nil (X_next ?_)
    refine C_false rfl ?_
    refine C_exit (X_then_exit (X_then_exit (X_block_exit (X_next ?_))))
    refine C_seq ?_
    refine C_region ?_
    refine V_w0.q (QY_assign rfl) rfl ?_
    refine V_nil (X_next ?_)
    refine C_ret (?_)
    refine X_ret1 rfl rfl (fun w hm => ?_)
    exact ⟨true, ⟨fun _ => hs, fun _ => rfl⟩, rfl, hm⟩

end Go.Proofs.Qxb6001307a
