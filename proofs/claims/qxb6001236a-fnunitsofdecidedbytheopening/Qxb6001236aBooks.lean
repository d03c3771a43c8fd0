/-
  OWN WORK (the rule applications laid by a program of our own, wip/gen). The small functions of the book laws.
-/
import Derived.Test.Qxb6001236aUnits
namespace Go.Proofs.Qxb6001236a
open Go.RowKit
set_option linter.unusedSimpArgs false
set_option linter.unusedVariables false

theorem by19 (w : World) (a0 a1 : Option Addr) (n0 n1 c0 c1 : Nat) :
    Calls Try.prog 19 #[.slice a0 n0 c0, .slice a1 n1 c1] w fun e w' => ∃ y : Bool, True ∧ e = .returned (.bool y) ∧ Mem (Old w) w [] w' := by
  refine enter (N := 24) (vs := [.slice a0 n0 c0, .slice a1 n1 c1]) Try.func19 rfl Try.ntmps19 rfl ?_ w (Mem.start w)
  refine C_seq ?_
  refine C_region ?_
  refine V_w0.q (QY_assign rfl) rfl ?_
  refine V_nil (X_next ?_)
  refine C_seq ?_
  refine C_region ?_
  refine V_w0.q (QY_assign rfl) rfl ?_
  refine V_nil (X_next ?_)
  refine C_seq ?_
  refine C_seq ?_
  refine C_region ?_
  refine V_w0.q (QY_move rfl) rfl ?_
  refine V_w0.q (QY_len sl22 rfl) rfl ?_
  refine W_gtr V_w0 rfl rfl rfl (fun h8 => ?_) (fun h8 => ?_)
  ·
    refine V_nil (X_next ?_)
    refine C_true rfl ?_
    refine C_seq ?_
    refine C_region ?_
    refine V_w0.q (QY_assign rfl) rfl ?_
    refine V_nil (X_next ?_)
    refine C_ret (X_then_ret (?_))
    refine X_ret1 rfl rfl (fun w hm => ?_)
    exact ⟨false, trivial, rfl, hm⟩
  ·
    refine V_nil (X_next ?_)
    refine C_false rfl ?_
    refine C_skip (X_next ?_)
    refine C_seq ?_
    refine C_region ?_
    refine V_w0.q (QY_move rfl) rfl ?_
    refine V_w0.q (QY_move rfl) rfl ?_
    refine V_w0.q (QY_len sl22 rfl) rfl ?_
    refine V_w0.q (QY_arith rfl rfl rfl ⟨by omega, by omega⟩) rfl ?_
    refine V_w0.q (QY_assign rfl) rfl ?_
    refine V_nil (X_next ?_)
    refine C_seq ?_
    refine C_seq ?_
    refine C_region ?_
    refine V_w0.q (QY_move rfl) rfl ?_
    refine W_gtr V_w0 rfl rfl rfl (fun h14 => ?_) (fun h14 => ?_)
    ·
      refine V_nil (X_next ?_)
      refine C_true rfl ?_
      refine C_seq ?_
      refine C_region ?_
      refine V_w0.q (QY_assign rfl) rfl ?_
      refine V_nil (X_next ?_)
      refine C_ret (X_then_ret (?_))
      refine X_ret1 rfl rfl (fun w hm => ?_)
      exact ⟨false, trivial, rfl, hm⟩
    ·
      refine V_nil (X_next ?_)
      refine C_false rfl ?_
      refine C_skip (X_next ?_)
      refine C_seq ?_
      refine C_seq ?_
      refine C_region ?_
      refine V_w0.q (QY_move rfl) rfl ?_
      refine V_w0.q (QY_len sl22 rfl) rfl ?_
      refine W_gtr V_w0 rfl rfl rfl (fun h17 => ?_) (fun h17 => ?_)
      ·
        refine V_nil (X_next ?_)
        refine C_true rfl ?_
        refine C_seq ?_
        refine C_region ?_
        refine V_w0.q (QY_assign rfl) rfl ?_
        refine V_nil (X_next ?_)
        refine C_ret (X_then_ret (?_))
        refine X_ret1 rfl rfl (fun w hm => ?_)
        exact ⟨false, trivial, rfl, hm⟩
      ·
        refine V_nil (X_next ?_)
        refine C_false rfl ?_
        refine C_skip (X_next ?_)
        refine C_seq ?_
        refine C_region ?_
        refine V_w0.q (QY_move rfl) rfl ?_
        refine V_w0.q (QY_move rfl) rfl ?_
        refine V_w0.q (QY_len sl22 rfl) rfl ?_
        refine V_w0.q (QY_arith rfl rfl rfl ⟨by omega, by omega⟩) rfl ?_
        refine V_w0.q (QY_assign rfl) rfl ?_
        refine V_nil (X_next ?_)
        refine C_seq ?_
        refine C_seq ?_
        refine C_region ?_
        refine V_w0.q (QY_move rfl) rfl ?_
        refine W_gtr V_w0 rfl rfl rfl (fun h23 => ?_) (fun h23 => ?_)
        ·
          refine V_nil (X_next ?_)
          refine C_true rfl ?_
          refine C_seq ?_
          refine C_region ?_
          refine V_w0.q (QY_assign rfl) rfl ?_
          refine V_nil (X_next ?_)
          refine C_ret (X_then_ret (?_))
          refine X_ret1 rfl rfl (fun w hm => ?_)
          exact ⟨false, trivial, rfl, hm⟩
        ·
          refine V_nil (X_next ?_)
          refine C_false rfl ?_
          refine C_skip (X_next ?_)
          refine C_seq ?_
          refine C_region ?_
          refine V_w0.q (QY_assign rfl) rfl ?_
          refine V_nil (X_next ?_)
          refine C_ret (?_)
          refine X_ret1 rfl rfl (fun w hm => ?_)
          exact ⟨true, trivial, rfl, hm⟩

theorem by20 (w : World) (a0 : Option Addr) (n0 c0 : Nat) :
    Calls Try.prog 20 #[.slice a0 n0 c0] w fun e w' => ∃ y : Bool, True ∧ e = .returned (.bool y) ∧ Mem (Old w) w [] w' := by
  refine enter (N := 13) (vs := [.slice a0 n0 c0]) Try.func20 rfl Try.ntmps20 rfl ?_ w (Mem.start w)
  refine C_seq ?_
  refine C_region ?_
  refine V_w0.q (QY_assign rfl) rfl ?_
  refine V_nil (X_next ?_)
  refine C_seq ?_
  refine C_region ?_
  refine V_w0.q (QY_assign rfl) rfl ?_
  refine V_nil (X_next ?_)
  refine C_seq ?_
  refine C_seq ?_
  refine C_region ?_
  refine V_w0.q (QY_move rfl) rfl ?_
  refine V_w0.q (QY_len sl22 rfl) rfl ?_
  refine W_gtr V_w0 rfl rfl rfl (fun h6 => ?_) (fun h6 => ?_)
  ·
    refine V_nil (X_next ?_)
    refine C_true rfl ?_
    refine C_seq ?_
    refine C_region ?_
    refine V_w0.q (QY_assign rfl) rfl ?_
    refine V_nil (X_next ?_)
    refine C_ret (X_then_ret (?_))
    refine X_ret1 rfl rfl (fun w hm => ?_)
    exact ⟨false, trivial, rfl, hm⟩
  ·
    refine V_nil (X_next ?_)
    refine C_false rfl ?_
    refine C_skip (X_next ?_)
    refine C_seq ?_
    refine C_region ?_
    refine V_w0.q (QY_move rfl) rfl ?_
    refine V_w0.q (QY_move rfl) rfl ?_
    refine V_w0.q (QY_len sl22 rfl) rfl ?_
    refine V_w0.q (QY_arith rfl rfl rfl ⟨by omega, by omega⟩) rfl ?_
    refine V_w0.q (QY_assign rfl) rfl ?_
    refine V_nil (X_next ?_)
    refine C_seq ?_
    refine C_seq ?_
    refine C_region ?_
    refine V_w0.q (QY_move rfl) rfl ?_
    refine W_gtr V_w0 rfl rfl rfl (fun h12 => ?_) (fun h12 => ?_)
    ·
      refine V_nil (X_next ?_)
      refine C_true rfl ?_
      refine C_seq ?_
      refine C_region ?_
      refine V_w0.q (QY_assign rfl) rfl ?_
      refine V_nil (X_next ?_)
      refine C_ret (X_then_ret (?_))
      refine X_ret1 rfl rfl (fun w hm => ?_)
      exact ⟨false, trivial, rfl, hm⟩
    ·
      refine V_nil (X_next ?_)
      refine C_false rfl ?_
      refine C_skip (X_next ?_)
      refine C_seq ?_
      refine C_region ?_
      refine V_w0.q (QY_assign rfl) rfl ?_
      refine V_nil (X_next ?_)
      refine C_ret (?_)
      refine X_ret1 rfl rfl (fun w hm => ?_)
      exact ⟨true, trivial, rfl, hm⟩

theorem by22 (w : World) (a0 : Option Addr) (n0 c0 : Nat) (i : Int) :
    Calls Try.prog 22 #[.slice a0 n0 c0, .int .i64 i] w fun e w' => ∃ y : Bool, True ∧ e = .returned (.bool y) ∧ Mem (Old w) w [] w' := by
  refine enter (N := 15) (vs := [.slice a0 n0 c0, .int .i64 i]) Try.func22 rfl Try.ntmps22 rfl ?_ w (Mem.start w)
  refine C_seq ?_
  refine C_region ?_
  refine V_w0.q (QY_assign rfl) rfl ?_
  refine V_nil (X_next ?_)
  refine C_seq ?_
  refine C_region ?_
  refine V_w0.q (QY_assign rfl) rfl ?_
  refine V_nil (X_next ?_)
  refine C_seq ?_
  refine C_seq ?_
  refine C_region ?_
  refine V_w0.q (QY_move rfl) rfl ?_
  refine V_w0.q (QY_len sl22 rfl) rfl ?_
  refine W_gtr V_w0 rfl rfl rfl (fun h8 => ?_) (fun h8 => ?_)
  ·
    refine V_nil (X_next ?_)
    refine C_true rfl ?_
    refine C_seq ?_
    refine C_region ?_
    refine V_w0.q (QY_assign rfl) rfl ?_
    refine V_nil (X_next ?_)
    refine C_ret (X_then_ret (?_))
    refine X_ret1 rfl rfl (fun w hm => ?_)
    exact ⟨false, trivial, rfl, hm⟩
  ·
    refine V_nil (X_next ?_)
    refine C_false rfl ?_
    refine C_skip (X_next ?_)
    refine C_seq ?_
    refine C_region ?_
    refine V_w0.q (QY_move rfl) rfl ?_
    refine V_w0.q (QY_move rfl) rfl ?_
    refine V_w0.q (QY_len sl22 rfl) rfl ?_
    refine V_w0.q (QY_arith rfl rfl rfl ⟨by omega, by omega⟩) rfl ?_
    refine V_w0.q (QY_assign rfl) rfl ?_
    refine V_nil (X_next ?_)
    refine C_seq ?_
    refine C_seq ?_
    refine C_region ?_
    refine V_w0.q (QY_move rfl) rfl ?_
    refine W_gtr V_w0 rfl rfl rfl (fun h14 => ?_) (fun h14 => ?_)
    ·
      refine V_nil (X_next ?_)
      refine C_true rfl ?_
      refine C_seq ?_
      refine C_region ?_
      refine V_w0.q (QY_assign rfl) rfl ?_
      refine V_nil (X_next ?_)
      refine C_ret (X_then_ret (?_))
      refine X_ret1 rfl rfl (fun w hm => ?_)
      exact ⟨false, trivial, rfl, hm⟩
    ·
      refine V_nil (X_next ?_)
      refine C_false rfl ?_
      refine C_skip (X_next ?_)
      refine C_seq ?_
      refine C_region ?_
      refine V_w0.q (QY_assign rfl) rfl ?_
      refine V_nil (X_next ?_)
      refine C_ret (?_)
      refine X_ret1 rfl rfl (fun w hm => ?_)
      exact ⟨true, trivial, rfl, hm⟩

theorem clone10R (w : World) (aD : Option Addr) (n cD : Nat) (d : Int → Int) (hD : RdW w (.slice aD n cD) n (ints .u8 d)) (hn : (n : Int) ≤ 1048576) :
    Calls Try.prog 10 #[.slice aD n cD] w fun e w' => ∃ y : Option Addr, RdW w' (.slice y n n) n (ints .u8 d) ∧ e = .returned (.slice y n n) ∧ Mem (Old w) w [] w' := by
  refine enter (N := 24) (vs := [.slice aD n cD]) Try.func10 rfl Try.ntmps10 rfl ?_ w (Mem.start w)
  refine C_seq ?_
  refine C_region ?_
  refine V_w0.q (QY_assign rfl) rfl ?_
  refine V_nil (X_next ?_)
  refine C_seq ?_
  refine C_seq ?_
  refine C_region ?_
  refine V_w0.q (QY_move rfl) rfl ?_
  refine W_isnil V_w0 Try.underlying22 rfl rfl (fun h6 => ?_) (fun h6 => ?_)
  ·
    refine V_nil (X_next ?_)
    refine C_true rfl ?_
    refine C_seq ?_
    refine C_region ?_
    refine V_w0.q (QY_assign rfl) rfl ?_
    refine V_nil (X_next ?_)
    refine C_ret (X_then_ret (?_))
    refine X_ret1 rfl rfl (fun w hm => ?_)
    obtain rfl : n = 0 := hD.nil h6
    exact ⟨none, ⟨_, _, rfl, fun i a b => by omega⟩, rfl, hm⟩
  ·
    refine V_nil (X_next ?_)
    refine C_false rfl ?_
    refine C_skip (X_next ?_)
    refine C_seq ?_
    refine C_region ?_
    refine V_w0.q (QY_move rfl) rfl ?_
    refine V_w0.q (QY_len sl22 rfl) rfl ?_
    refine V_make 1 mk22 rfl rfl rfl (by omega) (by omega) (by omega) (by omega) rfl (fun b9 => ?_)
    refine V_w0.q (QY_assign rfl) rfl ?_
    refine V_nil (X_next ?_)
    refine C_seq ?_
    refine C_seq ?_
    refine C_region ?_
    refine V_w0.q (QY_assign rfl) rfl ?_
    refine V_nil (X_next ?_)
    refine C_block ?_
    refine C_loops (T := Int × (Int → Int)) (fun (zz9 : Int × (Int → Int)) => match zz9 with | (k, g) => [(0, .slice aD n cD), (3, .slice (some ⟨b9, 0, none⟩) n n), (4, .int .i64 k)]) (fun (zz9 : Int × (Int → Int)) => match zz9 with | (k, g) => [(1, ⟨b9, n, n, ints .u8 g⟩)]) (fun (zz9 : Int × (Int → Int)) => match zz9 with | (k, g) => 0 ≤ k ∧ k ≤ n ∧ ∀ i, 0 ≤ i → i < k → g i = d i) (fun (zz9 : Int × (Int → Int)) => match zz9 with | (k, g) => ((n : Int) - k).toNat) (0, fun _ => 0) ?_ ?_ ?_ ?_
    · exact ⟨by omega, by omega, fun i h0 h1 => by omega⟩
    · exact ⟨rfl, rfl, rfl, trivial⟩
    · exact ⟨rfl, trivial⟩
    rintro ⟨k, g⟩ ⟨hk0, hk1, hg⟩
    show C _ _ _ _ _ _ [(0, .slice aD n cD), (3, .slice (some ⟨b9, 0, none⟩) n n), (4, .int .i64 k)] [(1, ⟨b9, n, n, ints .u8 g⟩)]
    refine C_seq ?_
    refine C_seq ?_
    refine C_region ?_
    refine V_w0.q (QY_move rfl) rfl ?_
    refine V_w0.q (QY_move rfl) rfl ?_
    refine V_w0.q (QY_len sl22 rfl) rfl ?_
    refine W_lss V_w0 rfl rfl rfl (fun h13 => ?_) (fun h13 => ?_)
    ·
      refine V_nil (X_next ?_)
      refine C_true rfl ?_
      refine C_skip (X_next ?_)
      refine C_seq ?_
      refine C_block ?_
      refine C_region ?_
      refine V_w0.q (QY_move rfl) rfl ?_
      refine V_w0.q (QY_move rfl) rfl ?_
      refine V_w0.q (QY_move rfl) rfl ?_
      refine V_w0.q (QY_move rfl) rfl ?_
      refine W_elem V_w0 rfl rfl (hD.rd) (by omega) (by omega) sl22 lf5 rfl rfl (fun _ => ?_)
      refine V_set (q := 1) rfl rfl rfl rfl rfl (by omega) (by omega) (by omega) sl22 lf5 rfl rfl (upd_ints _ _ _ _) (fun _ => ?_)
      refine V_nil (X_block (X_next ?_))
      refine C_region ?_
      refine V_w0.q (QY_move rfl) rfl ?_
      refine V_w0.q (QY_arith rfl rfl rfl ⟨by omega, by omega⟩) rfl ?_
      refine V_w0.q (QY_assign rfl) rfl ?_
      refine V_nil (X_then ?_)
      refine X_round (k + 1, upd g k (d k)) ?_ ?_ ?_ ?_
      · exact ⟨by omega, by omega, upd_copy (f := d) hg⟩
      · show ((n : Int) - (k + 1)).toNat < ((n : Int) - k).toNat
        omega
      · exact ⟨rfl, rfl, rfl, trivial⟩
      · exact ⟨rfl, trivial⟩
    ·
      refine V_nil (X_next ?_)
      refine C_false rfl ?_
      refine C_exit (X_then_exit (X_then_exit (X_block_exit (X_next ?_))))
      refine C_seq ?_
      refine C_region ?_
      refine V_w0.q (QY_move rfl) rfl ?_
      refine V_w0.q (QY_assign rfl) rfl ?_
      refine V_nil (X_next ?_)
      refine C_ret (?_)
      refine X_ret1 rfl rfl (fun w hm => ?_)
      have h1 := hm.say (q := 1) (k := ⟨b9, n, n, ints .u8 g⟩) rfl (n := n) (c := ints .u8 d) (Int.le_refl _) (fun i h0 h1 => by show ints .u8 d i = ints .u8 g i; unfold ints; rw [hg i h0 (by omega)])
      exact ⟨some ⟨b9, 0, none⟩, (Rd_own (q := 1) rfl (by omega)).at h1, rfl, hm.sub trivial⟩

def fold7 (d : Int → Int) : Int → Int := fun i => band (d i) 127
theorem fold7_b (d : Int → Int) (i : Int) : 0 ≤ fold7 d i ∧ fold7 d i ≤ 127 := by
  unfold fold7 band
  have h : (BitVec.ofInt 8 (d i) &&& BitVec.ofInt 8 127).toNat ≤ 127 := by
    rw [BitVec.toNat_and]
    exact Nat.and_le_right
  omega
theorem ascii11 (w : World) (aD : Option Addr) (n cD : Nat) (d : Int → Int) (hD : RdW w (.slice aD n cD) n (ints .u8 d)) (hn : (n : Int) ≤ 1048576) :
    Calls Try.prog 11 #[.slice aD n cD] w fun e w' => ∃ y : Option Addr, RdW w' (.slice y n n) n (ints .u8 (fold7 d)) ∧ e = .returned (.slice y n n) ∧ Mem (Old w) w [] w' := by
  refine enter (N := 23) (vs := [.slice aD n cD]) Try.func11 rfl Try.ntmps11 rfl ?_ w (Mem.start w)
  refine C_seq ?_
  refine C_region ?_
  refine V_w0.q (QY_assign rfl) rfl ?_
  refine V_nil (X_next ?_)
  refine C_seq ?_
  refine C_region ?_
  refine V_w0.q (QY_move rfl) rfl ?_
  refine V_w0.q (QY_len sl22 rfl) rfl ?_
  refine V_make 1 mk22 rfl rfl rfl (by omega) (by omega) (by omega) (by omega) rfl (fun b9 => ?_)
  refine V_w0.q (QY_assign rfl) rfl ?_
  refine V_nil (X_next ?_)
  refine C_seq ?_
  refine C_seq ?_
  refine C_region ?_
  refine V_w0.q (QY_assign rfl) rfl ?_
  refine V_nil (X_next ?_)
  refine C_block ?_
  refine C_loops (T := Int × (Int → Int)) (fun (zz9 : Int × (Int → Int)) => match zz9 with | (k, g) => [(0, .slice aD n cD), (3, .slice (some ⟨b9, 0, none⟩) n n), (4, .int .i64 k)]) (fun (zz9 : Int × (Int → Int)) => match zz9 with | (k, g) => [(1, ⟨b9, n, n, ints .u8 g⟩)]) (fun (zz9 : Int × (Int → Int)) => match zz9 with | (k, g) => 0 ≤ k ∧ k ≤ n ∧ ∀ i, 0 ≤ i → i < k → g i = (fold7 d) i) (fun (zz9 : Int × (Int → Int)) => match zz9 with | (k, g) => ((n : Int) - k).toNat) (0, fun _ => 0) ?_ ?_ ?_ ?_
  · exact ⟨by omega, by omega, fun i h0 h1 => by omega⟩
  · exact ⟨rfl, rfl, rfl, trivial⟩
  · exact ⟨rfl, trivial⟩
  rintro ⟨k, g⟩ ⟨hk0, hk1, hg⟩
  show C _ _ _ _ _ _ [(0, .slice aD n cD), (3, .slice (some ⟨b9, 0, none⟩) n n), (4, .int .i64 k)] [(1, ⟨b9, n, n, ints .u8 g⟩)]
  refine C_seq ?_
  refine C_seq ?_
  refine C_region ?_
  refine V_w0.q (QY_move rfl) rfl ?_
  refine V_w0.q (QY_move rfl) rfl ?_
  refine V_w0.q (QY_len sl22 rfl) rfl ?_
  refine W_lss V_w0 rfl rfl rfl (fun h11 => ?_) (fun h11 => ?_)
  ·
    refine V_nil (X_next ?_)
    refine C_true rfl ?_
    refine C_skip (X_next ?_)
    refine C_seq ?_
    refine C_block ?_
    refine C_region ?_
    refine V_w0.q (QY_move rfl) rfl ?_
    refine V_w0.q (QY_move rfl) rfl ?_
    refine V_w0.q (QY_move rfl) rfl ?_
    refine V_w0.q (QY_move rfl) rfl ?_
    refine W_elem V_w0 rfl rfl (hD.rd) (by omega) (by omega) sl22 lf5 rfl rfl (fun _ => ?_)
    refine V_w0.q (QY_and rfl rfl) rfl ?_
    refine V_set (q := 1) rfl rfl rfl rfl rfl (by omega) (by omega) (by omega) sl22 lf5 rfl rfl (upd_ints _ _ _ _) (fun _ => ?_)
    refine V_nil (X_block (X_next ?_))
    refine C_region ?_
    refine V_w0.q (QY_move rfl) rfl ?_
    refine V_w0.q (QY_arith rfl rfl rfl ⟨by omega, by omega⟩) rfl ?_
    refine V_w0.q (QY_assign rfl) rfl ?_
    refine V_nil (X_then ?_)
    refine X_round (k + 1, upd g k ((fold7 d) k)) ?_ ?_ ?_ ?_
    · exact ⟨by omega, by omega, upd_copy (f := (fold7 d)) hg⟩
    · show ((n : Int) - (k + 1)).toNat < ((n : Int) - k).toNat
      omega
    · exact ⟨rfl, rfl, rfl, trivial⟩
    · exact ⟨rfl, trivial⟩
  ·
    refine V_nil (X_next ?_)
    refine C_false rfl ?_
    refine C_exit (X_then_exit (X_then_exit (X_block_exit (X_next ?_))))
    refine C_seq ?_
    refine C_region ?_
    refine V_w0.q (QY_move rfl) rfl ?_
    refine V_w0.q (QY_assign rfl) rfl ?_
    refine V_nil (X_next ?_)
    refine C_ret (?_)
    refine X_ret1 rfl rfl (fun w hm => ?_)
    have h1 := hm.say (q := 1) (k := ⟨b9, n, n, ints .u8 g⟩) rfl (n := n) (c := ints .u8 (fold7 d)) (Int.le_refl _) (fun i h0 h1 => by show ints .u8 (fold7 d) i = ints .u8 g i; unfold ints; rw [hg i h0 (by omega)])
    exact ⟨some ⟨b9, 0, none⟩, (Rd_own (q := 1) rfl (by omega)).at h1, rfl, hm.sub trivial⟩

theorem enc1 (w : World) (aA : Option Addr) (n cA : Nat) (a : Int → Int) (hA : RdW w (.slice aA n cA) n (ints .u8 a)) (hn : (n : Int) ≤ 1048576) :
    Calls Try.prog 13 #[.slice aA n cA, .int .i64 1] w fun e w' => ∃ y : Nat × Nat × (Int → Int), (2 + 2 * n ≤ y.2.1 ∧ (y.2.2 0 = 255 ∧ y.2.2 1 = 254) ∧ (∀ i, 0 ≤ i → i < (n : Int) → y.2.2 (2 + 2 * i) = a i ∧ y.2.2 (2 + 2 * i + 1) = 0) ∧ RdW w' (.slice (some ⟨y.1, 0, none⟩) (2 + 2 * n) y.2.1) (2 + 2 * n) (ints .u8 y.2.2)) ∧ e = .returned (.slice (some ⟨y.1, 0, none⟩) (2 + 2 * n) y.2.1) ∧ Mem (Old w) w [] w' := by
  refine enter (N := 77) (vs := [.slice aA n cA, .int .i64 1]) Try.func13 rfl Try.ntmps13 rfl ?_ w (Mem.start w)
  refine C_seq ?_
  refine C_region ?_
  refine V_w0.q (QY_assign rfl) rfl ?_
  refine V_nil (X_next ?_)
  refine C_seq ?_
  refine C_region ?_
  refine V_w0.q (QY_assign rfl) rfl ?_
  refine V_nil (X_next ?_)
  refine C_seq ?_
  refine C_seq ?_
  refine C_region ?_
  refine V_w0.q (QY_move rfl) rfl ?_
  refine V_nil (X_next ?_)
  refine C_block ?_
  refine C_seq ?_
  refine C_region ?_
  refine W_eql V_w0 rfl rfl rfl (fun h31 => ?_) (fun h31 => False.elim (h31 rfl))
  refine V_w0.q (QY_assign rfl) rfl ?_
  refine V_nil (X_next ?_)
  refine C_true rfl ?_
  refine C_seq ?_
  refine C_region ?_
  refine V_w0.q (QY_move rfl) rfl ?_
  refine V_w0.q (QY_len sl22 rfl) rfl ?_
  refine V_w0.q (QY_arith rfl rfl rfl ⟨by omega, by omega⟩) rfl ?_
  refine V_w0.q (QY_arith rfl rfl rfl ⟨by omega, by omega⟩) rfl ?_
  refine V_make 1 mk22 rfl rfl rfl (by omega) (by omega) (by omega) (by omega) rfl (fun bo => ?_)
  refine V_w0.q (QY_assign rfl) rfl ?_
  refine V_nil (X_next ?_)
  refine C_seq ?_
  refine C_region ?_
  refine V_w0.q (QY_move rfl) rfl ?_
  refine V_appC (q := 1) (parts := [(0, .const (.int .u8 255)), (1, .const (.int .u8 254))]) (vs := [(0, .int .u8 255), (1, .int .u8 254)]) (us := [.int .u8 255, .int .u8 254]) mk22 (fun a hf => rfl) (fun w => bs2 w _ _ rfl rfl) rfl (by simp [Value.oneCell']) (by decide) rfl (fun _ => rfl) (by omega) (by omega) rfl rfl lay_i2 (fun _ => ?_)
  refine V_w0.q (QY_assign rfl) rfl ?_
  refine V_nil (X_next ?_)
  refine C_seq ?_
  refine C_region ?_
  refine V_w0.q (QY_assign rfl) rfl ?_
  refine V_nil (X_next ?_)
  refine C_block ?_
  refine C_loops (T := Int × Nat × (Int → Int)) (fun (zz9 : Int × Nat × (Int → Int)) => match zz9 with | (k, m, E) => [(0, .slice aA n cA), (5, .slice (some ⟨bo, 0, none⟩) m (2 + 2 * (n : Int)).toNat), (6, .int .i64 k)]) (fun (zz9 : Int × Nat × (Int → Int)) => match zz9 with | (k, m, E) => [(1, ⟨bo, (2 + 2 * (n : Int)).toNat, 2 + 2 * (n : Int), ints .u8 E⟩)]) (fun (zz9 : Int × Nat × (Int → Int)) => match zz9 with | (k, m, E) => 0 ≤ k ∧ k ≤ n ∧ (m : Int) = 2 + 2 * k ∧ (E 0 = 255 ∧ E 1 = 254) ∧ ∀ i, 0 ≤ i → i < k → E (2 + 2 * i) = a i ∧ E (2 + 2 * i + 1) = 0) (fun (zz9 : Int × Nat × (Int → Int)) => match zz9 with | (k, m, E) => ((n : Int) - k).toNat) (0, 2, upd (upd (fun _ => 0) ((0 : Nat) : Int) 255) (((0 : Nat) : Int) + 1) 254) ?_ ?_ ?_ ?_
  · exact ⟨by omega, by omega, by omega, ⟨rfl, rfl⟩, fun i a b => by omega⟩
  · exact ⟨rfl, rfl, rfl, trivial⟩
  · exact ⟨rfl, trivial⟩
  rintro ⟨k, m, E⟩ ⟨hk0, hk1, hm9, hE, hb⟩
  show C _ _ _ _ _ _ [(0, .slice aA n cA), (5, .slice (some ⟨bo, 0, none⟩) m (2 + 2 * (n : Int)).toNat), (6, .int .i64 k)] [(1, ⟨bo, (2 + 2 * (n : Int)).toNat, 2 + 2 * (n : Int), ints .u8 E⟩)]
  refine C_seq ?_
  refine C_seq ?_
  refine C_region ?_
  refine V_w0.q (QY_move rfl) rfl ?_
  refine V_w0.q (QY_move rfl) rfl ?_
  refine V_w0.q (QY_len sl22 rfl) rfl ?_
  refine W_lss V_w0 rfl rfl rfl (fun h43 => ?_) (fun h43 => ?_)
  ·
    refine V_nil (X_next ?_)
    refine C_true rfl ?_
    refine C_skip (X_next ?_)
    refine C_seq ?_
    refine C_block ?_
    refine C_region ?_
    refine V_w0.q (QY_move rfl) rfl ?_
    refine V_w0.q (QY_move rfl) rfl ?_
    refine V_w0.q (QY_move rfl) rfl ?_
    refine W_elem V_w0 rfl rfl (hA.rd) (by omega) (by omega) sl22 lf5 rfl rfl (fun _ => ?_)
    refine V_appC (q := 1) (parts := [(0, .tmp 50), (1, .const (.int .u8 0))]) (vs := [(0, .int .u8 (a k)), (1, .int .u8 0)]) (us := [.int .u8 (a k), .int .u8 0]) mk22 (fun a hf => by
      simp only [List.map_cons, List.map_nil]
      rw [hf.eval (x := .tmp 50) rfl] <;> rfl) (fun w => bs2 w _ _ rfl rfl) rfl (by simp [Value.oneCell']) (by decide) rfl (fun _ => rfl) (by omega) (by omega) rfl rfl lay_i2 (fun _ => ?_)
    refine V_w0.q (QY_assign rfl) rfl ?_
    refine V_nil (X_block (X_next ?_))
    refine C_region ?_
    refine V_w0.q (QY_move rfl) rfl ?_
    refine V_w0.q (QY_arith rfl rfl rfl ⟨by omega, by omega⟩) rfl ?_
    refine V_w0.q (QY_assign rfl) rfl ?_
    refine V_nil (X_then ?_)
    refine X_round (k + 1, m + 2, upd (upd E ((m : Nat) : Int) (a k)) (((m : Nat) : Int) + 1) 0) ?_ ?_ ?_ ?_
    · refine ⟨by omega, by omega, by omega, ?_, fun i a0 a1 => ?_⟩
      · rw [upd_other _ _ _ (by omega), upd_other _ _ _ (by omega), upd_other _ _ _ (by omega), upd_other _ _ _ (by omega)]; exact hE
      · by_cases e : i = k
        · subst e
          rw [show 2 + 2 * i = ((m : Nat) : Int) from by omega, upd_same, upd_other _ _ _ (by omega), upd_same]; exact ⟨rfl, rfl⟩
        · rw [upd_other _ _ _ (by omega), upd_other _ _ _ (by omega), upd_other _ _ _ (by omega), upd_other _ _ _ (by omega)]; exact hb i a0 (by omega)
    · show ((n : Int) - (k + 1)).toNat < ((n : Int) - k).toNat
      omega
    · exact ⟨rfl, rfl, rfl, trivial⟩
    · exact ⟨rfl, trivial⟩
  ·
    obtain rfl : k = (n : Int) := by omega
    obtain rfl : m = 2 + 2 * n := by omega
    refine V_nil (X_next ?_)
    refine C_false rfl ?_
    refine C_exit (X_then_exit (X_then_exit (X_block_exit (X_block (X_next ?_)))))
    refine C_seq ?_
    refine C_region ?_
    refine V_w0.q (QY_move rfl) rfl ?_
    refine V_w0.q (QY_assign rfl) rfl ?_
    refine V_nil (X_next ?_)
    refine C_ret (?_)
    refine X_ret1 rfl rfl (fun w hm => ?_)
    exact ⟨(bo, (2 + 2 * (n : Int)).toNat, E), ⟨by show 2 + 2 * n ≤ (2 + 2 * (n : Int)).toNat; omega, hE, hb, (Rd_own (q := 1) rfl (by omega)).at hm⟩, rfl, hm.sub trivial⟩

theorem enc2 (w : World) (aA : Option Addr) (n cA : Nat) (a : Int → Int) (hA : RdW w (.slice aA n cA) n (ints .u8 a)) (hn : (n : Int) ≤ 1048576) :
    Calls Try.prog 13 #[.slice aA n cA, .int .i64 2] w fun e w' => ∃ y : Nat × Nat × (Int → Int), (2 + 2 * n ≤ y.2.1 ∧ (y.2.2 0 = 254 ∧ y.2.2 1 = 255) ∧ (∀ i, 0 ≤ i → i < (n : Int) → y.2.2 (2 + 2 * i) = 0 ∧ y.2.2 (2 + 2 * i + 1) = a i) ∧ RdW w' (.slice (some ⟨y.1, 0, none⟩) (2 + 2 * n) y.2.1) (2 + 2 * n) (ints .u8 y.2.2)) ∧ e = .returned (.slice (some ⟨y.1, 0, none⟩) (2 + 2 * n) y.2.1) ∧ Mem (Old w) w [] w' := by
  refine enter (N := 77) (vs := [.slice aA n cA, .int .i64 2]) Try.func13 rfl Try.ntmps13 rfl ?_ w (Mem.start w)
  refine C_seq ?_
  refine C_region ?_
  refine V_w0.q (QY_assign rfl) rfl ?_
  refine V_nil (X_next ?_)
  refine C_seq ?_
  refine C_region ?_
  refine V_w0.q (QY_assign rfl) rfl ?_
  refine V_nil (X_next ?_)
  refine C_seq ?_
  refine C_seq ?_
  refine C_region ?_
  refine V_w0.q (QY_move rfl) rfl ?_
  refine V_nil (X_next ?_)
  refine C_block ?_
  refine C_seq ?_
  refine C_region ?_
  refine W_eql V_w0 rfl rfl rfl (fun h31 => False.elim (by omega)) (fun h31 => ?_)
  refine V_w0.q (QY_assign rfl) rfl ?_
  refine V_nil (X_next ?_)
  refine C_false rfl ?_
  refine C_seq ?_
  refine C_region ?_
  refine W_eql V_w0 rfl rfl rfl (fun h54 => ?_) (fun h54 => False.elim (h54 rfl))
  refine V_w0.q (QY_assign rfl) rfl ?_
  refine V_nil (X_next ?_)
  refine C_true rfl ?_
  refine C_seq ?_
  refine C_region ?_
  refine V_w0.q (QY_move rfl) rfl ?_
  refine V_w0.q (QY_len sl22 rfl) rfl ?_
  refine V_w0.q (QY_arith rfl rfl rfl ⟨by omega, by omega⟩) rfl ?_
  refine V_w0.q (QY_arith rfl rfl rfl ⟨by omega, by omega⟩) rfl ?_
  refine V_make 1 mk22 rfl rfl rfl (by omega) (by omega) (by omega) (by omega) rfl (fun bo => ?_)
  refine V_w0.q (QY_assign rfl) rfl ?_
  refine V_nil (X_next ?_)
  refine C_seq ?_
  refine C_region ?_
  refine V_w0.q (QY_move rfl) rfl ?_
  refine V_appC (q := 1) (parts := [(0, .const (.int .u8 254)), (1, .const (.int .u8 255))]) (vs := [(0, .int .u8 254), (1, .int .u8 255)]) (us := [.int .u8 254, .int .u8 255]) mk22 (fun a hf => rfl) (fun w => bs2 w _ _ rfl rfl) rfl (by simp [Value.oneCell']) (by decide) rfl (fun _ => rfl) (by omega) (by omega) rfl rfl lay_i2 (fun _ => ?_)
  refine V_w0.q (QY_assign rfl) rfl ?_
  refine V_nil (X_next ?_)
  refine C_seq ?_
  refine C_region ?_
  refine V_w0.q (QY_assign rfl) rfl ?_
  refine V_nil (X_next ?_)
  refine C_block ?_
  refine C_loops (T := Int × Nat × (Int → Int)) (fun (zz9 : Int × Nat × (Int → Int)) => match zz9 with | (k, m, E) => [(0, .slice aA n cA), (5, .slice (some ⟨bo, 0, none⟩) m (2 + 2 * (n : Int)).toNat), (7, .int .i64 k)]) (fun (zz9 : Int × Nat × (Int → Int)) => match zz9 with | (k, m, E) => [(1, ⟨bo, (2 + 2 * (n : Int)).toNat, 2 + 2 * (n : Int), ints .u8 E⟩)]) (fun (zz9 : Int × Nat × (Int → Int)) => match zz9 with | (k, m, E) => 0 ≤ k ∧ k ≤ n ∧ (m : Int) = 2 + 2 * k ∧ (E 0 = 254 ∧ E 1 = 255) ∧ ∀ i, 0 ≤ i → i < k → E (2 + 2 * i) = 0 ∧ E (2 + 2 * i + 1) = a i) (fun (zz9 : Int × Nat × (Int → Int)) => match zz9 with | (k, m, E) => ((n : Int) - k).toNat) (0, 2, upd (upd (fun _ => 0) ((0 : Nat) : Int) 254) (((0 : Nat) : Int) + 1) 255) ?_ ?_ ?_ ?_
  · exact ⟨by omega, by omega, by omega, ⟨rfl, rfl⟩, fun i a b => by omega⟩
  · exact ⟨rfl, rfl, rfl, trivial⟩
  · exact ⟨rfl, trivial⟩
  rintro ⟨k, m, E⟩ ⟨hk0, hk1, hm9, hE, hb⟩
  show C _ _ _ _ _ _ [(0, .slice aA n cA), (5, .slice (some ⟨bo, 0, none⟩) m (2 + 2 * (n : Int)).toNat), (7, .int .i64 k)] [(1, ⟨bo, (2 + 2 * (n : Int)).toNat, 2 + 2 * (n : Int), ints .u8 E⟩)]
  refine C_seq ?_
  refine C_seq ?_
  refine C_region ?_
  refine V_w0.q (QY_move rfl) rfl ?_
  refine V_w0.q (QY_move rfl) rfl ?_
  refine V_w0.q (QY_len sl22 rfl) rfl ?_
  refine W_lss V_w0 rfl rfl rfl (fun h66 => ?_) (fun h66 => ?_)
  ·
    refine V_nil (X_next ?_)
    refine C_true rfl ?_
    refine C_skip (X_next ?_)
    refine C_seq ?_
    refine C_block ?_
    refine C_region ?_
    refine V_w0.q (QY_move rfl) rfl ?_
    refine V_w0.q (QY_move rfl) rfl ?_
    refine V_w0.q (QY_move rfl) rfl ?_
    refine W_elem V_w0 rfl rfl (hA.rd) (by omega) (by omega) sl22 lf5 rfl rfl (fun _ => ?_)
    refine V_appC (q := 1) (parts := [(0, .const (.int .u8 0)), (1, .tmp 73)]) (vs := [(0, .int .u8 0), (1, .int .u8 (a k))]) (us := [.int .u8 0, .int .u8 (a k)]) mk22 (fun a hf => by
      simp only [List.map_cons, List.map_nil]
      rw [hf.eval (x := .tmp 73) rfl] <;> rfl) (fun w => bs2 w _ _ rfl rfl) rfl (by simp [Value.oneCell']) (by decide) rfl (fun _ => rfl) (by omega) (by omega) rfl rfl lay_i2 (fun _ => ?_)
    refine V_w0.q (QY_assign rfl) rfl ?_
    refine V_nil (X_block (X_next ?_))
    refine C_region ?_
    refine V_w0.q (QY_move rfl) rfl ?_
    refine V_w0.q (QY_arith rfl rfl rfl ⟨by omega, by omega⟩) rfl ?_
    refine V_w0.q (QY_assign rfl) rfl ?_
    refine V_nil (X_then ?_)
    refine X_round (k + 1, m + 2, upd (upd E ((m : Nat) : Int) 0) (((m : Nat) : Int) + 1) (a k)) ?_ ?_ ?_ ?_
    · refine ⟨by omega, by omega, by omega, ?_, fun i a0 a1 => ?_⟩
      · rw [upd_other _ _ _ (by omega), upd_other _ _ _ (by omega), upd_other _ _ _ (by omega), upd_other _ _ _ (by omega)]; exact hE
      · by_cases e : i = k
        · subst e
          rw [show 2 + 2 * i = ((m : Nat) : Int) from by omega, upd_same, upd_other _ _ _ (by omega), upd_same]; exact ⟨rfl, rfl⟩
        · rw [upd_other _ _ _ (by omega), upd_other _ _ _ (by omega), upd_other _ _ _ (by omega), upd_other _ _ _ (by omega)]; exact hb i a0 (by omega)
    · show ((n : Int) - (k + 1)).toNat < ((n : Int) - k).toNat
      omega
    · exact ⟨rfl, rfl, rfl, trivial⟩
    · exact ⟨rfl, trivial⟩
  ·
    obtain rfl : k = (n : Int) := by omega
    obtain rfl : m = 2 + 2 * n := by omega
    refine V_nil (X_next ?_)
    refine C_false rfl ?_
    refine C_exit (X_then_exit (X_then_exit (X_block_exit (X_block (X_next ?_)))))
    refine C_seq ?_
    refine C_region ?_
    refine V_w0.q (QY_move rfl) rfl ?_
    refine V_w0.q (QY_assign rfl) rfl ?_
    refine V_nil (X_next ?_)
    refine C_ret (?_)
    refine X_ret1 rfl rfl (fun w hm => ?_)
    exact ⟨(bo, (2 + 2 * (n : Int)).toNat, E), ⟨by show 2 + 2 * n ≤ (2 + 2 * (n : Int)).toNat; omega, hE, hb, (Rd_own (q := 1) rfl (by omega)).at hm⟩, rfl, hm.sub trivial⟩

theorem enc3 (w : World) (aA : Option Addr) (n cA : Nat) (a : Int → Int) (hA : RdW w (.slice aA n cA) n (ints .u8 a)) (hn : (n : Int) ≤ 1048576) :
    Calls Try.prog 13 #[.slice aA n cA, .int .i64 3] w fun e w' => ∃ y : Nat × Nat × (Int → Int), (3 + 1 * n ≤ y.2.1 ∧ (y.2.2 0 = 239 ∧ y.2.2 1 = 187 ∧ y.2.2 2 = 191) ∧ (∀ i, 0 ≤ i → i < (n : Int) → y.2.2 (3 + i) = a i) ∧ RdW w' (.slice (some ⟨y.1, 0, none⟩) (3 + 1 * n) y.2.1) (3 + 1 * n) (ints .u8 y.2.2)) ∧ e = .returned (.slice (some ⟨y.1, 0, none⟩) (3 + 1 * n) y.2.1) ∧ Mem (Old w) w [] w' := by
  refine enter (N := 77) (vs := [.slice aA n cA, .int .i64 3]) Try.func13 rfl Try.ntmps13 rfl ?_ w (Mem.start w)
  refine C_seq ?_
  refine C_region ?_
  refine V_w0.q (QY_assign rfl) rfl ?_
  refine V_nil (X_next ?_)
  refine C_seq ?_
  refine C_region ?_
  refine V_w0.q (QY_assign rfl) rfl ?_
  refine V_nil (X_next ?_)
  refine C_seq ?_
  refine C_seq ?_
  refine C_region ?_
  refine V_w0.q (QY_move rfl) rfl ?_
  refine V_nil (X_next ?_)
  refine C_block ?_
  refine C_seq ?_
  refine C_region ?_
  refine W_eql V_w0 rfl rfl rfl (fun h31 => False.elim (by omega)) (fun h31 => ?_)
  refine V_w0.q (QY_assign rfl) rfl ?_
  refine V_nil (X_next ?_)
  refine C_false rfl ?_
  refine C_seq ?_
  refine C_region ?_
  refine W_eql V_w0 rfl rfl rfl (fun h54 => False.elim (by omega)) (fun h54 => ?_)
  refine V_w0.q (QY_assign rfl) rfl ?_
  refine V_nil (X_next ?_)
  refine C_false rfl ?_
  refine C_seq ?_
  refine C_region ?_
  refine V_w0.q (QY_move rfl) rfl ?_
  refine V_w0.q (QY_len sl22 rfl) rfl ?_
  refine V_w0.q (QY_arith rfl rfl rfl ⟨by omega, by omega⟩) rfl ?_
  refine V_make 1 mk22 rfl rfl rfl (by omega) (by omega) (by omega) (by omega) rfl (fun bo => ?_)
  refine V_w0.q (QY_assign rfl) rfl ?_
  refine V_nil (X_next ?_)
  refine C_seq ?_
  refine C_region ?_
  refine V_w0.q (QY_move rfl) rfl ?_
  refine V_appC (q := 1) (parts := [(0, .const (.int .u8 239)), (1, .const (.int .u8 187)), (2, .const (.int .u8 191))]) (vs := [(0, .int .u8 239), (1, .int .u8 187), (2, .int .u8 191)]) (us := [.int .u8 239, .int .u8 187, .int .u8 191]) mk22 (fun a hf => rfl) (fun w => bs3 w _ _ _ rfl rfl rfl) rfl (by simp [Value.oneCell']) (by decide) rfl (fun _ => rfl) (by omega) (by omega) rfl rfl lay_i3 (fun _ => ?_)
  refine V_w0.q (QY_assign rfl) rfl ?_
  refine V_nil (X_next ?_)
  refine C_seq ?_
  refine C_region ?_
  refine V_w0.q (QY_assign rfl) rfl ?_
  refine V_nil (X_next ?_)
  refine C_block ?_
  refine C_loops (T := Int × Nat × (Int → Int)) (fun (zz9 : Int × Nat × (Int → Int)) => match zz9 with | (k, m, E) => [(0, .slice aA n cA), (5, .slice (some ⟨bo, 0, none⟩) m (3 + (n : Int)).toNat), (8, .int .i64 k)]) (fun (zz9 : Int × Nat × (Int → Int)) => match zz9 with | (k, m, E) => [(1, ⟨bo, (3 + (n : Int)).toNat, 3 + (n : Int), ints .u8 E⟩)]) (fun (zz9 : Int × Nat × (Int → Int)) => match zz9 with | (k, m, E) => 0 ≤ k ∧ k ≤ n ∧ (m : Int) = 3 + 1 * k ∧ (E 0 = 239 ∧ E 1 = 187 ∧ E 2 = 191) ∧ ∀ i, 0 ≤ i → i < k → E (3 + i) = a i) (fun (zz9 : Int × Nat × (Int → Int)) => match zz9 with | (k, m, E) => ((n : Int) - k).toNat) (0, 3, upd (upd (upd (fun _ => 0) ((0 : Nat) : Int) 239) (((0 : Nat) : Int) + 1) 187) (((0 : Nat) : Int) + 2) 191) ?_ ?_ ?_ ?_
  · exact ⟨by omega, by omega, by omega, ⟨rfl, rfl, rfl⟩, fun i a b => by omega⟩
  · exact ⟨rfl, rfl, rfl, trivial⟩
  · exact ⟨rfl, trivial⟩
  rintro ⟨k, m, E⟩ ⟨hk0, hk1, hm9, hE, hb⟩
  show C _ _ _ _ _ _ [(0, .slice aA n cA), (5, .slice (some ⟨bo, 0, none⟩) m (3 + (n : Int)).toNat), (8, .int .i64 k)] [(1, ⟨bo, (3 + (n : Int)).toNat, 3 + (n : Int), ints .u8 E⟩)]
  refine C_seq ?_
  refine C_seq ?_
  refine C_region ?_
  refine V_w0.q (QY_move rfl) rfl ?_
  refine V_w0.q (QY_move rfl) rfl ?_
  refine V_w0.q (QY_len sl22 rfl) rfl ?_
  refine W_lss V_w0 rfl rfl rfl (fun h20 => ?_) (fun h20 => ?_)
  ·
    refine V_nil (X_next ?_)
    refine C_true rfl ?_
    refine C_skip (X_next ?_)
    refine C_seq ?_
    refine C_block ?_
    refine C_region ?_
    refine V_w0.q (QY_move rfl) rfl ?_
    refine V_w0.q (QY_move rfl) rfl ?_
    refine V_w0.q (QY_move rfl) rfl ?_
    refine W_elem V_w0 rfl rfl (hA.rd) (by omega) (by omega) sl22 lf5 rfl rfl (fun _ => ?_)
    refine V_appC (q := 1) (parts := [(0, .tmp 27)]) (vs := [(0, .int .u8 (a k))]) (us := [.int .u8 (a k)]) mk22 (fun a hf => by
      simp only [List.map_cons, List.map_nil]
      rw [hf.eval (x := .tmp 27) rfl] <;> rfl) (fun w => bs1 w _ rfl) rfl (by simp [Value.oneCell']) (by decide) rfl (fun _ => rfl) (by omega) (by omega) rfl rfl lay_i1 (fun _ => ?_)
    refine V_w0.q (QY_assign rfl) rfl ?_
    refine V_nil (X_block (X_next ?_))
    refine C_region ?_
    refine V_w0.q (QY_move rfl) rfl ?_
    refine V_w0.q (QY_arith rfl rfl rfl ⟨by omega, by omega⟩) rfl ?_
    refine V_w0.q (QY_assign rfl) rfl ?_
    refine V_nil (X_then ?_)
    refine X_round (k + 1, m + 1, upd E ((m : Nat) : Int) (a k)) ?_ ?_ ?_ ?_
    · refine ⟨by omega, by omega, by omega, ?_, fun i a0 a1 => ?_⟩
      · rw [upd_other _ _ _ (by omega), upd_other _ _ _ (by omega), upd_other _ _ _ (by omega)]; exact hE
      · by_cases e : i = k
        · subst e; rw [show 3 + i = ((m : Nat) : Int) from by omega, upd_same]
        · rw [upd_other _ _ _ (by omega)]; exact hb i a0 (by omega)
    · show ((n : Int) - (k + 1)).toNat < ((n : Int) - k).toNat
      omega
    · exact ⟨rfl, rfl, rfl, trivial⟩
    · exact ⟨rfl, trivial⟩
  ·
    obtain rfl : k = (n : Int) := by omega
    obtain rfl : m = 3 + 1 * n := by omega
    refine V_nil (X_next ?_)
    refine C_false rfl ?_
    refine C_exit (X_then_exit (X_then_exit (X_block_exit (X_block (X_next ?_)))))
    refine C_seq ?_
    refine C_region ?_
    refine V_w0.q (QY_move rfl) rfl ?_
    refine V_w0.q (QY_assign rfl) rfl ?_
    refine V_nil (X_next ?_)
    refine C_ret (?_)
    refine X_ret1 rfl rfl (fun w hm => ?_)
    exact ⟨(bo, (3 + (n : Int)).toNat, E), ⟨by show 3 + 1 * n ≤ (3 + (n : Int)).toNat; omega, hE, hb, (Rd_own (q := 1) rfl (by omega)).at hm⟩, rfl, hm.sub trivial⟩

end Go.Proofs.Qxb6001236a
