/-
  OWN WORK (the rule applications laid by a program of our own, wip/gen). The clones.
-/
import Derived.Test.Qxb6001307aKitD
import Derived.Test.Qxb6001307aTypes
namespace Go.Proofs.Qxb6001307a
open Go.RowKit
set_option linter.unusedSimpArgs false
set_option linter.unusedVariables false

theorem clone10 (w : World) (a0 : Option Addr) (n cap : Nat) (f : Int → Int) (hr : RdW w (.slice a0 n cap) n (ints .i32 f)) (hn : (n : Int) ≤ 1048576) :
    Calls Try.prog 10 #[.slice a0 n cap] w fun e w' => ∃ y : Nat × Option Addr, (0 < n → y.2 = some ⟨y.1, 0, none⟩) ∧ e = .returned (.slice y.2 n n) ∧ Mem (Old w) w [(0, ⟨y.1, n, n, ints .i32 f⟩)] w' := by
  have hrd : ∀ H, Rd (Old w) w H (.slice a0 n cap) n (ints .i32 f) := fun H => hr.rd
  refine enter (N := 24) (vs := [.slice a0 n cap]) Try.func10 rfl Try.ntmps10 rfl ?_ w (Mem.start w)
  refine C_seq ?_
  refine C_region ?_
  refine V_w0.q (QY_assign rfl) rfl ?_
  refine V_nil (X_next ?_)
  refine C_seq ?_
  refine C_seq ?_
  refine C_region ?_
  refine V_w0.q (QY_move rfl) rfl ?_
  refine W_isnil V_w0 Try.underlying22 rfl rfl (fun h6 => ?_) (fun h6 => ?_)
  ·
    refine V_nil (X_next ?_)
    refine C_true rfl ?_
    refine C_seq ?_
    refine C_region ?_
    refine V_w0.q (QY_assign rfl) rfl ?_
    refine V_nil (X_next ?_)
    refine C_ret (X_then_ret (?_))
    refine X_ret1 rfl rfl (fun w hm => ?_)
    have h0 := hr.nil h6
    subst h0
    exact ⟨(0, none), fun h => by omega, rfl, hm.none 0 0 (Int.le_refl _) _⟩
  ·
    refine V_nil (X_next ?_)
    refine C_false rfl ?_
    refine C_skip (X_next ?_)
    refine C_seq ?_
    refine C_region ?_
    refine V_w0.q (QY_move rfl) rfl ?_
    refine V_w0.q (QY_len sl22 rfl) rfl ?_
    refine V_make 1 mk22 rfl rfl rfl (by omega) (by omega) (by omega) (by omega) rfl (fun b9 => ?_)
    refine V_w0.q (QY_assign rfl) rfl ?_
    refine V_nil (X_next ?_)
    refine C_seq ?_
    refine C_seq ?_
    refine C_region ?_
    refine V_w0.q (QY_assign rfl) rfl ?_
    refine V_nil (X_next ?_)
    refine C_block ?_
    refine C_loops (T := Int × (Int → Int)) (fun (x : Int × (Int → Int)) => match x with | (k, g) => [(0, .slice a0 n cap), (3, .slice (some ⟨b9, 0, none⟩) n n), (4, .int .i64 k)]) (fun (x : Int × (Int → Int)) => match x with | (k, g) => [(1, ⟨b9, n, n, ints .i32 g⟩)]) (fun (x : Int × (Int → Int)) => match x with | (k, g) => 0 ≤ k ∧ k ≤ n ∧ ∀ i, 0 ≤ i → i < k → g i = f i) (fun (x : Int × (Int → Int)) => match x with | (k, g) => ((n : Int) - k).toNat) (0, fun _ => 0) ?_ ?_ ?_ ?_
    · exact ⟨by omega, by omega, fun i h0 h1 => by omega⟩
    · exact ⟨rfl, rfl, rfl, trivial⟩
    · exact ⟨rfl, trivial⟩
    rintro ⟨k, g⟩ ⟨hk0, hk1, hg⟩
    show C _ _ _ _ _ _ [(0, .slice a0 n cap), (3, .slice (some ⟨b9, 0, none⟩) n n), (4, .int .i64 k)] [(1, ⟨b9, n, n, ints .i32 g⟩)]
    refine C_seq ?_
    refine C_seq ?_
    refine C_region ?_
    refine V_w0.q (QY_move rfl) rfl ?_
    refine V_w0.q (QY_move rfl) rfl ?_
    refine V_w0.q (QY_len sl22 rfl) rfl ?_
    refine W_lss V_w0 rfl rfl rfl (fun h13 => ?_) (fun h13 => ?_)
    ·
      refine V_nil (X_next ?_)
      refine C_true rfl ?_
      refine C_skip (X_next ?_)
      refine C_seq ?_
      refine C_block ?_
      refine C_region ?_
      refine V_w0.q (QY_move rfl) rfl ?_
      refine V_w0.q (QY_move rfl) rfl ?_
      refine V_w0.q (QY_move rfl) rfl ?_
      refine V_w0.q (QY_move rfl) rfl ?_
      refine W_elem V_w0 rfl rfl (hrd _) (by omega) (by omega) sl22 lf21 rfl rfl (fun _ => ?_)
      refine V_set (q := 1) rfl rfl rfl rfl rfl (by omega) (by omega) (by omega) sl22 lf21 rfl rfl (upd_ints _ _ _ _) (fun _ => ?_)
      refine V_nil (X_block (X_next ?_))
      refine C_region ?_
      refine V_w0.q (QY_move rfl) rfl ?_
      refine V_w0.q (QY_arith rfl rfl rfl ⟨by omega, by omega⟩) rfl ?_
      refine V_w0.q (QY_assign rfl) rfl ?_
      refine V_nil (X_then ?_)
      refine X_round (k + 1, upd g k (f k)) ?_ ?_ ?_ ?_
      · exact ⟨by omega, by omega, upd_copy hg⟩
      · show ((n : Int) - (k + 1)).toNat < ((n : Int) - k).toNat
        omega
      · exact ⟨rfl, rfl, rfl, trivial⟩
      · exact ⟨rfl, trivial⟩
    ·
      refine V_nil (X_next ?_)
      refine C_false rfl ?_
      refine C_exit (X_then_exit (X_then_exit (X_block_exit (X_next ?_))))
      refine C_seq ?_
      refine C_region ?_
      refine V_w0.q (QY_move rfl) rfl ?_
      refine V_w0.q (QY_assign rfl) rfl ?_
      refine V_nil (X_next ?_)
      refine C_ret (?_)
      refine X_ret1 rfl rfl (fun w hm => ?_)
      exact ⟨(b9, some ⟨b9, 0, none⟩), fun _ => rfl, rfl, hm.one 0 (q := 1) rfl (Int.le_refl _) (fun i h0 h1 => by show ints .i32 f i = ints .i32 g i; unfold ints; rw [hg i h0 (by omega)])⟩

theorem clone11 (w : World) (a0 : Option Addr) (n cap : Nat) (f : Int → Int) (hr : RdW w (.slice a0 n cap) n (ints .u8 f)) (hn : (n : Int) ≤ 1048576) :
    Calls Try.prog 11 #[.slice a0 n cap] w fun e w' => ∃ y : Nat × Option Addr, (0 < n → y.2 = some ⟨y.1, 0, none⟩) ∧ e = .returned (.slice y.2 n n) ∧ Mem (Old w) w [(0, ⟨y.1, n, n, ints .u8 f⟩)] w' := by
  have hrd : ∀ H, Rd (Old w) w H (.slice a0 n cap) n (ints .u8 f) := fun H => hr.rd
  refine enter (N := 24) (vs := [.slice a0 n cap]) Try.func11 rfl Try.ntmps11 rfl ?_ w (Mem.start w)
  refine C_seq ?_
  refine C_region ?_
  refine V_w0.q (QY_assign rfl) rfl ?_
  refine V_nil (X_next ?_)
  refine C_seq ?_
  refine C_seq ?_
  refine C_region ?_
  refine V_w0.q (QY_move rfl) rfl ?_
  refine W_isnil V_w0 Try.underlying23 rfl rfl (fun h6 => ?_) (fun h6 => ?_)
  ·
    refine V_nil (X_next ?_)
    refine C_true rfl ?_
    refine C_seq ?_
    refine C_region ?_
    refine V_w0.q (QY_assign rfl) rfl ?_
    refine V_nil (X_next ?_)
    refine C_ret (X_then_ret (?_))
    refine X_ret1 rfl rfl (fun w hm => ?_)
    have h0 := hr.nil h6
    subst h0
    exact ⟨(0, none), fun h => by omega, rfl, hm.none 0 0 (Int.le_refl _) _⟩
  ·
    refine V_nil (X_next ?_)
    refine C_false rfl ?_
    refine C_skip (X_next ?_)
    refine C_seq ?_
    refine C_region ?_
    refine V_w0.q (QY_move rfl) rfl ?_
    refine V_w0.q (QY_len sl23 rfl) rfl ?_
    refine V_make 1 mk23 rfl rfl rfl (by omega) (by omega) (by omega) (by omega) rfl (fun b9 => ?_)
    refine V_w0.q (QY_assign rfl) rfl ?_
    refine V_nil (X_next ?_)
    refine C_seq ?_
    refine C_seq ?_
    refine C_region ?_
    refine V_w0.q (QY_assign rfl) rfl ?_
    refine V_nil (X_next ?_)
    refine C_block ?_
    refine C_loops (T := Int × (Int → Int)) (fun (x : Int × (Int → Int)) => match x with | (k, g) => [(0, .slice a0 n cap), (3, .slice (some ⟨b9, 0, none⟩) n n), (4, .int .i64 k)]) (fun (x : Int × (Int → Int)) => match x with | (k, g) => [(1, ⟨b9, n, n, ints .u8 g⟩)]) (fun (x : Int × (Int → Int)) => match x with | (k, g) => 0 ≤ k ∧ k ≤ n ∧ ∀ i, 0 ≤ i → i < k → g i = f i) (fun (x : Int × (Int → Int)) => match x with | (k, g) => ((n : Int) - k).toNat) (0, fun _ => 0) ?_ ?_ ?_ ?_
    · exact ⟨by omega, by omega, fun i h0 h1 => by omega⟩
    · exact ⟨rfl, rfl, rfl, trivial⟩
    · exact ⟨rfl, trivial⟩
    rintro ⟨k, g⟩ ⟨hk0, hk1, hg⟩
    show C _ _ _ _ _ _ [(0, .slice a0 n cap), (3, .slice (some ⟨b9, 0, none⟩) n n), (4, .int .i64 k)] [(1, ⟨b9, n, n, ints .u8 g⟩)]
    refine C_seq ?_
    refine C_seq ?_
    refine C_region ?_
    refine V_w0.q (QY_move rfl) rfl ?_
    refine V_w0.q (QY_move rfl) rfl ?_
    refine V_w0.q (QY_len sl23 rfl) rfl ?_
    refine W_lss V_w0 rfl rfl rfl (fun h13 => ?_) (fun h13 => ?_)
    ·
      refine V_nil (X_next ?_)
      refine C_true rfl ?_
      refine C_skip (X_next ?_)
      refine C_seq ?_
      refine C_block ?_
      refine C_region ?_
      refine V_w0.q (QY_move rfl) rfl ?_
      refine V_w0.q (QY_move rfl) rfl ?_
      refine V_w0.q (QY_move rfl) rfl ?_
      refine V_w0.q (QY_move rfl) rfl ?_
      refine W_elem V_w0 rfl rfl (hrd _) (by omega) (by omega) sl23 lf5 rfl rfl (fun _ => ?_)
      refine V_set (q := 1) rfl rfl rfl rfl rfl (by omega) (by omega) (by omega) sl23 lf5 rfl rfl (upd_ints _ _ _ _) (fun _ => ?_)
      refine V_nil (X_block (X_next ?_))
      refine C_region ?_
      refine V_w0.q (QY_move rfl) rfl ?_
      refine V_w0.q (QY_arith rfl rfl rfl ⟨by omega, by omega⟩) rfl ?_
      refine V_w0.q (QY_assign rfl) rfl ?_
      refine V_nil (X_then ?_)
      refine X_round (k + 1, upd g k (f k)) ?_ ?_ ?_ ?_
      · exact ⟨by omega, by omega, upd_copy hg⟩
      · show ((n : Int) - (k + 1)).toNat < ((n : Int) - k).toNat
        omega
      · exact ⟨rfl, rfl, rfl, trivial⟩
      · exact ⟨rfl, trivial⟩
    ·
      refine V_nil (X_next ?_)
      refine C_false rfl ?_
      refine C_exit (X_then_exit (X_then_exit (X_block_exit (X_next ?_))))
      refine C_seq ?_
      refine C_region ?_
      refine V_w0.q (QY_move rfl) rfl ?_
      refine V_w0.q (QY_assign rfl) rfl ?_
      refine V_nil (X_next ?_)
      refine C_ret (?_)
      refine X_ret1 rfl rfl (fun w hm => ?_)
      exact ⟨(b9, some ⟨b9, 0, none⟩), fun _ => rfl, rfl, hm.one 0 (q := 1) rfl (Int.le_refl _) (fun i h0 h1 => by show ints .u8 f i = ints .u8 g i; unfold ints; rw [hg i h0 (by omega)])⟩

theorem clone16 (w : World) (a0 : Option Addr) (n cap : Nat) (f : Int → Bool) (hr : RdW w (.slice a0 n cap) n (bools f)) (hn : (n : Int) ≤ 1048576) :
    Calls Try.prog 16 #[.slice a0 n cap] w fun e w' => ∃ y : Nat × Option Addr, (0 < n → y.2 = some ⟨y.1, 0, none⟩) ∧ e = .returned (.slice y.2 n n) ∧ Mem (Old w) w [(0, ⟨y.1, n, n, bools f⟩)] w' := by
  have hrd : ∀ H, Rd (Old w) w H (.slice a0 n cap) n (bools f) := fun H => hr.rd
  refine enter (N := 24) (vs := [.slice a0 n cap]) Try.func16 rfl Try.ntmps16 rfl ?_ w (Mem.start w)
  refine C_seq ?_
  refine C_region ?_
  refine V_w0.q (QY_assign rfl) rfl ?_
  refine V_nil (X_next ?_)
  refine C_seq ?_
  refine C_seq ?_
  refine C_region ?_
  refine V_w0.q (QY_move rfl) rfl ?_
  refine W_isnil V_w0 Try.underlying26 rfl rfl (fun h6 => ?_) (fun h6 => ?_)
  ·
    refine V_nil (X_next ?_)
    refine C_true rfl ?_
    refine C_seq ?_
    refine C_region ?_
    refine V_w0.q (QY_assign rfl) rfl ?_
    refine V_nil (X_next ?_)
    refine C_ret (X_then_ret (?_))
    refine X_ret1 rfl rfl (fun w hm => ?_)
    have h0 := hr.nil h6
    subst h0
    exact ⟨(0, none), fun h => by omega, rfl, hm.none 0 0 (Int.le_refl _) _⟩
  ·
    refine V_nil (X_next ?_)
    refine C_false rfl ?_
    refine C_skip (X_next ?_)
    refine C_seq ?_
    refine C_region ?_
    refine V_w0.q (QY_move rfl) rfl ?_
    refine V_w0.q (QY_len sl26 rfl) rfl ?_
    refine V_make 1 mk26 rfl rfl rfl (by omega) (by omega) (by omega) (by omega) rfl (fun b9 => ?_)
    refine V_w0.q (QY_assign rfl) rfl ?_
    refine V_nil (X_next ?_)
    refine C_seq ?_
    refine C_seq ?_
    refine C_region ?_
    refine V_w0.q (QY_assign rfl) rfl ?_
    refine V_nil (X_next ?_)
    refine C_block ?_
    refine C_loops (T := Int × (Int → Bool)) (fun (x : Int × (Int → Bool)) => match x with | (k, g) => [(0, .slice a0 n cap), (3, .slice (some ⟨b9, 0, none⟩) n n), (4, .int .i64 k)]) (fun (x : Int × (Int → Bool)) => match x with | (k, g) => [(1, ⟨b9, n, n, bools g⟩)]) (fun (x : Int × (Int → Bool)) => match x with | (k, g) => 0 ≤ k ∧ k ≤ n ∧ ∀ i, 0 ≤ i → i < k → g i = f i) (fun (x : Int × (Int → Bool)) => match x with | (k, g) => ((n : Int) - k).toNat) (0, fun _ => false) ?_ ?_ ?_ ?_
    · exact ⟨by omega, by omega, fun i h0 h1 => by omega⟩
    · exact ⟨rfl, rfl, rfl, trivial⟩
    · exact ⟨rfl, trivial⟩
    rintro ⟨k, g⟩ ⟨hk0, hk1, hg⟩
    show C _ _ _ _ _ _ [(0, .slice a0 n cap), (3, .slice (some ⟨b9, 0, none⟩) n n), (4, .int .i64 k)] [(1, ⟨b9, n, n, bools g⟩)]
    refine C_seq ?_
    refine C_seq ?_
    refine C_region ?_
    refine V_w0.q (QY_move rfl) rfl ?_
    refine V_w0.q (QY_move rfl) rfl ?_
    refine V_w0.q (QY_len sl26 rfl) rfl ?_
    refine W_lss V_w0 rfl rfl rfl (fun h13 => ?_) (fun h13 => ?_)
    ·
      refine V_nil (X_next ?_)
      refine C_true rfl ?_
      refine C_skip (X_next ?_)
      refine C_seq ?_
      refine C_block ?_
      refine C_region ?_
      refine V_w0.q (QY_move rfl) rfl ?_
      refine V_w0.q (QY_move rfl) rfl ?_
      refine V_w0.q (QY_move rfl) rfl ?_
      refine V_w0.q (QY_move rfl) rfl ?_
      refine W_elem V_w0 rfl rfl (hrd _) (by omega) (by omega) sl26 lf4 rfl rfl (fun _ => ?_)
      refine V_set (q := 1) rfl rfl rfl rfl rfl (by omega) (by omega) (by omega) sl26 lf4 rfl rfl (upd_bools _ _ _) (fun _ => ?_)
      refine V_nil (X_block (X_next ?_))
      refine C_region ?_
      refine V_w0.q (QY_move rfl) rfl ?_
      refine V_w0.q (QY_arith rfl rfl rfl ⟨by omega, by omega⟩) rfl ?_
      refine V_w0.q (QY_assign rfl) rfl ?_
      refine V_nil (X_then ?_)
      refine X_round (k + 1, upd g k (f k)) ?_ ?_ ?_ ?_
      · exact ⟨by omega, by omega, upd_copy hg⟩
      · show ((n : Int) - (k + 1)).toNat < ((n : Int) - k).toNat
        omega
      · exact ⟨rfl, rfl, rfl, trivial⟩
      · exact ⟨rfl, trivial⟩
    ·
      refine V_nil (X_next ?_)
      refine C_false rfl ?_
      refine C_exit (X_then_exit (X_then_exit (X_block_exit (X_next ?_))))
      refine C_seq ?_
      refine C_region ?_
      refine V_w0.q (QY_move rfl) rfl ?_
      refine V_w0.q (QY_assign rfl) rfl ?_
      refine V_nil (X_next ?_)
      refine C_ret (?_)
      refine X_ret1 rfl rfl (fun w hm => ?_)
      exact ⟨(b9, some ⟨b9, 0, none⟩), fun _ => rfl, rfl, hm.one 0 (q := 1) rfl (Int.le_refl _) (fun i h0 h1 => by show bools f i = bools g i; unfold bools; rw [hg i h0 (by omega)])⟩

end Go.Proofs.Qxb6001307a
