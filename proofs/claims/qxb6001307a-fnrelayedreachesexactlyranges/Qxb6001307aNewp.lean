/-
  OWN WORK (the rule applications laid by a program of our own, wip/gen). zzClassSets, ZZNewPartition, ZZTake, ZZPartitionOut.
-/
import Derived.Test.Qxb6001307aPlainA
import Derived.Test.Qxb6001307aBuild
import Derived.Test.Qxb6001307aSmall
namespace Go.Proofs.Qxb6001307a
open Go.RowKit
set_option linter.unusedSimpArgs false
set_option linter.unusedVariables false

theorem cs32 (w : World) (a0 : Option Addr) (n cap : Nat) (f : Int → Int) (hr : RdW w (.slice a0 n cap) n (ints .u8 f)) (hn : (n : Int) ≤ 1048576) :
    Calls Try.prog 32 #[.slice a0 n cap] w fun e w' => ∃ y : Nat, True ∧ e = .returned (.slice (some ⟨y, 0, none⟩) n n) ∧ Mem (Old w) w [(0, ⟨y, n, n, ints .u8 f⟩)] w' := by
  have hrd : ∀ H, Rd (Old w) w H (.slice a0 n cap) n (ints .u8 f) := fun H => hr.rd
  refine enter (N := 22) (vs := [.slice a0 n cap]) Try.func32 rfl Try.ntmps32 rfl ?_ w (Mem.start w)
  refine C_seq ?_
  refine C_region ?_
  refine V_w0.q (QY_assign rfl) rfl ?_
  refine V_nil (X_next ?_)
  refine C_seq ?_
  refine C_region ?_
  refine V_w0.q (QY_move rfl) rfl ?_
  refine V_w0.q (QY_len sl23 rfl) rfl ?_
  refine V_make 1 mk54 rfl rfl rfl (by omega) (by omega) (by omega) (by omega) rfl (fun b9 => ?_)
  refine V_w0.q (QY_assign rfl) rfl ?_
  refine V_nil (X_next ?_)
  refine C_seq ?_
  refine C_seq ?_
  refine C_region ?_
  refine V_w0.q (QY_move rfl) rfl ?_
  refine V_w0.q (QY_len sl23 rfl) rfl ?_
  refine V_w0.q (QY_move rfl) rfl ?_
  refine V_nil (X_next ?_)
  refine C_block ?_
  refine C_loops (T := Int × (Int → Int)) (fun (x : Int × (Int → Int)) => match x with | (k, g) => [(3, .slice (some ⟨b9, 0, none⟩) n n), (9, .slice a0 n cap), (10, .int .i64 (n : Int)), (11, .int .i64 k)]) (fun (x : Int × (Int → Int)) => match x with | (k, g) => [(1, ⟨b9, n, n, ints .u8 g⟩)]) (fun (x : Int × (Int → Int)) => match x with | (k, g) => 0 ≤ k ∧ k ≤ n ∧ ∀ i, 0 ≤ i → i < k → g i = f i) (fun (x : Int × (Int → Int)) => match x with | (k, g) => ((n : Int) - k).toNat) (0, fun _ => 0) ?_ ?_ ?_ ?_
  · exact ⟨by omega, by omega, fun i h0 h1 => by omega⟩
  · exact ⟨rfl, rfl, rfl, rfl, trivial⟩
  · exact ⟨rfl, trivial⟩
  rintro ⟨k, g⟩ ⟨hk0, hk1, hg⟩
  show C _ _ _ _ _ _ [(3, .slice (some ⟨b9, 0, none⟩) n n), (9, .slice a0 n cap), (10, .int .i64 (n : Int)), (11, .int .i64 k)] [(1, ⟨b9, n, n, ints .u8 g⟩)]
  refine C_seq ?_
  refine C_region ?_
  refine W_lss V_w0 rfl rfl rfl (fun h12 => ?_) (fun h12 => ?_)
  ·
    refine V_nil (X_next ?_)
    refine C_seq ?_
    refine C_true rfl ?_
    refine C_skip (X_next ?_)
    refine C_seq ?_
    refine C_block ?_
    refine C_seq ?_
    refine C_region ?_
    refine V_w0.q (QY_move rfl) rfl ?_
    refine W_elem V_w0 rfl rfl (hrd _) (by omega) (by omega) sl23 lf5 rfl rfl (fun _ => ?_)
    refine V_w0.q (QY_assign rfl) rfl ?_
    refine V_w0.q (QY_assign rfl) rfl ?_
    refine V_nil (X_next ?_)
    refine C_region ?_
    refine V_w0.q (QY_move rfl) rfl ?_
    refine V_w0.q (QY_move rfl) rfl ?_
    refine V_w0.q (QY_move rfl) rfl ?_
    refine V_set (q := 1) rfl rfl rfl rfl rfl (by omega) (by omega) (by omega) sl54 lf58 rfl rfl (upd_ints _ _ _ _) (fun _ => ?_)
    refine V_nil (X_block (X_next ?_))
    refine C_region ?_
    refine V_w0.q (QY_arith rfl rfl rfl ⟨by omega, by omega⟩) rfl ?_
    refine V_w0.q (QY_move rfl) rfl ?_
    refine V_nil (X_then ?_)
    refine X_round (k + 1, upd g k (f k)) ?_ ?_ ?_ ?_
    · exact ⟨by omega, by omega, upd_copy hg⟩
    · show ((n : Int) - (k + 1)).toNat < ((n : Int) - k).toNat
      omega
    · exact ⟨rfl, rfl, rfl, rfl, trivial⟩
    · exact ⟨rfl, trivial⟩
  ·
    refine V_nil (X_next ?_)
    refine C_seq ?_
    refine C_false rfl ?_
    refine C_exit (X_then_exit (X_then_exit (X_block_exit (X_next ?_))))
    refine C_seq ?_
    refine C_region ?_
    refine V_w0.q (QY_move rfl) rfl ?_
    refine V_w0.q (QY_assign rfl) rfl ?_
    refine V_nil (X_next ?_)
    refine C_ret (?_)
    refine X_ret1 rfl rfl (fun w hm => ?_)
    exact ⟨b9, trivial, rfl, hm.one 0 (q := 1) rfl (Int.le_refl _) (fun i h0 h1 => by show ints .u8 f i = ints .u8 g i; unfold ints; rw [hg i h0 (by omega)])⟩

structure NewOut where
  (bP bA bL bX bT bZ bW : Nat)
set_option maxHeartbeats 1000000 in
theorem new12 (w : World) (vF vO vC vS vN vE : Value) (a2 aB : Option Addr) (nc c2 cB : Nat) (cl : Int → Int) (al tx : Int) (hcl' : RdW w (.slice a2 nc c2) nc (ints .u8 cl)) (hnc : (nc : Int) ≤ 1048576)
    (h1F : vF.oneCell' = true) (h1O : vO.oneCell' = true) (h1C : vC.oneCell' = true) (h1S : vS.oneCell' = true) (h1N : vN.oneCell' = true) (h1E : vE.oneCell' = true) :
    Calls Try.prog 12 #[vF, vO, .slice a2 nc c2, .int .u8 al, .int .i32 tx, vC, vS, vN, .slice aB 1 cB, vE] w fun e w' => ∃ y : NewOut, True ∧ e = .returned (.pointer (some ⟨y.bP, 0, none⟩)) ∧ Mem (Old w) w [(30, ⟨y.bP, 17, 17, fl [.pointer (some ⟨y.bA, 0, none⟩), .int .u8 al, .int .i32 tx, vC, .slice none 0 0, .slice aB 1 cB, vE, .slice (some ⟨y.bX, 0, none⟩) 1 1, .slice (some ⟨y.bT, 0, none⟩) 1 1, .slice (some ⟨y.bZ, 0, none⟩) 1 1, .slice (some ⟨y.bW, 0, none⟩) 1 1, .slice none 0 0, .slice none 0 0, vN, vS, .slice none 0 0, .slice none 0 0]⟩), (31, ⟨y.bA, 3, 3, fl [vF, vO, .slice (some ⟨y.bL, 0, none⟩) nc nc]⟩), (34, ⟨y.bL, nc, nc, ints .u8 cl⟩), (38, ⟨y.bX, 1, 1, fun _ => .int .u8 0⟩), (39, ⟨y.bT, 1, 1, fun _ => .int .i32 0⟩), (40, ⟨y.bZ, 1, 1, fun _ => .int .i64 0⟩), (41, ⟨y.bW, 1, 1, fun _ => .int .i64 0⟩)] w' := by
  have hcl : ∀ w1, Mem (Old w) w [] w1 → RdW w1 (.slice a2 nc c2) nc (ints .u8 cl) := fun w1 hm => (hcl'.rd (H := [])).at hm
  refine enter (N := 50) (vs := [vF, vO, .slice a2 nc c2, .int .u8 al, .int .i32 tx, vC, vS, vN, .slice aB 1 cB, vE]) Try.func12 rfl Try.ntmps12 rfl ?_ w (Mem.start w)
  refine C_seq ?_
  refine C_region ?_
  refine V_w0.q (QY_assign rfl) rfl ?_
  refine V_nil (X_next ?_)
  refine C_seq ?_
  refine C_region ?_
  refine V_w0.q (QY_move rfl) rfl ?_
  refine V_w0.q (QY_move rfl) rfl ?_
  refine V_w0.q (QY_move rfl) rfl ?_
  refine V_call cb32 rfl (T := Nat) (Φ := fun _ => True) (val := fun b => .slice (some ⟨b, 0, none⟩) nc nc) (H' := fun b => [(34, ⟨b, nc, nc, ints .u8 cl⟩)]) (fun w1 hm => (cs32 w1 a2 nc c2 cl (hcl w1 hm) hnc).mono fun e w2 ⟨y, _, he, hM⟩ => ⟨y, trivial, he, by simpa using hm.join (hM.rekey 34)⟩) rfl ?_
  intro bL _
  refine V_w0.q (v := .agg [vF, vO, .slice (some ⟨bL, 0, none⟩) nc nc].toArray) (QY_build (parts := [(0, .tmp 22), (1, .tmp 23), (2, .tmp 25)]) (vs := [(0, vF), (1, vO), (2, .slice (some ⟨bL, 0, none⟩) nc nc)]) (fun a hf => by
    simp only [List.map_cons, List.map_nil]
    rw [hf.eval (x := .tmp 22) rfl, hf.eval (x := .tmp 23) rfl, hf.eval (x := .tmp 25) rfl]) (fun w => build57 w _ _ _ h1F h1O rfl)) rfl ?_
  refine V_box 31 (cs := [vF, vO, .slice (some ⟨bL, 0, none⟩) nc nc]) rfl (m := 3) rfl (mi := 3) rfl rfl (fun bA => ?_)
  refine V_w0.q (QY_assign rfl) rfl ?_
  refine V_nil (X_next ?_)
  refine C_seq ?_
  refine C_orders mix ?_
  refine G_take 0 rfl (by kernel_rfl) (listed' := #[true, false, false, false, false, false, false, false, false, false, false, false, false, false, false, false, false, false, false, false, false, false, false]) (by kernel_rfl) (QY_move rfl) rfl ?_
  refine G_take 1 rfl (by kernel_rfl) (listed' := #[true, true, false, false, false, false, false, false, false, false, false, false, false, false, false, false, false, false, false, false, false, false, false]) (by kernel_rfl) (QY_move rfl) rfl ?_
  refine G_take 2 rfl (by kernel_rfl) (listed' := #[true, true, true, false, false, false, false, false, false, false, false, false, false, false, false, false, false, false, false, false, false, false, false]) (by kernel_rfl) (QY_move rfl) rfl ?_
  refine G_take 3 rfl (by kernel_rfl) (listed' := #[true, true, true, true, false, false, false, false, false, false, false, false, false, false, false, false, false, false, false, false, false, false, false]) (by kernel_rfl) (QY_move rfl) rfl ?_
  refine G_take 4 rfl (by kernel_rfl) (listed' := #[true, true, true, true, true, false, false, false, false, false, false, false, false, false, false, false, false, false, false, false, false, false, false]) (by kernel_rfl) (QY_move rfl) rfl ?_
  refine G_take 5 rfl (by kernel_rfl) (listed' := #[true, true, true, true, true, true, false, false, false, false, false, false, false, false, false, false, false, false, false, false, false, false, false]) (by kernel_rfl) (QY_move rfl) rfl ?_
  refine G_take 6 rfl (by kernel_rfl) (listed' := #[true, true, true, true, true, true, true, false, false, false, false, false, false, false, false, false, false, false, false, false, false, false, false]) (by kernel_rfl) (QY_move rfl) rfl ?_
  refine G_take 7 rfl (by kernel_rfl) (listed' := #[true, true, true, true, true, true, true, true, false, false, false, false, false, false, false, false, false, false, false, false, false, false, false]) (by kernel_rfl) (QY_len sl22 rfl) rfl ?_
  refine G_take 9 rfl (by kernel_rfl) (listed' := #[true, true, true, true, true, true, true, true, false, true, false, false, false, false, false, false, false, false, false, false, false, false, false]) (by kernel_rfl) (QY_move rfl) rfl ?_
  refine G_take 10 rfl (by kernel_rfl) (listed' := #[true, true, true, true, true, true, true, true, false, true, true, false, false, false, false, false, false, false, false, false, false, false, false]) (by kernel_rfl) (QY_len sl22 rfl) rfl ?_
  refine G_take 12 rfl (by kernel_rfl) (listed' := #[true, true, true, true, true, true, true, true, false, true, true, false, true, false, false, false, false, false, false, false, false, false, false]) (by kernel_rfl) (QY_move rfl) rfl ?_
  refine G_take 13 rfl (by kernel_rfl) (listed' := #[true, true, true, true, true, true, true, true, false, true, true, false, true, true, false, false, false, false, false, false, false, false, false]) (by kernel_rfl) (QY_len sl22 rfl) rfl ?_
  refine G_take 15 rfl (by kernel_rfl) (listed' := #[true, true, true, true, true, true, true, true, false, true, true, false, true, true, false, true, false, false, false, false, false, false, false]) (by kernel_rfl) (QY_move rfl) rfl ?_
  refine G_take 16 rfl (by kernel_rfl) (listed' := #[true, true, true, true, true, true, true, true, false, true, true, false, true, true, false, true, true, false, false, false, false, false, false]) (by kernel_rfl) (QY_len sl22 rfl) rfl ?_
  refine G_take 18 rfl (by kernel_rfl) (listed' := #[true, true, true, true, true, true, true, true, false, true, true, false, true, true, false, true, true, false, true, false, false, false, false]) (by kernel_rfl) (QY_move rfl) rfl ?_
  refine G_take 19 rfl (by kernel_rfl) (listed' := #[true, true, true, true, true, true, true, true, false, true, true, false, true, true, false, true, true, false, true, true, false, false, false]) (by kernel_rfl) (QY_move rfl) rfl ?_
  refine G_have (A := Nat × Nat × Nat × Nat) 3 #[true, true, true, true, true, true, true, true, true, true, true, true, true, true, true, true, true, true, true, true, false, false, false] (fun (x : Nat × Nat × Nat × Nat) => match x with | (bX, bT, bZ, bW) => [(36, .slice (some ⟨bX, 0, none⟩) 1 1), (39, .slice (some ⟨bT, 0, none⟩) 1 1), (42, .slice (some ⟨bZ, 0, none⟩) 1 1), (45, .slice (some ⟨bW, 0, none⟩) 1 1), (28, .pointer (some ⟨bA, 0, none⟩)), (29, .int .u8 al), (30, .int .i32 tx), (31, vC), (32, .slice aB 1 cB), (33, vE), (35, .int .i64 1), (38, .int .i64 1), (41, .int .i64 1), (44, .int .i64 1), (46, vN), (47, vS)]) (fun (x : Nat × Nat × Nat × Nat) => match x with | (bX, bT, bZ, bW) => [(38, ⟨bX, 1, 1, fun _ => (.int .u8 0)⟩), (39, ⟨bT, 1, 1, fun _ => (.int .i32 0)⟩), (40, ⟨bZ, 1, 1, fun _ => (.int .i64 0)⟩), (41, ⟨bW, 1, 1, fun _ => (.int .i64 0)⟩), (31, ⟨bA, 3, 3, fl [vF, vO, .slice (some ⟨bL, 0, none⟩) nc nc]⟩), (34, ⟨bL, nc, nc, ints .u8 cl⟩)]) ?_ (fun g1111 => ?_)
  ·
    rintro ⟨bX, bT, bZ, bW⟩
    show G _ _ _ _ _ _ _ _ _ [(36, .slice (some ⟨bX, 0, none⟩) 1 1), (39, .slice (some ⟨bT, 0, none⟩) 1 1), (42, .slice (some ⟨bZ, 0, none⟩) 1 1), (45, .slice (some ⟨bW, 0, none⟩) 1 1), (28, .pointer (some ⟨bA, 0, none⟩)), (29, .int .u8 al), (30, .int .i32 tx), (31, vC), (32, .slice aB 1 cB), (33, vE), (35, .int .i64 1), (38, .int .i64 1), (41, .int .i64 1), (44, .int .i64 1), (46, vN), (47, vS)] [(38, ⟨bX, 1, 1, fun _ => (.int .u8 0)⟩), (39, ⟨bT, 1, 1, fun _ => (.int .i32 0)⟩), (40, ⟨bZ, 1, 1, fun _ => (.int .i64 0)⟩), (41, ⟨bW, 1, 1, fun _ => (.int .i64 0)⟩), (31, ⟨bA, 3, 3, fl [vF, vO, .slice (some ⟨bL, 0, none⟩) nc nc]⟩), (34, ⟨bL, nc, nc, ints .u8 cl⟩)]
    refine G_all (rs := [20]) (by kernel_rfl) rfl ?_
    intro i hi
    obtain rfl : i = 20 := by simpa using hi
    refine G1_q (v := .agg #[.pointer (some ⟨bA, 0, none⟩), .int .u8 al, .int .i32 tx, vC, .slice none 0 0, .slice aB 1 cB, vE, .slice (some ⟨bX, 0, none⟩) 1 1, .slice (some ⟨bT, 0, none⟩) 1 1, .slice (some ⟨bZ, 0, none⟩) 1 1, .slice (some ⟨bW, 0, none⟩) 1 1, .slice none 0 0, .slice none 0 0, vN, vS, .slice none 0 0, .slice none 0 0]) rfl
      (QY_build (parts := [(0, .tmp 28), (1, .tmp 29), (2, .tmp 30), (3, .tmp 31), (5, .tmp 32), (6, .tmp 33), (7, .tmp 36), (8, .tmp 39), (9, .tmp 42), (10, .tmp 45), (13, .tmp 46), (14, .tmp 47)]) (vs := [(0, .pointer (some ⟨bA, 0, none⟩)), (1, .int .u8 al), (2, .int .i32 tx), (3, vC), (5, .slice aB 1 cB), (6, vE), (7, .slice (some ⟨bX, 0, none⟩) 1 1), (8, .slice (some ⟨bT, 0, none⟩) 1 1), (9, .slice (some ⟨bZ, 0, none⟩) 1 1), (10, .slice (some ⟨bW, 0, none⟩) 1 1), (13, vN), (14, vS)]) (fun a hf => by
        simp only [List.map_cons, List.map_nil]
        rw [hf.eval (x := .tmp 28) rfl, hf.eval (x := .tmp 29) rfl, hf.eval (x := .tmp 30) rfl, hf.eval (x := .tmp 31) rfl, hf.eval (x := .tmp 32) rfl, hf.eval (x := .tmp 33) rfl, hf.eval (x := .tmp 36) rfl, hf.eval (x := .tmp 39) rfl, hf.eval (x := .tmp 42) rfl, hf.eval (x := .tmp 45) rfl, hf.eval (x := .tmp 46) rfl, hf.eval (x := .tmp 47) rfl]) (fun w => build61 w _ _ _ _ _ _ _ _ _ _ _ _ rfl rfl rfl h1C rfl h1E rfl rfl rfl rfl h1N h1S)) rfl (listed' := #[true, true, true, true, true, true, true, true, true, true, true, true, true, true, true, true, true, true, true, true, true, false, false]) (by kernel_rfl) ?_
    refine G_all (rs := [21]) (by kernel_rfl) rfl ?_
    intro i hi
    obtain rfl : i = 21 := by simpa using hi
    refine G1_box 30 rfl (cs := [.pointer (some ⟨bA, 0, none⟩), .int .u8 al, .int .i32 tx, vC, .slice none 0 0, .slice aB 1 cB, vE, .slice (some ⟨bX, 0, none⟩) 1 1, .slice (some ⟨bT, 0, none⟩) 1 1, .slice (some ⟨bZ, 0, none⟩) 1 1, .slice (some ⟨bW, 0, none⟩) 1 1, .slice none 0 0, .slice none 0 0, vN, vS, .slice none 0 0, .slice none 0 0]) rfl (m := 17) rfl (mi := 17) rfl rfl (listed' := #[true, true, true, true, true, true, true, true, true, true, true, true, true, true, true, true, true, true, true, true, true, true, false]) (by kernel_rfl) (fun bP => ?_)
    refine G_all (rs := [22]) (by kernel_rfl) rfl ?_
    intro i hi
    obtain rfl : i = 22 := by simpa using hi
    refine G1_q rfl (QY_assign rfl) rfl (listed' := #[true, true, true, true, true, true, true, true, true, true, true, true, true, true, true, true, true, true, true, true, true, true, true]) (by kernel_rfl) ?_
    refine G_end (by kernel_rfl) ?_
    refine (X_next ?_)
    refine C_ret (?_)
    refine X_ret1 rfl rfl (fun w hm => ?_)
    exact ⟨⟨bP, bA, bL, bX, bT, bZ, bW⟩, trivial, rfl, hm.sub ⟨rfl, rfl, rfl, rfl, rfl, rfl, rfl, trivial⟩⟩
  refine G_have (A := Nat × Nat × Nat) 4 #[true, true, true, true, true, true, true, true, true, true, true, true, true, true, true, true, true, false, true, true, false, false, false] (fun (x : Nat × Nat × Nat) => match x with | (bX, bT, bZ) => [(36, .slice (some ⟨bX, 0, none⟩) 1 1), (39, .slice (some ⟨bT, 0, none⟩) 1 1), (42, .slice (some ⟨bZ, 0, none⟩) 1 1), (28, .pointer (some ⟨bA, 0, none⟩)), (29, .int .u8 al), (30, .int .i32 tx), (31, vC), (32, .slice aB 1 cB), (33, vE), (35, .int .i64 1), (38, .int .i64 1), (41, .int .i64 1), (44, .int .i64 1), (46, vN), (47, vS)]) (fun (x : Nat × Nat × Nat) => match x with | (bX, bT, bZ) => [(38, ⟨bX, 1, 1, fun _ => (.int .u8 0)⟩), (39, ⟨bT, 1, 1, fun _ => (.int .i32 0)⟩), (40, ⟨bZ, 1, 1, fun _ => (.int .i64 0)⟩), (31, ⟨bA, 3, 3, fl [vF, vO, .slice (some ⟨bL, 0, none⟩) nc nc]⟩), (34, ⟨bL, nc, nc, ints .u8 cl⟩)]) ?_ (fun g1110 => ?_)
  ·
    rintro ⟨bX, bT, bZ⟩
    show G _ _ _ _ _ _ _ _ _ [(36, .slice (some ⟨bX, 0, none⟩) 1 1), (39, .slice (some ⟨bT, 0, none⟩) 1 1), (42, .slice (some ⟨bZ, 0, none⟩) 1 1), (28, .pointer (some ⟨bA, 0, none⟩)), (29, .int .u8 al), (30, .int .i32 tx), (31, vC), (32, .slice aB 1 cB), (33, vE), (35, .int .i64 1), (38, .int .i64 1), (41, .int .i64 1), (44, .int .i64 1), (46, vN), (47, vS)] [(38, ⟨bX, 1, 1, fun _ => (.int .u8 0)⟩), (39, ⟨bT, 1, 1, fun _ => (.int .i32 0)⟩), (40, ⟨bZ, 1, 1, fun _ => (.int .i64 0)⟩), (31, ⟨bA, 3, 3, fl [vF, vO, .slice (some ⟨bL, 0, none⟩) nc nc]⟩), (34, ⟨bL, nc, nc, ints .u8 cl⟩)]
    refine G_all (rs := [17]) (by kernel_rfl) rfl ?_
    intro i hi
    simp only [List.mem_cons, List.not_mem_nil, or_false] at hi
    rcases hi with rfl
    · refine G1_make 41 rfl mk32 rfl rfl rfl (by omega) (by omega) (by omega) (by omega) rfl (listed' := #[true, true, true, true, true, true, true, true, true, true, true, true, true, true, true, true, true, true, true, true, false, false, false]) (by kernel_rfl) (fun b => ?_)
      refine G.sub ?_ (fun q k hq => SubH.look ?_ hq) (g1111 (bX, bT, bZ, b))
      · exact ⟨rfl, rfl, rfl, rfl, rfl, rfl, rfl, rfl, rfl, rfl, rfl, rfl, rfl, rfl, rfl, rfl, trivial⟩
      · exact ⟨rfl, rfl, rfl, rfl, rfl, rfl, trivial⟩
  refine G_have (A := Nat × Nat × Nat) 4 #[true, true, true, true, true, true, true, true, true, true, true, true, true, true, false, true, true, true, true, true, false, false, false] (fun (x : Nat × Nat × Nat) => match x with | (bX, bT, bW) => [(36, .slice (some ⟨bX, 0, none⟩) 1 1), (39, .slice (some ⟨bT, 0, none⟩) 1 1), (45, .slice (some ⟨bW, 0, none⟩) 1 1), (28, .pointer (some ⟨bA, 0, none⟩)), (29, .int .u8 al), (30, .int .i32 tx), (31, vC), (32, .slice aB 1 cB), (33, vE), (35, .int .i64 1), (38, .int .i64 1), (41, .int .i64 1), (44, .int .i64 1), (46, vN), (47, vS)]) (fun (x : Nat × Nat × Nat) => match x with | (bX, bT, bW) => [(38, ⟨bX, 1, 1, fun _ => (.int .u8 0)⟩), (39, ⟨bT, 1, 1, fun _ => (.int .i32 0)⟩), (41, ⟨bW, 1, 1, fun _ => (.int .i64 0)⟩), (31, ⟨bA, 3, 3, fl [vF, vO, .slice (some ⟨bL, 0, none⟩) nc nc]⟩), (34, ⟨bL, nc, nc, ints .u8 cl⟩)]) ?_ (fun g1101 => ?_)
  ·
    rintro ⟨bX, bT, bW⟩
    show G _ _ _ _ _ _ _ _ _ [(36, .slice (some ⟨bX, 0, none⟩) 1 1), (39, .slice (some ⟨bT, 0, none⟩) 1 1), (45, .slice (some ⟨bW, 0, none⟩) 1 1), (28, .pointer (some ⟨bA, 0, none⟩)), (29, .int .u8 al), (30, .int .i32 tx), (31, vC), (32, .slice aB 1 cB), (33, vE), (35, .int .i64 1), (38, .int .i64 1), (41, .int .i64 1), (44, .int .i64 1), (46, vN), (47, vS)] [(38, ⟨bX, 1, 1, fun _ => (.int .u8 0)⟩), (39, ⟨bT, 1, 1, fun _ => (.int .i32 0)⟩), (41, ⟨bW, 1, 1, fun _ => (.int .i64 0)⟩), (31, ⟨bA, 3, 3, fl [vF, vO, .slice (some ⟨bL, 0, none⟩) nc nc]⟩), (34, ⟨bL, nc, nc, ints .u8 cl⟩)]
    refine G_all (rs := [14]) (by kernel_rfl) rfl ?_
    intro i hi
    simp only [List.mem_cons, List.not_mem_nil, or_false] at hi
    rcases hi with rfl
    · refine G1_make 40 rfl mk32 rfl rfl rfl (by omega) (by omega) (by omega) (by omega) rfl (listed' := #[true, true, true, true, true, true, true, true, true, true, true, true, true, true, true, true, true, true, true, true, false, false, false]) (by kernel_rfl) (fun b => ?_)
      refine G.sub ?_ (fun q k hq => SubH.look ?_ hq) (g1111 (bX, bT, b, bW))
      · exact ⟨rfl, rfl, rfl, rfl, rfl, rfl, rfl, rfl, rfl, rfl, rfl, rfl, rfl, rfl, rfl, rfl, trivial⟩
      · exact ⟨rfl, rfl, rfl, rfl, rfl, rfl, trivial⟩
  refine G_have (A := Nat × Nat × Nat) 4 #[true, true, true, true, true, true, true, true, true, true, true, false, true, true, true, true, true, true, true, true, false, false, false] (fun (x : Nat × Nat × Nat) => match x with | (bX, bZ, bW) => [(36, .slice (some ⟨bX, 0, none⟩) 1 1), (42, .slice (some ⟨bZ, 0, none⟩) 1 1), (45, .slice (some ⟨bW, 0, none⟩) 1 1), (28, .pointer (some ⟨bA, 0, none⟩)), (29, .int .u8 al), (30, .int .i32 tx), (31, vC), (32, .slice aB 1 cB), (33, vE), (35, .int .i64 1), (38, .int .i64 1), (41, .int .i64 1), (44, .int .i64 1), (46, vN), (47, vS)]) (fun (x : Nat × Nat × Nat) => match x with | (bX, bZ, bW) => [(38, ⟨bX, 1, 1, fun _ => (.int .u8 0)⟩), (40, ⟨bZ, 1, 1, fun _ => (.int .i64 0)⟩), (41, ⟨bW, 1, 1, fun _ => (.int .i64 0)⟩), (31, ⟨bA, 3, 3, fl [vF, vO, .slice (some ⟨bL, 0, none⟩) nc nc]⟩), (34, ⟨bL, nc, nc, ints .u8 cl⟩)]) ?_ (fun g1011 => ?_)
  ·
    rintro ⟨bX, bZ, bW⟩
    show G _ _ _ _ _ _ _ _ _ [(36, .slice (some ⟨bX, 0, none⟩) 1 1), (42, .slice (some ⟨bZ, 0, none⟩) 1 1), (45, .slice (some ⟨bW, 0, none⟩) 1 1), (28, .pointer (some ⟨bA, 0, none⟩)), (29, .int .u8 al), (30, .int .i32 tx), (31, vC), (32, .slice aB 1 cB), (33, vE), (35, .int .i64 1), (38, .int .i64 1), (41, .int .i64 1), (44, .int .i64 1), (46, vN), (47, vS)] [(38, ⟨bX, 1, 1, fun _ => (.int .u8 0)⟩), (40, ⟨bZ, 1, 1, fun _ => (.int .i64 0)⟩), (41, ⟨bW, 1, 1, fun _ => (.int .i64 0)⟩), (31, ⟨bA, 3, 3, fl [vF, vO, .slice (some ⟨bL, 0, none⟩) nc nc]⟩), (34, ⟨bL, nc, nc, ints .u8 cl⟩)]
    refine G_all (rs := [11]) (by kernel_rfl) rfl ?_
    intro i hi
    simp only [List.mem_cons, List.not_mem_nil, or_false] at hi
    rcases hi with rfl
    · refine G1_make 39 rfl mk22 rfl rfl rfl (by omega) (by omega) (by omega) (by omega) rfl (listed' := #[true, true, true, true, true, true, true, true, true, true, true, true, true, true, true, true, true, true, true, true, false, false, false]) (by kernel_rfl) (fun b => ?_)
      refine G.sub ?_ (fun q k hq => SubH.look ?_ hq) (g1111 (bX, b, bZ, bW))
      · exact ⟨rfl, rfl, rfl, rfl, rfl, rfl, rfl, rfl, rfl, rfl, rfl, rfl, rfl, rfl, rfl, rfl, trivial⟩
      · exact ⟨rfl, rfl, rfl, rfl, rfl, rfl, trivial⟩
  refine G_have (A := Nat × Nat × Nat) 4 #[true, true, true, true, true, true, true, true, false, true, true, true, true, true, true, true, true, true, true, true, false, false, false] (fun (x : Nat × Nat × Nat) => match x with | (bT, bZ, bW) => [(39, .slice (some ⟨bT, 0, none⟩) 1 1), (42, .slice (some ⟨bZ, 0, none⟩) 1 1), (45, .slice (some ⟨bW, 0, none⟩) 1 1), (28, .pointer (some ⟨bA, 0, none⟩)), (29, .int .u8 al), (30, .int .i32 tx), (31, vC), (32, .slice aB 1 cB), (33, vE), (35, .int .i64 1), (38, .int .i64 1), (41, .int .i64 1), (44, .int .i64 1), (46, vN), (47, vS)]) (fun (x : Nat × Nat × Nat) => match x with | (bT, bZ, bW) => [(39, ⟨bT, 1, 1, fun _ => (.int .i32 0)⟩), (40, ⟨bZ, 1, 1, fun _ => (.int .i64 0)⟩), (41, ⟨bW, 1, 1, fun _ => (.int .i64 0)⟩), (31, ⟨bA, 3, 3, fl [vF, vO, .slice (some ⟨bL, 0, none⟩) nc nc]⟩), (34, ⟨bL, nc, nc, ints .u8 cl⟩)]) ?_ (fun g0111 => ?_)
  ·
    rintro ⟨bT, bZ, bW⟩
    show G _ _ _ _ _ _ _ _ _ [(39, .slice (some ⟨bT, 0, none⟩) 1 1), (42, .slice (some ⟨bZ, 0, none⟩) 1 1), (45, .slice (some ⟨bW, 0, none⟩) 1 1), (28, .pointer (some ⟨bA, 0, none⟩)), (29, .int .u8 al), (30, .int .i32 tx), (31, vC), (32, .slice aB 1 cB), (33, vE), (35, .int .i64 1), (38, .int .i64 1), (41, .int .i64 1), (44, .int .i64 1), (46, vN), (47, vS)] [(39, ⟨bT, 1, 1, fun _ => (.int .i32 0)⟩), (40, ⟨bZ, 1, 1, fun _ => (.int .i64 0)⟩), (41, ⟨bW, 1, 1, fun _ => (.int .i64 0)⟩), (31, ⟨bA, 3, 3, fl [vF, vO, .slice (some ⟨bL, 0, none⟩) nc nc]⟩), (34, ⟨bL, nc, nc, ints .u8 cl⟩)]
    refine G_all (rs := [8]) (by kernel_rfl) rfl ?_
    intro i hi
    simp only [List.mem_cons, List.not_mem_nil, or_false] at hi
    rcases hi with rfl
    · refine G1_make 38 rfl mk54 rfl rfl rfl (by omega) (by omega) (by omega) (by omega) rfl (listed' := #[true, true, true, true, true, true, true, true, true, true, true, true, true, true, true, true, true, true, true, true, false, false, false]) (by kernel_rfl) (fun b => ?_)
      refine G.sub ?_ (fun q k hq => SubH.look ?_ hq) (g1111 (b, bT, bZ, bW))
      · exact ⟨rfl, rfl, rfl, rfl, rfl, rfl, rfl, rfl, rfl, rfl, rfl, rfl, rfl, rfl, rfl, rfl, trivial⟩
      · exact ⟨rfl, rfl, rfl, rfl, rfl, rfl, trivial⟩
  refine G_have (A := Nat × Nat) 5 #[true, true, true, true, true, true, true, true, true, true, true, true, true, true, false, true, true, false, true, true, false, false, false] (fun (x : Nat × Nat) => match x with | (bX, bT) => [(36, .slice (some ⟨bX, 0, none⟩) 1 1), (39, .slice (some ⟨bT, 0, none⟩) 1 1), (28, .pointer (some ⟨bA, 0, none⟩)), (29, .int .u8 al), (30, .int .i32 tx), (31, vC), (32, .slice aB 1 cB), (33, vE), (35, .int .i64 1), (38, .int .i64 1), (41, .int .i64 1), (44, .int .i64 1), (46, vN), (47, vS)]) (fun (x : Nat × Nat) => match x with | (bX, bT) => [(38, ⟨bX, 1, 1, fun _ => (.int .u8 0)⟩), (39, ⟨bT, 1, 1, fun _ => (.int .i32 0)⟩), (31, ⟨bA, 3, 3, fl [vF, vO, .slice (some ⟨bL, 0, none⟩) nc nc]⟩), (34, ⟨bL, nc, nc, ints .u8 cl⟩)]) ?_ (fun g1100 => ?_)
  ·
    rintro ⟨bX, bT⟩
    show G _ _ _ _ _ _ _ _ _ [(36, .slice (some ⟨bX, 0, none⟩) 1 1), (39, .slice (some ⟨bT, 0, none⟩) 1 1), (28, .pointer (some ⟨bA, 0, none⟩)), (29, .int .u8 al), (30, .int .i32 tx), (31, vC), (32, .slice aB 1 cB), (33, vE), (35, .int .i64 1), (38, .int .i64 1), (41, .int .i64 1), (44, .int .i64 1), (46, vN), (47, vS)] [(38, ⟨bX, 1, 1, fun _ => (.int .u8 0)⟩), (39, ⟨bT, 1, 1, fun _ => (.int .i32 0)⟩), (31, ⟨bA, 3, 3, fl [vF, vO, .slice (some ⟨bL, 0, none⟩) nc nc]⟩), (34, ⟨bL, nc, nc, ints .u8 cl⟩)]
    refine G_all (rs := [14, 17]) (by kernel_rfl) rfl ?_
    intro i hi
    simp only [List.mem_cons, List.not_mem_nil, or_false] at hi
    rcases hi with rfl | rfl
    · refine G1_make 40 rfl mk32 rfl rfl rfl (by omega) (by omega) (by omega) (by omega) rfl (listed' := #[true, true, true, true, true, true, true, true, true, true, true, true, true, true, true, true, true, false, true, true, false, false, false]) (by kernel_rfl) (fun b => ?_)
      refine G.sub ?_ (fun q k hq => SubH.look ?_ hq) (g1110 (bX, bT, b))
      · exact ⟨rfl, rfl, rfl, rfl, rfl, rfl, rfl, rfl, rfl, rfl, rfl, rfl, rfl, rfl, rfl, trivial⟩
      · exact ⟨rfl, rfl, rfl, rfl, rfl, trivial⟩
    · refine G1_make 41 rfl mk32 rfl rfl rfl (by omega) (by omega) (by omega) (by omega) rfl (listed' := #[true, true, true, true, true, true, true, true, true, true, true, true, true, true, false, true, true, true, true, true, false, false, false]) (by kernel_rfl) (fun b => ?_)
      refine G.sub ?_ (fun q k hq => SubH.look ?_ hq) (g1101 (bX, bT, b))
      · exact ⟨rfl, rfl, rfl, rfl, rfl, rfl, rfl, rfl, rfl, rfl, rfl, rfl, rfl, rfl, rfl, trivial⟩
      · exact ⟨rfl, rfl, rfl, rfl, rfl, trivial⟩
  refine G_have (A := Nat × Nat) 5 #[true, true, true, true, true, true, true, true, true, true, true, false, true, true, true, true, true, false, true, true, false, false, false] (fun (x : Nat × Nat) => match x with | (bX, bZ) => [(36, .slice (some ⟨bX, 0, none⟩) 1 1), (42, .slice (some ⟨bZ, 0, none⟩) 1 1), (28, .pointer (some ⟨bA, 0, none⟩)), (29, .int .u8 al), (30, .int .i32 tx), (31, vC), (32, .slice aB 1 cB), (33, vE), (35, .int .i64 1), (38, .int .i64 1), (41, .int .i64 1), (44, .int .i64 1), (46, vN), (47, vS)]) (fun (x : Nat × Nat) => match x with | (bX, bZ) => [(38, ⟨bX, 1, 1, fun _ => (.int .u8 0)⟩), (40, ⟨bZ, 1, 1, fun _ => (.int .i64 0)⟩), (31, ⟨bA, 3, 3, fl [vF, vO, .slice (some ⟨bL, 0, none⟩) nc nc]⟩), (34, ⟨bL, nc, nc, ints .u8 cl⟩)]) ?_ (fun g1010 => ?_)
  ·
    rintro ⟨bX, bZ⟩
    show G _ _ _ _ _ _ _ _ _ [(36, .slice (some ⟨bX, 0, none⟩) 1 1), (42, .slice (some ⟨bZ, 0, none⟩) 1 1), (28, .pointer (some ⟨bA, 0, none⟩)), (29, .int .u8 al), (30, .int .i32 tx), (31, vC), (32, .slice aB 1 cB), (33, vE), (35, .int .i64 1), (38, .int .i64 1), (41, .int .i64 1), (44, .int .i64 1), (46, vN), (47, vS)] [(38, ⟨bX, 1, 1, fun _ => (.int .u8 0)⟩), (40, ⟨bZ, 1, 1, fun _ => (.int .i64 0)⟩), (31, ⟨bA, 3, 3, fl [vF, vO, .slice (some ⟨bL, 0, none⟩) nc nc]⟩), (34, ⟨bL, nc, nc, ints .u8 cl⟩)]
    refine G_all (rs := [11, 17]) (by kernel_rfl) rfl ?_
    intro i hi
    simp only [List.mem_cons, List.not_mem_nil, or_false] at hi
    rcases hi with rfl | rfl
    · refine G1_make 39 rfl mk22 rfl rfl rfl (by omega) (by omega) (by omega) (by omega) rfl (listed' := #[true, true, true, true, true, true, true, true, true, true, true, true, true, true, true, true, true, false, true, true, false, false, false]) (by kernel_rfl) (fun b => ?_)
      refine G.sub ?_ (fun q k hq => SubH.look ?_ hq) (g1110 (bX, b, bZ))
      · exact ⟨rfl, rfl, rfl, rfl, rfl, rfl, rfl, rfl, rfl, rfl, rfl, rfl, rfl, rfl, rfl, trivial⟩
      · exact ⟨rfl, rfl, rfl, rfl, rfl, trivial⟩
    · refine G1_make 41 rfl mk32 rfl rfl rfl (by omega) (by omega) (by omega) (by omega) rfl (listed' := #[true, true, true, true, true, true, true, true, true, true, true, false, true, true, true, true, true, true, true, true, false, false, false]) (by kernel_rfl) (fun b => ?_)
      refine G.sub ?_ (fun q k hq => SubH.look ?_ hq) (g1011 (bX, bZ, b))
      · exact ⟨rfl, rfl, rfl, rfl, rfl, rfl, rfl, rfl, rfl, rfl, rfl, rfl, rfl, rfl, rfl, trivial⟩
      · exact ⟨rfl, rfl, rfl, rfl, rfl, trivial⟩
  refine G_have (A := Nat × Nat) 5 #[true, true, true, true, true, true, true, true, true, true, true, false, true, true, false, true, true, true, true, true, false, false, false] (fun (x : Nat × Nat) => match x with | (bX, bW) => [(36, .slice (some ⟨bX, 0, none⟩) 1 1), (45, .slice (some ⟨bW, 0, none⟩) 1 1), (28, .pointer (some ⟨bA, 0, none⟩)), (29, .int .u8 al), (30, .int .i32 tx), (31, vC), (32, .slice aB 1 cB), (33, vE), (35, .int .i64 1), (38, .int .i64 1), (41, .int .i64 1), (44, .int .i64 1), (46, vN), (47, vS)]) (fun (x : Nat × Nat) => match x with | (bX, bW) => [(38, ⟨bX, 1, 1, fun _ => (.int .u8 0)⟩), (41, ⟨bW, 1, 1, fun _ => (.int .i64 0)⟩), (31, ⟨bA, 3, 3, fl [vF, vO, .slice (some ⟨bL, 0, none⟩) nc nc]⟩), (34, ⟨bL, nc, nc, ints .u8 cl⟩)]) ?_ (fun g1001 => ?_)
  ·
    rintro ⟨bX, bW⟩
    show G _ _ _ _ _ _ _ _ _ [(36, .slice (some ⟨bX, 0, none⟩) 1 1), (45, .slice (some ⟨bW, 0, none⟩) 1 1), (28, .pointer (some ⟨bA, 0, none⟩)), (29, .int .u8 al), (30, .int .i32 tx), (31, vC), (32, .slice aB 1 cB), (33, vE), (35, .int .i64 1), (38, .int .i64 1), (41, .int .i64 1), (44, .int .i64 1), (46, vN), (47, vS)] [(38, ⟨bX, 1, 1, fun _ => (.int .u8 0)⟩), (41, ⟨bW, 1, 1, fun _ => (.int .i64 0)⟩), (31, ⟨bA, 3, 3, fl [vF, vO, .slice (some ⟨bL, 0, none⟩) nc nc]⟩), (34, ⟨bL, nc, nc, ints .u8 cl⟩)]
    refine G_all (rs := [11, 14]) (by kernel_rfl) rfl ?_
    intro i hi
    simp only [List.mem_cons, List.not_mem_nil, or_false] at hi
    rcases hi with rfl | rfl
    · refine G1_make 39 rfl mk22 rfl rfl rfl (by omega) (by omega) (by omega) (by omega) rfl (listed' := #[true, true, true, true, true, true, true, true, true, true, true, true, true, true, false, true, true, true, true, true, false, false, false]) (by kernel_rfl) (fun b => ?_)
      refine G.sub ?_ (fun q k hq => SubH.look ?_ hq) (g1101 (bX, b, bW))
      · exact ⟨rfl, rfl, rfl, rfl, rfl, rfl, rfl, rfl, rfl, rfl, rfl, rfl, rfl, rfl, rfl, trivial⟩
      · exact ⟨rfl, rfl, rfl, rfl, rfl, trivial⟩
    · refine G1_make 40 rfl mk32 rfl rfl rfl (by omega) (by omega) (by omega) (by omega) rfl (listed' := #[true, true, true, true, true, true, true, true, true, true, true, false, true, true, true, true, true, true, true, true, false, false, false]) (by kernel_rfl) (fun b => ?_)
      refine G.sub ?_ (fun q k hq => SubH.look ?_ hq) (g1011 (bX, b, bW))
      · exact ⟨rfl, rfl, rfl, rfl, rfl, rfl, rfl, rfl, rfl, rfl, rfl, rfl, rfl, rfl, rfl, trivial⟩
      · exact ⟨rfl, rfl, rfl, rfl, rfl, trivial⟩
  refine G_have (A := Nat × Nat) 5 #[true, true, true, true, true, true, true, true, false, true, true, true, true, true, true, true, true, false, true, true, false, false, false] (fun (x : Nat × Nat) => match x with | (bT, bZ) => [(39, .slice (some ⟨bT, 0, none⟩) 1 1), (42, .slice (some ⟨bZ, 0, none⟩) 1 1), (28, .pointer (some ⟨bA, 0, none⟩)), (29, .int .u8 al), (30, .int .i32 tx), (31, vC), (32, .slice aB 1 cB), (33, vE), (35, .int .i64 1), (38, .int .i64 1), (41, .int .i64 1), (44, .int .i64 1), (46, vN), (47, vS)]) (fun (x : Nat × Nat) => match x with | (bT, bZ) => [(39, ⟨bT, 1, 1, fun _ => (.int .i32 0)⟩), (40, ⟨bZ, 1, 1, fun _ => (.int .i64 0)⟩), (31, ⟨bA, 3, 3, fl [vF, vO, .slice (some ⟨bL, 0, none⟩) nc nc]⟩), (34, ⟨bL, nc, nc, ints .u8 cl⟩)]) ?_ (fun g0110 => ?_)
  ·
    rintro ⟨bT, bZ⟩
    show G _ _ _ _ _ _ _ _ _ [(39, .slice (some ⟨bT, 0, none⟩) 1 1), (42, .slice (some ⟨bZ, 0, none⟩) 1 1), (28, .pointer (some ⟨bA, 0, none⟩)), (29, .int .u8 al), (30, .int .i32 tx), (31, vC), (32, .slice aB 1 cB), (33, vE), (35, .int .i64 1), (38, .int .i64 1), (41, .int .i64 1), (44, .int .i64 1), (46, vN), (47, vS)] [(39, ⟨bT, 1, 1, fun _ => (.int .i32 0)⟩), (40, ⟨bZ, 1, 1, fun _ => (.int .i64 0)⟩), (31, ⟨bA, 3, 3, fl [vF, vO, .slice (some ⟨bL, 0, none⟩) nc nc]⟩), (34, ⟨bL, nc, nc, ints .u8 cl⟩)]
    refine G_all (rs := [8, 17]) (by kernel_rfl) rfl ?_
    intro i hi
    simp only [List.mem_cons, List.not_mem_nil, or_false] at hi
    rcases hi with rfl | rfl
    · refine G1_make 38 rfl mk54 rfl rfl rfl (by omega) (by omega) (by omega) (by omega) rfl (listed' := #[true, true, true, true, true, true, true, true, true, true, true, true, true, true, true, true, true, false, true, true, false, false, false]) (by kernel_rfl) (fun b => ?_)
      refine G.sub ?_ (fun q k hq => SubH.look ?_ hq) (g1110 (b, bT, bZ))
      · exact ⟨rfl, rfl, rfl, rfl, rfl, rfl, rfl, rfl, rfl, rfl, rfl, rfl, rfl, rfl, rfl, trivial⟩
      · exact ⟨rfl, rfl, rfl, rfl, rfl, trivial⟩
    · refine G1_make 41 rfl mk32 rfl rfl rfl (by omega) (by omega) (by omega) (by omega) rfl (listed' := #[true, true, true, true, true, true, true, true, false, true, true, true, true, true, true, true, true, true, true, true, false, false, false]) (by kernel_rfl) (fun b => ?_)
      refine G.sub ?_ (fun q k hq => SubH.look ?_ hq) (g0111 (bT, bZ, b))
      · exact ⟨rfl, rfl, rfl, rfl, rfl, rfl, rfl, rfl, rfl, rfl, rfl, rfl, rfl, rfl, rfl, trivial⟩
      · exact ⟨rfl, rfl, rfl, rfl, rfl, trivial⟩
  refine G_have (A := Nat × Nat) 5 #[true, true, true, true, true, true, true, true, false, true, true, true, true, true, false, true, true, true, true, true, false, false, false] (fun (x : Nat × Nat) => match x with | (bT, bW) => [(39, .slice (some ⟨bT, 0, none⟩) 1 1), (45, .slice (some ⟨bW, 0, none⟩) 1 1), (28, .pointer (some ⟨bA, 0, none⟩)), (29, .int .u8 al), (30, .int .i32 tx), (31, vC), (32, .slice aB 1 cB), (33, vE), (35, .int .i64 1), (38, .int .i64 1), (41, .int .i64 1), (44, .int .i64 1), (46, vN), (47, vS)]) (fun (x : Nat × Nat) => match x with | (bT, bW) => [(39, ⟨bT, 1, 1, fun _ => (.int .i32 0)⟩), (41, ⟨bW, 1, 1, fun _ => (.int .i64 0)⟩), (31, ⟨bA, 3, 3, fl [vF, vO, .slice (some ⟨bL, 0, none⟩) nc nc]⟩), (34, ⟨bL, nc, nc, ints .u8 cl⟩)]) ?_ (fun g0101 => ?_)
  ·
    rintro ⟨bT, bW⟩
    show G _ _ _ _ _ _ _ _ _ [(39, .slice (some ⟨bT, 0, none⟩) 1 1), (45, .slice (some ⟨bW, 0, none⟩) 1 1), (28, .pointer (some ⟨bA, 0, none⟩)), (29, .int .u8 al), (30, .int .i32 tx), (31, vC), (32, .slice aB 1 cB), (33, vE), (35, .int .i64 1), (38, .int .i64 1), (41, .int .i64 1), (44, .int .i64 1), (46, vN), (47, vS)] [(39, ⟨bT, 1, 1, fun _ => (.int .i32 0)⟩), (41, ⟨bW, 1, 1, fun _ => (.int .i64 0)⟩), (31, ⟨bA, 3, 3, fl [vF, vO, .slice (some ⟨bL, 0, none⟩) nc nc]⟩), (34, ⟨bL, nc, nc, ints .u8 cl⟩)]
    refine G_all (rs := [8, 14]) (by kernel_rfl) rfl ?_
    intro i hi
    simp only [List.mem_cons, List.not_mem_nil, or_false] at hi
    rcases hi with rfl | rfl
    · refine G1_make 38 rfl mk54 rfl rfl rfl (by omega) (by omega) (by omega) (by omega) rfl (listed' := #[true, true, true, true, true, true, true, true, true, true, true, true, true, true, false, true, true, true, true, true, false, false, false]) (by kernel_rfl) (fun b => ?_)
      refine G.sub ?_ (fun q k hq => SubH.look ?_ hq) (g1101 (b, bT, bW))
      · exact ⟨rfl, rfl, rfl, rfl, rfl, rfl, rfl, rfl, rfl, rfl, rfl, rfl, rfl, rfl, rfl, trivial⟩
      · exact ⟨rfl, rfl, rfl, rfl, rfl, trivial⟩
    · refine G1_make 40 rfl mk32 rfl rfl rfl (by omega) (by omega) (by omega) (by omega) rfl (listed' := #[true, true, true, true, true, true, true, true, false, true, true, true, true, true, true, true, true, true, true, true, false, false, false]) (by kernel_rfl) (fun b => ?_)
      refine G.sub ?_ (fun q k hq => SubH.look ?_ hq) (g0111 (bT, b, bW))
      · exact ⟨rfl, rfl, rfl, rfl, rfl, rfl, rfl, rfl, rfl, rfl, rfl, rfl, rfl, rfl, rfl, trivial⟩
      · exact ⟨rfl, rfl, rfl, rfl, rfl, trivial⟩
  refine G_have (A := Nat × Nat) 5 #[true, true, true, true, true, true, true, true, false, true, true, false, true, true, true, true, true, true, true, true, false, false, false] (fun (x : Nat × Nat) => match x with | (bZ, bW) => [(42, .slice (some ⟨bZ, 0, none⟩) 1 1), (45, .slice (some ⟨bW, 0, none⟩) 1 1), (28, .pointer (some ⟨bA, 0, none⟩)), (29, .int .u8 al), (30, .int .i32 tx), (31, vC), (32, .slice aB 1 cB), (33, vE), (35, .int .i64 1), (38, .int .i64 1), (41, .int .i64 1), (44, .int .i64 1), (46, vN), (47, vS)]) (fun (x : Nat × Nat) => match x with | (bZ, bW) => [(40, ⟨bZ, 1, 1, fun _ => (.int .i64 0)⟩), (41, ⟨bW, 1, 1, fun _ => (.int .i64 0)⟩), (31, ⟨bA, 3, 3, fl [vF, vO, .slice (some ⟨bL, 0, none⟩) nc nc]⟩), (34, ⟨bL, nc, nc, ints .u8 cl⟩)]) ?_ (fun g0011 => ?_)
  ·
    rintro ⟨bZ, bW⟩
    show G _ _ _ _ _ _ _ _ _ [(42, .slice (some ⟨bZ, 0, none⟩) 1 1), (45, .slice (some ⟨bW, 0, none⟩) 1 1), (28, .pointer (some ⟨bA, 0, none⟩)), (29, .int .u8 al), (30, .int .i32 tx), (31, vC), (32, .slice aB 1 cB), (33, vE), (35, .int .i64 1), (38, .int .i64 1), (41, .int .i64 1), (44, .int .i64 1), (46, vN), (47, vS)] [(40, ⟨bZ, 1, 1, fun _ => (.int .i64 0)⟩), (41, ⟨bW, 1, 1, fun _ => (.int .i64 0)⟩), (31, ⟨bA, 3, 3, fl [vF, vO, .slice (some ⟨bL, 0, none⟩) nc nc]⟩), (34, ⟨bL, nc, nc, ints .u8 cl⟩)]
    refine G_all (rs := [8, 11]) (by kernel_rfl) rfl ?_
    intro i hi
    simp only [List.mem_cons, List.not_mem_nil, or_false] at hi
    rcases hi with rfl | rfl
    · refine G1_make 38 rfl mk54 rfl rfl rfl (by omega) (by omega) (by omega) (by omega) rfl (listed' := #[true, true, true, true, true, true, true, true, true, true, true, false, true, true, true, true, true, true, true, true, false, false, false]) (by kernel_rfl) (fun b => ?_)
      refine G.sub ?_ (fun q k hq => SubH.look ?_ hq) (g1011 (b, bZ, bW))
      · exact ⟨rfl, rfl, rfl, rfl, rfl, rfl, rfl, rfl, rfl, rfl, rfl, rfl, rfl, rfl, rfl, trivial⟩
      · exact ⟨rfl, rfl, rfl, rfl, rfl, trivial⟩
    · refine G1_make 39 rfl mk22 rfl rfl rfl (by omega) (by omega) (by omega) (by omega) rfl (listed' := #[true, true, true, true, true, true, true, true, false, true, true, true, true, true, true, true, true, true, true, true, false, false, false]) (by kernel_rfl) (fun b => ?_)
      refine G.sub ?_ (fun q k hq => SubH.look ?_ hq) (g0111 (b, bZ, bW))
      · exact ⟨rfl, rfl, rfl, rfl, rfl, rfl, rfl, rfl, rfl, rfl, rfl, rfl, rfl, rfl, rfl, trivial⟩
      · exact ⟨rfl, rfl, rfl, rfl, rfl, trivial⟩
  refine G_have (A := Nat) 6 #[true, true, true, true, true, true, true, true, true, true, true, false, true, true, false, true, true, false, true, true, false, false, false] (fun (bX : Nat) => [(36, .slice (some ⟨bX, 0, none⟩) 1 1), (28, .pointer (some ⟨bA, 0, none⟩)), (29, .int .u8 al), (30, .int .i32 tx), (31, vC), (32, .slice aB 1 cB), (33, vE), (35, .int .i64 1), (38, .int .i64 1), (41, .int .i64 1), (44, .int .i64 1), (46, vN), (47, vS)]) (fun (bX : Nat) => [(38, ⟨bX, 1, 1, fun _ => (.int .u8 0)⟩), (31, ⟨bA, 3, 3, fl [vF, vO, .slice (some ⟨bL, 0, none⟩) nc nc]⟩), (34, ⟨bL, nc, nc, ints .u8 cl⟩)]) ?_ (fun g1000 => ?_)
  ·
    rintro bX
    show G _ _ _ _ _ _ _ _ _ [(36, .slice (some ⟨bX, 0, none⟩) 1 1), (28, .pointer (some ⟨bA, 0, none⟩)), (29, .int .u8 al), (30, .int .i32 tx), (31, vC), (32, .slice aB 1 cB), (33, vE), (35, .int .i64 1), (38, .int .i64 1), (41, .int .i64 1), (44, .int .i64 1), (46, vN), (47, vS)] [(38, ⟨bX, 1, 1, fun _ => (.int .u8 0)⟩), (31, ⟨bA, 3, 3, fl [vF, vO, .slice (some ⟨bL, 0, none⟩) nc nc]⟩), (34, ⟨bL, nc, nc, ints .u8 cl⟩)]
    refine G_all (rs := [11, 14, 17]) (by kernel_rfl) rfl ?_
    intro i hi
    simp only [List.mem_cons, List.not_mem_nil, or_false] at hi
    rcases hi with rfl | rfl | rfl
    · refine G1_make 39 rfl mk22 rfl rfl rfl (by omega) (by omega) (by omega) (by omega) rfl (listed' := #[true, true, true, true, true, true, true, true, true, true, true, true, true, true, false, true, true, false, true, true, false, false, false]) (by kernel_rfl) (fun b => ?_)
      refine G.sub ?_ (fun q k hq => SubH.look ?_ hq) (g1100 (bX, b))
      · exact ⟨rfl, rfl, rfl, rfl, rfl, rfl, rfl, rfl, rfl, rfl, rfl, rfl, rfl, rfl, trivial⟩
      · exact ⟨rfl, rfl, rfl, rfl, trivial⟩
    · refine G1_make 40 rfl mk32 rfl rfl rfl (by omega) (by omega) (by omega) (by omega) rfl (listed' := #[true, true, true, true, true, true, true, true, true, true, true, false, true, true, true, true, true, false, true, true, false, false, false]) (by kernel_rfl) (fun b => ?_)
      refine G.sub ?_ (fun q k hq => SubH.look ?_ hq) (g1010 (bX, b))
      · exact ⟨rfl, rfl, rfl, rfl, rfl, rfl, rfl, rfl, rfl, rfl, rfl, rfl, rfl, rfl, trivial⟩
      · exact ⟨rfl, rfl, rfl, rfl, trivial⟩
    · refine G1_make 41 rfl mk32 rfl rfl rfl (by omega) (by omega) (by omega) (by omega) rfl (listed' := #[true, true, true, true, true, true, true, true, true, true, true, false, true, true, false, true, true, true, true, true, false, false, false]) (by kernel_rfl) (fun b => ?_)
      refine G.sub ?_ (fun q k hq => SubH.look ?_ hq) (g1001 (bX, b))
      · exact ⟨rfl, rfl, rfl, rfl, rfl, rfl, rfl, rfl, rfl, rfl, rfl, rfl, rfl, rfl, trivial⟩
      · exact ⟨rfl, rfl, rfl, rfl, trivial⟩
  refine G_have (A := Nat) 6 #[true, true, true, true, true, true, true, true, false, true, true, true, true, true, false, true, true, false, true, true, false, false, false] (fun (bT : Nat) => [(39, .slice (some ⟨bT, 0, none⟩) 1 1), (28, .pointer (some ⟨bA, 0, none⟩)), (29, .int .u8 al), (30, .int .i32 tx), (31, vC), (32, .slice aB 1 cB), (33, vE), (35, .int .i64 1), (38, .int .i64 1), (41, .int .i64 1), (44, .int .i64 1), (46, vN), (47, vS)]) (fun (bT : Nat) => [(39, ⟨bT, 1, 1, fun _ => (.int .i32 0)⟩), (31, ⟨bA, 3, 3, fl [vF, vO, .slice (some ⟨bL, 0, none⟩) nc nc]⟩), (34, ⟨bL, nc, nc, ints .u8 cl⟩)]) ?_ (fun g0100 => ?_)
  ·
    rintro bT
    show G _ _ _ _ _ _ _ _ _ [(39, .slice (some ⟨bT, 0, none⟩) 1 1), (28, .pointer (some ⟨bA, 0, none⟩)), (29, .int .u8 al), (30, .int .i32 tx), (31, vC), (32, .slice aB 1 cB), (33, vE), (35, .int .i64 1), (38, .int .i64 1), (41, .int .i64 1), (44, .int .i64 1), (46, vN), (47, vS)] [(39, ⟨bT, 1, 1, fun _ => (.int .i32 0)⟩), (31, ⟨bA, 3, 3, fl [vF, vO, .slice (some ⟨bL, 0, none⟩) nc nc]⟩), (34, ⟨bL, nc, nc, ints .u8 cl⟩)]
    refine G_all (rs := [8, 14, 17]) (by kernel_rfl) rfl ?_
    intro i hi
    simp only [List.mem_cons, List.not_mem_nil, or_false] at hi
    rcases hi with rfl | rfl | rfl
    · refine G1_make 38 rfl mk54 rfl rfl rfl (by omega) (by omega) (by omega) (by omega) rfl (listed' := #[true, true, true, true, true, true, true, true, true, true, true, true, true, true, false, true, true, false, true, true, false, false, false]) (by kernel_rfl) (fun b => ?_)
      refine G.sub ?_ (fun q k hq => SubH.look ?_ hq) (g1100 (b, bT))
      · exact ⟨rfl, rfl, rfl, rfl, rfl, rfl, rfl, rfl, rfl, rfl, rfl, rfl, rfl, rfl, trivial⟩
      · exact ⟨rfl, rfl, rfl, rfl, trivial⟩
    · refine G1_make 40 rfl mk32 rfl rfl rfl (by omega) (by omega) (by omega) (by omega) rfl (listed' := #[true, true, true, true, true, true, true, true, false, true, true, true, true, true, true, true, true, false, true, true, false, false, false]) (by kernel_rfl) (fun b => ?_)
      refine G.sub ?_ (fun q k hq => SubH.look ?_ hq) (g0110 (bT, b))
      · exact ⟨rfl, rfl, rfl, rfl, rfl, rfl, rfl, rfl, rfl, rfl, rfl, rfl, rfl, rfl, trivial⟩
      · exact ⟨rfl, rfl, rfl, rfl, trivial⟩
    · refine G1_make 41 rfl mk32 rfl rfl rfl (by omega) (by omega) (by omega) (by omega) rfl (listed' := #[true, true, true, true, true, true, true, true, false, true, true, true, true, true, false, true, true, true, true, true, false, false, false]) (by kernel_rfl) (fun b => ?_)
      refine G.sub ?_ (fun q k hq => SubH.look ?_ hq) (g0101 (bT, b))
      · exact ⟨rfl, rfl, rfl, rfl, rfl, rfl, rfl, rfl, rfl, rfl, rfl, rfl, rfl, rfl, trivial⟩
      · exact ⟨rfl, rfl, rfl, rfl, trivial⟩
  refine G_have (A := Nat) 6 #[true, true, true, true, true, true, true, true, false, true, true, false, true, true, true, true, true, false, true, true, false, false, false] (fun (bZ : Nat) => [(42, .slice (some ⟨bZ, 0, none⟩) 1 1), (28, .pointer (some ⟨bA, 0, none⟩)), (29, .int .u8 al), (30, .int .i32 tx), (31, vC), (32, .slice aB 1 cB), (33, vE), (35, .int .i64 1), (38, .int .i64 1), (41, .int .i64 1), (44, .int .i64 1), (46, vN), (47, vS)]) (fun (bZ : Nat) => [(40, ⟨bZ, 1, 1, fun _ => (.int .i64 0)⟩), (31, ⟨bA, 3, 3, fl [vF, vO, .slice (some ⟨bL, 0, none⟩) nc nc]⟩), (34, ⟨bL, nc, nc, ints .u8 cl⟩)]) ?_ (fun g0010 => ?_)
  ·
    rintro bZ
    show G _ _ _ _ _ _ _ _ _ [(42, .slice (some ⟨bZ, 0, none⟩) 1 1), (28, .pointer (some ⟨bA, 0, none⟩)), (29, .int .u8 al), (30, .int .i32 tx), (31, vC), (32, .slice aB 1 cB), (33, vE), (35, .int .i64 1), (38, .int .i64 1), (41, .int .i64 1), (44, .int .i64 1), (46, vN), (47, vS)] [(40, ⟨bZ, 1, 1, fun _ => (.int .i64 0)⟩), (31, ⟨bA, 3, 3, fl [vF, vO, .slice (some ⟨bL, 0, none⟩) nc nc]⟩), (34, ⟨bL, nc, nc, ints .u8 cl⟩)]
    refine G_all (rs := [8, 11, 17]) (by kernel_rfl) rfl ?_
    intro i hi
    simp only [List.mem_cons, List.not_mem_nil, or_false] at hi
    rcases hi with rfl | rfl | rfl
    · refine G1_make 38 rfl mk54 rfl rfl rfl (by omega) (by omega) (by omega) (by omega) rfl (listed' := #[true, true, true, true, true, true, true, true, true, true, true, false, true, true, true, true, true, false, true, true, false, false, false]) (by kernel_rfl) (fun b => ?_)
      refine G.sub ?_ (fun q k hq => SubH.look ?_ hq) (g1010 (b, bZ))
      · exact ⟨rfl, rfl, rfl, rfl, rfl, rfl, rfl, rfl, rfl, rfl, rfl, rfl, rfl, rfl, trivial⟩
      · exact ⟨rfl, rfl, rfl, rfl, trivial⟩
    · refine G1_make 39 rfl mk22 rfl rfl rfl (by omega) (by omega) (by omega) (by omega) rfl (listed' := #[true, true, true, true, true, true, true, true, false, true, true, true, true, true, true, true, true, false, true, true, false, false, false]) (by kernel_rfl) (fun b => ?_)
      refine G.sub ?_ (fun q k hq => SubH.look ?_ hq) (g0110 (b, bZ))
      · exact ⟨rfl, rfl, rfl, rfl, rfl, rfl, rfl, rfl, rfl, rfl, rfl, rfl, rfl, rfl, trivial⟩
      · exact ⟨rfl, rfl, rfl, rfl, trivial⟩
    · refine G1_make 41 rfl mk32 rfl rfl rfl (by omega) (by omega) (by omega) (by omega) rfl (listed' := #[true, true, true, true, true, true, true, true, false, true, true, false, true, true, true, true, true, true, true, true, false, false, false]) (by kernel_rfl) (fun b => ?_)
      refine G.sub ?_ (fun q k hq => SubH.look ?_ hq) (g0011 (bZ, b))
      · exact ⟨rfl, rfl, rfl, rfl, rfl, rfl, rfl, rfl, rfl, rfl, rfl, rfl, rfl, rfl, trivial⟩
      · exact ⟨rfl, rfl, rfl, rfl, trivial⟩
  refine G_have (A := Nat) 6 #[true, true, true, true, true, true, true, true, false, true, true, false, true, true, false, true, true, true, true, true, false, false, false] (fun (bW : Nat) => [(45, .slice (some ⟨bW, 0, none⟩) 1 1), (28, .pointer (some ⟨bA, 0, none⟩)), (29, .int .u8 al), (30, .int .i32 tx), (31, vC), (32, .slice aB 1 cB), (33, vE), (35, .int .i64 1), (38, .int .i64 1), (41, .int .i64 1), (44, .int .i64 1), (46, vN), (47, vS)]) (fun (bW : Nat) => [(41, ⟨bW, 1, 1, fun _ => (.int .i64 0)⟩), (31, ⟨bA, 3, 3, fl [vF, vO, .slice (some ⟨bL, 0, none⟩) nc nc]⟩), (34, ⟨bL, nc, nc, ints .u8 cl⟩)]) ?_ (fun g0001 => ?_)
  ·
    rintro bW
    show G _ _ _ _ _ _ _ _ _ [(45, .slice (some ⟨bW, 0, none⟩) 1 1), (28, .pointer (some ⟨bA, 0, none⟩)), (29, .int .u8 al), (30, .int .i32 tx), (31, vC), (32, .slice aB 1 cB), (33, vE), (35, .int .i64 1), (38, .int .i64 1), (41, .int .i64 1), (44, .int .i64 1), (46, vN), (47, vS)] [(41, ⟨bW, 1, 1, fun _ => (.int .i64 0)⟩), (31, ⟨bA, 3, 3, fl [vF, vO, .slice (some ⟨bL, 0, none⟩) nc nc]⟩), (34, ⟨bL, nc, nc, ints .u8 cl⟩)]
    refine G_all (rs := [8, 11, 14]) (by kernel_rfl) rfl ?_
    intro i hi
    simp only [List.mem_cons, List.not_mem_nil, or_false] at hi
    rcases hi with rfl | rfl | rfl
    · refine G1_make 38 rfl mk54 rfl rfl rfl (by omega) (by omega) (by omega) (by omega) rfl (listed' := #[true, true, true, true, true, true, true, true, true, true, true, false, true, true, false, true, true, true, true, true, false, false, false]) (by kernel_rfl) (fun b => ?_)
      refine G.sub ?_ (fun q k hq => SubH.look ?_ hq) (g1001 (b, bW))
      · exact ⟨rfl, rfl, rfl, rfl, rfl, rfl, rfl, rfl, rfl, rfl, rfl, rfl, rfl, rfl, trivial⟩
      · exact ⟨rfl, rfl, rfl, rfl, trivial⟩
    · refine G1_make 39 rfl mk22 rfl rfl rfl (by omega) (by omega) (by omega) (by omega) rfl (listed' := #[true, true, true, true, true, true, true, true, false, true, true, true, true, true, false, true, true, true, true, true, false, false, false]) (by kernel_rfl) (fun b => ?_)
      refine G.sub ?_ (fun q k hq => SubH.look ?_ hq) (g0101 (b, bW))
      · exact ⟨rfl, rfl, rfl, rfl, rfl, rfl, rfl, rfl, rfl, rfl, rfl, rfl, rfl, rfl, trivial⟩
      · exact ⟨rfl, rfl, rfl, rfl, trivial⟩
    · refine G1_make 40 rfl mk32 rfl rfl rfl (by omega) (by omega) (by omega) (by omega) rfl (listed' := #[true, true, true, true, true, true, true, true, false, true, true, false, true, true, true, true, true, true, true, true, false, false, false]) (by kernel_rfl) (fun b => ?_)
      refine G.sub ?_ (fun q k hq => SubH.look ?_ hq) (g0011 (b, bW))
      · exact ⟨rfl, rfl, rfl, rfl, rfl, rfl, rfl, rfl, rfl, rfl, rfl, rfl, rfl, rfl, trivial⟩
      · exact ⟨rfl, rfl, rfl, rfl, trivial⟩
  refine G_have (A := Unit) 7 #[true, true, true, true, true, true, true, true, false, true, true, false, true, true, false, true, true, false, true, true, false, false, false] (fun (_ : Unit) => [(28, .pointer (some ⟨bA, 0, none⟩)), (29, .int .u8 al), (30, .int .i32 tx), (31, vC), (32, .slice aB 1 cB), (33, vE), (35, .int .i64 1), (38, .int .i64 1), (41, .int .i64 1), (44, .int .i64 1), (46, vN), (47, vS)]) (fun (_ : Unit) => [(31, ⟨bA, 3, 3, fl [vF, vO, .slice (some ⟨bL, 0, none⟩) nc nc]⟩), (34, ⟨bL, nc, nc, ints .u8 cl⟩)]) ?_ (fun g0000 => ?_)
  ·
    rintro _
    show G _ _ _ _ _ _ _ _ _ [(28, .pointer (some ⟨bA, 0, none⟩)), (29, .int .u8 al), (30, .int .i32 tx), (31, vC), (32, .slice aB 1 cB), (33, vE), (35, .int .i64 1), (38, .int .i64 1), (41, .int .i64 1), (44, .int .i64 1), (46, vN), (47, vS)] [(31, ⟨bA, 3, 3, fl [vF, vO, .slice (some ⟨bL, 0, none⟩) nc nc]⟩), (34, ⟨bL, nc, nc, ints .u8 cl⟩)]
    refine G_all (rs := [8, 11, 14, 17]) (by kernel_rfl) rfl ?_
    intro i hi
    simp only [List.mem_cons, List.not_mem_nil, or_false] at hi
    rcases hi with rfl | rfl | rfl | rfl
    · refine G1_make 38 rfl mk54 rfl rfl rfl (by omega) (by omega) (by omega) (by omega) rfl (listed' := #[true, true, true, true, true, true, true, true, true, true, true, false, true, true, false, true, true, false, true, true, false, false, false]) (by kernel_rfl) (fun b => ?_)
      refine G.sub ?_ (fun q k hq => SubH.look ?_ hq) (g1000 b)
      · exact ⟨rfl, rfl, rfl, rfl, rfl, rfl, rfl, rfl, rfl, rfl, rfl, rfl, rfl, trivial⟩
      · exact ⟨rfl, rfl, rfl, trivial⟩
    · refine G1_make 39 rfl mk22 rfl rfl rfl (by omega) (by omega) (by omega) (by omega) rfl (listed' := #[true, true, true, true, true, true, true, true, false, true, true, true, true, true, false, true, true, false, true, true, false, false, false]) (by kernel_rfl) (fun b => ?_)
      refine G.sub ?_ (fun q k hq => SubH.look ?_ hq) (g0100 b)
      · exact ⟨rfl, rfl, rfl, rfl, rfl, rfl, rfl, rfl, rfl, rfl, rfl, rfl, rfl, trivial⟩
      · exact ⟨rfl, rfl, rfl, trivial⟩
    · refine G1_make 40 rfl mk32 rfl rfl rfl (by omega) (by omega) (by omega) (by omega) rfl (listed' := #[true, true, true, true, true, true, true, true, false, true, true, false, true, true, true, true, true, false, true, true, false, false, false]) (by kernel_rfl) (fun b => ?_)
      refine G.sub ?_ (fun q k hq => SubH.look ?_ hq) (g0010 b)
      · exact ⟨rfl, rfl, rfl, rfl, rfl, rfl, rfl, rfl, rfl, rfl, rfl, rfl, rfl, trivial⟩
      · exact ⟨rfl, rfl, rfl, trivial⟩
    · refine G1_make 41 rfl mk32 rfl rfl rfl (by omega) (by omega) (by omega) (by omega) rfl (listed' := #[true, true, true, true, true, true, true, true, false, true, true, false, true, true, false, true, true, true, true, true, false, false, false]) (by kernel_rfl) (fun b => ?_)
      refine G.sub ?_ (fun q k hq => SubH.look ?_ hq) (g0001 b)
      · exact ⟨rfl, rfl, rfl, rfl, rfl, rfl, rfl, rfl, rfl, rfl, rfl, rfl, rfl, trivial⟩
      · exact ⟨rfl, rfl, rfl, trivial⟩
  refine G.sub ?_ (fun q k hq => SubH.look ?_ hq) (g0000 ())
  · exact ⟨rfl, rfl, rfl, rfl, rfl, rfl, rfl, rfl, rfl, rfl, rfl, rfl, trivial⟩
  · exact ⟨rfl, rfl, trivial⟩

end Go.Proofs.Qxb6001307a
