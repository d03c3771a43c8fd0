/-
  OWN WORK (the rule applications laid by a program of our own, wip/gen). zzBytes, isOut, ZZNewSplitPartition.
-/
import Derived.Test.Qxb6001307aVisit
import Derived.Test.Qxb6001307aNewp
namespace Go.Proofs.Qxb6001307a
open Go.RowKit
set_option linter.unusedSimpArgs false
set_option linter.unusedVariables false

theorem bytes15 (w : World) (a0 a1 a2 a4 : Option Addr) (n0 n1 n2 n4 c0 c1 c2 c4 : Nat) (z3 : Value) :
    Calls Try.prog 15 #[.slice a0 n0 c0, .slice a1 n1 c1, .slice a2 n2 c2, z3, .slice a4 n4 c4] w fun e w' => ∃ y : Bool, (y = true → (n0 : Int) + n1 + n2 + n4 ≤ 1048576) ∧ e = .returned (.bool y) ∧ Mem (Old w) w [] w' := by
  refine enter (N := 48) (vs := [.slice a0 n0 c0, .slice a1 n1 c1, .slice a2 n2 c2, z3, .slice a4 n4 c4]) Try.func15 rfl Try.ntmps15 rfl ?_ w (Mem.start w)
  refine C_seq ?_
  refine C_region ?_
  refine V_w0.q (QY_assign rfl) rfl ?_
  refine V_nil (X_next ?_)
  refine C_seq ?_
  refine C_region ?_
  refine V_w0.q (QY_assign rfl) rfl ?_
  refine V_nil (X_next ?_)
  refine C_seq ?_
  refine C_seq ?_
  refine C_region ?_
  refine V_w0.q (QY_move rfl) rfl ?_
  refine V_w0.q (QY_len sl22 rfl) rfl ?_
  refine W_gtr V_w0 rfl rfl rfl (fun h14 => ?_) (fun h14 => ?_)
  ·
    refine V_nil (X_next ?_)
    refine C_true rfl ?_
    refine C_seq ?_
    refine C_region ?_
    refine V_w0.q (QY_assign rfl) rfl ?_
    refine V_nil (X_next ?_)
    refine C_ret (X_then_ret (?_))
    refine X_ret1 rfl rfl (fun w hm => ?_)
    exact ⟨false, (fun h => by cases h), rfl, hm⟩
  ·
    refine V_nil (X_next ?_)
    refine C_false rfl ?_
    refine C_skip (X_next ?_)
    refine C_seq ?_
    refine C_region ?_
    refine V_w0.q (QY_move rfl) rfl ?_
    refine V_w0.q (QY_move rfl) rfl ?_
    refine V_w0.q (QY_len sl22 rfl) rfl ?_
    refine V_w0.q (QY_arith rfl rfl rfl ⟨by omega, by omega⟩) rfl ?_
    refine V_w0.q (QY_assign rfl) rfl ?_
    refine V_nil (X_next ?_)
    refine C_seq ?_
    refine C_seq ?_
    refine C_region ?_
    refine V_w0.q (QY_move rfl) rfl ?_
    refine W_gtr V_w0 rfl rfl rfl (fun h20 => ?_) (fun h20 => ?_)
    ·
      refine V_nil (X_next ?_)
      refine C_true rfl ?_
      refine C_seq ?_
      refine C_region ?_
      refine V_w0.q (QY_assign rfl) rfl ?_
      refine V_nil (X_next ?_)
      refine C_ret (X_then_ret (?_))
      refine X_ret1 rfl rfl (fun w hm => ?_)
      exact ⟨false, (fun h => by cases h), rfl, hm⟩
    ·
      refine V_nil (X_next ?_)
      refine C_false rfl ?_
      refine C_skip (X_next ?_)
      refine C_seq ?_
      refine C_seq ?_
      refine C_region ?_
      refine V_w0.q (QY_move rfl) rfl ?_
      refine V_w0.q (QY_len sl22 rfl) rfl ?_
      refine W_gtr V_w0 rfl rfl rfl (fun h23 => ?_) (fun h23 => ?_)
      ·
        refine V_nil (X_next ?_)
        refine C_true rfl ?_
        refine C_seq ?_
        refine C_region ?_
        refine V_w0.q (QY_assign rfl) rfl ?_
        refine V_nil (X_next ?_)
        refine C_ret (X_then_ret (?_))
        refine X_ret1 rfl rfl (fun w hm => ?_)
        exact ⟨false, (fun h => by cases h), rfl, hm⟩
      ·
        refine V_nil (X_next ?_)
        refine C_false rfl ?_
        refine C_skip (X_next ?_)
        refine C_seq ?_
        refine C_region ?_
        refine V_w0.q (QY_move rfl) rfl ?_
        refine V_w0.q (QY_move rfl) rfl ?_
        refine V_w0.q (QY_len sl22 rfl) rfl ?_
        refine V_w0.q (QY_arith rfl rfl rfl ⟨by omega, by omega⟩) rfl ?_
        refine V_w0.q (QY_assign rfl) rfl ?_
        refine V_nil (X_next ?_)
        refine C_seq ?_
        refine C_seq ?_
        refine C_region ?_
        refine V_w0.q (QY_move rfl) rfl ?_
        refine W_gtr V_w0 rfl rfl rfl (fun h29 => ?_) (fun h29 => ?_)
        ·
          refine V_nil (X_next ?_)
          refine C_true rfl ?_
          refine C_seq ?_
          refine C_region ?_
          refine V_w0.q (QY_assign rfl) rfl ?_
          refine V_nil (X_next ?_)
          refine C_ret (X_then_ret (?_))
          refine X_ret1 rfl rfl (fun w hm => ?_)
          exact ⟨false, (fun h => by cases h), rfl, hm⟩
        ·
          refine V_nil (X_next ?_)
          refine C_false rfl ?_
          refine C_skip (X_next ?_)
          refine C_seq ?_
          refine C_seq ?_
          refine C_region ?_
          refine V_w0.q (QY_move rfl) rfl ?_
          refine V_w0.q (QY_len sl23 rfl) rfl ?_
          refine W_gtr V_w0 rfl rfl rfl (fun h32 => ?_) (fun h32 => ?_)
          ·
            refine V_nil (X_next ?_)
            refine C_true rfl ?_
            refine C_seq ?_
            refine C_region ?_
            refine V_w0.q (QY_assign rfl) rfl ?_
            refine V_nil (X_next ?_)
            refine C_ret (X_then_ret (?_))
            refine X_ret1 rfl rfl (fun w hm => ?_)
            exact ⟨false, (fun h => by cases h), rfl, hm⟩
          ·
            refine V_nil (X_next ?_)
            refine C_false rfl ?_
            refine C_skip (X_next ?_)
            refine C_seq ?_
            refine C_region ?_
            refine V_w0.q (QY_move rfl) rfl ?_
            refine V_w0.q (QY_move rfl) rfl ?_
            refine V_w0.q (QY_len sl23 rfl) rfl ?_
            refine V_w0.q (QY_arith rfl rfl rfl ⟨by omega, by omega⟩) rfl ?_
            refine V_w0.q (QY_assign rfl) rfl ?_
            refine V_nil (X_next ?_)
            refine C_seq ?_
            refine C_seq ?_
            refine C_region ?_
            refine V_w0.q (QY_move rfl) rfl ?_
            refine W_gtr V_w0 rfl rfl rfl (fun h38 => ?_) (fun h38 => ?_)
            ·
              refine V_nil (X_next ?_)
              refine C_true rfl ?_
              refine C_seq ?_
              refine C_region ?_
              refine V_w0.q (QY_assign rfl) rfl ?_
              refine V_nil (X_next ?_)
              refine C_ret (X_then_ret (?_))
              refine X_ret1 rfl rfl (fun w hm => ?_)
              exact ⟨false, (fun h => by cases h), rfl, hm⟩
            ·
              refine V_nil (X_next ?_)
              refine C_false rfl ?_
              refine C_skip (X_next ?_)
              refine C_seq ?_
              refine C_seq ?_
              refine C_region ?_
              refine V_w0.q (QY_move rfl) rfl ?_
              refine V_w0.q (QY_len sl26 rfl) rfl ?_
              refine W_gtr V_w0 rfl rfl rfl (fun h41 => ?_) (fun h41 => ?_)
              ·
                refine V_nil (X_next ?_)
                refine C_true rfl ?_
                refine C_seq ?_
                refine C_region ?_
                refine V_w0.q (QY_assign rfl) rfl ?_
                refine V_nil (X_next ?_)
                refine C_ret (X_then_ret (?_))
                refine X_ret1 rfl rfl (fun w hm => ?_)
                exact ⟨false, (fun h => by cases h), rfl, hm⟩
              ·
                refine V_nil (X_next ?_)
                refine C_false rfl ?_
                refine C_skip (X_next ?_)
                refine C_seq ?_
                refine C_region ?_
                refine V_w0.q (QY_move rfl) rfl ?_
                refine V_w0.q (QY_move rfl) rfl ?_
                refine V_w0.q (QY_len sl26 rfl) rfl ?_
                refine V_w0.q (QY_arith rfl rfl rfl ⟨by omega, by omega⟩) rfl ?_
                refine V_w0.q (QY_assign rfl) rfl ?_
                refine V_nil (X_next ?_)
                refine C_seq ?_
                refine C_seq ?_
                refine C_region ?_
                refine V_w0.q (QY_move rfl) rfl ?_
                refine W_gtr V_w0 rfl rfl rfl (fun h47 => ?_) (fun h47 => ?_)
                ·
                  refine V_nil (X_next ?_)
                  refine C_true rfl ?_
                  refine C_seq ?_
                  refine C_region ?_
                  refine V_w0.q (QY_assign rfl) rfl ?_
                  refine V_nil (X_next ?_)
                  refine C_ret (X_then_ret (?_))
                  refine X_ret1 rfl rfl (fun w hm => ?_)
                  exact ⟨false, (fun h => by cases h), rfl, hm⟩
                ·
                  refine V_nil (X_next ?_)
                  refine C_false rfl ?_
                  refine C_skip (X_next ?_)
                  refine C_seq ?_
                  refine C_region ?_
                  refine V_w0.q (QY_assign rfl) rfl ?_
                  refine V_nil (X_next ?_)
                  refine C_ret (?_)
                  refine X_ret1 rfl rfl (fun w hm => ?_)
                  exact ⟨true, fun _ => by omega, rfl, hm⟩

def ouOf (n : Nat) (g : Int → Bool) : Int → Bool := fun v => if v < (n : Int) then g v else false
theorem out17 (w : World) (a0 : Option Addr) (n cap : Nat) (g : Int → Bool) (v : Int) (hr : RdW w (.slice a0 n cap) n (bools g)) (h0 : 0 ≤ v) (h1 : v ≤ 2147483647) :
    Calls Try.prog 17 #[.slice a0 n cap, .int .i32 v] w fun e w' => ∃ y : Bool, y = ouOf n g v ∧ e = .returned (.bool y) ∧ Mem (Old w) w [] w' := by
  have hrd : ∀ H, Rd (Old w) w H (.slice a0 n cap) n (bools g) := fun H => hr.rd
  refine enter (N := 16) (vs := [.slice a0 n cap, .int .i32 v]) Try.func17 rfl Try.ntmps17 rfl ?_ w (Mem.start w)
  refine C_seq ?_
  refine C_region ?_
  refine V_w0.q (QY_assign rfl) rfl ?_
  refine V_nil (X_next ?_)
  refine C_seq ?_
  refine C_region ?_
  refine V_w0.q (QY_move rfl) rfl ?_
  refine V_w0.q (QY_conv it21 it3 rfl ⟨by omega, by omega⟩) rfl ?_
  refine V_w0.q (QY_move rfl) rfl ?_
  refine V_w0.q (QY_len sl26 rfl) rfl ?_
  refine W_lss V_w0 rfl rfl rfl (fun h9 => ?_) (fun h9 => ?_)
  ·
    refine V_w0.q (QY_move rfl) rfl ?_
    refine V_walk.yes rfl rfl ?_
    refine V_w0.q (QY_move rfl) rfl ?_
    refine V_walk.yes rfl rfl ?_
    refine V_w0.q (QY_move rfl) rfl ?_
    refine V_walk.yes rfl rfl ?_
    refine W_elem2 V_walk rfl (fun _ => rfl) rfl rfl (hrd _) (by omega) (by omega) sl26 lf4 rfl rfl (fun _ => ?_)
    refine V_w0.q (QY_pick_true rfl rfl) rfl ?_
    refine V_w0.q (QY_assign rfl) rfl ?_
    refine V_nil (X_next ?_)
    refine C_ret (?_)
    refine X_ret1 rfl rfl (fun w hm => ?_)
    exact ⟨_, by simp only [ouOf, if_pos h9], rfl, hm⟩
  ·
    refine V_w0.q (QY_move rfl) rfl ?_
    refine V_walk.no rfl rfl rfl ?_
    refine V_walk.no rfl rfl rfl ?_
    refine V_walk.no rfl rfl rfl ?_
    refine V_walk.no rfl rfl rfl ?_
    refine V_w0.q (QY_pick_false rfl rfl) rfl ?_
    refine V_w0.q (QY_assign rfl) rfl ?_
    refine V_nil (X_next ?_)
    refine C_ret (?_)
    refine X_ret1 rfl rfl (fun w hm => ?_)
    exact ⟨_, by simp only [ouOf, if_neg h9], rfl, hm⟩

structure NewS where
  (bP bA bL bB bE bX bT bZ bW bI bJ bN : Nat)
set_option maxHeartbeats 1000000 in
theorem new18 (w : World) (vO vC : Value) (aF a2 aM : Option Addr) (nf cF nc c2 n cM : Nat) (cl : Int → Int) (al : Int) (hcl' : RdW w (.slice a2 nc c2) nc (ints .u8 cl)) (hnc : (nc : Int) ≤ 1048576) (hnn : (n : Int) = (nf : Int) - 1) (hn : (n : Int) ≤ 1048576)
    (h1O : vO.oneCell' = true) (h1C : vC.oneCell' = true) :
    Calls Try.prog 18 #[.slice aF nf cF, vO, .slice a2 nc c2, .int .u8 al, vC, .slice aM n cM] w fun e w' => ∃ y : NewS, True ∧ e = .returned (.pointer (some ⟨y.bP, 0, none⟩)) ∧ Mem (Old w) w [(30, ⟨y.bP, 17, 17, fl [.pointer (some ⟨y.bA, 0, none⟩), .int .u8 al, .int .i32 0, vC, .slice aM n cM, .slice (some ⟨y.bB, 0, none⟩) 1 1, .slice (some ⟨y.bE, 0, none⟩) 1 1, .slice (some ⟨y.bX, 0, none⟩) 1 1, .slice (some ⟨y.bT, 0, none⟩) 1 1, .slice (some ⟨y.bZ, 0, none⟩) 1 1, .slice (some ⟨y.bW, 0, none⟩) 1 1, .slice (some ⟨y.bI, 0, none⟩) n n, .slice (some ⟨y.bJ, 0, none⟩) n n, .slice (some ⟨y.bN, 0, none⟩) n n, .slice none 0 0, .slice none 0 0, .slice none 0 0]⟩), (31, ⟨y.bA, 3, 3, fl [.slice aF nf cF, vO, .slice (some ⟨y.bL, 0, none⟩) nc nc]⟩), (34, ⟨y.bL, nc, nc, ints .u8 cl⟩), (36, ⟨y.bB, 1, 1, fun _ => (.int .i32 0)⟩), (37, ⟨y.bE, 1, 1, fun _ => (.int .i32 (n : Int))⟩), (38, ⟨y.bX, 1, 1, fun _ => (.int .u8 0)⟩), (39, ⟨y.bT, 1, 1, fun _ => (.int .i32 0)⟩), (40, ⟨y.bZ, 1, 1, fun _ => (.int .i64 0)⟩), (41, ⟨y.bW, 1, 1, fun _ => (.int .i64 0)⟩), (47, ⟨y.bI, n, n, fun _ => (.int .i32 0)⟩), (48, ⟨y.bJ, n, n, fun _ => (.int .i32 0)⟩), (42, ⟨y.bN, n, n, fun _ => (.bool false)⟩)] w' := by
  have hcl : ∀ w1, Mem (Old w) w [] w1 → RdW w1 (.slice a2 nc c2) nc (ints .u8 cl) := fun w1 hm => (hcl'.rd (H := [])).at hm
  refine enter (N := 47) (vs := [.slice aF nf cF, vO, .slice a2 nc c2, .int .u8 al, vC, .slice aM n cM]) Try.func18 rfl Try.ntmps18 rfl ?_ w (Mem.start w)
  refine C_seq ?_
  refine C_region ?_
  refine V_w0.q (QY_assign rfl) rfl ?_
  refine V_nil (X_next ?_)
  refine C_seq ?_
  refine C_region ?_
  refine V_w0.q (QY_move rfl) rfl ?_
  refine V_w0.q (QY_move rfl) rfl ?_
  refine V_w0.q (QY_move rfl) rfl ?_
  refine V_call cb32 rfl (T := Nat) (Φ := fun _ => True) (val := fun b => .slice (some ⟨b, 0, none⟩) nc nc) (H' := fun b => [(34, ⟨b, nc, nc, ints .u8 cl⟩)]) (fun w1 hm => (cs32 w1 a2 nc c2 cl (hcl w1 hm) hnc).mono fun e w2 ⟨y, _, he, hM⟩ => ⟨y, trivial, he, by simpa using hm.join (hM.rekey 34)⟩) rfl ?_
  intro bL _
  refine V_w0.q (v := .agg [.slice aF nf cF, vO, .slice (some ⟨bL, 0, none⟩) nc nc].toArray) (QY_build (parts := [(0, .tmp 15), (1, .tmp 16), (2, .tmp 18)]) (vs := [(0, .slice aF nf cF), (1, vO), (2, .slice (some ⟨bL, 0, none⟩) nc nc)]) (fun a hf => by
    simp only [List.map_cons, List.map_nil]
    rw [hf.eval (x := .tmp 15) rfl, hf.eval (x := .tmp 16) rfl, hf.eval (x := .tmp 18) rfl]) (fun w => build57 w _ _ _ rfl h1O rfl)) rfl ?_
  refine V_box 31 (cs := [.slice aF nf cF, vO, .slice (some ⟨bL, 0, none⟩) nc nc]) rfl (m := 3) rfl (mi := 3) rfl rfl (fun bA => ?_)
  refine V_w0.q (QY_assign rfl) rfl ?_
  refine V_nil (X_next ?_)
  refine C_seq ?_
  refine C_region ?_
  refine V_w0.q (QY_move rfl) rfl ?_
  refine V_w0.q (QY_len sl22 rfl) rfl ?_
  refine V_w0.q (QY_arith rfl rfl rfl ⟨by omega, by omega⟩) rfl ?_
  refine V_w0.q (QY_assign (v := .int .i64 (n : Int)) (by rw [hnn]; rfl)) rfl ?_
  refine V_nil (X_next ?_)
  refine C_seq ?_
  refine C_seq ?_
  refine C_region ?_
  refine V_w0.q (QY_move rfl) rfl ?_
  refine W_lss V_w0 rfl rfl rfl (fun h25 => False.elim (by omega)) (fun h25 => ?_)
  refine V_nil (X_next ?_)
  refine C_false rfl ?_
  refine C_skip (X_next ?_)
  refine C_seq ?_
  refine C_orders mix ?_
  refine G_take 0 rfl (by kernel_rfl) (listed' := #[true, false, false, false, false, false, false, false, false, false, false, false, false, false, false, false, false, false, false, false, false, false]) (by kernel_rfl) (QY_move rfl) rfl ?_
  refine G_take 1 rfl (by kernel_rfl) (listed' := #[true, true, false, false, false, false, false, false, false, false, false, false, false, false, false, false, false, false, false, false, false, false]) (by kernel_rfl) (QY_move rfl) rfl ?_
  refine G_take 2 rfl (by kernel_rfl) (listed' := #[true, true, true, false, false, false, false, false, false, false, false, false, false, false, false, false, false, false, false, false, false, false]) (by kernel_rfl) (QY_move rfl) rfl ?_
  refine G_take 3 rfl (by kernel_rfl) (listed' := #[true, true, true, true, false, false, false, false, false, false, false, false, false, false, false, false, false, false, false, false, false, false]) (by kernel_rfl) (QY_move rfl) rfl ?_
  refine G_take 5 rfl (by kernel_rfl) (listed' := #[true, true, true, true, false, true, false, false, false, false, false, false, false, false, false, false, false, false, false, false, false, false]) (by kernel_rfl) (QY_move rfl) rfl ?_
  refine G_take 6 rfl (by kernel_rfl) (listed' := #[true, true, true, true, false, true, true, false, false, false, false, false, false, false, false, false, false, false, false, false, false, false]) (by kernel_rfl) (QY_len sl22 rfl) rfl ?_
  refine G_take 7 rfl (by kernel_rfl) (listed' := #[true, true, true, true, false, true, true, true, false, false, false, false, false, false, false, false, false, false, false, false, false, false]) (by kernel_rfl) (QY_conv it3 it21 rfl ⟨by omega, by omega⟩) rfl ?_
  refine G_take 13 rfl (by kernel_rfl) (listed' := #[true, true, true, true, false, true, true, true, false, false, false, false, false, true, false, false, false, false, false, false, false, false]) (by kernel_rfl) (QY_move rfl) rfl ?_
  refine G_take 15 rfl (by kernel_rfl) (listed' := #[true, true, true, true, false, true, true, true, false, false, false, false, false, true, false, true, false, false, false, false, false, false]) (by kernel_rfl) (QY_move rfl) rfl ?_
  refine G_take 17 rfl (by kernel_rfl) (listed' := #[true, true, true, true, false, true, true, true, false, false, false, false, false, true, false, true, false, true, false, false, false, false]) (by kernel_rfl) (QY_move rfl) rfl ?_
  refine G.sub (L' := [(33, .int .i32 (n : Int)), (43, .int .i64 (n : Int)), (41, .int .i64 (n : Int)), (39, .int .i64 (n : Int)), (29, .slice aM n cM), (28, vC), (27, .int .u8 al), (26, .pointer (some ⟨bA, 0, none⟩))]) (H' := [(31, ⟨bA, 3, 3, fl [.slice aF nf cF, vO, .slice (some ⟨bL, 0, none⟩) nc nc]⟩), (34, ⟨bL, nc, nc, ints .u8 cl⟩)]) ?_ (fun q k hq => SubH.look ?_ hq) ?_
  · exact ⟨rfl, rfl, rfl, rfl, rfl, rfl, rfl, rfl, trivial⟩
  · exact ⟨rfl, rfl, trivial⟩
  refine G_allocs (f := 3) 19 [⟨4, 30, 36, 1, (.int .i32 0)⟩, ⟨8, 34, 37, 1, (.int .i32 (n : Int))⟩, ⟨9, 35, 38, 1, (.int .u8 0)⟩, ⟨10, 36, 39, 1, (.int .i32 0)⟩, ⟨11, 37, 40, 1, (.int .i64 0)⟩, ⟨12, 38, 41, 1, (.int .i64 0)⟩, ⟨14, 40, 47, n, (.int .i32 0)⟩, ⟨16, 42, 48, n, (.int .i32 0)⟩, ⟨18, 44, 42, n, (.bool false)⟩] [(33, .int .i32 (n : Int)), (43, .int .i64 (n : Int)), (41, .int .i64 (n : Int)), (39, .int .i64 (n : Int)), (29, .slice aM n cM), (28, vC), (27, .int .u8 al), (26, .pointer (some ⟨bA, 0, none⟩))] [(31, ⟨bA, 3, 3, fl [.slice aF nf cF, vO, .slice (some ⟨bL, 0, none⟩) nc nc]⟩), (34, ⟨bL, nc, nc, ints .u8 cl⟩)] ?_ (by kernel_rfl) (show [4, 8, 9, 10, 11, 12, 14, 16, 18].Nodup from by decide) (show [30, 34, 35, 36, 37, 38, 40, 42, 44].Nodup from by decide) (show [36, 37, 38, 39, 40, 41, 47, 48, 42].Nodup from by decide) ?_ ?_ (fun b => ?_)
  · intro x hx
    simp only [List.mem_cons, List.not_mem_nil, or_false] at hx
    rcases hx with rfl | rfl | rfl | rfl | rfl | rfl | rfl | rfl | rfl
    · exact AlOK_lit 36 rfl mk22 rfl rfl rfl rfl
    · exact AlOK_lit 37 rfl mk22 rfl rfl rfl rfl
    · exact AlOK_make 38 rfl mk54 rfl rfl rfl (by omega) (by omega) rfl
    · exact AlOK_make 39 rfl mk22 rfl rfl rfl (by omega) (by omega) rfl
    · exact AlOK_make 40 rfl mk32 rfl rfl rfl (by omega) (by omega) rfl
    · exact AlOK_make 41 rfl mk32 rfl rfl rfl (by omega) (by omega) rfl
    · exact AlOK_make 47 rfl mk22 rfl rfl rfl (by omega) (by omega) rfl
    · exact AlOK_make 48 rfl mk22 rfl rfl rfl (by omega) (by omega) rfl
    · exact AlOK_make 42 rfl mk26 rfl rfl rfl (by omega) (by omega) rfl
  · intro x hx
    simp only [List.mem_cons, List.not_mem_nil, or_false] at hx
    rcases hx with rfl | rfl | rfl | rfl | rfl | rfl | rfl | rfl | rfl <;> rfl
  · intro x hx
    simp only [List.mem_cons, List.not_mem_nil, or_false] at hx
    rcases hx with rfl | rfl | rfl | rfl | rfl | rfl | rfl | rfl | rfl <;> rfl
  obtain ⟨bB, hbB⟩ : ∃ z, z = b 4 := ⟨_, rfl⟩
  obtain ⟨bE, hbE⟩ : ∃ z, z = b 8 := ⟨_, rfl⟩
  obtain ⟨bX, hbX⟩ : ∃ z, z = b 9 := ⟨_, rfl⟩
  obtain ⟨bT, hbT⟩ : ∃ z, z = b 10 := ⟨_, rfl⟩
  obtain ⟨bZ, hbZ⟩ : ∃ z, z = b 11 := ⟨_, rfl⟩
  obtain ⟨bW, hbW⟩ : ∃ z, z = b 12 := ⟨_, rfl⟩
  obtain ⟨bI, hbI⟩ : ∃ z, z = b 14 := ⟨_, rfl⟩
  obtain ⟨bJ, hbJ⟩ : ∃ z, z = b 16 := ⟨_, rfl⟩
  obtain ⟨bN, hbN⟩ : ∃ z, z = b 18 := ⟨_, rfl⟩
  refine G.sub (L' := [(30, .slice (some ⟨bB, 0, none⟩) 1 1), (34, .slice (some ⟨bE, 0, none⟩) 1 1), (35, .slice (some ⟨bX, 0, none⟩) 1 1), (36, .slice (some ⟨bT, 0, none⟩) 1 1), (37, .slice (some ⟨bZ, 0, none⟩) 1 1), (38, .slice (some ⟨bW, 0, none⟩) 1 1), (40, .slice (some ⟨bI, 0, none⟩) n n), (42, .slice (some ⟨bJ, 0, none⟩) n n), (44, .slice (some ⟨bN, 0, none⟩) n n), (33, .int .i32 (n : Int)), (43, .int .i64 (n : Int)), (41, .int .i64 (n : Int)), (39, .int .i64 (n : Int)), (29, .slice aM n cM), (28, vC), (27, .int .u8 al), (26, .pointer (some ⟨bA, 0, none⟩))]) (H' := [(36, ⟨bB, 1, 1, fun _ => (.int .i32 0)⟩), (37, ⟨bE, 1, 1, fun _ => (.int .i32 (n : Int))⟩), (38, ⟨bX, 1, 1, fun _ => (.int .u8 0)⟩), (39, ⟨bT, 1, 1, fun _ => (.int .i32 0)⟩), (40, ⟨bZ, 1, 1, fun _ => (.int .i64 0)⟩), (41, ⟨bW, 1, 1, fun _ => (.int .i64 0)⟩), (47, ⟨bI, n, n, fun _ => (.int .i32 0)⟩), (48, ⟨bJ, n, n, fun _ => (.int .i32 0)⟩), (42, ⟨bN, n, n, fun _ => (.bool false)⟩), (31, ⟨bA, 3, 3, fl [.slice aF nf cF, vO, .slice (some ⟨bL, 0, none⟩) nc nc]⟩), (34, ⟨bL, nc, nc, ints .u8 cl⟩)]) ?_ (fun q k hq => SubH.look ?_ hq) ?_
  · exact ⟨by rw [hbB]; rfl, by rw [hbE]; rfl, by rw [hbX]; rfl, by rw [hbT]; rfl, by rw [hbZ]; rfl, by rw [hbW]; rfl, by rw [hbI]; rfl, by rw [hbJ]; rfl, by rw [hbN]; rfl, rfl, rfl, rfl, rfl, rfl, rfl, rfl, rfl, trivial⟩
  · exact ⟨by rw [hbB]; rfl, by rw [hbE]; rfl, by rw [hbX]; rfl, by rw [hbT]; rfl, by rw [hbZ]; rfl, by rw [hbW]; rfl, by rw [hbI]; rfl, by rw [hbJ]; rfl, by rw [hbN]; rfl, rfl, rfl, trivial⟩
  refine G_all (rs := [19]) (by kernel_rfl) rfl ?_
  intro i hi
  obtain rfl : i = 19 := by simpa using hi
  refine G1_q (v := .agg #[.pointer (some ⟨bA, 0, none⟩), .int .u8 al, .int .i32 0, vC, .slice aM n cM, .slice (some ⟨bB, 0, none⟩) 1 1, .slice (some ⟨bE, 0, none⟩) 1 1, .slice (some ⟨bX, 0, none⟩) 1 1, .slice (some ⟨bT, 0, none⟩) 1 1, .slice (some ⟨bZ, 0, none⟩) 1 1, .slice (some ⟨bW, 0, none⟩) 1 1, .slice (some ⟨bI, 0, none⟩) n n, .slice (some ⟨bJ, 0, none⟩) n n, .slice (some ⟨bN, 0, none⟩) n n, .slice none 0 0, .slice none 0 0, .slice none 0 0]) rfl
    (QY_build (parts := [(0, .tmp 26), (1, .tmp 27), (3, .tmp 28), (4, .tmp 29), (5, .tmp 30), (6, .tmp 34), (7, .tmp 35), (8, .tmp 36), (9, .tmp 37), (10, .tmp 38), (11, .tmp 40), (12, .tmp 42), (13, .tmp 44)]) (vs := [(0, .pointer (some ⟨bA, 0, none⟩)), (1, .int .u8 al), (3, vC), (4, .slice aM n cM), (5, .slice (some ⟨bB, 0, none⟩) 1 1), (6, .slice (some ⟨bE, 0, none⟩) 1 1), (7, .slice (some ⟨bX, 0, none⟩) 1 1), (8, .slice (some ⟨bT, 0, none⟩) 1 1), (9, .slice (some ⟨bZ, 0, none⟩) 1 1), (10, .slice (some ⟨bW, 0, none⟩) 1 1), (11, .slice (some ⟨bI, 0, none⟩) n n), (12, .slice (some ⟨bJ, 0, none⟩) n n), (13, .slice (some ⟨bN, 0, none⟩) n n)]) (fun a hf => by
      simp only [List.map_cons, List.map_nil]
      rw [hf.eval (x := .tmp 26) rfl, hf.eval (x := .tmp 27) rfl, hf.eval (x := .tmp 28) rfl, hf.eval (x := .tmp 29) rfl, hf.eval (x := .tmp 30) rfl, hf.eval (x := .tmp 34) rfl, hf.eval (x := .tmp 35) rfl, hf.eval (x := .tmp 36) rfl, hf.eval (x := .tmp 37) rfl, hf.eval (x := .tmp 38) rfl, hf.eval (x := .tmp 40) rfl, hf.eval (x := .tmp 42) rfl, hf.eval (x := .tmp 44) rfl]) (fun w => build61s w _ _ _ _ _ _ _ _ _ _ _ _ _ rfl rfl h1C rfl rfl rfl rfl rfl rfl rfl rfl rfl rfl)) rfl (listed' := #[true, true, true, true, true, true, true, true, true, true, true, true, true, true, true, true, true, true, true, true, false, false]) (by kernel_rfl) ?_
  refine G_all (rs := [20]) (by kernel_rfl) rfl ?_
  intro i hi
  obtain rfl : i = 20 := by simpa using hi
  refine G1_box 30 rfl (cs := [.pointer (some ⟨bA, 0, none⟩), .int .u8 al, .int .i32 0, vC, .slice aM n cM, .slice (some ⟨bB, 0, none⟩) 1 1, .slice (some ⟨bE, 0, none⟩) 1 1, .slice (some ⟨bX, 0, none⟩) 1 1, .slice (some ⟨bT, 0, none⟩) 1 1, .slice (some ⟨bZ, 0, none⟩) 1 1, .slice (some ⟨bW, 0, none⟩) 1 1, .slice (some ⟨bI, 0, none⟩) n n, .slice (some ⟨bJ, 0, none⟩) n n, .slice (some ⟨bN, 0, none⟩) n n, .slice none 0 0, .slice none 0 0, .slice none 0 0]) rfl (m := 17) rfl (mi := 17) rfl rfl (listed' := #[true, true, true, true, true, true, true, true, true, true, true, true, true, true, true, true, true, true, true, true, true, false]) (by kernel_rfl) (fun bP => ?_)
  refine G_all (rs := [21]) (by kernel_rfl) rfl ?_
  intro i hi
  obtain rfl : i = 21 := by simpa using hi
  refine G1_q rfl (QY_assign rfl) rfl (listed' := #[true, true, true, true, true, true, true, true, true, true, true, true, true, true, true, true, true, true, true, true, true, true]) (by kernel_rfl) ?_
  refine G_end (by kernel_rfl) ?_
  refine (X_next ?_)
  refine C_ret (?_)
  refine X_ret1 rfl rfl (fun w hm => ?_)
  exact ⟨⟨bP, bA, bL, bB, bE, bX, bT, bZ, bW, bI, bJ, bN⟩, trivial, rfl, hm.sub ⟨rfl, rfl, rfl, rfl, rfl, rfl, rfl, rfl, rfl, rfl, rfl, rfl, trivial⟩⟩

theorem out20 (B : Nat → Prop) (w0 : World) (bP : Nat) (v0 v1 v2 v3 v4 v5 v6 v7 v8 v9 v10 v11 v12 v13 v14 v15 v16 : Value) :
    ∀ w, Mem B w0 [(30, ⟨bP, 17, 17, fl [v0, v1, v2, v3, v4, v5, v6, v7, v8, v9, v10, v11, v12, v13, v14, v15, v16]⟩)] w → Calls Try.prog 20 #[.pointer (some ⟨bP, 0, none⟩)] w (fun e w' => ∃ y : Unit, True ∧ e = .returned (.tuple [v3, v4, v5, v6, v11, v13, v14].toArray) ∧ Mem B w0 [(30, ⟨bP, 17, 17, fl [v0, v1, v2, v3, v4, v5, v6, v7, v8, v9, v10, v11, v12, v13, v14, v15, v16]⟩)] w') := by
  refine enter (N := 37) (vs := [.pointer (some ⟨bP, 0, none⟩)]) Try.func20 rfl Try.ntmps20 rfl ?_
  refine C_seq ?_
  refine C_region ?_
  refine V_w0.q (QY_assign rfl) rfl ?_
  refine V_w0.q (QY_assign rfl) rfl ?_
  refine V_w0.q (QY_assign rfl) rfl ?_
  refine V_w0.q (QY_assign rfl) rfl ?_
  refine V_w0.q (QY_assign rfl) rfl ?_
  refine V_w0.q (QY_assign rfl) rfl ?_
  refine V_w0.q (QY_assign rfl) rfl ?_
  refine V_nil (X_next ?_)
  refine C_seq ?_
  refine C_draw mix (by kernel_rfl) ?_
  refine S_w0.q (QY_move rfl) rfl ?_
  refine W_fld S_w0 (q := 30) rfl rfl fa61_3 lf22 (by decide) rfl rfl rfl rfl ?_
  refine S_w0.q (QY_move rfl) rfl ?_
  refine W_fld S_w0 (q := 30) rfl rfl fa61_4 lf22 (by decide) rfl rfl rfl rfl ?_
  refine S_w0.q (QY_move rfl) rfl ?_
  refine W_fld S_w0 (q := 30) rfl rfl fa61_5 lf22 (by decide) rfl rfl rfl rfl ?_
  refine S_w0.q (QY_move rfl) rfl ?_
  refine W_fld S_w0 (q := 30) rfl rfl fa61_6 lf22 (by decide) rfl rfl rfl rfl ?_
  refine S_w0.q (QY_move rfl) rfl ?_
  refine W_fld S_w0 (q := 30) rfl rfl fa61_11 lf22 (by decide) rfl rfl rfl rfl ?_
  refine S_w0.q (QY_move rfl) rfl ?_
  refine W_fld S_w0 (q := 30) rfl rfl fa61_13 lf26 (by decide) rfl rfl rfl rfl ?_
  refine S_w0.q (QY_move rfl) rfl ?_
  refine W_fld S_w0 (q := 30) rfl rfl fa61_14 lf22 (by decide) rfl rfl rfl rfl ?_
  refine S_w0.q (QY_assign rfl) rfl ?_
  refine S_w0.q (QY_assign rfl) rfl ?_
  refine S_w0.q (QY_assign rfl) rfl ?_
  refine S_w0.q (QY_assign rfl) rfl ?_
  refine S_w0.q (QY_assign rfl) rfl ?_
  refine S_w0.q (QY_assign rfl) rfl ?_
  refine S_w0.q (QY_assign rfl) rfl ?_
  refine S_nil (X_next ?_)
  refine C_ret (?_)
  refine X_retN (ts := [2, 3, 4, 5, 6, 7, 8]) rfl (by decide) rfl (fun w hm => ?_)
  exact ⟨(), trivial, rfl, hm⟩

end Go.Proofs.Qxb6001307a
