/-
  OWN WORK (the rule applications laid by a program of our own, wip/gen). FnBreakAtSameInEveryEncoding.
-/
import Derived.Test.Qxb6001236aPlainB
namespace Go.Proofs.Qxb6001236a
open Go.RowKit
set_option linter.unusedSimpArgs false
set_option linter.unusedVariables false

set_option maxHeartbeats 2000000 in
theorem fnSame (w : World) (aD : Option Addr) (n cD : Nat) (d : Int → Int) (hD : RdW w (.slice aD n cD) n (ints .u8 d)) (hd : ∀ i, 0 ≤ i → i < (n : Int) → 0 ≤ d i ∧ d i ≤ 255) :
    Calls Try.prog 7 #[.slice aD n cD] w fun e w' => e = .returned (.bool true) ∧ Below w.heap.size w w' := by
  have hmw : Mem (Old w) w [] w := Mem.start w
  refine enter (N := 54) (vs := [.slice aD n cD]) Try.func7 rfl Try.ntmps7 rfl ?_ w (Mem.start w)
  refine C_seq ?_
  refine C_region ?_
  refine V_w0.q (QY_assign rfl) rfl ?_
  refine V_nil (X_next ?_)
  refine C_seq ?_
  refine C_seq ?_
  refine C_region ?_
  refine V_w0.q (QY_move rfl) rfl ?_
  refine V_call cb20 rfl (T := Bool) (Φ := fun _ => True) (val := fun y => .bool y) (H' := fun _ => []) (fun w9 hm => (by20 w9 aD n cD).mono fun e w2 ⟨y, h1, he, hM⟩ => ⟨y, h1, he, hm.join0 hM⟩) rfl ?_
  intro y10 _
  refine W_bool V_w0 10 rfl (fun h10 => ?_) (fun h10 => ?_)
  ·
    refine V_w0.q (QY_not rfl) rfl ?_
    refine V_nil (X_next ?_)
    refine C_false rfl ?_
    refine C_skip (X_next ?_)
    refine C_seq ?_
    refine C_seq ?_
    refine C_region ?_
    refine V_w0.q (QY_move rfl) rfl ?_
    refine V_w0.q (QY_len sl22 rfl) rfl ?_
    refine W_gtr V_w0 rfl rfl rfl (fun h14 => ?_) (fun h14 => ?_)
    ·
      refine V_nil (X_next ?_)
      refine C_true rfl ?_
      refine C_seq ?_
      refine C_region ?_
      refine V_w0.q (QY_assign rfl) rfl ?_
      refine V_nil (X_next ?_)
      refine C_ret (X_then_ret (?_))
      refine X_ret1 rfl rfl (fun w hm => ?_)
      exact ⟨rfl, (hmw.join0 (hm.sub trivial)).below⟩
    ·
      refine V_nil (X_next ?_)
      refine C_false rfl ?_
      refine C_skip (X_next ?_)
      refine C_seq ?_
      refine C_region ?_
      refine V_w0.q (QY_move rfl) rfl ?_
      refine V_callO cb10 rfl (T := Option Addr) (Φ := fun y w' => RdW w' (.slice y n n) n (ints .u8 d)) (val := fun y => .slice y n n) (fun w9 hm => clone10R w9 _ _ _ d (hD.mv hm) (by omega)) rfl ?_
      intro aD w1 hm1 hD
      have hmw := hmw.join0 hm1
      refine V_w0.q (QY_assign rfl) rfl ?_
      refine V_nil (X_next ?_)
      refine C_seq ?_
      refine C_region ?_
      refine V_w0.q (QY_move rfl) rfl ?_
      refine V_callO cb11 rfl (T := Option Addr) (Φ := fun y w' => RdW w' (.slice y n n) n (ints .u8 (fold7 d))) (val := fun y => .slice y n n) (fun w9 hm => ascii11 w9 _ _ _ d (hD.mv hm) (by omega)) rfl ?_
      intro aA w2 hm2 hA
      have hD := hD.mv hm2
      have hmw := hmw.join0 hm2
      refine V_w0.q (QY_assign rfl) rfl ?_
      refine V_nil (X_next ?_)
      refine C_seq ?_
      refine C_region ?_
      refine V_w0.q (QY_move rfl) rfl ?_
      refine V_callO cb13 rfl (T := Nat × Nat × (Int → Int)) (Φ := fun y w' => 2 + 2 * n ≤ y.2.1 ∧ (y.2.2 0 = 255 ∧ y.2.2 1 = 254) ∧ (∀ i, 0 ≤ i → i < (n : Int) → y.2.2 (2 + 2 * i) = fold7 d i ∧ y.2.2 (2 + 2 * i + 1) = 0) ∧ RdW w' (.slice (some ⟨y.1, 0, none⟩) (2 + 2 * n) y.2.1) (2 + 2 * n) (ints .u8 y.2.2)) (val := fun y => .slice (some ⟨y.1, 0, none⟩) (2 + 2 * n) y.2.1) (fun w9 hm => enc1 w9 _ _ _ (fold7 d) (hA.mv hm) (by omega)) rfl ?_
      rintro ⟨b1, c1, E1⟩ w3 hm3 hy1
      have hA := hA.mv hm3
      have hmw := hmw.join0 hm3
      obtain ⟨hc1, hh1, hb1, hE1⟩ := hy1
      dsimp only at hc1 hh1 hb1 hE1
      refine V_w0.q (QY_assign rfl) rfl ?_
      refine V_nil (X_next ?_)
      refine C_seq ?_
      refine C_region ?_
      refine V_w0.q (QY_move rfl) rfl ?_
      refine V_callO cb13 rfl (T := Nat × Nat × (Int → Int)) (Φ := fun y w' => 2 + 2 * n ≤ y.2.1 ∧ (y.2.2 0 = 254 ∧ y.2.2 1 = 255) ∧ (∀ i, 0 ≤ i → i < (n : Int) → y.2.2 (2 + 2 * i) = 0 ∧ y.2.2 (2 + 2 * i + 1) = fold7 d i) ∧ RdW w' (.slice (some ⟨y.1, 0, none⟩) (2 + 2 * n) y.2.1) (2 + 2 * n) (ints .u8 y.2.2)) (val := fun y => .slice (some ⟨y.1, 0, none⟩) (2 + 2 * n) y.2.1) (fun w9 hm => enc2 w9 _ _ _ (fold7 d) (hA.mv hm) (by omega)) rfl ?_
      rintro ⟨b2, c2, E2⟩ w4 hm4 hy2
      have hA := hA.mv hm4
      have hE1 := hE1.mv hm4
      have hmw := hmw.join0 hm4
      obtain ⟨hc2, hh2, hb2, hE2⟩ := hy2
      dsimp only at hc2 hh2 hb2 hE2
      refine V_w0.q (QY_assign rfl) rfl ?_
      refine V_nil (X_next ?_)
      refine C_seq ?_
      refine C_region ?_
      refine V_w0.q (QY_move rfl) rfl ?_
      refine V_callO cb13 rfl (T := Nat × Nat × (Int → Int)) (Φ := fun y w' => 3 + 1 * n ≤ y.2.1 ∧ (y.2.2 0 = 239 ∧ y.2.2 1 = 187 ∧ y.2.2 2 = 191) ∧ (∀ i, 0 ≤ i → i < (n : Int) → y.2.2 (3 + i) = fold7 d i) ∧ RdW w' (.slice (some ⟨y.1, 0, none⟩) (3 + 1 * n) y.2.1) (3 + 1 * n) (ints .u8 y.2.2)) (val := fun y => .slice (some ⟨y.1, 0, none⟩) (3 + 1 * n) y.2.1) (fun w9 hm => enc3 w9 _ _ _ (fold7 d) (hA.mv hm) (by omega)) rfl ?_
      rintro ⟨b3, c3, E3⟩ w5 hm5 hy3
      have hA := hA.mv hm5
      have hE1 := hE1.mv hm5
      have hE2 := hE2.mv hm5
      have hmw := hmw.join0 hm5
      obtain ⟨hc3, hh3, hb3, hE3⟩ := hy3
      dsimp only at hc3 hh3 hb3 hE3
      refine V_w0.q (QY_assign rfl) rfl ?_
      refine V_nil (X_next ?_)
      refine C_seq ?_
      refine C_seq ?_
      have hx1 : ∀ i, 0 ≤ i → i < ((2 + 2 * n : Nat) : Int) → 0 ≤ E1 i ∧ E1 i ≤ 255 := fun i a b => by
        rcases (by omega : i = 0 ∨ i = 1 ∨ 2 ≤ i) with rfl | rfl | h
        · omega
        · omega
        · have h1 := hb1 ((i - 2) / 2) (by omega) (by omega)
          have h2 := fold7_b d ((i - 2) / 2)
          rcases (by omega : i = 2 + 2 * ((i - 2) / 2) ∨ i = 2 + 2 * ((i - 2) / 2) + 1) with h3 | h3
          · rw [h3, h1.1]; omega
          · rw [h3, h1.2]; omega
      have hx2 : ∀ i, 0 ≤ i → i < ((2 + 2 * n : Nat) : Int) → 0 ≤ E2 i ∧ E2 i ≤ 255 := fun i a b => by
        rcases (by omega : i = 0 ∨ i = 1 ∨ 2 ≤ i) with rfl | rfl | h
        · omega
        · omega
        · have h1 := hb2 ((i - 2) / 2) (by omega) (by omega)
          have h2 := fold7_b d ((i - 2) / 2)
          rcases (by omega : i = 2 + 2 * ((i - 2) / 2) ∨ i = 2 + 2 * ((i - 2) / 2) + 1) with h3 | h3
          · rw [h3, h1.1]; omega
          · rw [h3, h1.2]; omega
      have hx3 : ∀ i, 0 ≤ i → i < ((3 + 1 * n : Nat) : Int) → 0 ≤ E3 i ∧ E3 i ≤ 255 := fun i a b => by
        rcases (by omega : i = 0 ∨ i = 1 ∨ i = 2 ∨ 3 ≤ i) with rfl | rfl | rfl | h
        · omega
        · omega
        · omega
        · have h1 := hb3 (i - 3) (by omega) (by omega)
          have h2 := fold7_b d (i - 3)
          rw [show 3 + (i - 3) = i from by omega] at h1
          rw [h1]; omega
      refine C_region ?_
      refine V_w0.q (QY_assign rfl) rfl ?_
      refine V_nil (X_next ?_)
      refine C_block ?_
      refine C_loops (T := Int) (fun (i : Int) => [(3, .slice aA n n), (4, .slice (some ⟨b1, 0, none⟩) (2 + 2 * n) c1), (5, .slice (some ⟨b2, 0, none⟩) (2 + 2 * n) c2), (6, .slice (some ⟨b3, 0, none⟩) (3 + 1 * n) c3), (7, .int .i64 i)]) (fun (i : Int) => []) (fun (i : Int) => 0 ≤ i ∧ i ≤ (n : Int) + 2) (fun (i : Int) => (((n : Int) + 2) - i).toNat) 0 ?_ ?_ ?_ ?_
      · exact ⟨by omega, by omega⟩
      · exact ⟨rfl, rfl, rfl, rfl, rfl, trivial⟩
      · exact trivial
      rintro i ⟨hi0, hi1⟩
      show C _ _ _ _ _ _ [(3, .slice aA n n), (4, .slice (some ⟨b1, 0, none⟩) (2 + 2 * n) c1), (5, .slice (some ⟨b2, 0, none⟩) (2 + 2 * n) c2), (6, .slice (some ⟨b3, 0, none⟩) (3 + 1 * n) c3), (7, .int .i64 i)] []
      refine C_seq ?_
      refine C_seq ?_
      refine C_region ?_
      refine V_w0.q (QY_move rfl) rfl ?_
      refine V_w0.q (QY_move rfl) rfl ?_
      refine V_w0.q (QY_len sl22 rfl) rfl ?_
      refine V_w0.q (QY_arith rfl rfl rfl ⟨by omega, by omega⟩) rfl ?_
      refine W_leq V_w0 rfl rfl rfl (fun h29 => ?_) (fun h29 => ?_)
      ·
        refine V_nil (X_next ?_)
        refine C_true rfl ?_
        refine C_skip (X_next ?_)
        refine C_seq ?_
        refine C_block ?_
        refine C_seq ?_
        refine C_region ?_
        refine V_w0.q (QY_move rfl) rfl ?_
        refine V_w0.q (QY_move rfl) rfl ?_
        refine V_call cb21 rfl (T := Int) (Φ := fun y => y = brk n (fold7 d) (uo n (fold7 d)).1 (uo n (fold7 d)).2.1 (uo n (fold7 d)).2.2 i) (val := fun y => .int .i64 y) (H' := fun _ => []) (fun w9 hm => (zb21 w9 _ _ _ (fold7 d) i (hA.mv hm) (Nat.le_refl _) (fun i a b => by have := fold7_b d i; omega) (by omega) hi0).mono fun e w2 ⟨y, h1, he, hM⟩ => ⟨y, h1, he, hm.join0 hM⟩) rfl ?_
        intro y0 hy0
        rw [plain_br (fold7_b d) hi0] at hy0
        refine V_w0.q (QY_assign rfl) rfl ?_
        refine V_nil (X_next ?_)
        refine C_seq ?_
        refine C_region ?_
        refine V_w0.q (QY_move rfl) rfl ?_
        refine V_w0.q (QY_move rfl) rfl ?_
        refine V_call cb21 rfl (T := Int) (Φ := fun y => y = brk ((2 + 2 * n : Nat) : Int) E1 (uo ((2 + 2 * n : Nat) : Int) E1).1 (uo ((2 + 2 * n : Nat) : Int) E1).2.1 (uo ((2 + 2 * n : Nat) : Int) E1).2.2 i) (val := fun y => .int .i64 y) (H' := fun _ => []) (fun w9 hm => (zb21 w9 _ _ _ E1 i (hE1.mv hm) (hc1) hx1 (by omega) hi0).mono fun e w2 ⟨y, h1, he, hM⟩ => ⟨y, h1, he, hm.join0 hM⟩) rfl ?_
        intro y1 hy1
        rw [e1_br (fold7_b d) hh1 hb1 hi0] at hy1
        refine V_w0.q (QY_move rfl) rfl ?_
        refine W_neq V_w0 rfl rfl rfl (fun h39 => False.elim (h39 (by omega))) (fun h39 => ?_)
        refine V_w0.q (QY_move rfl) rfl ?_
        refine V_walk.yes rfl rfl ?_
        refine V_w0.q (QY_move rfl) rfl ?_
        refine V_walk.yes rfl rfl ?_
        refine V_w0.q (QY_move rfl) rfl ?_
        refine V_walk.yes rfl rfl ?_
        refine V_call cb21 rfl (T := Int) (Φ := fun y => y = brk ((2 + 2 * n : Nat) : Int) E2 (uo ((2 + 2 * n : Nat) : Int) E2).1 (uo ((2 + 2 * n : Nat) : Int) E2).2.1 (uo ((2 + 2 * n : Nat) : Int) E2).2.2 i) (val := fun y => .int .i64 y) (H' := fun _ => []) (fun w9 hm => (zb21 w9 _ _ _ E2 i (hE2.mv hm) (hc2) hx2 (by omega) hi0).mono fun e w2 ⟨y, h1, he, hM⟩ => ⟨y, h1, he, hm.join0 hM⟩) rfl ?_
        intro y2 hy2
        rw [e2_br (fold7_b d) hh2 hb2 hi0] at hy2
        refine V_walk.yes rfl rfl ?_
        refine V_w0.q (QY_move rfl) rfl ?_
        refine V_walk.yes rfl rfl ?_
        refine W_neq V_w0 rfl rfl rfl (fun h45 => False.elim (h45 (by omega))) (fun h45 => ?_)
        refine V_w0.q (QY_pick_false rfl rfl) rfl ?_
        refine V_w0.q (QY_move rfl) rfl ?_
        refine V_walk.yes rfl rfl ?_
        refine V_w0.q (QY_move rfl) rfl ?_
        refine V_walk.yes rfl rfl ?_
        refine V_w0.q (QY_move rfl) rfl ?_
        refine V_walk.yes rfl rfl ?_
        refine V_call cb21 rfl (T := Int) (Φ := fun y => y = brk ((3 + 1 * n : Nat) : Int) E3 (uo ((3 + 1 * n : Nat) : Int) E3).1 (uo ((3 + 1 * n : Nat) : Int) E3).2.1 (uo ((3 + 1 * n : Nat) : Int) E3).2.2 i) (val := fun y => .int .i64 y) (H' := fun _ => []) (fun w9 hm => (zb21 w9 _ _ _ E3 i (hE3.mv hm) (hc3) hx3 (by omega) hi0).mono fun e w2 ⟨y, h1, he, hM⟩ => ⟨y, h1, he, hm.join0 hM⟩) rfl ?_
        intro y3 hy3
        rw [e3_br (fold7_b d) hh3 hb3 hi0] at hy3
        refine V_walk.yes rfl rfl ?_
        refine V_w0.q (QY_move rfl) rfl ?_
        refine V_walk.yes rfl rfl ?_
        refine W_neq V_w0 rfl rfl rfl (fun h52 => False.elim (h52 (by omega))) (fun h52 => ?_)
        refine V_w0.q (QY_pick_false rfl rfl) rfl ?_
        refine V_nil (X_next ?_)
        refine C_false rfl ?_
        refine C_skip (X_block (X_next ?_))
        refine C_region ?_
        refine V_w0.q (QY_move rfl) rfl ?_
        refine V_w0.q (QY_arith rfl rfl rfl ⟨by omega, by omega⟩) rfl ?_
        refine V_w0.q (QY_assign rfl) rfl ?_
        refine V_nil (X_then ?_)
        refine X_round (i + 1) ?_ ?_ ?_ ?_
        · exact ⟨by omega, by omega⟩
        · show (((n : Int) + 2) - (i + 1)).toNat < (((n : Int) + 2) - i).toNat
          omega
        · exact ⟨rfl, rfl, rfl, rfl, rfl, trivial⟩
        · exact trivial
      ·
        refine V_nil (X_next ?_)
        refine C_false rfl ?_
        refine C_exit (X_then_exit (X_then_exit (X_block_exit (X_next ?_))))
        refine C_seq ?_
        refine C_region ?_
        refine V_w0.q (QY_assign rfl) rfl ?_
        refine V_nil (X_next ?_)
        refine C_ret (?_)
        refine X_ret1 rfl rfl (fun w hm => ?_)
        exact ⟨rfl, (hmw.join0 (hm.sub trivial)).below⟩
  ·
    refine V_w0.q (QY_not rfl) rfl ?_
    refine V_nil (X_next ?_)
    refine C_true rfl ?_
    refine C_seq ?_
    refine C_region ?_
    refine V_w0.q (QY_assign rfl) rfl ?_
    refine V_nil (X_next ?_)
    refine C_ret (X_then_ret (?_))
    refine X_ret1 rfl rfl (fun w hm => ?_)
    exact ⟨rfl, (hmw.join0 (hm.sub trivial)).below⟩

end Go.Proofs.Qxb6001236a
