/-
  OWN WORK (the rule applications laid by a program of our own, wip/gen). FnBreakAtStaysInsideTheBook.
-/
import Derived.Test.Qxb6001236aPlainB
namespace Go.Proofs.Qxb6001236a
open Go.RowKit
set_option linter.unusedSimpArgs false
set_option linter.unusedVariables false

set_option maxHeartbeats 1000000 in
theorem fnStay (w : World) (aD : Option Addr) (n cD : Nat) (d : Int → Int) (i : Int) (hD : RdW w (.slice aD n cD) n (ints .u8 d)) (hd : ∀ i, 0 ≤ i → i < (n : Int) → 0 ≤ d i ∧ d i ≤ 255) :
    Calls Try.prog 8 #[.slice aD n cD, .int .i64 i] w fun e w' => e = .returned (.bool true) ∧ Below w.heap.size w w' := by
  have hmw : Mem (Old w) w [] w := Mem.start w
  refine enter (N := 60) (vs := [.slice aD n cD, .int .i64 i]) Try.func8 rfl Try.ntmps8 rfl ?_ w (Mem.start w)
  refine C_seq ?_
  refine C_region ?_
  refine V_w0.q (QY_assign rfl) rfl ?_
  refine V_nil (X_next ?_)
  refine C_seq ?_
  refine C_seq ?_
  refine C_region ?_
  refine V_w0.q (QY_move rfl) rfl ?_
  refine V_w0.q (QY_move rfl) rfl ?_
  refine V_call cb22 rfl (T := Bool) (Φ := fun _ => True) (val := fun y => .bool y) (H' := fun _ => []) (fun w9 hm => (by22 w9 aD n cD i).mono fun e w2 ⟨y, h1, he, hM⟩ => ⟨y, h1, he, hm.join0 hM⟩) rfl ?_
  intro y12 _
  refine W_bool V_w0 12 rfl (fun h12 => ?_) (fun h12 => ?_)
  ·
    refine V_w0.q (QY_not rfl) rfl ?_
    refine V_nil (X_next ?_)
    refine C_false rfl ?_
    refine C_skip (X_next ?_)
    refine C_seq ?_
    refine C_seq ?_
    refine C_region ?_
    refine V_w0.q (QY_move rfl) rfl ?_
    refine V_w0.q (QY_len sl22 rfl) rfl ?_
    refine W_gtr V_w0 rfl rfl rfl (fun h16 => ?_) (fun h16 => ?_)
    ·
      refine V_nil (X_next ?_)
      refine C_true rfl ?_
      refine C_seq ?_
      refine C_region ?_
      refine V_w0.q (QY_assign rfl) rfl ?_
      refine V_nil (X_next ?_)
      refine C_ret (X_then_ret (?_))
      refine X_ret1 rfl rfl (fun w hm => ?_)
      exact ⟨rfl, (hmw.join0 (hm.sub trivial)).below⟩
    ·
      refine V_nil (X_next ?_)
      refine C_false rfl ?_
      refine C_skip (X_next ?_)
      refine C_seq ?_
      refine C_seq ?_
      refine C_region ?_
      refine V_w0.q (QY_move rfl) rfl ?_
      refine W_lss V_w0 rfl rfl rfl (fun h18 => ?_) (fun h18 => ?_)
      ·
        refine V_nil (X_next ?_)
        refine C_true rfl ?_
        refine C_seq ?_
        refine C_region ?_
        refine V_w0.q (QY_assign rfl) rfl ?_
        refine V_nil (X_next ?_)
        refine C_ret (X_then_ret (?_))
        refine X_ret1 rfl rfl (fun w hm => ?_)
        exact ⟨rfl, (hmw.join0 (hm.sub trivial)).below⟩
      ·
        refine V_nil (X_next ?_)
        refine C_false rfl ?_
        refine C_skip (X_next ?_)
        refine C_seq ?_
        refine C_region ?_
        refine V_w0.q (QY_move rfl) rfl ?_
        refine V_callO cb10 rfl (T := Option Addr) (Φ := fun y w' => RdW w' (.slice y n n) n (ints .u8 d)) (val := fun y => .slice y n n) (fun w9 hm => clone10R w9 _ _ _ d (hD.mv hm) (by omega)) rfl ?_
        intro aD w1 hm1 hD
        have hmw := hmw.join0 hm1
        refine V_w0.q (QY_assign rfl) rfl ?_
        refine V_nil (X_next ?_)
        refine C_seq ?_
        refine C_region ?_
        refine V_w0.q (QY_move rfl) rfl ?_
        refine V_call cb17 rfl (T := Int × Int × Int) (Φ := fun y => y = uo n d) (val := fun y => .tuple [.int .i64 y.1, .int .i64 y.2.1, .int .i64 y.2.2].toArray) (H' := fun _ => []) (fun w9 hm => (zu17 w9 _ _ _ d (hD.mv hm) (by omega) hd).mono fun e w2 ⟨y, h1, he, hM⟩ => ⟨y, h1, he, hm.join0 hM⟩) rfl ?_
        rintro ⟨s, z, l⟩ hu
        have huo := uo_ok n d (by omega)
        rw [← hu] at huo
        dsimp only at huo
        have hdb := div_b (n := (n : Int)) (s := s) (z := z) (by omega) (by omega) (by omega)
        dsimp only
        refine V_w0.q (QY_move rfl) rfl ?_
        refine V_w0.q (QY_extract rfl rfl) rfl ?_
        refine V_w0.q (QY_extract rfl rfl) rfl ?_
        refine V_w0.q (QY_extract rfl rfl) rfl ?_
        refine V_w0.q (QY_assign rfl) rfl ?_
        refine V_w0.q (QY_assign rfl) rfl ?_
        refine V_w0.q (QY_assign rfl) rfl ?_
        refine V_nil (X_next ?_)
        refine C_seq ?_
        refine C_region ?_
        refine V_w0.q (QY_move rfl) rfl ?_
        refine V_w0.q (QY_len sl22 rfl) rfl ?_
        refine V_w0.q (QY_move rfl) rfl ?_
        refine V_w0.q (QY_arith rfl rfl rfl ⟨by omega, by omega⟩) rfl ?_
        refine V_w0.q (QY_move rfl) rfl ?_
        refine V_w0.q (QY_quo rfl rfl (by omega) (by omega) rfl ⟨by omega, by omega⟩) rfl ?_
        refine V_w0.q (QY_assign rfl) rfl ?_
        refine V_nil (X_next ?_)
        refine C_seq ?_
        refine C_region ?_
        refine V_w0.q (QY_move rfl) rfl ?_
        refine V_w0.q (QY_move rfl) rfl ?_
        refine V_call cb21 rfl (T := Int) (Φ := fun y => y = brk n d (uo n d).1 (uo n d).2.1 (uo n d).2.2 (i)) (val := fun y => .int .i64 y) (H' := fun _ => []) (fun w9 hm => (zb21 w9 aD n n d (i) (hD.mv hm) (Nat.le_refl _) hd (by omega) (by omega)).mono fun e w2 ⟨y, h1, he, hM⟩ => ⟨y, h1, he, hm.join0 hM⟩) rfl ?_
        intro b hb
        rw [← hu] at hb
        dsimp only at hb
        have hbo := brk_ok (n := (n : Int)) (d := d) (s := s) (z := z) (l := l) (i := i)
        rw [← hb] at hbo
        refine V_w0.q (QY_assign rfl) rfl ?_
        refine V_nil (X_next ?_)
        refine C_seq ?_
        refine C_seq ?_
        refine C_region ?_
        refine V_w0.q (QY_move rfl) rfl ?_
        refine W_lss V_w0 rfl rfl rfl (fun h37 => False.elim (by omega)) (fun h37 => ?_)
        refine V_w0.q (QY_move rfl) rfl ?_
        refine V_walk.yes rfl rfl ?_
        refine V_w0.q (QY_move rfl) rfl ?_
        refine V_walk.yes rfl rfl ?_
        refine W_gtr V_w0 rfl rfl rfl (fun h40 => False.elim (by omega)) (fun h40 => ?_)
        refine V_w0.q (QY_pick_false rfl rfl) rfl ?_
        refine V_nil (X_next ?_)
        refine C_false rfl ?_
        refine C_skip (X_next ?_)
        refine C_seq ?_
        refine C_seq ?_
        refine C_region ?_
        refine V_w0.q (QY_move rfl) rfl ?_
        refine W_gtr V_w0 rfl rfl rfl (fun h43 => ?_) (fun h43 => ?_)
        ·
          refine V_w0.q (QY_move rfl) rfl ?_
          refine V_walk.yes rfl rfl ?_
          refine V_w0.q (QY_move rfl) rfl ?_
          refine V_walk.yes rfl rfl ?_
          refine V_w0.q (QY_move rfl) rfl ?_
          refine V_walk.yes rfl rfl ?_
          refine V_w0.q (QY_move rfl) rfl ?_
          refine V_walk.yes rfl rfl ?_
          refine V_w0.q (QY_arith rfl rfl rfl ⟨by omega, by omega⟩) rfl ?_
          refine V_walk.yes rfl rfl ?_
          refine W_gtr V_w0 rfl rfl rfl (fun h49 => False.elim (by have := hbo.2.2.1 (by omega); omega)) (fun h49 => ?_)
          refine V_w0.q (QY_pick_true rfl rfl) rfl ?_
          refine V_nil (X_next ?_)
          refine C_false rfl ?_
          refine C_skip (X_next ?_)
          refine C_seq ?_
          refine C_seq ?_
          refine C_region ?_
          refine V_w0.q (QY_move rfl) rfl ?_
          refine W_eql V_w0 rfl rfl rfl (fun h52 => ?_) (fun h52 => ?_)
          ·
            have hlt := (hbo.2.2.2 h52).2
            refine V_w0.q (QY_move rfl) rfl ?_
            refine V_walk.yes rfl rfl ?_
            refine V_w0.q (QY_move rfl) rfl ?_
            refine V_walk.yes rfl rfl ?_
            refine V_w0.q (QY_move rfl) rfl ?_
            refine V_walk.yes rfl rfl ?_
            refine V_w0.q (QY_arith rfl rfl rfl ⟨by omega, by omega⟩) rfl ?_
            refine V_walk.yes rfl rfl ?_
            refine V_call cb21 rfl (T := Int) (Φ := fun y => y = brk n d (uo n d).1 (uo n d).2.1 (uo n d).2.2 (i + 1)) (val := fun y => .int .i64 y) (H' := fun _ => []) (fun w9 hm => (zb21 w9 aD n n d (i + 1) (hD.mv hm) (Nat.le_refl _) hd (by omega) (by omega)).mono fun e w2 ⟨y, h1, he, hM⟩ => ⟨y, h1, he, hm.join0 hM⟩) rfl ?_
            intro b2 hb2
            rw [← hu] at hb2
            dsimp only at hb2
            refine V_walk.yes rfl rfl ?_
            refine W_neq V_w0 rfl rfl rfl (fun h58 => False.elim (h58 (by rw [hb2]; exact (hbo.2.2.2 h52).1))) (fun h58 => ?_)
            refine V_w0.q (QY_pick_true rfl rfl) rfl ?_
            refine V_nil (X_next ?_)
            refine C_false rfl ?_
            refine C_skip (X_next ?_)
            refine C_seq ?_
            refine C_region ?_
            refine V_w0.q (QY_assign rfl) rfl ?_
            refine V_nil (X_next ?_)
            refine C_ret (?_)
            refine X_ret1 rfl rfl (fun w hm => ?_)
            exact ⟨rfl, (hmw.join0 (hm.sub trivial)).below⟩
          ·
            refine V_w0.q (QY_move rfl) rfl ?_
            refine V_walk.no rfl rfl rfl ?_
            refine V_walk.no rfl rfl rfl ?_
            refine V_walk.no rfl rfl rfl ?_
            refine V_walk.no rfl rfl rfl ?_
            refine V_walk.no rfl rfl rfl ?_
            refine V_w0.q (QY_pick_false rfl rfl) rfl ?_
            refine V_nil (X_next ?_)
            refine C_false rfl ?_
            refine C_skip (X_next ?_)
            refine C_seq ?_
            refine C_region ?_
            refine V_w0.q (QY_assign rfl) rfl ?_
            refine V_nil (X_next ?_)
            refine C_ret (?_)
            refine X_ret1 rfl rfl (fun w hm => ?_)
            exact ⟨rfl, (hmw.join0 (hm.sub trivial)).below⟩
        ·
          refine V_w0.q (QY_move rfl) rfl ?_
          refine V_walk.no rfl rfl rfl ?_
          refine V_walk.no rfl rfl rfl ?_
          refine V_walk.no rfl rfl rfl ?_
          refine V_walk.no rfl rfl rfl ?_
          refine V_walk.no rfl rfl rfl ?_
          refine V_w0.q (QY_pick_false rfl rfl) rfl ?_
          refine V_nil (X_next ?_)
          refine C_false rfl ?_
          refine C_skip (X_next ?_)
          refine C_seq ?_
          refine C_seq ?_
          refine C_region ?_
          refine V_w0.q (QY_move rfl) rfl ?_
          refine W_eql V_w0 rfl rfl rfl (fun h52 => ?_) (fun h52 => ?_)
          ·
            have hlt := (hbo.2.2.2 h52).2
            refine V_w0.q (QY_move rfl) rfl ?_
            refine V_walk.yes rfl rfl ?_
            refine V_w0.q (QY_move rfl) rfl ?_
            refine V_walk.yes rfl rfl ?_
            refine V_w0.q (QY_move rfl) rfl ?_
            refine V_walk.yes rfl rfl ?_
            refine V_w0.q (QY_arith rfl rfl rfl ⟨by omega, by omega⟩) rfl ?_
            refine V_walk.yes rfl rfl ?_
            refine V_call cb21 rfl (T := Int) (Φ := fun y => y = brk n d (uo n d).1 (uo n d).2.1 (uo n d).2.2 (i + 1)) (val := fun y => .int .i64 y) (H' := fun _ => []) (fun w9 hm => (zb21 w9 aD n n d (i + 1) (hD.mv hm) (Nat.le_refl _) hd (by omega) (by omega)).mono fun e w2 ⟨y, h1, he, hM⟩ => ⟨y, h1, he, hm.join0 hM⟩) rfl ?_
            intro b2 hb2
            rw [← hu] at hb2
            dsimp only at hb2
            refine V_walk.yes rfl rfl ?_
            refine W_neq V_w0 rfl rfl rfl (fun h58 => False.elim (h58 (by rw [hb2]; exact (hbo.2.2.2 h52).1))) (fun h58 => ?_)
            refine V_w0.q (QY_pick_true rfl rfl) rfl ?_
            refine V_nil (X_next ?_)
            refine C_false rfl ?_
            refine C_skip (X_next ?_)
            refine C_seq ?_
            refine C_region ?_
            refine V_w0.q (QY_assign rfl) rfl ?_
            refine V_nil (X_next ?_)
            refine C_ret (?_)
            refine X_ret1 rfl rfl (fun w hm => ?_)
            exact ⟨rfl, (hmw.join0 (hm.sub trivial)).below⟩
          ·
            refine V_w0.q (QY_move rfl) rfl ?_
            refine V_walk.no rfl rfl rfl ?_
            refine V_walk.no rfl rfl rfl ?_
            refine V_walk.no rfl rfl rfl ?_
            refine V_walk.no rfl rfl rfl ?_
            refine V_walk.no rfl rfl rfl ?_
            refine V_w0.q (QY_pick_false rfl rfl) rfl ?_
            refine V_nil (X_next ?_)
            refine C_false rfl ?_
            refine C_skip (X_next ?_)
            refine C_seq ?_
            refine C_region ?_
            refine V_w0.q (QY_assign rfl) rfl ?_
            refine V_nil (X_next ?_)
            refine C_ret (?_)
            refine X_ret1 rfl rfl (fun w hm => ?_)
            exact ⟨rfl, (hmw.join0 (hm.sub trivial)).below⟩
  ·
    refine V_w0.q (QY_not rfl) rfl ?_
    refine V_nil (X_next ?_)
    refine C_true rfl ?_
    refine C_seq ?_
    refine C_region ?_
    refine V_w0.q (QY_assign rfl) rfl ?_
    refine V_nil (X_next ?_)
    refine C_ret (X_then_ret (?_))
    refine X_ret1 rfl rfl (fun w hm => ?_)
    exact ⟨rfl, (hmw.join0 (hm.sub trivial)).below⟩

end Go.Proofs.Qxb6001236a
