/-
  OWN WORK (the rule applications laid by a program of our own, wip/gen). FnUnitsOfDecidedByTheOpening.
-/
import Derived.Test.Qxb6001236aPlainB
namespace Go.Proofs.Qxb6001236a
open Go.RowKit
set_option linter.unusedSimpArgs false
set_option linter.unusedVariables false

set_option maxHeartbeats 2000000 in
theorem fnUnits (w : World) (aD aT : Option Addr) (n t cD cT : Nat) (d e : Int → Int) (hD : RdW w (.slice aD n cD) n (ints .u8 d)) (hT : RdW w (.slice aT t cT) t (ints .u8 e)) (hd : ∀ i, 0 ≤ i → i < (n : Int) → 0 ≤ d i ∧ d i ≤ 255) (he : ∀ i, 0 ≤ i → i < (t : Int) → 0 ≤ e i ∧ e i ≤ 255) :
    Calls Try.prog 6 #[.slice aD n cD, .slice aT t cT] w fun e w' => e = .returned (.bool true) ∧ Below w.heap.size w w' := by
  have hmw : Mem (Old w) w [] w := Mem.start w
  refine enter (N := 124) (vs := [.slice aD n cD, .slice aT t cT]) Try.func6 rfl Try.ntmps6 rfl ?_ w (Mem.start w)
  refine C_seq ?_
  refine C_region ?_
  refine V_w0.q (QY_assign rfl) rfl ?_
  refine V_nil (X_next ?_)
  refine C_seq ?_
  refine C_seq ?_
  refine C_region ?_
  refine V_w0.q (QY_move rfl) rfl ?_
  refine V_w0.q (QY_move rfl) rfl ?_
  refine V_call cb19 rfl (T := Bool) (Φ := fun _ => True) (val := fun y => .bool y) (H' := fun _ => []) (fun w9 hm => (by19 w9 aD aT n t cD cT).mono fun e w2 ⟨y, h1, he, hM⟩ => ⟨y, h1, he, hm.join0 hM⟩) rfl ?_
  intro y16 _
  refine W_bool V_w0 16 rfl (fun h16 => ?_) (fun h16 => ?_)
  ·
    refine V_w0.q (QY_not rfl) rfl ?_
    refine V_nil (X_next ?_)
    refine C_false rfl ?_
    refine C_skip (X_next ?_)
    refine C_seq ?_
    refine C_seq ?_
    refine C_region ?_
    refine V_w0.q (QY_move rfl) rfl ?_
    refine V_w0.q (QY_len sl22 rfl) rfl ?_
    refine W_gtr V_w0 rfl rfl rfl (fun h20 => ?_) (fun h20 => ?_)
    ·
      refine V_nil (X_next ?_)
      refine C_true rfl ?_
      refine C_seq ?_
      refine C_region ?_
      refine V_w0.q (QY_assign rfl) rfl ?_
      refine V_nil (X_next ?_)
      refine C_ret (X_then_ret (?_))
      refine X_ret1 rfl rfl (fun w hm => ?_)
      exact ⟨rfl, (hmw.join0 (hm.sub trivial)).below⟩
    ·
      refine V_nil (X_next ?_)
      refine C_false rfl ?_
      refine C_skip (X_next ?_)
      refine C_seq ?_
      refine C_seq ?_
      refine C_region ?_
      refine V_w0.q (QY_move rfl) rfl ?_
      refine V_w0.q (QY_len sl22 rfl) rfl ?_
      refine W_gtr V_w0 rfl rfl rfl (fun h23 => ?_) (fun h23 => ?_)
      ·
        refine V_nil (X_next ?_)
        refine C_true rfl ?_
        refine C_seq ?_
        refine C_region ?_
        refine V_w0.q (QY_assign rfl) rfl ?_
        refine V_nil (X_next ?_)
        refine C_ret (X_then_ret (?_))
        refine X_ret1 rfl rfl (fun w hm => ?_)
        exact ⟨rfl, (hmw.join0 (hm.sub trivial)).below⟩
      ·
        refine V_nil (X_next ?_)
        refine C_false rfl ?_
        refine C_skip (X_next ?_)
        refine C_seq ?_
        refine C_region ?_
        refine V_w0.q (QY_move rfl) rfl ?_
        refine V_callO cb10 rfl (T := Option Addr) (Φ := fun y w' => RdW w' (.slice y n n) n (ints .u8 d)) (val := fun y => .slice y n n) (fun w9 hm => clone10R w9 _ _ _ d (hD.mv hm) (by omega)) rfl ?_
        intro aD w1 hm1 hD
        have hT := hT.mv hm1
        have hmw := hmw.join0 hm1
        refine V_w0.q (QY_assign rfl) rfl ?_
        refine V_nil (X_next ?_)
        refine C_seq ?_
        refine C_region ?_
        refine V_w0.q (QY_move rfl) rfl ?_
        refine V_callO cb10 rfl (T := Option Addr) (Φ := fun y w' => RdW w' (.slice y t t) t (ints .u8 e)) (val := fun y => .slice y t t) (fun w9 hm => clone10R w9 _ _ _ e (hT.mv hm) (by omega)) rfl ?_
        intro aT w2 hm2 hT
        have hD := hD.mv hm2
        have hmw := hmw.join0 hm2
        refine V_w0.q (QY_assign rfl) rfl ?_
        refine V_nil (X_next ?_)
        refine C_seq ?_
        refine C_region ?_
        refine V_w0.q (QY_move rfl) rfl ?_
        refine V_call cb17 rfl (T := Int × Int × Int) (Φ := fun y => y = uo n d) (val := fun y => .tuple [.int .i64 y.1, .int .i64 y.2.1, .int .i64 y.2.2].toArray) (H' := fun _ => []) (fun w9 hm => (zu17 w9 _ _ _ d (hD.mv hm) (by omega) hd).mono fun e w2 ⟨y, h1, he, hM⟩ => ⟨y, h1, he, hm.join0 hM⟩) rfl ?_
        rintro ⟨s, z, l⟩ hu
        have huo := uo_ok n d (by omega)
        rw [← hu] at huo
        dsimp only at huo
        dsimp only
        refine V_w0.q (QY_move rfl) rfl ?_
        refine V_w0.q (QY_extract rfl rfl) rfl ?_
        refine V_w0.q (QY_extract rfl rfl) rfl ?_
        refine V_w0.q (QY_extract rfl rfl) rfl ?_
        refine V_w0.q (QY_assign rfl) rfl ?_
        refine V_w0.q (QY_assign rfl) rfl ?_
        refine V_w0.q (QY_assign rfl) rfl ?_
        refine V_nil (X_next ?_)
        refine C_seq ?_
        refine C_seq ?_
        refine C_region ?_
        refine V_w0.q (QY_move rfl) rfl ?_
        refine W_eql V_w0 rfl rfl rfl (fun h35 => ?_) (fun h35 => ?_)
        ·
          refine V_w0.q (QY_move rfl) rfl ?_
          refine V_walk.no rfl rfl rfl ?_
          refine V_walk.no rfl rfl rfl ?_
          refine V_w0.q (QY_pick_true rfl rfl) rfl ?_
          refine V_w0.q (QY_not rfl) rfl ?_
          refine V_w0.q (QY_move rfl) rfl ?_
          refine V_walk.yes rfl rfl ?_
          refine V_w0.q (QY_move rfl) rfl ?_
          refine V_walk.yes rfl rfl ?_
          refine W_lss V_w0 rfl rfl rfl (fun h43 => False.elim (by omega)) (fun h43 => ?_)
          refine V_w0.q (QY_pick_false rfl rfl) rfl ?_
          refine V_w0.q (QY_move rfl) rfl ?_
          refine V_walk.yes rfl rfl ?_
          refine V_w0.q (QY_move rfl) rfl ?_
          refine V_walk.yes rfl rfl ?_
          refine V_w0.q (QY_move rfl) rfl ?_
          refine V_walk.yes rfl rfl ?_
          refine W_geq V_w0 rfl rfl rfl (fun h48 => False.elim (by omega)) (fun h48 => ?_)
          refine V_w0.q (QY_pick_false rfl rfl) rfl ?_
          refine V_w0.q (QY_move rfl) rfl ?_
          refine V_walk.yes rfl rfl ?_
          refine V_w0.q (QY_move rfl) rfl ?_
          refine V_walk.yes rfl rfl ?_
          refine W_lss V_w0 rfl rfl rfl (fun h52 => False.elim (by omega)) (fun h52 => ?_)
          refine V_w0.q (QY_pick_false rfl rfl) rfl ?_
          refine V_w0.q (QY_move rfl) rfl ?_
          refine V_walk.yes rfl rfl ?_
          refine V_w0.q (QY_move rfl) rfl ?_
          refine V_walk.yes rfl rfl ?_
          refine V_w0.q (QY_move rfl) rfl ?_
          refine V_walk.yes rfl rfl ?_
          refine V_w0.q (QY_len sl22 rfl) rfl ?_
          refine V_walk.yes rfl rfl ?_
          refine W_gtr V_w0 rfl rfl rfl (fun h58 => False.elim (by omega)) (fun h58 => ?_)
          refine V_w0.q (QY_pick_false rfl rfl) rfl ?_
          refine V_nil (X_next ?_)
          refine C_false rfl ?_
          refine C_skip (X_next ?_)
          refine C_seq ?_
          refine C_seq ?_
          refine C_region ?_
          refine V_w0.q (QY_move rfl) rfl ?_
          refine W_eql V_w0 rfl rfl rfl (fun h61 => False.elim (by omega)) (fun h61 => ?_)
          refine V_w0.q (QY_move rfl) rfl ?_
          refine V_walk.no rfl rfl rfl ?_
          refine V_walk.no rfl rfl rfl ?_
          refine V_w0.q (QY_pick_false rfl rfl) rfl ?_
          refine V_nil (X_next ?_)
          refine C_false rfl ?_
          refine C_skip (X_next ?_)
          refine C_seq ?_
          refine C_seq ?_
          refine C_region ?_
          refine V_w0.q (QY_move rfl) rfl ?_
          refine V_w0.q (QY_len sl22 rfl) rfl ?_
          refine W_geq V_w0 rfl rfl rfl (fun h68 => ?_) (fun h68 => ?_)
          ·
            refine V_w0.q (QY_move rfl) rfl ?_
            refine V_walk.no rfl rfl rfl ?_
            refine V_walk.no rfl rfl rfl ?_
            refine V_w0.q (QY_pick_true rfl rfl) rfl ?_
            refine V_nil (X_next ?_)
            refine C_true rfl ?_
            refine C_seq ?_
            refine C_region ?_
            refine V_w0.q (QY_move rfl) rfl ?_
            refine V_w0.q (QY_len sl22 rfl) rfl ?_
            refine V_w0.q (QY_move rfl) rfl ?_
            refine V_w0.q (QY_len sl22 rfl) rfl ?_
            refine V_w0.q (QY_arith rfl rfl rfl ⟨by omega, by omega⟩) rfl ?_
            refine V_make 1 mk22 rfl rfl rfl (by omega) (by omega) (by omega) (by omega) rfl (fun bj => ?_)
            refine V_w0.q (QY_assign rfl) rfl ?_
            refine V_nil (X_next ?_)
            refine C_seq ?_
            refine C_seq ?_
            refine C_region ?_
            refine V_w0.q (QY_assign rfl) rfl ?_
            refine V_nil (X_next ?_)
            refine C_block ?_
            refine C_loops (T := Int × Nat × (Int → Int)) (fun (zz9 : Int × Nat × (Int → Int)) => match zz9 with | (k, m, g) => [(0, .slice aD n n), (1, .slice aT t t), (5, .int .i64 s), (6, .int .i64 z), (7, .int .i64 l), (8, .slice (some ⟨bj, 0, none⟩) m ((n : Int) + t).toNat), (9, .int .i64 k)]) (fun (zz9 : Int × Nat × (Int → Int)) => match zz9 with | (k, m, g) => [(1, ⟨bj, ((n : Int) + t).toNat, (n : Int) + t, ints .u8 g⟩)]) (fun (zz9 : Int × Nat × (Int → Int)) => match zz9 with | (k, m, g) => 0 ≤ k ∧ k ≤ n ∧ (m : Int) = k ∧ ∀ i, 0 ≤ i → i < k → g i = d i) (fun (zz9 : Int × Nat × (Int → Int)) => match zz9 with | (k, m, g) => ((n : Int) - k).toNat) (0, 0, fun _ => 0) ?_ ?_ ?_ ?_
            · exact ⟨by omega, by omega, by omega, fun i a b => by omega⟩
            · exact ⟨rfl, rfl, rfl, rfl, rfl, rfl, rfl, trivial⟩
            · exact ⟨rfl, trivial⟩
            rintro ⟨k, m, g⟩ ⟨hk0, hk1, hm9, hg⟩
            show C _ _ _ _ _ _ [(0, .slice aD n n), (1, .slice aT t t), (5, .int .i64 s), (6, .int .i64 z), (7, .int .i64 l), (8, .slice (some ⟨bj, 0, none⟩) m ((n : Int) + t).toNat), (9, .int .i64 k)] [(1, ⟨bj, ((n : Int) + t).toNat, (n : Int) + t, ints .u8 g⟩)]
            refine C_seq ?_
            refine C_seq ?_
            refine C_region ?_
            refine V_w0.q (QY_move rfl) rfl ?_
            refine V_w0.q (QY_move rfl) rfl ?_
            refine V_w0.q (QY_len sl22 rfl) rfl ?_
            refine W_lss V_w0 rfl rfl rfl (fun h82 => ?_) (fun h82 => ?_)
            ·
              refine V_nil (X_next ?_)
              refine C_true rfl ?_
              refine C_skip (X_next ?_)
              refine C_seq ?_
              refine C_block ?_
              refine C_region ?_
              refine V_w0.q (QY_move rfl) rfl ?_
              refine V_w0.q (QY_move rfl) rfl ?_
              refine V_w0.q (QY_move rfl) rfl ?_
              refine W_elem V_w0 rfl rfl (hD.rd) (by omega) (by omega) sl22 lf5 rfl rfl (fun _ => ?_)
              refine V_appC (q := 1) (parts := [(0, .tmp 89)]) (vs := [(0, .int .u8 (d k))]) (us := [.int .u8 (d k)]) mk22 (fun a hf => by
                simp only [List.map_cons, List.map_nil]
                rw [hf.eval (x := .tmp 89) rfl] <;> rfl) (fun w => bs1 w _ rfl) rfl (by simp [Value.oneCell']) (by decide) rfl (fun _ => rfl) (by omega) (by omega) rfl rfl lay_i1 (fun _ => ?_)
              refine V_w0.q (QY_assign rfl) rfl ?_
              refine V_nil (X_block (X_next ?_))
              refine C_region ?_
              refine V_w0.q (QY_move rfl) rfl ?_
              refine V_w0.q (QY_arith rfl rfl rfl ⟨by omega, by omega⟩) rfl ?_
              refine V_w0.q (QY_assign rfl) rfl ?_
              refine V_nil (X_then ?_)
              refine X_round (k + 1, m + 1, upd g ((m : Nat) : Int) (d k)) ?_ ?_ ?_ ?_
              · exact ⟨by omega, by omega, by omega, by rw [hm9]; exact upd_copy hg⟩
              · show ((n : Int) - (k + 1)).toNat < ((n : Int) - k).toNat
                omega
              · exact ⟨rfl, rfl, rfl, rfl, rfl, rfl, rfl, trivial⟩
              · exact ⟨rfl, trivial⟩
            ·
              obtain rfl : k = (n : Int) := by omega
              refine V_nil (X_next ?_)
              refine C_false rfl ?_
              refine C_exit (X_then_exit (X_then_exit (X_block_exit (X_next ?_))))
              refine C_seq ?_
              refine C_seq ?_
              refine C_region ?_
              refine V_w0.q (QY_assign rfl) rfl ?_
              refine V_nil (X_next ?_)
              refine C_block ?_
              refine C_loops (T := Int × Nat × (Int → Int)) (fun (zz9 : Int × Nat × (Int → Int)) => match zz9 with | (k, m1, g1) => [(0, .slice aD n n), (1, .slice aT t t), (5, .int .i64 s), (6, .int .i64 z), (7, .int .i64 l), (8, .slice (some ⟨bj, 0, none⟩) m1 ((n : Int) + t).toNat), (10, .int .i64 k)]) (fun (zz9 : Int × Nat × (Int → Int)) => match zz9 with | (k, m1, g1) => [(1, ⟨bj, ((n : Int) + t).toNat, (n : Int) + t, ints .u8 g1⟩)]) (fun (zz9 : Int × Nat × (Int → Int)) => match zz9 with | (k, m1, g1) => 0 ≤ k ∧ k ≤ t ∧ (m1 : Int) = n + k ∧ (∀ i, 0 ≤ i → i < (n : Int) → g1 i = d i) ∧ ∀ i, 0 ≤ i → i < k → g1 (n + i) = e i) (fun (zz9 : Int × Nat × (Int → Int)) => match zz9 with | (k, m1, g1) => ((t : Int) - k).toNat) (0, m, g) ?_ ?_ ?_ ?_
              · exact ⟨by omega, by omega, by omega, hg, fun i a b => by omega⟩
              · exact ⟨rfl, rfl, rfl, rfl, rfl, rfl, rfl, trivial⟩
              · exact ⟨rfl, trivial⟩
              rintro ⟨k, m1, g1⟩ ⟨hk0, hk1, hm9, hgd, hge⟩
              show C _ _ _ _ _ _ [(0, .slice aD n n), (1, .slice aT t t), (5, .int .i64 s), (6, .int .i64 z), (7, .int .i64 l), (8, .slice (some ⟨bj, 0, none⟩) m1 ((n : Int) + t).toNat), (10, .int .i64 k)] [(1, ⟨bj, ((n : Int) + t).toNat, (n : Int) + t, ints .u8 g1⟩)]
              refine C_seq ?_
              refine C_seq ?_
              refine C_region ?_
              refine V_w0.q (QY_move rfl) rfl ?_
              refine V_w0.q (QY_move rfl) rfl ?_
              refine V_w0.q (QY_len sl22 rfl) rfl ?_
              refine W_lss V_w0 rfl rfl rfl (fun h95 => ?_) (fun h95 => ?_)
              ·
                refine V_nil (X_next ?_)
                refine C_true rfl ?_
                refine C_skip (X_next ?_)
                refine C_seq ?_
                refine C_block ?_
                refine C_region ?_
                refine V_w0.q (QY_move rfl) rfl ?_
                refine V_w0.q (QY_move rfl) rfl ?_
                refine V_w0.q (QY_move rfl) rfl ?_
                refine W_elem V_w0 rfl rfl (hT.rd) (by omega) (by omega) sl22 lf5 rfl rfl (fun _ => ?_)
                refine V_appC (q := 1) (parts := [(0, .tmp 102)]) (vs := [(0, .int .u8 (e k))]) (us := [.int .u8 (e k)]) mk22 (fun a hf => by
                  simp only [List.map_cons, List.map_nil]
                  rw [hf.eval (x := .tmp 102) rfl] <;> rfl) (fun w => bs1 w _ rfl) rfl (by simp [Value.oneCell']) (by decide) rfl (fun _ => rfl) (by omega) (by omega) rfl rfl lay_i1 (fun _ => ?_)
                refine V_w0.q (QY_assign rfl) rfl ?_
                refine V_nil (X_block (X_next ?_))
                refine C_region ?_
                refine V_w0.q (QY_move rfl) rfl ?_
                refine V_w0.q (QY_arith rfl rfl rfl ⟨by omega, by omega⟩) rfl ?_
                refine V_w0.q (QY_assign rfl) rfl ?_
                refine V_nil (X_then ?_)
                refine X_round (k + 1, m1 + 1, upd g1 ((m1 : Nat) : Int) (e k)) ?_ ?_ ?_ ?_
                · refine ⟨by omega, by omega, by omega, fun i a b => ?_, fun i a b => ?_⟩
                  · rw [upd_other _ _ _ (by omega)]; exact hgd i a b
                  · by_cases c : i = k
                    · subst c; rw [show (n : Int) + i = ((m1 : Nat) : Int) from by omega, upd_same]
                    · rw [upd_other _ _ _ (by omega)]; exact hge i a (by omega)
                · show ((t : Int) - (k + 1)).toNat < ((t : Int) - k).toNat
                  omega
                · exact ⟨rfl, rfl, rfl, rfl, rfl, rfl, rfl, trivial⟩
                · exact ⟨rfl, trivial⟩
              ·
                obtain rfl : k = (t : Int) := by omega
                obtain rfl : m1 = n + t := by omega
                have hz3 : 3 ≤ (n : Int) ∨ (uo n d).2.1 = 2 := by rw [← hu]; dsimp only; omega
                have hgb : ∀ i, 0 ≤ i → i < ((n + t : Nat) : Int) → 0 ≤ g1 i ∧ g1 i ≤ 255 := fun i a b => by
                  by_cases c : i < (n : Int)
                  · rw [hgd i a c]; exact hd i a c
                  · have h1 := hge (i - n) (by omega) (by omega)
                    rw [show (n : Int) + (i - n) = i from by omega] at h1
                    rw [h1]; exact he (i - n) (by omega) (by omega)
                refine V_nil (X_next ?_)
                refine C_false rfl ?_
                refine C_exit (X_then_exit (X_then_exit (X_block_exit (X_next ?_))))
                refine C_seq ?_
                refine C_region ?_
                refine V_w0.q (QY_move rfl) rfl ?_
                refine V_call cb17 rfl (T := Int × Int × Int) (Φ := fun y => y = uo ((n + t : Nat) : Int) g1) (val := fun y => .tuple [.int .i64 y.1, .int .i64 y.2.1, .int .i64 y.2.2].toArray) (H' := fun _ => [(1, ⟨bj, ((n : Int) + t).toNat, (n : Int) + t, ints .u8 g1⟩)]) (fun w9 hm => (zu17 w9 _ _ _ g1 ((Rd_own (q := 1) rfl (by omega)).at hm) (by omega) (fun i a b => hgb i a b)).mono fun e w2 ⟨y, h1, he, hM⟩ => ⟨y, h1, he, hm.join0 hM⟩) rfl ?_
                rintro ⟨s2, z2, l2⟩ hu2
                rw [uo_same (n := (n : Int)) (d := d) (by omega) hgd hz3, ← hu] at hu2
                simp only [Prod.mk.injEq] at hu2
                dsimp only
                refine V_w0.q (QY_move rfl) rfl ?_
                refine V_w0.q (QY_extract rfl rfl) rfl ?_
                refine V_w0.q (QY_extract rfl rfl) rfl ?_
                refine V_w0.q (QY_extract rfl rfl) rfl ?_
                refine V_w0.q (QY_assign rfl) rfl ?_
                refine V_w0.q (QY_assign rfl) rfl ?_
                refine V_w0.q (QY_assign rfl) rfl ?_
                refine V_nil (X_next ?_)
                refine C_seq ?_
                refine C_region ?_
                refine V_w0.q (QY_move rfl) rfl ?_
                refine V_w0.q (QY_move rfl) rfl ?_
                refine W_neq V_w0 rfl rfl rfl (fun h113 => False.elim (h113 hu2.1)) (fun h113 => ?_)
                refine V_w0.q (QY_move rfl) rfl ?_
                refine V_walk.yes rfl rfl ?_
                refine V_w0.q (QY_move rfl) rfl ?_
                refine V_walk.yes rfl rfl ?_
                refine V_w0.q (QY_move rfl) rfl ?_
                refine V_walk.yes rfl rfl ?_
                refine W_neq V_w0 rfl rfl rfl (fun h117 => False.elim (h117 hu2.2.1)) (fun h117 => ?_)
                refine V_w0.q (QY_pick_false rfl rfl) rfl ?_
                refine V_w0.q (QY_move rfl) rfl ?_
                refine V_walk.yes rfl rfl ?_
                refine V_w0.q (QY_move rfl) rfl ?_
                refine V_walk.yes rfl rfl ?_
                refine V_w0.q (QY_move rfl) rfl ?_
                refine V_walk.yes rfl rfl ?_
                refine W_neq V_w0 rfl rfl rfl (fun h122 => False.elim (h122 hu2.2.2)) (fun h122 => ?_)
                refine V_w0.q (QY_pick_false rfl rfl) rfl ?_
                refine V_nil (X_next ?_)
                refine C_false rfl ?_
                refine C_skip (X_next ?_)
                refine C_seq ?_
                refine C_region ?_
                refine V_w0.q (QY_assign rfl) rfl ?_
                refine V_nil (X_next ?_)
                refine C_ret (?_)
                refine X_ret1 rfl rfl (fun w hm => ?_)
                exact ⟨rfl, (hmw.join0 (hm.sub trivial)).below⟩
          ·
            refine V_w0.q (QY_move rfl) rfl ?_
            refine V_walk.yes rfl rfl ?_
            refine V_w0.q (QY_move rfl) rfl ?_
            refine V_walk.yes rfl rfl ?_
            refine W_eql V_w0 rfl rfl rfl (fun h71 => False.elim (by omega)) (fun h71 => ?_)
            refine V_w0.q (QY_pick_false rfl rfl) rfl ?_
            refine V_nil (X_next ?_)
            refine C_false rfl ?_
            refine C_skip (X_next ?_)
            refine C_seq ?_
            refine C_region ?_
            refine V_w0.q (QY_assign rfl) rfl ?_
            refine V_nil (X_next ?_)
            refine C_ret (?_)
            refine X_ret1 rfl rfl (fun w hm => ?_)
            exact ⟨rfl, (hmw.join0 (hm.sub trivial)).below⟩
        ·
          refine V_w0.q (QY_move rfl) rfl ?_
          refine V_walk.yes rfl rfl ?_
          refine V_w0.q (QY_move rfl) rfl ?_
          refine V_walk.yes rfl rfl ?_
          refine W_eql V_w0 rfl rfl rfl (fun h38 => ?_) (fun h38 => False.elim (h38 (by omega)))
          refine V_w0.q (QY_pick_false rfl rfl) rfl ?_
          refine V_w0.q (QY_not rfl) rfl ?_
          refine V_w0.q (QY_move rfl) rfl ?_
          refine V_walk.yes rfl rfl ?_
          refine V_w0.q (QY_move rfl) rfl ?_
          refine V_walk.yes rfl rfl ?_
          refine W_lss V_w0 rfl rfl rfl (fun h43 => False.elim (by omega)) (fun h43 => ?_)
          refine V_w0.q (QY_pick_false rfl rfl) rfl ?_
          refine V_w0.q (QY_move rfl) rfl ?_
          refine V_walk.yes rfl rfl ?_
          refine V_w0.q (QY_move rfl) rfl ?_
          refine V_walk.yes rfl rfl ?_
          refine V_w0.q (QY_move rfl) rfl ?_
          refine V_walk.yes rfl rfl ?_
          refine W_geq V_w0 rfl rfl rfl (fun h48 => False.elim (by omega)) (fun h48 => ?_)
          refine V_w0.q (QY_pick_false rfl rfl) rfl ?_
          refine V_w0.q (QY_move rfl) rfl ?_
          refine V_walk.yes rfl rfl ?_
          refine V_w0.q (QY_move rfl) rfl ?_
          refine V_walk.yes rfl rfl ?_
          refine W_lss V_w0 rfl rfl rfl (fun h52 => False.elim (by omega)) (fun h52 => ?_)
          refine V_w0.q (QY_pick_false rfl rfl) rfl ?_
          refine V_w0.q (QY_move rfl) rfl ?_
          refine V_walk.yes rfl rfl ?_
          refine V_w0.q (QY_move rfl) rfl ?_
          refine V_walk.yes rfl rfl ?_
          refine V_w0.q (QY_move rfl) rfl ?_
          refine V_walk.yes rfl rfl ?_
          refine V_w0.q (QY_len sl22 rfl) rfl ?_
          refine V_walk.yes rfl rfl ?_
          refine W_gtr V_w0 rfl rfl rfl (fun h58 => False.elim (by omega)) (fun h58 => ?_)
          refine V_w0.q (QY_pick_false rfl rfl) rfl ?_
          refine V_nil (X_next ?_)
          refine C_false rfl ?_
          refine C_skip (X_next ?_)
          refine C_seq ?_
          refine C_seq ?_
          refine C_region ?_
          refine V_w0.q (QY_move rfl) rfl ?_
          refine W_eql V_w0 rfl rfl rfl (fun h61 => ?_) (fun h61 => False.elim (h61 (by omega)))
          refine V_w0.q (QY_move rfl) rfl ?_
          refine V_walk.yes rfl rfl ?_
          refine V_w0.q (QY_move rfl) rfl ?_
          refine V_walk.yes rfl rfl ?_
          refine W_neq V_w0 rfl rfl rfl (fun h64 => False.elim (h64 (by omega))) (fun h64 => ?_)
          refine V_w0.q (QY_pick_true rfl rfl) rfl ?_
          refine V_nil (X_next ?_)
          refine C_false rfl ?_
          refine C_skip (X_next ?_)
          refine C_seq ?_
          refine C_seq ?_
          refine C_region ?_
          refine V_w0.q (QY_move rfl) rfl ?_
          refine V_w0.q (QY_len sl22 rfl) rfl ?_
          refine W_geq V_w0 rfl rfl rfl (fun h68 => ?_) (fun h68 => ?_)
          ·
            refine V_w0.q (QY_move rfl) rfl ?_
            refine V_walk.no rfl rfl rfl ?_
            refine V_walk.no rfl rfl rfl ?_
            refine V_w0.q (QY_pick_true rfl rfl) rfl ?_
            refine V_nil (X_next ?_)
            refine C_true rfl ?_
            refine C_seq ?_
            refine C_region ?_
            refine V_w0.q (QY_move rfl) rfl ?_
            refine V_w0.q (QY_len sl22 rfl) rfl ?_
            refine V_w0.q (QY_move rfl) rfl ?_
            refine V_w0.q (QY_len sl22 rfl) rfl ?_
            refine V_w0.q (QY_arith rfl rfl rfl ⟨by omega, by omega⟩) rfl ?_
            refine V_make 1 mk22 rfl rfl rfl (by omega) (by omega) (by omega) (by omega) rfl (fun bj => ?_)
            refine V_w0.q (QY_assign rfl) rfl ?_
            refine V_nil (X_next ?_)
            refine C_seq ?_
            refine C_seq ?_
            refine C_region ?_
            refine V_w0.q (QY_assign rfl) rfl ?_
            refine V_nil (X_next ?_)
            refine C_block ?_
            refine C_loops (T := Int × Nat × (Int → Int)) (fun (zz9 : Int × Nat × (Int → Int)) => match zz9 with | (k, m, g) => [(0, .slice aD n n), (1, .slice aT t t), (5, .int .i64 s), (6, .int .i64 z), (7, .int .i64 l), (8, .slice (some ⟨bj, 0, none⟩) m ((n : Int) + t).toNat), (9, .int .i64 k)]) (fun (zz9 : Int × Nat × (Int → Int)) => match zz9 with | (k, m, g) => [(1, ⟨bj, ((n : Int) + t).toNat, (n : Int) + t, ints .u8 g⟩)]) (fun (zz9 : Int × Nat × (Int → Int)) => match zz9 with | (k, m, g) => 0 ≤ k ∧ k ≤ n ∧ (m : Int) = k ∧ ∀ i, 0 ≤ i → i < k → g i = d i) (fun (zz9 : Int × Nat × (Int → Int)) => match zz9 with | (k, m, g) => ((n : Int) - k).toNat) (0, 0, fun _ => 0) ?_ ?_ ?_ ?_
            · exact ⟨by omega, by omega, by omega, fun i a b => by omega⟩
            · exact ⟨rfl, rfl, rfl, rfl, rfl, rfl, rfl, trivial⟩
            · exact ⟨rfl, trivial⟩
            rintro ⟨k, m, g⟩ ⟨hk0, hk1, hm9, hg⟩
            show C _ _ _ _ _ _ [(0, .slice aD n n), (1, .slice aT t t), (5, .int .i64 s), (6, .int .i64 z), (7, .int .i64 l), (8, .slice (some ⟨bj, 0, none⟩) m ((n : Int) + t).toNat), (9, .int .i64 k)] [(1, ⟨bj, ((n : Int) + t).toNat, (n : Int) + t, ints .u8 g⟩)]
            refine C_seq ?_
            refine C_seq ?_
            refine C_region ?_
            refine V_w0.q (QY_move rfl) rfl ?_
            refine V_w0.q (QY_move rfl) rfl ?_
            refine V_w0.q (QY_len sl22 rfl) rfl ?_
            refine W_lss V_w0 rfl rfl rfl (fun h82 => ?_) (fun h82 => ?_)
            ·
              refine V_nil (X_next ?_)
              refine C_true rfl ?_
              refine C_skip (X_next ?_)
              refine C_seq ?_
              refine C_block ?_
              refine C_region ?_
              refine V_w0.q (QY_move rfl) rfl ?_
              refine V_w0.q (QY_move rfl) rfl ?_
              refine V_w0.q (QY_move rfl) rfl ?_
              refine W_elem V_w0 rfl rfl (hD.rd) (by omega) (by omega) sl22 lf5 rfl rfl (fun _ => ?_)
              refine V_appC (q := 1) (parts := [(0, .tmp 89)]) (vs := [(0, .int .u8 (d k))]) (us := [.int .u8 (d k)]) mk22 (fun a hf => by
                simp only [List.map_cons, List.map_nil]
                rw [hf.eval (x := .tmp 89) rfl] <;> rfl) (fun w => bs1 w _ rfl) rfl (by simp [Value.oneCell']) (by decide) rfl (fun _ => rfl) (by omega) (by omega) rfl rfl lay_i1 (fun _ => ?_)
              refine V_w0.q (QY_assign rfl) rfl ?_
              refine V_nil (X_block (X_next ?_))
              refine C_region ?_
              refine V_w0.q (QY_move rfl) rfl ?_
              refine V_w0.q (QY_arith rfl rfl rfl ⟨by omega, by omega⟩) rfl ?_
              refine V_w0.q (QY_assign rfl) rfl ?_
              refine V_nil (X_then ?_)
              refine X_round (k + 1, m + 1, upd g ((m : Nat) : Int) (d k)) ?_ ?_ ?_ ?_
              · exact ⟨by omega, by omega, by omega, by rw [hm9]; exact upd_copy hg⟩
              · show ((n : Int) - (k + 1)).toNat < ((n : Int) - k).toNat
                omega
              · exact ⟨rfl, rfl, rfl, rfl, rfl, rfl, rfl, trivial⟩
              · exact ⟨rfl, trivial⟩
            ·
              obtain rfl : k = (n : Int) := by omega
              refine V_nil (X_next ?_)
              refine C_false rfl ?_
              refine C_exit (X_then_exit (X_then_exit (X_block_exit (X_next ?_))))
              refine C_seq ?_
              refine C_seq ?_
              refine C_region ?_
              refine V_w0.q (QY_assign rfl) rfl ?_
              refine V_nil (X_next ?_)
              refine C_block ?_
              refine C_loops (T := Int × Nat × (Int → Int)) (fun (zz9 : Int × Nat × (Int → Int)) => match zz9 with | (k, m1, g1) => [(0, .slice aD n n), (1, .slice aT t t), (5, .int .i64 s), (6, .int .i64 z), (7, .int .i64 l), (8, .slice (some ⟨bj, 0, none⟩) m1 ((n : Int) + t).toNat), (10, .int .i64 k)]) (fun (zz9 : Int × Nat × (Int → Int)) => match zz9 with | (k, m1, g1) => [(1, ⟨bj, ((n : Int) + t).toNat, (n : Int) + t, ints .u8 g1⟩)]) (fun (zz9 : Int × Nat × (Int → Int)) => match zz9 with | (k, m1, g1) => 0 ≤ k ∧ k ≤ t ∧ (m1 : Int) = n + k ∧ (∀ i, 0 ≤ i → i < (n : Int) → g1 i = d i) ∧ ∀ i, 0 ≤ i → i < k → g1 (n + i) = e i) (fun (zz9 : Int × Nat × (Int → Int)) => match zz9 with | (k, m1, g1) => ((t : Int) - k).toNat) (0, m, g) ?_ ?_ ?_ ?_
              · exact ⟨by omega, by omega, by omega, hg, fun i a b => by omega⟩
              · exact ⟨rfl, rfl, rfl, rfl, rfl, rfl, rfl, trivial⟩
              · exact ⟨rfl, trivial⟩
              rintro ⟨k, m1, g1⟩ ⟨hk0, hk1, hm9, hgd, hge⟩
              show C _ _ _ _ _ _ [(0, .slice aD n n), (1, .slice aT t t), (5, .int .i64 s), (6, .int .i64 z), (7, .int .i64 l), (8, .slice (some ⟨bj, 0, none⟩) m1 ((n : Int) + t).toNat), (10, .int .i64 k)] [(1, ⟨bj, ((n : Int) + t).toNat, (n : Int) + t, ints .u8 g1⟩)]
              refine C_seq ?_
              refine C_seq ?_
              refine C_region ?_
              refine V_w0.q (QY_move rfl) rfl ?_
              refine V_w0.q (QY_move rfl) rfl ?_
              refine V_w0.q (QY_len sl22 rfl) rfl ?_
              refine W_lss V_w0 rfl rfl rfl (fun h95 => ?_) (fun h95 => ?_)
              ·
                refine V_nil (X_next ?_)
                refine C_true rfl ?_
                refine C_skip (X_next ?_)
                refine C_seq ?_
                refine C_block ?_
                refine C_region ?_
                refine V_w0.q (QY_move rfl) rfl ?_
                refine V_w0.q (QY_move rfl) rfl ?_
                refine V_w0.q (QY_move rfl) rfl ?_
                refine W_elem V_w0 rfl rfl (hT.rd) (by omega) (by omega) sl22 lf5 rfl rfl (fun _ => ?_)
                refine V_appC (q := 1) (parts := [(0, .tmp 102)]) (vs := [(0, .int .u8 (e k))]) (us := [.int .u8 (e k)]) mk22 (fun a hf => by
                  simp only [List.map_cons, List.map_nil]
                  rw [hf.eval (x := .tmp 102) rfl] <;> rfl) (fun w => bs1 w _ rfl) rfl (by simp [Value.oneCell']) (by decide) rfl (fun _ => rfl) (by omega) (by omega) rfl rfl lay_i1 (fun _ => ?_)
                refine V_w0.q (QY_assign rfl) rfl ?_
                refine V_nil (X_block (X_next ?_))
                refine C_region ?_
                refine V_w0.q (QY_move rfl) rfl ?_
                refine V_w0.q (QY_arith rfl rfl rfl ⟨by omega, by omega⟩) rfl ?_
                refine V_w0.q (QY_assign rfl) rfl ?_
                refine V_nil (X_then ?_)
                refine X_round (k + 1, m1 + 1, upd g1 ((m1 : Nat) : Int) (e k)) ?_ ?_ ?_ ?_
                · refine ⟨by omega, by omega, by omega, fun i a b => ?_, fun i a b => ?_⟩
                  · rw [upd_other _ _ _ (by omega)]; exact hgd i a b
                  · by_cases c : i = k
                    · subst c; rw [show (n : Int) + i = ((m1 : Nat) : Int) from by omega, upd_same]
                    · rw [upd_other _ _ _ (by omega)]; exact hge i a (by omega)
                · show ((t : Int) - (k + 1)).toNat < ((t : Int) - k).toNat
                  omega
                · exact ⟨rfl, rfl, rfl, rfl, rfl, rfl, rfl, trivial⟩
                · exact ⟨rfl, trivial⟩
              ·
                obtain rfl : k = (t : Int) := by omega
                obtain rfl : m1 = n + t := by omega
                have hz3 : 3 ≤ (n : Int) ∨ (uo n d).2.1 = 2 := by rw [← hu]; dsimp only; omega
                have hgb : ∀ i, 0 ≤ i → i < ((n + t : Nat) : Int) → 0 ≤ g1 i ∧ g1 i ≤ 255 := fun i a b => by
                  by_cases c : i < (n : Int)
                  · rw [hgd i a c]; exact hd i a c
                  · have h1 := hge (i - n) (by omega) (by omega)
                    rw [show (n : Int) + (i - n) = i from by omega] at h1
                    rw [h1]; exact he (i - n) (by omega) (by omega)
                refine V_nil (X_next ?_)
                refine C_false rfl ?_
                refine C_exit (X_then_exit (X_then_exit (X_block_exit (X_next ?_))))
                refine C_seq ?_
                refine C_region ?_
                refine V_w0.q (QY_move rfl) rfl ?_
                refine V_call cb17 rfl (T := Int × Int × Int) (Φ := fun y => y = uo ((n + t : Nat) : Int) g1) (val := fun y => .tuple [.int .i64 y.1, .int .i64 y.2.1, .int .i64 y.2.2].toArray) (H' := fun _ => [(1, ⟨bj, ((n : Int) + t).toNat, (n : Int) + t, ints .u8 g1⟩)]) (fun w9 hm => (zu17 w9 _ _ _ g1 ((Rd_own (q := 1) rfl (by omega)).at hm) (by omega) (fun i a b => hgb i a b)).mono fun e w2 ⟨y, h1, he, hM⟩ => ⟨y, h1, he, hm.join0 hM⟩) rfl ?_
                rintro ⟨s2, z2, l2⟩ hu2
                rw [uo_same (n := (n : Int)) (d := d) (by omega) hgd hz3, ← hu] at hu2
                simp only [Prod.mk.injEq] at hu2
                dsimp only
                refine V_w0.q (QY_move rfl) rfl ?_
                refine V_w0.q (QY_extract rfl rfl) rfl ?_
                refine V_w0.q (QY_extract rfl rfl) rfl ?_
                refine V_w0.q (QY_extract rfl rfl) rfl ?_
                refine V_w0.q (QY_assign rfl) rfl ?_
                refine V_w0.q (QY_assign rfl) rfl ?_
                refine V_w0.q (QY_assign rfl) rfl ?_
                refine V_nil (X_next ?_)
                refine C_seq ?_
                refine C_region ?_
                refine V_w0.q (QY_move rfl) rfl ?_
                refine V_w0.q (QY_move rfl) rfl ?_
                refine W_neq V_w0 rfl rfl rfl (fun h113 => False.elim (h113 hu2.1)) (fun h113 => ?_)
                refine V_w0.q (QY_move rfl) rfl ?_
                refine V_walk.yes rfl rfl ?_
                refine V_w0.q (QY_move rfl) rfl ?_
                refine V_walk.yes rfl rfl ?_
                refine V_w0.q (QY_move rfl) rfl ?_
                refine V_walk.yes rfl rfl ?_
                refine W_neq V_w0 rfl rfl rfl (fun h117 => False.elim (h117 hu2.2.1)) (fun h117 => ?_)
                refine V_w0.q (QY_pick_false rfl rfl) rfl ?_
                refine V_w0.q (QY_move rfl) rfl ?_
                refine V_walk.yes rfl rfl ?_
                refine V_w0.q (QY_move rfl) rfl ?_
                refine V_walk.yes rfl rfl ?_
                refine V_w0.q (QY_move rfl) rfl ?_
                refine V_walk.yes rfl rfl ?_
                refine W_neq V_w0 rfl rfl rfl (fun h122 => False.elim (h122 hu2.2.2)) (fun h122 => ?_)
                refine V_w0.q (QY_pick_false rfl rfl) rfl ?_
                refine V_nil (X_next ?_)
                refine C_false rfl ?_
                refine C_skip (X_next ?_)
                refine C_seq ?_
                refine C_region ?_
                refine V_w0.q (QY_assign rfl) rfl ?_
                refine V_nil (X_next ?_)
                refine C_ret (?_)
                refine X_ret1 rfl rfl (fun w hm => ?_)
                exact ⟨rfl, (hmw.join0 (hm.sub trivial)).below⟩
          ·
            refine V_w0.q (QY_move rfl) rfl ?_
            refine V_walk.yes rfl rfl ?_
            refine V_w0.q (QY_move rfl) rfl ?_
            refine V_walk.yes rfl rfl ?_
            refine W_eql V_w0 rfl rfl rfl (fun h71 => ?_) (fun h71 => False.elim (h71 (by omega)))
            refine V_w0.q (QY_pick_false rfl rfl) rfl ?_
            refine V_nil (X_next ?_)
            refine C_true rfl ?_
            refine C_seq ?_
            refine C_region ?_
            refine V_w0.q (QY_move rfl) rfl ?_
            refine V_w0.q (QY_len sl22 rfl) rfl ?_
            refine V_w0.q (QY_move rfl) rfl ?_
            refine V_w0.q (QY_len sl22 rfl) rfl ?_
            refine V_w0.q (QY_arith rfl rfl rfl ⟨by omega, by omega⟩) rfl ?_
            refine V_make 1 mk22 rfl rfl rfl (by omega) (by omega) (by omega) (by omega) rfl (fun bj => ?_)
            refine V_w0.q (QY_assign rfl) rfl ?_
            refine V_nil (X_next ?_)
            refine C_seq ?_
            refine C_seq ?_
            refine C_region ?_
            refine V_w0.q (QY_assign rfl) rfl ?_
            refine V_nil (X_next ?_)
            refine C_block ?_
            refine C_loops (T := Int × Nat × (Int → Int)) (fun (zz9 : Int × Nat × (Int → Int)) => match zz9 with | (k, m, g) => [(0, .slice aD n n), (1, .slice aT t t), (5, .int .i64 s), (6, .int .i64 z), (7, .int .i64 l), (8, .slice (some ⟨bj, 0, none⟩) m ((n : Int) + t).toNat), (9, .int .i64 k)]) (fun (zz9 : Int × Nat × (Int → Int)) => match zz9 with | (k, m, g) => [(1, ⟨bj, ((n : Int) + t).toNat, (n : Int) + t, ints .u8 g⟩)]) (fun (zz9 : Int × Nat × (Int → Int)) => match zz9 with | (k, m, g) => 0 ≤ k ∧ k ≤ n ∧ (m : Int) = k ∧ ∀ i, 0 ≤ i → i < k → g i = d i) (fun (zz9 : Int × Nat × (Int → Int)) => match zz9 with | (k, m, g) => ((n : Int) - k).toNat) (0, 0, fun _ => 0) ?_ ?_ ?_ ?_
            · exact ⟨by omega, by omega, by omega, fun i a b => by omega⟩
            · exact ⟨rfl, rfl, rfl, rfl, rfl, rfl, rfl, trivial⟩
            · exact ⟨rfl, trivial⟩
            rintro ⟨k, m, g⟩ ⟨hk0, hk1, hm9, hg⟩
            show C _ _ _ _ _ _ [(0, .slice aD n n), (1, .slice aT t t), (5, .int .i64 s), (6, .int .i64 z), (7, .int .i64 l), (8, .slice (some ⟨bj, 0, none⟩) m ((n : Int) + t).toNat), (9, .int .i64 k)] [(1, ⟨bj, ((n : Int) + t).toNat, (n : Int) + t, ints .u8 g⟩)]
            refine C_seq ?_
            refine C_seq ?_
            refine C_region ?_
            refine V_w0.q (QY_move rfl) rfl ?_
            refine V_w0.q (QY_move rfl) rfl ?_
            refine V_w0.q (QY_len sl22 rfl) rfl ?_
            refine W_lss V_w0 rfl rfl rfl (fun h82 => ?_) (fun h82 => ?_)
            ·
              refine V_nil (X_next ?_)
              refine C_true rfl ?_
              refine C_skip (X_next ?_)
              refine C_seq ?_
              refine C_block ?_
              refine C_region ?_
              refine V_w0.q (QY_move rfl) rfl ?_
              refine V_w0.q (QY_move rfl) rfl ?_
              refine V_w0.q (QY_move rfl) rfl ?_
              refine W_elem V_w0 rfl rfl (hD.rd) (by omega) (by omega) sl22 lf5 rfl rfl (fun _ => ?_)
              refine V_appC (q := 1) (parts := [(0, .tmp 89)]) (vs := [(0, .int .u8 (d k))]) (us := [.int .u8 (d k)]) mk22 (fun a hf => by
                simp only [List.map_cons, List.map_nil]
                rw [hf.eval (x := .tmp 89) rfl] <;> rfl) (fun w => bs1 w _ rfl) rfl (by simp [Value.oneCell']) (by decide) rfl (fun _ => rfl) (by omega) (by omega) rfl rfl lay_i1 (fun _ => ?_)
              refine V_w0.q (QY_assign rfl) rfl ?_
              refine V_nil (X_block (X_next ?_))
              refine C_region ?_
              refine V_w0.q (QY_move rfl) rfl ?_
              refine V_w0.q (QY_arith rfl rfl rfl ⟨by omega, by omega⟩) rfl ?_
              refine V_w0.q (QY_assign rfl) rfl ?_
              refine V_nil (X_then ?_)
              refine X_round (k + 1, m + 1, upd g ((m : Nat) : Int) (d k)) ?_ ?_ ?_ ?_
              · exact ⟨by omega, by omega, by omega, by rw [hm9]; exact upd_copy hg⟩
              · show ((n : Int) - (k + 1)).toNat < ((n : Int) - k).toNat
                omega
              · exact ⟨rfl, rfl, rfl, rfl, rfl, rfl, rfl, trivial⟩
              · exact ⟨rfl, trivial⟩
            ·
              obtain rfl : k = (n : Int) := by omega
              refine V_nil (X_next ?_)
              refine C_false rfl ?_
              refine C_exit (X_then_exit (X_then_exit (X_block_exit (X_next ?_))))
              refine C_seq ?_
              refine C_seq ?_
              refine C_region ?_
              refine V_w0.q (QY_assign rfl) rfl ?_
              refine V_nil (X_next ?_)
              refine C_block ?_
              refine C_loops (T := Int × Nat × (Int → Int)) (fun (zz9 : Int × Nat × (Int → Int)) => match zz9 with | (k, m1, g1) => [(0, .slice aD n n), (1, .slice aT t t), (5, .int .i64 s), (6, .int .i64 z), (7, .int .i64 l), (8, .slice (some ⟨bj, 0, none⟩) m1 ((n : Int) + t).toNat), (10, .int .i64 k)]) (fun (zz9 : Int × Nat × (Int → Int)) => match zz9 with | (k, m1, g1) => [(1, ⟨bj, ((n : Int) + t).toNat, (n : Int) + t, ints .u8 g1⟩)]) (fun (zz9 : Int × Nat × (Int → Int)) => match zz9 with | (k, m1, g1) => 0 ≤ k ∧ k ≤ t ∧ (m1 : Int) = n + k ∧ (∀ i, 0 ≤ i → i < (n : Int) → g1 i = d i) ∧ ∀ i, 0 ≤ i → i < k → g1 (n + i) = e i) (fun (zz9 : Int × Nat × (Int → Int)) => match zz9 with | (k, m1, g1) => ((t : Int) - k).toNat) (0, m, g) ?_ ?_ ?_ ?_
              · exact ⟨by omega, by omega, by omega, hg, fun i a b => by omega⟩
              · exact ⟨rfl, rfl, rfl, rfl, rfl, rfl, rfl, trivial⟩
              · exact ⟨rfl, trivial⟩
              rintro ⟨k, m1, g1⟩ ⟨hk0, hk1, hm9, hgd, hge⟩
              show C _ _ _ _ _ _ [(0, .slice aD n n), (1, .slice aT t t), (5, .int .i64 s), (6, .int .i64 z), (7, .int .i64 l), (8, .slice (some ⟨bj, 0, none⟩) m1 ((n : Int) + t).toNat), (10, .int .i64 k)] [(1, ⟨bj, ((n : Int) + t).toNat, (n : Int) + t, ints .u8 g1⟩)]
              refine C_seq ?_
              refine C_seq ?_
              refine C_region ?_
              refine V_w0.q (QY_move rfl) rfl ?_
              refine V_w0.q (QY_move rfl) rfl ?_
              refine V_w0.q (QY_len sl22 rfl) rfl ?_
              refine W_lss V_w0 rfl rfl rfl (fun h95 => ?_) (fun h95 => ?_)
              ·
                refine V_nil (X_next ?_)
                refine C_true rfl ?_
                refine C_skip (X_next ?_)
                refine C_seq ?_
                refine C_block ?_
                refine C_region ?_
                refine V_w0.q (QY_move rfl) rfl ?_
                refine V_w0.q (QY_move rfl) rfl ?_
                refine V_w0.q (QY_move rfl) rfl ?_
                refine W_elem V_w0 rfl rfl (hT.rd) (by omega) (by omega) sl22 lf5 rfl rfl (fun _ => ?_)
                refine V_appC (q := 1) (parts := [(0, .tmp 102)]) (vs := [(0, .int .u8 (e k))]) (us := [.int .u8 (e k)]) mk22 (fun a hf => by
                  simp only [List.map_cons, List.map_nil]
                  rw [hf.eval (x := .tmp 102) rfl] <;> rfl) (fun w => bs1 w _ rfl) rfl (by simp [Value.oneCell']) (by decide) rfl (fun _ => rfl) (by omega) (by omega) rfl rfl lay_i1 (fun _ => ?_)
                refine V_w0.q (QY_assign rfl) rfl ?_
                refine V_nil (X_block (X_next ?_))
                refine C_region ?_
                refine V_w0.q (QY_move rfl) rfl ?_
                refine V_w0.q (QY_arith rfl rfl rfl ⟨by omega, by omega⟩) rfl ?_
                refine V_w0.q (QY_assign rfl) rfl ?_
                refine V_nil (X_then ?_)
                refine X_round (k + 1, m1 + 1, upd g1 ((m1 : Nat) : Int) (e k)) ?_ ?_ ?_ ?_
                · refine ⟨by omega, by omega, by omega, fun i a b => ?_, fun i a b => ?_⟩
                  · rw [upd_other _ _ _ (by omega)]; exact hgd i a b
                  · by_cases c : i = k
                    · subst c; rw [show (n : Int) + i = ((m1 : Nat) : Int) from by omega, upd_same]
                    · rw [upd_other _ _ _ (by omega)]; exact hge i a (by omega)
                · show ((t : Int) - (k + 1)).toNat < ((t : Int) - k).toNat
                  omega
                · exact ⟨rfl, rfl, rfl, rfl, rfl, rfl, rfl, trivial⟩
                · exact ⟨rfl, trivial⟩
              ·
                obtain rfl : k = (t : Int) := by omega
                obtain rfl : m1 = n + t := by omega
                have hz3 : 3 ≤ (n : Int) ∨ (uo n d).2.1 = 2 := by rw [← hu]; dsimp only; omega
                have hgb : ∀ i, 0 ≤ i → i < ((n + t : Nat) : Int) → 0 ≤ g1 i ∧ g1 i ≤ 255 := fun i a b => by
                  by_cases c : i < (n : Int)
                  · rw [hgd i a c]; exact hd i a c
                  · have h1 := hge (i - n) (by omega) (by omega)
                    rw [show (n : Int) + (i - n) = i from by omega] at h1
                    rw [h1]; exact he (i - n) (by omega) (by omega)
                refine V_nil (X_next ?_)
                refine C_false rfl ?_
                refine C_exit (X_then_exit (X_then_exit (X_block_exit (X_next ?_))))
                refine C_seq ?_
                refine C_region ?_
                refine V_w0.q (QY_move rfl) rfl ?_
                refine V_call cb17 rfl (T := Int × Int × Int) (Φ := fun y => y = uo ((n + t : Nat) : Int) g1) (val := fun y => .tuple [.int .i64 y.1, .int .i64 y.2.1, .int .i64 y.2.2].toArray) (H' := fun _ => [(1, ⟨bj, ((n : Int) + t).toNat, (n : Int) + t, ints .u8 g1⟩)]) (fun w9 hm => (zu17 w9 _ _ _ g1 ((Rd_own (q := 1) rfl (by omega)).at hm) (by omega) (fun i a b => hgb i a b)).mono fun e w2 ⟨y, h1, he, hM⟩ => ⟨y, h1, he, hm.join0 hM⟩) rfl ?_
                rintro ⟨s2, z2, l2⟩ hu2
                rw [uo_same (n := (n : Int)) (d := d) (by omega) hgd hz3, ← hu] at hu2
                simp only [Prod.mk.injEq] at hu2
                dsimp only
                refine V_w0.q (QY_move rfl) rfl ?_
                refine V_w0.q (QY_extract rfl rfl) rfl ?_
                refine V_w0.q (QY_extract rfl rfl) rfl ?_
                refine V_w0.q (QY_extract rfl rfl) rfl ?_
                refine V_w0.q (QY_assign rfl) rfl ?_
                refine V_w0.q (QY_assign rfl) rfl ?_
                refine V_w0.q (QY_assign rfl) rfl ?_
                refine V_nil (X_next ?_)
                refine C_seq ?_
                refine C_region ?_
                refine V_w0.q (QY_move rfl) rfl ?_
                refine V_w0.q (QY_move rfl) rfl ?_
                refine W_neq V_w0 rfl rfl rfl (fun h113 => False.elim (h113 hu2.1)) (fun h113 => ?_)
                refine V_w0.q (QY_move rfl) rfl ?_
                refine V_walk.yes rfl rfl ?_
                refine V_w0.q (QY_move rfl) rfl ?_
                refine V_walk.yes rfl rfl ?_
                refine V_w0.q (QY_move rfl) rfl ?_
                refine V_walk.yes rfl rfl ?_
                refine W_neq V_w0 rfl rfl rfl (fun h117 => False.elim (h117 hu2.2.1)) (fun h117 => ?_)
                refine V_w0.q (QY_pick_false rfl rfl) rfl ?_
                refine V_w0.q (QY_move rfl) rfl ?_
                refine V_walk.yes rfl rfl ?_
                refine V_w0.q (QY_move rfl) rfl ?_
                refine V_walk.yes rfl rfl ?_
                refine V_w0.q (QY_move rfl) rfl ?_
                refine V_walk.yes rfl rfl ?_
                refine W_neq V_w0 rfl rfl rfl (fun h122 => False.elim (h122 hu2.2.2)) (fun h122 => ?_)
                refine V_w0.q (QY_pick_false rfl rfl) rfl ?_
                refine V_nil (X_next ?_)
                refine C_false rfl ?_
                refine C_skip (X_next ?_)
                refine C_seq ?_
                refine C_region ?_
                refine V_w0.q (QY_assign rfl) rfl ?_
                refine V_nil (X_next ?_)
                refine C_ret (?_)
                refine X_ret1 rfl rfl (fun w hm => ?_)
                exact ⟨rfl, (hmw.join0 (hm.sub trivial)).below⟩
  ·
    refine V_w0.q (QY_not rfl) rfl ?_
    refine V_nil (X_next ?_)
    refine C_true rfl ?_
    refine C_seq ?_
    refine C_region ?_
    refine V_w0.q (QY_assign rfl) rfl ?_
    refine V_nil (X_next ?_)
    refine C_ret (X_then_ret (?_))
    refine X_ret1 rfl rfl (fun w hm => ?_)
    exact ⟨rfl, (hmw.join0 (hm.sub trivial)).below⟩

end Go.Proofs.Qxb6001236a
