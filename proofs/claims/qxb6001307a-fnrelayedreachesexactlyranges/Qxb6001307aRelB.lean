/-
  OWN WORK (the rule applications laid by a program of our own, wip/gen). cloneNested, relayCount, adjTotalOK, leafList, adjSorted.
-/
import Derived.Test.Qxb6001307aRelA
import Derived.Test.Qxb6001307aClones
namespace Go.Proofs.Qxb6001307a
open Go.RowKit
set_option linter.unusedSimpArgs false
set_option linter.unusedVariables false

theorem nested24 (w : World) (a0 : Option Addr) (n cap : Nat) (A : Int → Option Addr) (L Cq : Int → Nat) (Z : Int → Int → Int) (hr : RdR w a0 n cap A L Cq Z) (hn : (n : Int) ≤ 1048576) (hb : ∀ i, 0 ≤ i → i < (n : Int) → (L i : Int) ≤ 1048576) :
    Calls Try.prog 24 #[.slice a0 n cap] w fun e w' => ∃ y : Option Addr × (Int → Option Addr), RdR w' y.1 n n y.2 L L Z ∧ e = .returned (.slice y.1 n n) ∧ Mem (Old w) w [] w' := by
  refine enter (N := 25) (vs := [.slice a0 n cap]) Try.func24 rfl Try.ntmps24 rfl ?_ w (Mem.start w)
  refine C_seq ?_
  refine C_region ?_
  refine V_w0.q (QY_assign rfl) rfl ?_
  refine V_nil (X_next ?_)
  refine C_seq ?_
  refine C_seq ?_
  refine C_region ?_
  refine V_w0.q (QY_move rfl) rfl ?_
  refine W_isnil V_w0 Try.underlying42 rfl rfl (fun h6 => ?_) (fun h6 => ?_)
  ·
    obtain rfl := hr.1.nil h6
    refine V_nil (X_next ?_)
    refine C_true rfl ?_
    refine C_seq ?_
    refine C_region ?_
    refine V_w0.q (QY_assign rfl) rfl ?_
    refine V_nil (X_next ?_)
    refine C_ret (X_then_ret (?_))
    refine X_ret1 rfl rfl (fun w hm => ?_)
    exact ⟨⟨none, fun _ => none⟩, ⟨⟨_, _, rfl, fun i i0 i1 => by omega⟩, fun i i0 i1 => by omega⟩, rfl, hm⟩
  ·
    refine V_nil (X_next ?_)
    refine C_false rfl ?_
    refine C_skip (X_next ?_)
    refine C_seq ?_
    refine C_region ?_
    refine V_w0.q (QY_move rfl) rfl ?_
    refine V_w0.q (QY_len sl42 rfl) rfl ?_
    refine V_make 1 mk42 rfl rfl rfl (by omega) (by omega) (by omega) (by omega) rfl (fun b9 => ?_)
    refine V_w0.q (QY_assign rfl) rfl ?_
    refine V_nil (X_next ?_)
    refine C_seq ?_
    refine C_seq ?_
    refine C_rebase (H1 := [(1, ⟨b9, n, n, fun _ => .slice none 0 0⟩)]) ⟨rfl, trivial⟩ (fun w1 hm1 => ?_)
    refine C_region ?_
    refine V_w0.q (QY_assign rfl) rfl ?_
    refine V_nil (X_next ?_)
    refine C_block ?_
    refine C_loopsB (T := Int × (Int → Value) × (Int → Option Addr) × World) (fun (zz9 : Int × (Int → Value) × (Int → Option Addr) × World) => match zz9 with | (k, oc, B2, wk) => [(0, .slice a0 n cap), (3, .slice (some ⟨b9, 0, none⟩) n n), (4, .int .i64 k)]) (fun (zz9 : Int × (Int → Value) × (Int → Option Addr) × World) => match zz9 with | (k, oc, B2, wk) => [(1, ⟨b9, n, n, oc⟩)]) (fun (zz9 : Int × (Int → Value) × (Int → Option Addr) × World) => match zz9 with | (k, oc, B2, wk) => Rest wk [(1, ⟨b9, n, n, oc⟩)]) (fun (zz9 : Int × (Int → Value) × (Int → Option Addr) × World) => match zz9 with | (k, oc, B2, wk) => wk) (fun (zz9 : Int × (Int → Value) × (Int → Option Addr) × World) => match zz9 with | (k, oc, B2, wk) => 0 ≤ k ∧ k ≤ n ∧ Mem (Old w) w [(1, ⟨b9, n, n, oc⟩)] wk ∧ (∀ i, 0 ≤ i → i < k → oc i = .slice (B2 i) (L i) (L i) ∧ RdB (Rest wk [(1, ⟨b9, n, n, oc⟩)]) wk (.slice (B2 i) (L i) (L i)) (L i) (ints .i32 (Z i))) ∧ RdB (Rest wk [(1, ⟨b9, n, n, oc⟩)]) wk (.slice a0 n cap) n (fun i => .slice (A i) (L i) (Cq i)) ∧ (∀ i, 0 ≤ i → i < (n : Int) → RdB (Rest wk [(1, ⟨b9, n, n, oc⟩)]) wk (.slice (A i) (L i) (Cq i)) (L i) (ints .i32 (Z i)))) (fun (zz9 : Int × (Int → Value) × (Int → Option Addr) × World) => match zz9 with | (k, oc, B2, wk) => ((n : Int) - k).toNat) (0, fun _ => .slice none 0 0, fun _ => none, w1) ?_ rfl rfl ?_ ?_ ?_
    · exact ⟨by omega, by omega, hm1.sub ⟨rfl, trivial⟩, fun i i0 i1 => by omega, hr.1.rdb.move hm1 (fun _ _ hq => hq), fun i i0 i1 => (hr.2 i i0 i1).rdb.move hm1 (fun _ _ hq => hq)⟩
    · exact ⟨rfl, rfl, rfl, trivial⟩
    · exact ⟨rfl, trivial⟩
    rintro ⟨k, oc, B2, wk⟩ ⟨hk0, hk1, hbase, hdone, hin, hro⟩
    show C _ _ _ _ _ _ [(0, .slice a0 n cap), (3, .slice (some ⟨b9, 0, none⟩) n n), (4, .int .i64 k)] [(1, ⟨b9, n, n, oc⟩)]
    refine C_seq ?_
    refine C_seq ?_
    refine C_region ?_
    refine V_w0.q (QY_move rfl) rfl ?_
    refine V_w0.q (QY_move rfl) rfl ?_
    refine V_w0.q (QY_len sl42 rfl) rfl ?_
    refine W_lss V_w0 rfl rfl rfl (fun h13 => ?_) (fun h13 => ?_)
    ·
      refine V_nil (X_next ?_)
      refine C_true rfl ?_
      refine C_skip (X_next ?_)
      refine C_seq ?_
      refine C_block ?_
      refine C_region ?_
      refine V_w0.q (QY_move rfl) rfl ?_
      refine V_w0.q (QY_move rfl) rfl ?_
      refine V_w0.q (QY_move rfl) rfl ?_
      refine V_w0.q (QY_move rfl) rfl ?_
      refine W_elem V_w0 rfl rfl (hin.rd) (by omega) (by omega) sl42 lf22 rfl rfl (fun _ => ?_)
      refine V_call cb10 rfl (T := Nat × Option Addr) (Φ := fun y => 0 < L k → y.2 = some ⟨y.1, 0, none⟩) (val := fun y => .slice y.2 (L k) (L k)) (H' := fun y => (5, ⟨y.1, L k, L k, ints .i32 (Z k)⟩) :: [(1, ⟨b9, n, n, oc⟩)]) (fun w1 hm => (clone10 w1 _ _ _ (Z k) (((hro k hk0 (by omega)).rd).at hm) (hb k hk0 (by omega))).mono fun e w2 ⟨y, h1, he, hM⟩ => ⟨y, h1, he, hm.join1 5 hM⟩) rfl ?_
      rintro ⟨b5, a5⟩ h5
      have h5 : 0 < L k → a5 = some ⟨b5, 0, none⟩ := h5
      refine V_set (q := 1) rfl rfl rfl rfl rfl (by omega) (by omega) (by omega) sl42 lf22 rfl rfl rfl (fun _ => ?_)
      refine V_nil (X_block (X_next ?_))
      refine C_region ?_
      refine V_w0.q (QY_move rfl) rfl ?_
      refine V_w0.q (QY_arith rfl rfl rfl ⟨by omega, by omega⟩) rfl ?_
      refine V_w0.q (QY_assign rfl) rfl ?_
      refine V_nil (X_then ?_)
      refine X_rebase (H1 := [(1, ⟨b9, n, n, upd oc k (.slice a5 (L k) (L k))⟩)]) ⟨rfl, trivial⟩ (fun w2 hm2 => ?_)
      refine X_roundB (k + 1, upd oc k (.slice a5 (L k) (L k)), upd B2 k a5, w2) rfl rfl ?_ ?_ ?_ ?_
      · refine ⟨by omega, by omega, hbase.chain (keys_sub rfl) (hm2.sub ⟨rfl, trivial⟩), fun i i0 i1 => ?_, hin.move hm2 (fun _ _ hq => SubH.look (L' := [(1, ⟨b9, n, n, upd oc k (.slice a5 (L k) (L k))⟩)]) ⟨rfl, trivial⟩ hq), fun i i0 i1 => (hro i i0 i1).move hm2 (fun _ _ hq => SubH.look (L' := [(1, ⟨b9, n, n, upd oc k (.slice a5 (L k) (L k))⟩)]) ⟨rfl, trivial⟩ hq)⟩
        by_cases e : k = i
        · subst e
          rw [upd_same, upd_same]
          exact ⟨rfl, hm2.give (q := 5) rfl (fun _ _ hq => SubH.look (L' := [(1, ⟨b9, n, n, upd oc k (.slice a5 (L k) (L k))⟩)]) ⟨rfl, trivial⟩ hq) rfl h5 (Int.le_refl _)⟩
        · rw [upd_other _ _ _ (fun h => e h.symm), upd_other _ _ _ (fun h => e h.symm)]
          have h9 := hdone i i0 (by omega)
          exact ⟨h9.1, h9.2.move hm2 (fun _ _ hq => SubH.look (L' := [(1, ⟨b9, n, n, upd oc k (.slice a5 (L k) (L k))⟩)]) ⟨rfl, trivial⟩ hq)⟩
      · show ((n : Int) - (k + 1)).toNat < ((n : Int) - k).toNat
        omega
      · exact ⟨rfl, rfl, rfl, trivial⟩
      · exact ⟨rfl, trivial⟩
    ·
      obtain rfl : k = (n : Int) := by omega
      refine V_nil (X_next ?_)
      refine C_false rfl ?_
      refine C_exit (X_then_exit (X_then_exit (X_block_exit (X_next ?_))))
      refine C_seq ?_
      refine C_region ?_
      refine V_w0.q (QY_move rfl) rfl ?_
      refine V_w0.q (QY_assign rfl) rfl ?_
      refine V_nil (X_next ?_)
      refine C_ret (?_)
      refine X_ret1 rfl rfl (fun w hm => ?_)
      refine ⟨⟨some ⟨b9, 0, none⟩, B2⟩, ⟨?_, fun i i0 i1 => ((hdone i i0 i1).2.rd).at hm⟩, rfl, (hbase.chain (keys_sub rfl) hm).sub trivial⟩
      obtain ⟨a9, c9, e9, h9⟩ := (Rd_own (q := 1) rfl (Int.le_refl _) (cap := n)).at hm
      exact ⟨a9, c9, e9, fun i i0 i1 => by obtain ⟨x, hx, hc⟩ := h9 i i0 i1; exact ⟨x, hx, by rw [hc]; exact congrArg some (hdone i i0 i1).1⟩⟩

end Go.Proofs.Qxb6001307a
