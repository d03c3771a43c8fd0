/-
  OWN WORK (the rule applications laid by a program of our own, wip/gen). relayPrep.
-/
import Derived.Test.Qxb6001307aRelD
namespace Go.Proofs.Qxb6001307a
open Go.RowKit
set_option linter.unusedSimpArgs false
set_option linter.unusedVariables false

structure PrepOut where
  (ok : Bool) (v1 v2 v3 v4 v5 v6 v7 : Value)
set_option maxHeartbeats 2000000 in
theorem prep23 (w : World) (aF aO aL aN aR aP aQ aT aH : Option Addr) (nf no nc nl ns np nq nt nh cF cO cL cN cR cP cQ cT cH : Nat) (A1 A2 : Int → Option Addr) (L1 C1 L2 C2 : Int → Nat) (f o : Int → Int) (Z1 Z2 : Int → Int → Int) (sr sl ss : Int → Int) (hb : Int → Bool)
    (hF : RdW w (.slice aF nf cF) nf (ints .i32 f)) (hO : RdW w (.slice aO no cO) no (ints .i32 o)) (hN : RdR w aN nl cN A1 L1 C1 Z1) (hR : RdW w (.slice aR ns cR) ns (ints .i32 sr)) (hP : RdW w (.slice aP np cP) np (ints .i32 sl)) (hQ : RdW w (.slice aQ nq cQ) nq (ints .i32 ss)) (hT : RdR w aT nt cT A2 L2 C2 Z2) (hH : RdW w (.slice aH nh cH) nh (bools hb))
    (hFw : ∀ i, 0 ≤ i → i < (nf : Int) → -2147483648 ≤ f i ∧ f i ≤ 2147483647) (hOw : ∀ i, 0 ≤ i → i < (no : Int) → -2147483648 ≤ o i ∧ o i ≤ 2147483647) (hQw : ∀ i, 0 ≤ i → i < (nq : Int) → -2147483648 ≤ ss i ∧ ss i ≤ 2147483647)
    (hnf : (nf : Int) ≤ 4097) (hno : (no : Int) ≤ 262144) (hnc : (nc : Int) ≤ 1048576) (hnl : (nl : Int) ≤ 65536) (hns : (ns : Int) ≤ 4096) (hnt : (nt : Int) ≤ 65536) (htL1 : tot L1 nl ≤ 4096) (htL2 : tot L2 nt ≤ 4096) :
    Calls Try.prog 23 #[.slice aF nf cF, .slice aO no cO, .slice aL nc cL, .slice aN nl cN, .slice aR ns cR, .slice aP np cP, .slice aQ nq cQ, .slice aT nt cT, .slice aH nh cH] w fun e w' => ∃ y : PrepOut, (y.ok = true → ∃ (n hc : Nat) (tx : Int) (aV aW aX aU aHt : Option Addr) (lf lt ln th ht : Int → Int), y.v1 = .int .i32 (n : Int) ∧ y.v2 = .int .i32 tx ∧ y.v3 = .slice aV (nl + 1) (nl + 1) ∧ y.v4 = .slice aW nl nl ∧ y.v5 = .slice aX nl nl ∧ y.v6 = .slice aU nt nt ∧ y.v7 = .slice aHt hc hc ∧
      RdW w' (.slice aV (nl + 1) (nl + 1)) (nl + 1) (ints .i32 lf) ∧ RdW w' (.slice aW nl nl) nl (ints .i32 lt) ∧ RdW w' (.slice aX nl nl) nl (ints .i32 ln) ∧ RdW w' (.slice aU nt nt) nt (ints .i32 th) ∧ RdW w' (.slice aHt hc hc) hc (ints .i32 ht) ∧
      (∀ t, 0 ≤ t → t < (nt : Int) → th t = thF hb L2 t) ∧ hu hb L2 nt = hc ∧ PrepOK nf no nc nl ns np nq nt nh f o L1 L2 Z1 Z2 sr sl ss hb n tx lf lt ht) ∧ e = .returned (.tuple [.bool y.ok, y.v1, y.v2, y.v3, y.v4, y.v5, y.v6, y.v7].toArray) ∧ Mem (Old w) w [] w' := by
  refine enter (N := 353) (vs := [.slice aF nf cF, .slice aO no cO, .slice aL nc cL, .slice aN nl cN, .slice aR ns cR, .slice aP np cP, .slice aQ nq cQ, .slice aT nt cT, .slice aH nh cH]) Try.func23 rfl Try.ntmps23 rfl ?_ w (Mem.start w)
  refine C_seq ?_
  refine C_region ?_
  refine V_w0.q (QY_assign rfl) rfl ?_
  refine V_w0.q (QY_assign rfl) rfl ?_
  refine V_w0.q (QY_assign rfl) rfl ?_
  refine V_w0.q (QY_assign rfl) rfl ?_
  refine V_w0.q (QY_assign rfl) rfl ?_
  refine V_w0.q (QY_assign rfl) rfl ?_
  refine V_w0.q (QY_assign rfl) rfl ?_
  refine V_w0.q (QY_assign rfl) rfl ?_
  refine V_nil (X_next ?_)
  refine C_seq ?_
  refine C_region ?_
  refine V_w0.q (QY_move rfl) rfl ?_
  refine V_w0.q (QY_move rfl) rfl ?_
  refine V_w0.q (QY_move rfl) rfl ?_
  refine V_call cb9 rfl (T := Int) (Φ := fun y => y = -1 ∨ (y = (nf : Int) - 1 ∧ AdjOK nf no nc f o)) (val := fun y => .int .i32 y) (H' := fun _ => []) (fun w1 hm => (adj9 w1 aF aO aL nf no nc cF cO cL f o (hF.rd.at hm) (hO.rd.at hm) hFw hOw (by omega) (by omega) (by omega)).mono fun e w2 ⟨y, h1, he, hM⟩ => ⟨y, h1, he, hm.join0 hM⟩) rfl ?_
  intro y54 hy54
  refine V_w0.q (QY_assign rfl) rfl ?_
  refine V_nil (X_next ?_)
  refine C_seq ?_
  refine C_seq ?_
  refine C_region ?_
  refine V_w0.q (QY_move rfl) rfl ?_
  refine W_lss V_w0 rfl rfl rfl (fun h56 => ?_) (fun h56 => ?_)
  ·
    refine V_nil (X_next ?_)
    refine C_true rfl ?_
    refine C_ret (X_then_ret (?_))
    refine X_retN (ts := [18, 19, 20, 21, 22, 23, 24, 25]) rfl (by decide) rfl (fun w hm => ?_)
    exact ⟨⟨false, _, _, _, _, _, _, _⟩, (fun h => by cases h), rfl, hm.sub trivial⟩
  ·
    obtain ⟨hnn, hadj⟩ := hy54.resolve_left (by omega)
    obtain ⟨n, rfl⟩ : ∃ n : Nat, y54 = (n : Int) := ⟨y54.toNat, by omega⟩
    refine V_nil (X_next ?_)
    refine C_false rfl ?_
    refine C_skip (X_next ?_)
    refine C_seq ?_
    refine C_seq ?_
    refine C_region ?_
    refine V_w0.q (QY_move rfl) rfl ?_
    refine V_w0.q (QY_len sl22 rfl) rfl ?_
    refine V_w0.q (QY_move rfl) rfl ?_
    refine V_w0.q (QY_len sl22 rfl) rfl ?_
    refine W_neq V_w0 rfl rfl rfl (fun h61 => ?_) (fun h61 => ?_)
    ·
      refine V_w0.q (QY_move rfl) rfl ?_
      refine V_walk.no rfl rfl rfl ?_
      refine V_walk.no rfl rfl rfl ?_
      refine V_walk.no rfl rfl rfl ?_
      refine V_walk.no rfl rfl rfl ?_
      refine V_walk.no rfl rfl rfl ?_
      refine V_w0.q (QY_pick_true rfl rfl) rfl ?_
      refine V_w0.q (QY_move rfl) rfl ?_
      refine V_walk.no rfl rfl rfl ?_
      refine V_walk.no rfl rfl rfl ?_
      refine V_walk.no rfl rfl rfl ?_
      refine V_walk.no rfl rfl rfl ?_
      refine V_walk.no rfl rfl rfl ?_
      refine V_w0.q (QY_pick_true rfl rfl) rfl ?_
      refine V_nil (X_next ?_)
      refine C_true rfl ?_
      refine C_ret (X_then_ret (?_))
      refine X_retN (ts := [18, 19, 20, 21, 22, 23, 24, 25]) rfl (by decide) rfl (fun w hm => ?_)
      exact ⟨⟨false, _, _, _, _, _, _, _⟩, (fun h => by cases h), rfl, hm.sub trivial⟩
    ·
      refine V_w0.q (QY_move rfl) rfl ?_
      refine V_walk.yes rfl rfl ?_
      refine V_w0.q (QY_move rfl) rfl ?_
      refine V_walk.yes rfl rfl ?_
      refine V_w0.q (QY_len sl22 rfl) rfl ?_
      refine V_walk.yes rfl rfl ?_
      refine V_w0.q (QY_move rfl) rfl ?_
      refine V_walk.yes rfl rfl ?_
      refine V_w0.q (QY_len sl22 rfl) rfl ?_
      refine V_walk.yes rfl rfl ?_
      refine W_neq V_w0 rfl rfl rfl (fun h67 => ?_) (fun h67 => ?_)
      ·
        refine V_w0.q (QY_pick_false rfl rfl) rfl ?_
        refine V_w0.q (QY_move rfl) rfl ?_
        refine V_walk.no rfl rfl rfl ?_
        refine V_walk.no rfl rfl rfl ?_
        refine V_walk.no rfl rfl rfl ?_
        refine V_walk.no rfl rfl rfl ?_
        refine V_walk.no rfl rfl rfl ?_
        refine V_w0.q (QY_pick_true rfl rfl) rfl ?_
        refine V_nil (X_next ?_)
        refine C_true rfl ?_
        refine C_ret (X_then_ret (?_))
        refine X_retN (ts := [18, 19, 20, 21, 22, 23, 24, 25]) rfl (by decide) rfl (fun w hm => ?_)
        exact ⟨⟨false, _, _, _, _, _, _, _⟩, (fun h => by cases h), rfl, hm.sub trivial⟩
      ·
        refine V_w0.q (QY_pick_false rfl rfl) rfl ?_
        refine V_w0.q (QY_move rfl) rfl ?_
        refine V_walk.yes rfl rfl ?_
        refine V_w0.q (QY_move rfl) rfl ?_
        refine V_walk.yes rfl rfl ?_
        refine V_w0.q (QY_len sl26 rfl) rfl ?_
        refine V_walk.yes rfl rfl ?_
        refine V_w0.q (QY_move rfl) rfl ?_
        refine V_walk.yes rfl rfl ?_
        refine V_w0.q (QY_len sl42 rfl) rfl ?_
        refine V_walk.yes rfl rfl ?_
        refine W_neq V_w0 rfl rfl rfl (fun h74 => ?_) (fun h74 => ?_)
        ·
          refine V_w0.q (QY_pick_false rfl rfl) rfl ?_
          refine V_nil (X_next ?_)
          refine C_true rfl ?_
          refine C_ret (X_then_ret (?_))
          refine X_retN (ts := [18, 19, 20, 21, 22, 23, 24, 25]) rfl (by decide) rfl (fun w hm => ?_)
          exact ⟨⟨false, _, _, _, _, _, _, _⟩, (fun h => by cases h), rfl, hm.sub trivial⟩
        ·
          refine V_w0.q (QY_pick_false rfl rfl) rfl ?_
          refine V_nil (X_next ?_)
          refine C_false rfl ?_
          refine C_skip (X_next ?_)
          refine C_seq ?_
          refine C_region ?_
          refine V_w0.q (QY_move rfl) rfl ?_
          refine V_w0.q (QY_len sl42 rfl) rfl ?_
          refine V_w0.q (QY_conv it3 it21 rfl ⟨by omega, by omega⟩) rfl ?_
          refine V_w0.q (QY_assign rfl) rfl ?_
          refine V_nil (X_next ?_)
          refine C_seq ?_
          refine C_region ?_
          refine V_w0.q (QY_move rfl) rfl ?_
          refine V_w0.q (QY_len sl42 rfl) rfl ?_
          refine V_make 60 mk22 rfl rfl rfl (by omega) (by omega) (by omega) (by omega) rfl (fun bU => ?_)
          refine V_w0.q (QY_assign rfl) rfl ?_
          refine V_nil (X_next ?_)
          refine C_seq ?_
          refine C_region ?_
          refine V_w0.q (QY_assign rfl) rfl ?_
          refine V_nil (X_next ?_)
          refine C_seq ?_
          refine C_seq ?_
          refine C_region ?_
          refine V_w0.q (QY_assign rfl) rfl ?_
          refine V_nil (X_next ?_)
          refine C_block ?_
          refine C_loops (T := Int × Int × (Int → Int)) (fun (zz9 : Int × Int × (Int → Int)) => match zz9 with | (t, hs, g) => [(0, .slice aF nf cF), (1, .slice aO no cO), (2, .slice aL nc cL), (3, .slice aN nl cN), (4, .slice aR ns cR), (5, .slice aP np cP), (6, .slice aQ nq cQ), (7, .slice aT nt cT), (8, .slice aH nh cH), (18, .bool false), (19, .int .i32 (n : Int)), (20, .int .i32 0), (21, .slice none 0 0), (22, .slice none 0 0), (23, .slice none 0 0), (24, .slice (some ⟨bU, 0, none⟩) nt nt), (25, .slice none 0 0), (26, .int .i32 (nl : Int)), (27, .int .i32 hs), (28, .int .i64 t)]) (fun (zz9 : Int × Int × (Int → Int)) => match zz9 with | (t, hs, g) => [(60, ⟨bU, nt, nt, ints .i32 g⟩)]) (fun (zz9 : Int × Int × (Int → Int)) => match zz9 with | (t, hs, g) => 0 ≤ t ∧ t ≤ nt ∧ hs = hu hb L2 t ∧ ∀ s, 0 ≤ s → s < t → g s = thF hb L2 s) (fun (zz9 : Int × Int × (Int → Int)) => match zz9 with | (t, hs, g) => ((nt : Int) - t).toNat) (0, 0, fun _ => 0) ?_ ?_ ?_ ?_
          · exact ⟨by omega, by omega, rfl, fun s a b => by omega⟩
          · exact ⟨rfl, rfl, rfl, rfl, rfl, rfl, rfl, rfl, rfl, rfl, rfl, rfl, rfl, rfl, rfl, rfl, rfl, rfl, rfl, rfl, trivial⟩
          · exact ⟨rfl, trivial⟩
          rintro ⟨t, hs, g⟩ ⟨ht0, ht1, hhs, hg⟩
          show C _ _ _ _ _ _ [(0, .slice aF nf cF), (1, .slice aO no cO), (2, .slice aL nc cL), (3, .slice aN nl cN), (4, .slice aR ns cR), (5, .slice aP np cP), (6, .slice aQ nq cQ), (7, .slice aT nt cT), (8, .slice aH nh cH), (18, .bool false), (19, .int .i32 (n : Int)), (20, .int .i32 0), (21, .slice none 0 0), (22, .slice none 0 0), (23, .slice none 0 0), (24, .slice (some ⟨bU, 0, none⟩) nt nt), (25, .slice none 0 0), (26, .int .i32 (nl : Int)), (27, .int .i32 hs), (28, .int .i64 t)] [(60, ⟨bU, nt, nt, ints .i32 g⟩)]
          refine C_seq ?_
          refine C_seq ?_
          refine C_region ?_
          refine V_w0.q (QY_move rfl) rfl ?_
          refine V_w0.q (QY_move rfl) rfl ?_
          refine V_w0.q (QY_len sl42 rfl) rfl ?_
          refine W_lss V_w0 rfl rfl rfl (fun h85 => ?_) (fun h85 => ?_)
          ·
            have hub := hu_b hb L2 ht0
            have htm := tot_mono L2 (j := t + 1) (k := nt) (by omega) (by omega)
            have hts := tot_succ L2 ht0
            have htn := tot_nonneg L2 t
            refine V_nil (X_next ?_)
            refine C_true rfl ?_
            refine C_skip (X_next ?_)
            refine C_seq ?_
            refine C_block ?_
            refine C_seq ?_
            refine C_region ?_
            refine V_w0.q (QY_move rfl) rfl ?_
            refine V_w0.q (QY_move rfl) rfl ?_
            refine W_elem V_w0 rfl rfl (hT.1.rd) (by omega) (by omega) sl42 lf22 rfl rfl (fun _ => ?_)
            refine V_w0.q (QY_len sl22 rfl) rfl ?_
            refine V_w0.q (QY_conv it3 it21 rfl ⟨by omega, by omega⟩) rfl ?_
            refine V_w0.q (QY_assign rfl) rfl ?_
            refine V_nil (X_next ?_)
            refine C_seq ?_
            refine C_region ?_
            refine V_w0.q (QY_move rfl) rfl ?_
            refine V_w0.q (QY_move rfl) rfl ?_
            refine V_set (q := 60) rfl rfl rfl rfl rfl (by omega) (by omega) (by omega) sl22 lf21 rfl rfl (upd_ints _ _ _ _) (fun _ => ?_)
            refine V_nil (X_next ?_)
            refine C_seq ?_
            refine C_region ?_
            refine V_w0.q (QY_move rfl) rfl ?_
            refine V_w0.q (QY_move rfl) rfl ?_
            refine W_elem V_w0 rfl rfl (hH.rd) (by omega) (by omega) sl26 lf4 rfl rfl (fun _ => ?_)
            refine W_bool V_w0 100 rfl (fun h100 => ?_) (fun h100 => ?_)
            ·
              refine V_w0.q (QY_move rfl) rfl ?_
              refine V_walk.yes rfl rfl ?_
              refine V_w0.q (QY_move rfl) rfl ?_
              refine V_walk.yes rfl rfl ?_
              refine W_gtr V_w0 rfl rfl rfl (fun h103 => ?_) (fun h103 => ?_)
              ·
                refine V_w0.q (QY_pick_true rfl rfl) rfl ?_
                refine V_nil (X_next ?_)
                refine C_true rfl ?_
                refine C_seq ?_
                refine C_region ?_
                refine V_w0.q (QY_move rfl) rfl ?_
                refine V_w0.q (QY_move rfl) rfl ?_
                refine V_w0.q (QY_move rfl) rfl ?_
                refine V_set (q := 60) rfl rfl rfl rfl rfl (by omega) (by omega) (by omega) sl22 lf21 rfl rfl (upd_ints _ _ _ _) (fun _ => ?_)
                refine V_nil (X_next ?_)
                refine C_region ?_
                refine V_w0.q (QY_move rfl) rfl ?_
                refine V_w0.q (QY_move rfl) rfl ?_
                refine V_w0.q (QY_arith rfl rfl rfl ⟨by omega, by omega⟩) rfl ?_
                refine V_w0.q (QY_arith rfl rfl rfl ⟨by omega, by omega⟩) rfl ?_
                refine V_w0.q (QY_arith rfl rfl rfl ⟨by omega, by omega⟩) rfl ?_
                refine V_w0.q (QY_assign rfl) rfl ?_
                refine V_nil (X_block (X_next ?_))
                refine C_region ?_
                refine V_w0.q (QY_move rfl) rfl ?_
                refine V_w0.q (QY_arith rfl rfl rfl ⟨by omega, by omega⟩) rfl ?_
                refine V_w0.q (QY_assign rfl) rfl ?_
                refine V_nil (X_then ?_)
                refine X_round (t + 1, hs + (2 * ((L2 t : Nat) : Int) - 1), upd (upd g t (-1)) t hs) ?_ ?_ ?_ ?_
                · refine ⟨by omega, by omega, by rw [hu_yes ht0 ⟨h100, by omega⟩, hhs], fun s s0 s1 => ?_⟩
                  by_cases e : s = t
                  · subst e; rw [upd_same, hhs]; unfold thF; rw [if_pos ⟨h100, by omega⟩]
                  · rw [upd_other _ _ _ e, upd_other _ _ _ e]; exact hg s s0 (by omega)
                · show ((nt : Int) - (t + 1)).toNat < ((nt : Int) - t).toNat
                  omega
                · exact ⟨rfl, rfl, rfl, rfl, rfl, rfl, rfl, rfl, rfl, rfl, rfl, rfl, rfl, rfl, rfl, rfl, rfl, rfl, rfl, rfl, trivial⟩
                · exact ⟨rfl, trivial⟩
              ·
                refine V_w0.q (QY_pick_true rfl rfl) rfl ?_
                refine V_nil (X_next ?_)
                refine C_false rfl ?_
                refine C_skip (X_block (X_next ?_))
                refine C_region ?_
                refine V_w0.q (QY_move rfl) rfl ?_
                refine V_w0.q (QY_arith rfl rfl rfl ⟨by omega, by omega⟩) rfl ?_
                refine V_w0.q (QY_assign rfl) rfl ?_
                refine V_nil (X_then ?_)
                refine X_round (t + 1, hs, upd g t (-1)) ?_ ?_ ?_ ?_
                · refine ⟨by omega, by omega, by rw [hu_no ht0 (fun h => by have := h.2; omega), hhs], fun s s0 s1 => ?_⟩
                  by_cases e : s = t
                  · subst e; rw [upd_same]; unfold thF; rw [if_neg (fun h => by have := h.2; omega)]
                  · rw [upd_other _ _ _ e]; exact hg s s0 (by omega)
                · show ((nt : Int) - (t + 1)).toNat < ((nt : Int) - t).toNat
                  omega
                · exact ⟨rfl, rfl, rfl, rfl, rfl, rfl, rfl, rfl, rfl, rfl, rfl, rfl, rfl, rfl, rfl, rfl, rfl, rfl, rfl, rfl, trivial⟩
                · exact ⟨rfl, trivial⟩
            ·
              refine V_w0.q (QY_move rfl) rfl ?_
              refine V_walk.no rfl rfl rfl ?_
              refine V_walk.no rfl rfl rfl ?_
              refine V_w0.q (QY_pick_false rfl rfl) rfl ?_
              refine V_nil (X_next ?_)
              refine C_false rfl ?_
              refine C_skip (X_block (X_next ?_))
              refine C_region ?_
              refine V_w0.q (QY_move rfl) rfl ?_
              refine V_w0.q (QY_arith rfl rfl rfl ⟨by omega, by omega⟩) rfl ?_
              refine V_w0.q (QY_assign rfl) rfl ?_
              refine V_nil (X_then ?_)
              refine X_round (t + 1, hs, upd g t (-1)) ?_ ?_ ?_ ?_
              · refine ⟨by omega, by omega, by rw [hu_no ht0 (fun h => by have := h.1; rw [h100] at this; cases this), hhs], fun s s0 s1 => ?_⟩
                by_cases e : s = t
                · subst e; rw [upd_same]; unfold thF; rw [if_neg (fun h => by have := h.1; rw [h100] at this; cases this)]
                · rw [upd_other _ _ _ e]; exact hg s s0 (by omega)
              · show ((nt : Int) - (t + 1)).toNat < ((nt : Int) - t).toNat
                omega
              · exact ⟨rfl, rfl, rfl, rfl, rfl, rfl, rfl, rfl, rfl, rfl, rfl, rfl, rfl, rfl, rfl, rfl, rfl, rfl, rfl, rfl, trivial⟩
              · exact ⟨rfl, trivial⟩
          ·
            obtain rfl : t = (nt : Int) := by omega
            have hub := hu_b hb L2 ht0
            have hs0 : 0 ≤ hs := by omega
            obtain ⟨hc, rfl⟩ : ∃ hc : Nat, hs = (hc : Int) := ⟨hs.toNat, by omega⟩
            refine V_nil (X_next ?_)
            refine C_false rfl ?_
            refine C_exit (X_then_exit (X_then_exit (X_block_exit (X_next ?_))))
            refine C_seq ?_
            refine C_seq ?_
            refine C_region ?_
            refine V_w0.q (QY_move rfl) rfl ?_
            refine V_w0.q (QY_move rfl) rfl ?_
            refine W_gtr V_w0 rfl rfl rfl (fun h116 => ?_) (fun h116 => ?_)
            ·
              refine V_nil (X_next ?_)
              refine C_true rfl ?_
              refine C_ret (X_then_ret (?_))
              refine X_retN (ts := [18, 19, 20, 21, 22, 23, 24, 25]) rfl (by decide) rfl (fun w hm => ?_)
              exact ⟨⟨false, _, _, _, _, _, _, _⟩, (fun h => by cases h), rfl, hm.sub trivial⟩
            ·
              refine V_nil (X_next ?_)
              refine C_false rfl ?_
              refine C_skip (X_next ?_)
              refine C_seq ?_
              refine C_region ?_
              refine V_w0.q (QY_move rfl) rfl ?_
              refine V_w0.q (QY_move rfl) rfl ?_
              refine V_w0.q (QY_arith rfl rfl rfl ⟨by omega, by omega⟩) rfl ?_
              refine V_w0.q (QY_assign rfl) rfl ?_
              refine V_nil (X_next ?_)
              refine C_seq ?_
              refine C_region ?_
              refine V_w0.q (QY_move rfl) rfl ?_
              refine V_make 61 mk22 rfl rfl rfl (by omega) (by omega) (by omega) (by omega) rfl (fun bH => ?_)
              refine V_w0.q (QY_assign rfl) rfl ?_
              refine V_nil (X_next ?_)
              refine C_seq ?_
              refine C_seq ?_
              refine C_region ?_
              refine V_w0.q (QY_assign rfl) rfl ?_
              refine V_nil (X_next ?_)
              refine C_block ?_
              refine C_loops (T := Int × (Int → Int)) (fun (zz9 : Int × (Int → Int)) => match zz9 with | (t, ht) => [(0, .slice aF nf cF), (1, .slice aO no cO), (2, .slice aL nc cL), (3, .slice aN nl cN), (4, .slice aR ns cR), (5, .slice aP np cP), (6, .slice aQ nq cQ), (7, .slice aT nt cT), (8, .slice aH nh cH), (18, .bool false), (19, .int .i32 (n : Int)), (20, .int .i32 ((n : Int) - hc)), (21, .slice none 0 0), (22, .slice none 0 0), (23, .slice none 0 0), (24, .slice (some ⟨bU, 0, none⟩) nt nt), (25, .slice (some ⟨bH, 0, none⟩) hc hc), (26, .int .i32 (nl : Int)), (30, .int .i64 t)]) (fun (zz9 : Int × (Int → Int)) => match zz9 with | (t, ht) => [(60, ⟨bU, nt, nt, ints .i32 g⟩), (61, ⟨bH, hc, hc, ints .i32 ht⟩)]) (fun (zz9 : Int × (Int → Int)) => match zz9 with | (t, ht) => 0 ≤ t ∧ t ≤ nt ∧ HtI hb L2 t 0 ht) (fun (zz9 : Int × (Int → Int)) => match zz9 with | (t, ht) => ((nt : Int) - t).toNat) (0, fun _ => 0) ?_ ?_ ?_ ?_
              · exact ⟨by omega, by omega, fun s j a b c d e => by omega⟩
              · exact ⟨rfl, rfl, rfl, rfl, rfl, rfl, rfl, rfl, rfl, rfl, rfl, rfl, rfl, rfl, rfl, rfl, rfl, rfl, rfl, trivial⟩
              · exact ⟨rfl, rfl, trivial⟩
              rintro ⟨t, ht⟩ ⟨ht0, ht1, hht⟩
              show C _ _ _ _ _ _ [(0, .slice aF nf cF), (1, .slice aO no cO), (2, .slice aL nc cL), (3, .slice aN nl cN), (4, .slice aR ns cR), (5, .slice aP np cP), (6, .slice aQ nq cQ), (7, .slice aT nt cT), (8, .slice aH nh cH), (18, .bool false), (19, .int .i32 (n : Int)), (20, .int .i32 ((n : Int) - hc)), (21, .slice none 0 0), (22, .slice none 0 0), (23, .slice none 0 0), (24, .slice (some ⟨bU, 0, none⟩) nt nt), (25, .slice (some ⟨bH, 0, none⟩) hc hc), (26, .int .i32 (nl : Int)), (30, .int .i64 t)] [(60, ⟨bU, nt, nt, ints .i32 g⟩), (61, ⟨bH, hc, hc, ints .i32 ht⟩)]
              refine C_seq ?_
              refine C_seq ?_
              refine C_region ?_
              refine V_w0.q (QY_move rfl) rfl ?_
              refine V_w0.q (QY_move rfl) rfl ?_
              refine V_w0.q (QY_len sl42 rfl) rfl ?_
              refine W_lss V_w0 rfl rfl rfl (fun h125 => ?_) (fun h125 => ?_)
              ·
                have hgt := hg t ht0 (by omega)
                have htm := tot_mono L2 (j := t + 1) (k := nt) (by omega) (by omega)
                have hts := tot_succ L2 ht0
                have htn := tot_nonneg L2 t
                refine V_nil (X_next ?_)
                refine C_true rfl ?_
                refine C_skip (X_next ?_)
                refine C_seq ?_
                refine C_block ?_
                refine C_seq ?_
                refine C_seq ?_
                refine C_region ?_
                refine V_w0.q (QY_move rfl) rfl ?_
                refine V_w0.q (QY_move rfl) rfl ?_
                refine W_elem V_w0 rfl rfl (Rd_own (q := 60) rfl (by omega)) (by omega) (by omega) sl22 lf21 rfl rfl (fun _ => ?_)
                refine W_lss V_w0 rfl rfl rfl (fun h132 => ?_) (fun h132 => ?_)
                ·
                  refine V_nil (X_next ?_)
                  refine C_true rfl ?_
                  refine C_exit (X_then_exit (X_block_exit (X_next ?_)))
                  refine C_region ?_
                  refine V_w0.q (QY_move rfl) rfl ?_
                  refine V_w0.q (QY_arith rfl rfl rfl ⟨by omega, by omega⟩) rfl ?_
                  refine V_w0.q (QY_assign rfl) rfl ?_
                  refine V_nil (X_then ?_)
                  refine X_round (t + 1, ht) ?_ ?_ ?_ ?_
                  · exact ⟨by omega, by omega, hht.skip (by omega)⟩
                  · show ((nt : Int) - (t + 1)).toNat < ((nt : Int) - t).toNat
                    omega
                  · exact ⟨rfl, rfl, rfl, rfl, rfl, rfl, rfl, rfl, rfl, rfl, rfl, rfl, rfl, rfl, rfl, rfl, rfl, rfl, rfl, trivial⟩
                  · exact ⟨rfl, rfl, trivial⟩
                ·
                  have hth := thF_pos (hb := hb) (L := L2) ht0 (by omega)
                  have hhm := hu_mono hb L2 (j := t + 1) (k := nt) (by omega) (by omega)
                  have hub9 := hu_b hb L2 ht0
                  refine V_nil (X_next ?_)
                  refine C_false rfl ?_
                  refine C_skip (X_next ?_)
                  refine C_seq ?_
                  refine C_region ?_
                  refine V_w0.q (QY_move rfl) rfl ?_
                  refine V_w0.q (QY_move rfl) rfl ?_
                  refine W_elem V_w0 rfl rfl (hT.1.rd) (by omega) (by omega) sl42 lf22 rfl rfl (fun _ => ?_)
                  refine V_w0.q (QY_len sl22 rfl) rfl ?_
                  refine V_w0.q (QY_conv it3 it21 rfl ⟨by omega, by omega⟩) rfl ?_
                  refine V_w0.q (QY_assign rfl) rfl ?_
                  refine V_nil (X_next ?_)
                  refine C_seq ?_
                  refine C_region ?_
                  refine V_w0.q (QY_assign rfl) rfl ?_
                  refine V_nil (X_next ?_)
                  refine C_block ?_
                  refine C_loops (T := Int × (Int → Int)) (fun (zz9 : Int × (Int → Int)) => match zz9 with | (i, ht1) => [(0, .slice aF nf cF), (1, .slice aO no cO), (2, .slice aL nc cL), (3, .slice aN nl cN), (4, .slice aR ns cR), (5, .slice aP np cP), (6, .slice aQ nq cQ), (7, .slice aT nt cT), (8, .slice aH nh cH), (18, .bool false), (19, .int .i32 (n : Int)), (20, .int .i32 ((n : Int) - hc)), (21, .slice none 0 0), (22, .slice none 0 0), (23, .slice none 0 0), (24, .slice (some ⟨bU, 0, none⟩) nt nt), (25, .slice (some ⟨bH, 0, none⟩) hc hc), (26, .int .i32 (nl : Int)), (30, .int .i64 t), (31, .int .i32 ((L2 t : Nat) : Int)), (32, .int .i32 i)]) (fun (zz9 : Int × (Int → Int)) => match zz9 with | (i, ht1) => [(60, ⟨bU, nt, nt, ints .i32 g⟩), (61, ⟨bH, hc, hc, ints .i32 ht1⟩)]) (fun (zz9 : Int × (Int → Int)) => match zz9 with | (i, ht1) => 0 ≤ i ∧ i ≤ 2 * ((L2 t : Nat) : Int) - 1 ∧ HtI hb L2 t i ht1) (fun (zz9 : Int × (Int → Int)) => match zz9 with | (i, ht1) => (2 * ((L2 t : Nat) : Int) - 1 - i).toNat) (0, ht) ?_ ?_ ?_ ?_
                  · exact ⟨by omega, by omega, hht⟩
                  · exact ⟨rfl, rfl, rfl, rfl, rfl, rfl, rfl, rfl, rfl, rfl, rfl, rfl, rfl, rfl, rfl, rfl, rfl, rfl, rfl, rfl, rfl, trivial⟩
                  · exact ⟨rfl, rfl, trivial⟩
                  rintro ⟨i, ht1⟩ ⟨hi0, hi1, hht1⟩
                  show C _ _ _ _ _ _ [(0, .slice aF nf cF), (1, .slice aO no cO), (2, .slice aL nc cL), (3, .slice aN nl cN), (4, .slice aR ns cR), (5, .slice aP np cP), (6, .slice aQ nq cQ), (7, .slice aT nt cT), (8, .slice aH nh cH), (18, .bool false), (19, .int .i32 (n : Int)), (20, .int .i32 ((n : Int) - hc)), (21, .slice none 0 0), (22, .slice none 0 0), (23, .slice none 0 0), (24, .slice (some ⟨bU, 0, none⟩) nt nt), (25, .slice (some ⟨bH, 0, none⟩) hc hc), (26, .int .i32 (nl : Int)), (30, .int .i64 t), (31, .int .i32 ((L2 t : Nat) : Int)), (32, .int .i32 i)] [(60, ⟨bU, nt, nt, ints .i32 g⟩), (61, ⟨bH, hc, hc, ints .i32 ht1⟩)]
                  refine C_seq ?_
                  refine C_seq ?_
                  refine C_region ?_
                  refine V_w0.q (QY_move rfl) rfl ?_
                  refine V_w0.q (QY_move rfl) rfl ?_
                  refine V_w0.q (QY_arith rfl rfl rfl ⟨by omega, by omega⟩) rfl ?_
                  refine V_w0.q (QY_arith rfl rfl rfl ⟨by omega, by omega⟩) rfl ?_
                  refine W_lss V_w0 rfl rfl rfl (fun h143 => ?_) (fun h143 => ?_)
                  ·
                    refine V_nil (X_next ?_)
                    refine C_true rfl ?_
                    refine C_skip (X_next ?_)
                    refine C_seq ?_
                    refine C_block ?_
                    refine C_region ?_
                    refine V_w0.q (QY_move rfl) rfl ?_
                    refine V_w0.q (QY_move rfl) rfl ?_
                    refine V_w0.q (QY_move rfl) rfl ?_
                    refine W_elem V_w0 rfl rfl (Rd_own (q := 60) rfl (by omega)) (by omega) (by omega) sl22 lf21 rfl rfl (fun _ => ?_)
                    refine V_w0.q (QY_move rfl) rfl ?_
                    refine V_w0.q (QY_arith rfl rfl rfl ⟨by omega, by omega⟩) rfl ?_
                    refine V_w0.q (QY_move rfl) rfl ?_
                    refine V_w0.q (QY_conv it3 it21 rfl ⟨by omega, by omega⟩) rfl ?_
                    refine V_set (q := 61) rfl rfl rfl rfl rfl (by omega) (by omega) (by omega) sl22 lf21 rfl rfl (upd_ints _ _ _ _) (fun _ => ?_)
                    refine V_nil (X_block (X_next ?_))
                    refine C_region ?_
                    refine V_w0.q (QY_move rfl) rfl ?_
                    refine V_w0.q (QY_arith rfl rfl rfl ⟨by omega, by omega⟩) rfl ?_
                    refine V_w0.q (QY_assign rfl) rfl ?_
                    refine V_nil (X_then ?_)
                    refine X_round (i + 1, upd ht1 (g t + i) t) ?_ ?_ ?_ ?_
                    · exact ⟨by omega, by omega, by rw [hgt]; exact hht1.next ht0 hi0 (by omega)⟩
                    · show (2 * ((L2 t : Nat) : Int) - 1 - (i + 1)).toNat < (2 * ((L2 t : Nat) : Int) - 1 - i).toNat
                      omega
                    · exact ⟨rfl, rfl, rfl, rfl, rfl, rfl, rfl, rfl, rfl, rfl, rfl, rfl, rfl, rfl, rfl, rfl, rfl, rfl, rfl, rfl, rfl, trivial⟩
                    · exact ⟨rfl, rfl, trivial⟩
                  ·
                    refine V_nil (X_next ?_)
                    refine C_false rfl ?_
                    refine C_exit (X_then_exit (X_then_exit (X_block_exit (X_block (X_next ?_)))))
                    refine C_region ?_
                    refine V_w0.q (QY_move rfl) rfl ?_
                    refine V_w0.q (QY_arith rfl rfl rfl ⟨by omega, by omega⟩) rfl ?_
                    refine V_w0.q (QY_assign rfl) rfl ?_
                    refine V_nil (X_then ?_)
                    refine X_round (t + 1, ht1) ?_ ?_ ?_ ?_
                    · exact ⟨by omega, by omega, hht1.done (by omega)⟩
                    · show ((nt : Int) - (t + 1)).toNat < ((nt : Int) - t).toNat
                      omega
                    · exact ⟨rfl, rfl, rfl, rfl, rfl, rfl, rfl, rfl, rfl, rfl, rfl, rfl, rfl, rfl, rfl, rfl, rfl, rfl, rfl, trivial⟩
                    · exact ⟨rfl, rfl, trivial⟩
              ·
                obtain rfl : t = (nt : Int) := by omega
                refine V_nil (X_next ?_)
                refine C_false rfl ?_
                refine C_exit (X_then_exit (X_then_exit (X_block_exit (X_next ?_))))
                refine C_seq ?_
                refine C_seq ?_
                refine C_region ?_
                refine V_w0.q (QY_move rfl) rfl ?_
                refine V_w0.q (QY_len sl42 rfl) rfl ?_
                refine V_w0.q (QY_move rfl) rfl ?_
                refine V_nil (X_next ?_)
                refine C_block ?_
                refine C_loops (T := Int) (fun (l : Int) => [(0, .slice aF nf cF), (1, .slice aO no cO), (2, .slice aL nc cL), (3, .slice aN nl cN), (4, .slice aR ns cR), (5, .slice aP np cP), (6, .slice aQ nq cQ), (7, .slice aT nt cT), (8, .slice aH nh cH), (18, .bool false), (19, .int .i32 (n : Int)), (20, .int .i32 ((n : Int) - hc)), (21, .slice none 0 0), (22, .slice none 0 0), (23, .slice none 0 0), (24, .slice (some ⟨bU, 0, none⟩) nt nt), (25, .slice (some ⟨bH, 0, none⟩) hc hc), (26, .int .i32 (nl : Int)), (156, .slice aN nl cN), (157, .int .i64 (nl : Int)), (158, .int .i64 l)]) (fun (l : Int) => [(60, ⟨bU, nt, nt, ints .i32 g⟩), (61, ⟨bH, hc, hc, ints .i32 ht⟩)]) (fun (l : Int) => 0 ≤ l ∧ l ≤ nl ∧ ∀ l9 i, 0 ≤ l9 → l9 < l → 0 ≤ i → i < ((L1 l9 : Nat) : Int) → 0 ≤ Z1 l9 i ∧ Z1 l9 i < (n : Int) - hc) (fun (l : Int) => ((nl : Int) - l).toNat) 0 ?_ ?_ ?_ ?_
                · exact ⟨by omega, by omega, fun l9 i a b => by omega⟩
                · exact ⟨rfl, rfl, rfl, rfl, rfl, rfl, rfl, rfl, rfl, rfl, rfl, rfl, rfl, rfl, rfl, rfl, rfl, rfl, rfl, rfl, rfl, trivial⟩
                · exact ⟨rfl, rfl, trivial⟩
                rintro l ⟨hl0, hl1, hnod⟩
                show C _ _ _ _ _ _ [(0, .slice aF nf cF), (1, .slice aO no cO), (2, .slice aL nc cL), (3, .slice aN nl cN), (4, .slice aR ns cR), (5, .slice aP np cP), (6, .slice aQ nq cQ), (7, .slice aT nt cT), (8, .slice aH nh cH), (18, .bool false), (19, .int .i32 (n : Int)), (20, .int .i32 ((n : Int) - hc)), (21, .slice none 0 0), (22, .slice none 0 0), (23, .slice none 0 0), (24, .slice (some ⟨bU, 0, none⟩) nt nt), (25, .slice (some ⟨bH, 0, none⟩) hc hc), (26, .int .i32 (nl : Int)), (156, .slice aN nl cN), (157, .int .i64 (nl : Int)), (158, .int .i64 l)] [(60, ⟨bU, nt, nt, ints .i32 g⟩), (61, ⟨bH, hc, hc, ints .i32 ht⟩)]
                refine C_seq ?_
                refine C_region ?_
                refine W_lss V_w0 rfl rfl rfl (fun h159 => ?_) (fun h159 => ?_)
                ·
                  have hlm := tot_mono L1 (j := l + 1) (k := nl) (by omega) (by omega)
                  have hls := tot_succ L1 hl0
                  have hln := tot_nonneg L1 l
                  refine V_nil (X_next ?_)
                  refine C_seq ?_
                  refine C_true rfl ?_
                  refine C_skip (X_next ?_)
                  refine C_seq ?_
                  refine C_block ?_
                  refine C_seq ?_
                  refine C_region ?_
                  refine W_elem V_w0 rfl rfl (hN.1.rd) (by omega) (by omega) sl42 lf22 rfl rfl (fun _ => ?_)
                  refine V_w0.q (QY_assign rfl) rfl ?_
                  refine V_nil (X_next ?_)
                  refine C_seq ?_
                  refine C_region ?_
                  refine V_w0.q (QY_move rfl) rfl ?_
                  refine V_w0.q (QY_len sl22 rfl) rfl ?_
                  refine V_w0.q (QY_move rfl) rfl ?_
                  refine V_nil (X_next ?_)
                  refine C_block ?_
                  refine C_loops (T := Int) (fun (i : Int) => [(0, .slice aF nf cF), (1, .slice aO no cO), (2, .slice aL nc cL), (3, .slice aN nl cN), (4, .slice aR ns cR), (5, .slice aP np cP), (6, .slice aQ nq cQ), (7, .slice aT nt cT), (8, .slice aH nh cH), (18, .bool false), (19, .int .i32 (n : Int)), (20, .int .i32 ((n : Int) - hc)), (21, .slice none 0 0), (22, .slice none 0 0), (23, .slice none 0 0), (24, .slice (some ⟨bU, 0, none⟩) nt nt), (25, .slice (some ⟨bH, 0, none⟩) hc hc), (26, .int .i32 (nl : Int)), (156, .slice aN nl cN), (157, .int .i64 (nl : Int)), (158, .int .i64 l), (162, .slice (A1 l) (L1 l) (C1 l)), (163, .int .i64 ((L1 l : Nat) : Int)), (164, .int .i64 i)]) (fun (i : Int) => [(60, ⟨bU, nt, nt, ints .i32 g⟩), (61, ⟨bH, hc, hc, ints .i32 ht⟩)]) (fun (i : Int) => 0 ≤ i ∧ i ≤ ((L1 l : Nat) : Int) ∧ ∀ i9, 0 ≤ i9 → i9 < i → 0 ≤ Z1 l i9 ∧ Z1 l i9 < (n : Int) - hc) (fun (i : Int) => (((L1 l : Nat) : Int) - i).toNat) 0 ?_ ?_ ?_ ?_
                  · exact ⟨by omega, by omega, fun i9 a b => by omega⟩
                  · exact ⟨rfl, rfl, rfl, rfl, rfl, rfl, rfl, rfl, rfl, rfl, rfl, rfl, rfl, rfl, rfl, rfl, rfl, rfl, rfl, rfl, rfl, rfl, rfl, rfl, trivial⟩
                  · exact ⟨rfl, rfl, trivial⟩
                  rintro i ⟨hi0, hi1, hrow⟩
                  show C _ _ _ _ _ _ [(0, .slice aF nf cF), (1, .slice aO no cO), (2, .slice aL nc cL), (3, .slice aN nl cN), (4, .slice aR ns cR), (5, .slice aP np cP), (6, .slice aQ nq cQ), (7, .slice aT nt cT), (8, .slice aH nh cH), (18, .bool false), (19, .int .i32 (n : Int)), (20, .int .i32 ((n : Int) - hc)), (21, .slice none 0 0), (22, .slice none 0 0), (23, .slice none 0 0), (24, .slice (some ⟨bU, 0, none⟩) nt nt), (25, .slice (some ⟨bH, 0, none⟩) hc hc), (26, .int .i32 (nl : Int)), (156, .slice aN nl cN), (157, .int .i64 (nl : Int)), (158, .int .i64 l), (162, .slice (A1 l) (L1 l) (C1 l)), (163, .int .i64 ((L1 l : Nat) : Int)), (164, .int .i64 i)] [(60, ⟨bU, nt, nt, ints .i32 g⟩), (61, ⟨bH, hc, hc, ints .i32 ht⟩)]
                  refine C_seq ?_
                  refine C_region ?_
                  refine W_lss V_w0 rfl rfl rfl (fun h165 => ?_) (fun h165 => ?_)
                  ·
                    refine V_nil (X_next ?_)
                    refine C_seq ?_
                    refine C_true rfl ?_
                    refine C_skip (X_next ?_)
                    refine C_seq ?_
                    refine C_block ?_
                    refine C_seq ?_
                    refine C_region ?_
                    refine W_elem V_w0 rfl rfl ((hN.2 l (by omega) (by omega)).rd) (by omega) (by omega) sl22 lf21 rfl rfl (fun _ => ?_)
                    refine V_w0.q (QY_assign rfl) rfl ?_
                    refine V_nil (X_next ?_)
                    refine C_seq ?_
                    refine C_region ?_
                    refine V_w0.q (QY_move rfl) rfl ?_
                    refine W_lss V_w0 rfl rfl rfl (fun h169 => ?_) (fun h169 => ?_)
                    ·
                      refine V_w0.q (QY_move rfl) rfl ?_
                      refine V_walk.no rfl rfl rfl ?_
                      refine V_walk.no rfl rfl rfl ?_
                      refine V_walk.no rfl rfl rfl ?_
                      refine V_w0.q (QY_pick_true rfl rfl) rfl ?_
                      refine V_nil (X_next ?_)
                      refine C_true rfl ?_
                      refine C_ret (X_block_ret (X_then_ret (X_then_ret (X_block_ret (X_block_ret (X_then_ret (X_then_ret (X_block_ret (X_then_ret (?_))))))))))
                      refine X_retN (ts := [18, 19, 20, 21, 22, 23, 24, 25]) rfl (by decide) rfl (fun w hm => ?_)
                      exact ⟨⟨false, _, _, _, _, _, _, _⟩, (fun h => by cases h), rfl, hm.sub trivial⟩
                    ·
                      refine V_w0.q (QY_move rfl) rfl ?_
                      refine V_walk.yes rfl rfl ?_
                      refine V_w0.q (QY_move rfl) rfl ?_
                      refine V_walk.yes rfl rfl ?_
                      refine V_w0.q (QY_move rfl) rfl ?_
                      refine V_walk.yes rfl rfl ?_
                      refine W_geq V_w0 rfl rfl rfl (fun h173 => ?_) (fun h173 => ?_)
                      ·
                        refine V_w0.q (QY_pick_false rfl rfl) rfl ?_
                        refine V_nil (X_next ?_)
                        refine C_true rfl ?_
                        refine C_ret (X_block_ret (X_then_ret (X_then_ret (X_block_ret (X_block_ret (X_then_ret (X_then_ret (X_block_ret (X_then_ret (?_))))))))))
                        refine X_retN (ts := [18, 19, 20, 21, 22, 23, 24, 25]) rfl (by decide) rfl (fun w hm => ?_)
                        exact ⟨⟨false, _, _, _, _, _, _, _⟩, (fun h => by cases h), rfl, hm.sub trivial⟩
                      ·
                        refine V_w0.q (QY_pick_false rfl rfl) rfl ?_
                        refine V_nil (X_next ?_)
                        refine C_false rfl ?_
                        refine C_skip (X_block (X_next ?_))
                        refine C_region ?_
                        refine V_w0.q (QY_arith rfl rfl rfl ⟨by omega, by omega⟩) rfl ?_
                        refine V_w0.q (QY_move rfl) rfl ?_
                        refine V_nil (X_then ?_)
                        refine X_round (i + 1) ?_ ?_ ?_ ?_
                        · refine ⟨by omega, by omega, fun i9 a b => ?_⟩
                          by_cases e : i = i9
                          · subst e; omega
                          · exact hrow i9 a (by omega)
                        · show (((L1 l : Nat) : Int) - (i + 1)).toNat < (((L1 l : Nat) : Int) - i).toNat
                          omega
                        · exact ⟨rfl, rfl, rfl, rfl, rfl, rfl, rfl, rfl, rfl, rfl, rfl, rfl, rfl, rfl, rfl, rfl, rfl, rfl, rfl, rfl, rfl, rfl, rfl, rfl, trivial⟩
                        · exact ⟨rfl, rfl, trivial⟩
                  ·
                    refine V_nil (X_next ?_)
                    refine C_seq ?_
                    refine C_false rfl ?_
                    refine C_exit (X_then_exit (X_then_exit (X_block_exit (X_block (X_next ?_)))))
                    refine C_region ?_
                    refine V_w0.q (QY_arith rfl rfl rfl ⟨by omega, by omega⟩) rfl ?_
                    refine V_w0.q (QY_move rfl) rfl ?_
                    refine V_nil (X_then ?_)
                    refine X_round (l + 1) ?_ ?_ ?_ ?_
                    · refine ⟨by omega, by omega, fun l9 i9 a b c d => ?_⟩
                      by_cases e : l = l9
                      · subst e; exact hrow i9 c (by omega)
                      · exact hnod l9 i9 a (by omega) c d
                    · show ((nl : Int) - (l + 1)).toNat < ((nl : Int) - l).toNat
                      omega
                    · exact ⟨rfl, rfl, rfl, rfl, rfl, rfl, rfl, rfl, rfl, rfl, rfl, rfl, rfl, rfl, rfl, rfl, rfl, rfl, rfl, rfl, rfl, trivial⟩
                    · exact ⟨rfl, rfl, trivial⟩
                ·
                  obtain rfl : l = (nl : Int) := by omega
                  refine V_nil (X_next ?_)
                  refine C_seq ?_
                  refine C_false rfl ?_
                  refine C_exit (X_then_exit (X_then_exit (X_block_exit (X_next ?_))))
                  refine C_seq ?_
                  refine C_region ?_
                  refine V_w0.q (QY_move rfl) rfl ?_
                  refine V_make 62 mk22 rfl rfl rfl (by omega) (by omega) (by omega) (by omega) rfl (fun bV => ?_)
                  refine V_w0.q (QY_assign rfl) rfl ?_
                  refine V_nil (X_next ?_)
                  refine C_seq ?_
                  refine C_region ?_
                  refine V_w0.q (QY_move rfl) rfl ?_
                  refine V_make 63 mk22 rfl rfl rfl (by omega) (by omega) (by omega) (by omega) rfl (fun bX => ?_)
                  refine V_w0.q (QY_assign rfl) rfl ?_
                  refine V_nil (X_next ?_)
                  refine C_seq ?_
                  refine C_region ?_
                  refine V_w0.q (QY_move rfl) rfl ?_
                  refine V_make 64 mk26 rfl rfl rfl (by omega) (by omega) (by omega) (by omega) rfl (fun bO => ?_)
                  refine V_w0.q (QY_assign rfl) rfl ?_
                  refine V_nil (X_next ?_)
                  refine C_seq ?_
                  refine C_seq ?_
                  refine C_region ?_
                  refine V_w0.q (QY_assign rfl) rfl ?_
                  refine V_nil (X_next ?_)
                  refine C_block ?_
                  refine C_loops (T := Int × (Int → Int)) (fun (zz9 : Int × (Int → Int)) => match zz9 with | (l, q4) => [(0, .slice aF nf cF), (1, .slice aO no cO), (2, .slice aL nc cL), (3, .slice aN nl cN), (4, .slice aR ns cR), (5, .slice aP np cP), (6, .slice aQ nq cQ), (7, .slice aT nt cT), (8, .slice aH nh cH), (18, .bool false), (19, .int .i32 (n : Int)), (20, .int .i32 ((n : Int) - hc)), (21, .slice none 0 0), (22, .slice (some ⟨bV, 0, none⟩) nl nl), (23, .slice (some ⟨bX, 0, none⟩) nl nl), (24, .slice (some ⟨bU, 0, none⟩) nt nt), (25, .slice (some ⟨bH, 0, none⟩) hc hc), (26, .int .i32 (nl : Int)), (37, .slice (some ⟨bO, 0, none⟩) nl nl), (38, .int .i32 l)]) (fun (zz9 : Int × (Int → Int)) => match zz9 with | (l, q4) => [(60, ⟨bU, nt, nt, ints .i32 g⟩), (61, ⟨bH, hc, hc, ints .i32 ht⟩), (62, ⟨bV, nl, nl, ints .i32 q4⟩), (63, ⟨bX, nl, nl, ints .i32 (fun _ => 0)⟩), (64, ⟨bO, nl, nl, bools (fun _ => false)⟩)]) (fun (zz9 : Int × (Int → Int)) => match zz9 with | (l, q4) => 0 ≤ l ∧ l ≤ nl ∧ ∀ l9, 0 ≤ l9 → l9 < l → q4 l9 = -1) (fun (zz9 : Int × (Int → Int)) => match zz9 with | (l, q4) => ((nl : Int) - l).toNat) (0, fun _ => 0) ?_ ?_ ?_ ?_
                  · exact ⟨by omega, by omega, fun l9 a b => by omega⟩
                  · exact ⟨rfl, rfl, rfl, rfl, rfl, rfl, rfl, rfl, rfl, rfl, rfl, rfl, rfl, rfl, rfl, rfl, rfl, rfl, rfl, rfl, trivial⟩
                  · exact ⟨rfl, rfl, rfl, rfl, rfl, trivial⟩
                  rintro ⟨l, q4⟩ ⟨hm0, hm1, hq4⟩
                  show C _ _ _ _ _ _ [(0, .slice aF nf cF), (1, .slice aO no cO), (2, .slice aL nc cL), (3, .slice aN nl cN), (4, .slice aR ns cR), (5, .slice aP np cP), (6, .slice aQ nq cQ), (7, .slice aT nt cT), (8, .slice aH nh cH), (18, .bool false), (19, .int .i32 (n : Int)), (20, .int .i32 ((n : Int) - hc)), (21, .slice none 0 0), (22, .slice (some ⟨bV, 0, none⟩) nl nl), (23, .slice (some ⟨bX, 0, none⟩) nl nl), (24, .slice (some ⟨bU, 0, none⟩) nt nt), (25, .slice (some ⟨bH, 0, none⟩) hc hc), (26, .int .i32 (nl : Int)), (37, .slice (some ⟨bO, 0, none⟩) nl nl), (38, .int .i32 l)] [(60, ⟨bU, nt, nt, ints .i32 g⟩), (61, ⟨bH, hc, hc, ints .i32 ht⟩), (62, ⟨bV, nl, nl, ints .i32 q4⟩), (63, ⟨bX, nl, nl, ints .i32 (fun _ => 0)⟩), (64, ⟨bO, nl, nl, bools (fun _ => false)⟩)]
                  refine C_seq ?_
                  refine C_seq ?_
                  refine C_region ?_
                  refine V_w0.q (QY_move rfl) rfl ?_
                  refine V_w0.q (QY_move rfl) rfl ?_
                  refine W_lss V_w0 rfl rfl rfl (fun h185 => ?_) (fun h185 => ?_)
                  ·
                    refine V_nil (X_next ?_)
                    refine C_true rfl ?_
                    refine C_skip (X_next ?_)
                    refine C_seq ?_
                    refine C_block ?_
                    refine C_region ?_
                    refine V_w0.q (QY_move rfl) rfl ?_
                    refine V_w0.q (QY_move rfl) rfl ?_
                    refine V_set (q := 62) rfl rfl rfl rfl rfl (by omega) (by omega) (by omega) sl22 lf21 rfl rfl (upd_ints _ _ _ _) (fun _ => ?_)
                    refine V_nil (X_block (X_next ?_))
                    refine C_region ?_
                    refine V_w0.q (QY_move rfl) rfl ?_
                    refine V_w0.q (QY_arith rfl rfl rfl ⟨by omega, by omega⟩) rfl ?_
                    refine V_w0.q (QY_assign rfl) rfl ?_
                    refine V_nil (X_then ?_)
                    refine X_round (l + 1, upd q4 l (-1)) ?_ ?_ ?_ ?_
                    · refine ⟨by omega, by omega, fun l9 a b => ?_⟩
                      by_cases e : l = l9
                      · subst e; exact upd_same _ _ _
                      · rw [upd_other _ _ _ (fun h => e h.symm)]; exact hq4 l9 a (by omega)
                    · show ((nl : Int) - (l + 1)).toNat < ((nl : Int) - l).toNat
                      omega
                    · exact ⟨rfl, rfl, rfl, rfl, rfl, rfl, rfl, rfl, rfl, rfl, rfl, rfl, rfl, rfl, rfl, rfl, rfl, rfl, rfl, rfl, trivial⟩
                    · exact ⟨rfl, rfl, rfl, rfl, rfl, trivial⟩
                  ·
                    refine V_nil (X_next ?_)
                    refine C_false rfl ?_
                    refine C_exit (X_then_exit (X_then_exit (X_block_exit (X_next ?_))))
                    refine C_seq ?_
                    refine C_seq ?_
                    refine C_region ?_
                    refine V_w0.q (QY_assign rfl) rfl ?_
                    refine V_nil (X_next ?_)
                    refine C_block ?_
                    refine C_loops (T := Int × (Int → Bool) × (Int → Int) × (Int → Int)) (fun (zz9 : Int × (Int → Bool) × (Int → Int) × (Int → Int)) => match zz9 with | (t, ow, q4, q5) => [(0, .slice aF nf cF), (1, .slice aO no cO), (2, .slice aL nc cL), (3, .slice aN nl cN), (4, .slice aR ns cR), (5, .slice aP np cP), (6, .slice aQ nq cQ), (7, .slice aT nt cT), (8, .slice aH nh cH), (18, .bool false), (19, .int .i32 (n : Int)), (20, .int .i32 ((n : Int) - hc)), (21, .slice none 0 0), (22, .slice (some ⟨bV, 0, none⟩) nl nl), (23, .slice (some ⟨bX, 0, none⟩) nl nl), (24, .slice (some ⟨bU, 0, none⟩) nt nt), (25, .slice (some ⟨bH, 0, none⟩) hc hc), (26, .int .i32 (nl : Int)), (37, .slice (some ⟨bO, 0, none⟩) nl nl), (39, .int .i64 t)]) (fun (zz9 : Int × (Int → Bool) × (Int → Int) × (Int → Int)) => match zz9 with | (t, ow, q4, q5) => [(60, ⟨bU, nt, nt, ints .i32 g⟩), (61, ⟨bH, hc, hc, ints .i32 ht⟩), (62, ⟨bV, nl, nl, ints .i32 q4⟩), (63, ⟨bX, nl, nl, ints .i32 q5⟩), (64, ⟨bO, nl, nl, bools ow⟩)]) (fun (zz9 : Int × (Int → Bool) × (Int → Int) × (Int → Int)) => match zz9 with | (t, ow, q4, q5) => 0 ≤ t ∧ t ≤ nt ∧ LvI nl L1 L2 Z2 (thF hb L2) t 0 ow q4) (fun (zz9 : Int × (Int → Bool) × (Int → Int) × (Int → Int)) => match zz9 with | (t, ow, q4, q5) => ((nt : Int) - t).toNat) (0, fun _ => false, q4, fun _ => 0) ?_ ?_ ?_ ?_
                    · exact ⟨by omega, by omega, LvI.start fun l9 a b => hq4 l9 a (by omega)⟩
                    · exact ⟨rfl, rfl, rfl, rfl, rfl, rfl, rfl, rfl, rfl, rfl, rfl, rfl, rfl, rfl, rfl, rfl, rfl, rfl, rfl, rfl, trivial⟩
                    · exact ⟨rfl, rfl, rfl, rfl, rfl, trivial⟩
                    rintro ⟨t, ow, q4, q5⟩ ⟨ht0, ht1, hlv⟩
                    show C _ _ _ _ _ _ [(0, .slice aF nf cF), (1, .slice aO no cO), (2, .slice aL nc cL), (3, .slice aN nl cN), (4, .slice aR ns cR), (5, .slice aP np cP), (6, .slice aQ nq cQ), (7, .slice aT nt cT), (8, .slice aH nh cH), (18, .bool false), (19, .int .i32 (n : Int)), (20, .int .i32 ((n : Int) - hc)), (21, .slice none 0 0), (22, .slice (some ⟨bV, 0, none⟩) nl nl), (23, .slice (some ⟨bX, 0, none⟩) nl nl), (24, .slice (some ⟨bU, 0, none⟩) nt nt), (25, .slice (some ⟨bH, 0, none⟩) hc hc), (26, .int .i32 (nl : Int)), (37, .slice (some ⟨bO, 0, none⟩) nl nl), (39, .int .i64 t)] [(60, ⟨bU, nt, nt, ints .i32 g⟩), (61, ⟨bH, hc, hc, ints .i32 ht⟩), (62, ⟨bV, nl, nl, ints .i32 q4⟩), (63, ⟨bX, nl, nl, ints .i32 q5⟩), (64, ⟨bO, nl, nl, bools ow⟩)]
                    refine C_seq ?_
                    refine C_seq ?_
                    refine C_region ?_
                    refine V_w0.q (QY_move rfl) rfl ?_
                    refine V_w0.q (QY_move rfl) rfl ?_
                    refine V_w0.q (QY_len sl42 rfl) rfl ?_
                    refine W_lss V_w0 rfl rfl rfl (fun h194 => ?_) (fun h194 => ?_)
                    ·
                      have hgt := hg t ht0 (by omega)
                      have htm := tot_mono L2 (j := t + 1) (k := nt) (by omega) (by omega)
                      have hts := tot_succ L2 ht0
                      have htn := tot_nonneg L2 t
                      refine V_nil (X_next ?_)
                      refine C_true rfl ?_
                      refine C_skip (X_next ?_)
                      refine C_seq ?_
                      refine C_block ?_
                      refine C_seq ?_
                      refine C_region ?_
                      refine V_w0.q (QY_move rfl) rfl ?_
                      refine V_w0.q (QY_move rfl) rfl ?_
                      refine W_elem V_w0 rfl rfl (hT.1.rd) (by omega) (by omega) sl42 lf22 rfl rfl (fun _ => ?_)
                      refine V_w0.q (QY_len sl22 rfl) rfl ?_
                      refine V_w0.q (QY_conv it3 it21 rfl ⟨by omega, by omega⟩) rfl ?_
                      refine V_w0.q (QY_assign rfl) rfl ?_
                      refine V_nil (X_next ?_)
                      refine C_seq ?_
                      refine C_region ?_
                      refine V_w0.q (QY_assign rfl) rfl ?_
                      refine V_nil (X_next ?_)
                      refine C_block ?_
                      refine C_loops (T := Int × (Int → Bool) × (Int → Int) × (Int → Int)) (fun (zz9 : Int × (Int → Bool) × (Int → Int) × (Int → Int)) => match zz9 with | (j, ow1, q41, q51) => [(0, .slice aF nf cF), (1, .slice aO no cO), (2, .slice aL nc cL), (3, .slice aN nl cN), (4, .slice aR ns cR), (5, .slice aP np cP), (6, .slice aQ nq cQ), (7, .slice aT nt cT), (8, .slice aH nh cH), (18, .bool false), (19, .int .i32 (n : Int)), (20, .int .i32 ((n : Int) - hc)), (21, .slice none 0 0), (22, .slice (some ⟨bV, 0, none⟩) nl nl), (23, .slice (some ⟨bX, 0, none⟩) nl nl), (24, .slice (some ⟨bU, 0, none⟩) nt nt), (25, .slice (some ⟨bH, 0, none⟩) hc hc), (26, .int .i32 (nl : Int)), (37, .slice (some ⟨bO, 0, none⟩) nl nl), (39, .int .i64 t), (40, .int .i32 ((L2 t : Nat) : Int)), (41, .int .i32 j)]) (fun (zz9 : Int × (Int → Bool) × (Int → Int) × (Int → Int)) => match zz9 with | (j, ow1, q41, q51) => [(60, ⟨bU, nt, nt, ints .i32 g⟩), (61, ⟨bH, hc, hc, ints .i32 ht⟩), (62, ⟨bV, nl, nl, ints .i32 q41⟩), (63, ⟨bX, nl, nl, ints .i32 q51⟩), (64, ⟨bO, nl, nl, bools ow1⟩)]) (fun (zz9 : Int × (Int → Bool) × (Int → Int) × (Int → Int)) => match zz9 with | (j, ow1, q41, q51) => 0 ≤ j ∧ j ≤ ((L2 t : Nat) : Int) ∧ LvI nl L1 L2 Z2 (thF hb L2) t j ow1 q41) (fun (zz9 : Int × (Int → Bool) × (Int → Int) × (Int → Int)) => match zz9 with | (j, ow1, q41, q51) => (((L2 t : Nat) : Int) - j).toNat) (0, ow, q4, q5) ?_ ?_ ?_ ?_
                      · exact ⟨by omega, by omega, hlv⟩
                      · exact ⟨rfl, rfl, rfl, rfl, rfl, rfl, rfl, rfl, rfl, rfl, rfl, rfl, rfl, rfl, rfl, rfl, rfl, rfl, rfl, rfl, rfl, rfl, trivial⟩
                      · exact ⟨rfl, rfl, rfl, rfl, rfl, trivial⟩
                      rintro ⟨j, ow1, q41, q51⟩ ⟨hj0, hj1, hlv⟩
                      show C _ _ _ _ _ _ [(0, .slice aF nf cF), (1, .slice aO no cO), (2, .slice aL nc cL), (3, .slice aN nl cN), (4, .slice aR ns cR), (5, .slice aP np cP), (6, .slice aQ nq cQ), (7, .slice aT nt cT), (8, .slice aH nh cH), (18, .bool false), (19, .int .i32 (n : Int)), (20, .int .i32 ((n : Int) - hc)), (21, .slice none 0 0), (22, .slice (some ⟨bV, 0, none⟩) nl nl), (23, .slice (some ⟨bX, 0, none⟩) nl nl), (24, .slice (some ⟨bU, 0, none⟩) nt nt), (25, .slice (some ⟨bH, 0, none⟩) hc hc), (26, .int .i32 (nl : Int)), (37, .slice (some ⟨bO, 0, none⟩) nl nl), (39, .int .i64 t), (40, .int .i32 ((L2 t : Nat) : Int)), (41, .int .i32 j)] [(60, ⟨bU, nt, nt, ints .i32 g⟩), (61, ⟨bH, hc, hc, ints .i32 ht⟩), (62, ⟨bV, nl, nl, ints .i32 q41⟩), (63, ⟨bX, nl, nl, ints .i32 q51⟩), (64, ⟨bO, nl, nl, bools ow1⟩)]
                      refine C_seq ?_
                      refine C_seq ?_
                      refine C_region ?_
                      refine V_w0.q (QY_move rfl) rfl ?_
                      refine V_w0.q (QY_move rfl) rfl ?_
                      refine W_lss V_w0 rfl rfl rfl (fun h205 => ?_) (fun h205 => ?_)
                      ·
                        refine V_nil (X_next ?_)
                        refine C_true rfl ?_
                        refine C_skip (X_next ?_)
                        refine C_seq ?_
                        refine C_block ?_
                        refine C_seq ?_
                        refine C_region ?_
                        refine V_w0.q (QY_move rfl) rfl ?_
                        refine V_w0.q (QY_move rfl) rfl ?_
                        refine W_elem V_w0 rfl rfl (hT.1.rd) (by omega) (by omega) sl42 lf22 rfl rfl (fun _ => ?_)
                        refine V_w0.q (QY_move rfl) rfl ?_
                        refine W_elem V_w0 rfl rfl ((hT.2 t (by omega) (by omega)).rd) (by omega) (by omega) sl22 lf21 rfl rfl (fun _ => ?_)
                        refine V_w0.q (QY_assign rfl) rfl ?_
                        refine V_nil (X_next ?_)
                        refine C_seq ?_
                        refine C_seq ?_
                        refine C_region ?_
                        refine V_w0.q (QY_move rfl) rfl ?_
                        refine W_lss V_w0 rfl rfl rfl (fun h216 => ?_) (fun h216 => ?_)
                        ·
                          refine V_w0.q (QY_move rfl) rfl ?_
                          refine V_walk.no rfl rfl rfl ?_
                          refine V_walk.no rfl rfl rfl ?_
                          refine V_walk.no rfl rfl rfl ?_
                          refine V_w0.q (QY_pick_true rfl rfl) rfl ?_
                          refine V_w0.q (QY_move rfl) rfl ?_
                          refine V_walk.no rfl rfl rfl ?_
                          refine V_walk.no rfl rfl rfl ?_
                          refine V_walk.no rfl rfl rfl ?_
                          refine V_walk.no rfl rfl rfl ?_
                          refine V_w0.q (QY_pick_true rfl rfl) rfl ?_
                          refine V_nil (X_next ?_)
                          refine C_true rfl ?_
                          refine C_ret (X_then_ret (X_block_ret (X_then_ret (X_then_ret (X_block_ret (X_block_ret (X_then_ret (X_then_ret (X_block_ret (X_then_ret (?_)))))))))))
                          refine X_retN (ts := [18, 19, 20, 21, 22, 23, 24, 25]) rfl (by decide) rfl (fun w hm => ?_)
                          exact ⟨⟨false, _, _, _, _, _, _, _⟩, (fun h => by cases h), rfl, hm.sub trivial⟩
                        ·
                          refine V_w0.q (QY_move rfl) rfl ?_
                          refine V_walk.yes rfl rfl ?_
                          refine V_w0.q (QY_move rfl) rfl ?_
                          refine V_walk.yes rfl rfl ?_
                          refine V_w0.q (QY_move rfl) rfl ?_
                          refine V_walk.yes rfl rfl ?_
                          refine W_geq V_w0 rfl rfl rfl (fun h220 => ?_) (fun h220 => ?_)
                          ·
                            refine V_w0.q (QY_pick_false rfl rfl) rfl ?_
                            refine V_w0.q (QY_move rfl) rfl ?_
                            refine V_walk.no rfl rfl rfl ?_
                            refine V_walk.no rfl rfl rfl ?_
                            refine V_walk.no rfl rfl rfl ?_
                            refine V_walk.no rfl rfl rfl ?_
                            refine V_w0.q (QY_pick_true rfl rfl) rfl ?_
                            refine V_nil (X_next ?_)
                            refine C_true rfl ?_
                            refine C_ret (X_then_ret (X_block_ret (X_then_ret (X_then_ret (X_block_ret (X_block_ret (X_then_ret (X_then_ret (X_block_ret (X_then_ret (?_)))))))))))
                            refine X_retN (ts := [18, 19, 20, 21, 22, 23, 24, 25]) rfl (by decide) rfl (fun w hm => ?_)
                            exact ⟨⟨false, _, _, _, _, _, _, _⟩, (fun h => by cases h), rfl, hm.sub trivial⟩
                          ·
                            refine V_w0.q (QY_pick_false rfl rfl) rfl ?_
                            refine V_w0.q (QY_move rfl) rfl ?_
                            refine V_walk.yes rfl rfl ?_
                            refine V_w0.q (QY_move rfl) rfl ?_
                            refine V_walk.yes rfl rfl ?_
                            refine V_w0.q (QY_move rfl) rfl ?_
                            refine V_walk.yes rfl rfl ?_
                            refine W_elem2 V_walk rfl (fun _ => rfl) rfl rfl (Rd_own (q := 64) rfl (by omega)) (by omega) (by omega) sl26 lf4 rfl rfl (fun _ => ?_)
                            refine W_bool V_w0 226 rfl (fun h226 => ?_) (fun h226 => ?_)
                            ·
                              refine V_w0.q (QY_pick_false rfl rfl) rfl ?_
                              refine V_nil (X_next ?_)
                              refine C_true rfl ?_
                              refine C_ret (X_then_ret (X_block_ret (X_then_ret (X_then_ret (X_block_ret (X_block_ret (X_then_ret (X_then_ret (X_block_ret (X_then_ret (?_)))))))))))
                              refine X_retN (ts := [18, 19, 20, 21, 22, 23, 24, 25]) rfl (by decide) rfl (fun w hm => ?_)
                              exact ⟨⟨false, _, _, _, _, _, _, _⟩, (fun h => by cases h), rfl, hm.sub trivial⟩
                            ·
                              refine V_w0.q (QY_pick_false rfl rfl) rfl ?_
                              refine V_nil (X_next ?_)
                              refine C_false rfl ?_
                              refine C_skip (X_next ?_)
                              refine C_seq ?_
                              refine C_region ?_
                              refine V_w0.q (QY_move rfl) rfl ?_
                              refine V_w0.q (QY_move rfl) rfl ?_
                              refine V_set (q := 64) rfl rfl rfl rfl rfl (by omega) (by omega) (by omega) sl26 lf4 rfl rfl (upd_bools _ _ _) (fun _ => ?_)
                              refine V_nil (X_next ?_)
                              refine C_seq ?_
                              refine C_region ?_
                              refine V_w0.q (QY_move rfl) rfl ?_
                              refine V_w0.q (QY_move rfl) rfl ?_
                              refine W_elem V_w0 rfl rfl (Rd_own (q := 60) rfl (by omega)) (by omega) (by omega) sl22 lf21 rfl rfl (fun _ => ?_)
                              refine W_geq V_w0 rfl rfl rfl (fun h235 => ?_) (fun h235 => ?_)
                              ·
                                refine V_nil (X_next ?_)
                                refine C_true rfl ?_
                                refine C_seq ?_
                                refine C_seq ?_
                                refine C_region ?_
                                refine V_w0.q (QY_move rfl) rfl ?_
                                refine V_w0.q (QY_move rfl) rfl ?_
                                refine W_elem V_w0 rfl rfl (hN.1.rd) (by omega) (by omega) sl42 lf22 rfl rfl (fun _ => ?_)
                                refine V_w0.q (QY_len sl22 rfl) rfl ?_
                                refine W_eql V_w0 rfl rfl rfl (fun h241 => ?_) (fun h241 => ?_)
                                ·
                                  refine V_nil (X_next ?_)
                                  refine C_true rfl ?_
                                  refine C_ret (X_then_ret (X_block_ret (X_then_ret (X_then_ret (X_block_ret (X_block_ret (X_then_ret (X_then_ret (X_block_ret (X_then_ret (?_)))))))))))
                                  refine X_retN (ts := [18, 19, 20, 21, 22, 23, 24, 25]) rfl (by decide) rfl (fun w hm => ?_)
                                  exact ⟨⟨false, _, _, _, _, _, _, _⟩, (fun h => by cases h), rfl, hm.sub trivial⟩
                                ·
                                  refine V_nil (X_next ?_)
                                  refine C_false rfl ?_
                                  refine C_skip (X_next ?_)
                                  refine C_seq ?_
                                  refine C_region ?_
                                  refine V_w0.q (QY_move rfl) rfl ?_
                                  refine V_w0.q (QY_move rfl) rfl ?_
                                  refine V_w0.q (QY_move rfl) rfl ?_
                                  refine V_w0.q (QY_conv it3 it21 rfl ⟨by omega, by omega⟩) rfl ?_
                                  refine V_set (q := 62) rfl rfl rfl rfl rfl (by omega) (by omega) (by omega) sl22 lf21 rfl rfl (upd_ints _ _ _ _) (fun _ => ?_)
                                  refine V_nil (X_next ?_)
                                  refine C_region ?_
                                  refine V_w0.q (QY_move rfl) rfl ?_
                                  refine V_w0.q (QY_move rfl) rfl ?_
                                  refine V_w0.q (QY_move rfl) rfl ?_
                                  refine V_w0.q (QY_move rfl) rfl ?_
                                  refine V_w0.q (QY_arith rfl rfl rfl ⟨by omega, by omega⟩) rfl ?_
                                  refine V_set (q := 63) rfl rfl rfl rfl rfl (by omega) (by omega) (by omega) sl22 lf21 rfl rfl (upd_ints _ _ _ _) (fun _ => ?_)
                                  refine V_nil (X_block (X_next ?_))
                                  refine C_region ?_
                                  refine V_w0.q (QY_move rfl) rfl ?_
                                  refine V_w0.q (QY_arith rfl rfl rfl ⟨by omega, by omega⟩) rfl ?_
                                  refine V_w0.q (QY_assign rfl) rfl ?_
                                  refine V_nil (X_then ?_)
                                  refine X_round (j + 1, upd ow1 (Z2 t j) true, upd q41 (Z2 t j) t, upd q51 (Z2 t j) ((L2 t : Nat) + j)) ?_ ?_ ?_ ?_
                                  · exact ⟨by omega, by omega, hlv.next ht0 hj0 (by omega) (by omega) h226 _ (.inl ⟨by omega, by omega, rfl⟩)⟩
                                  · show (((L2 t : Nat) : Int) - (j + 1)).toNat < (((L2 t : Nat) : Int) - j).toNat
                                    omega
                                  · exact ⟨rfl, rfl, rfl, rfl, rfl, rfl, rfl, rfl, rfl, rfl, rfl, rfl, rfl, rfl, rfl, rfl, rfl, rfl, rfl, rfl, rfl, rfl, trivial⟩
                                  · exact ⟨rfl, rfl, rfl, rfl, rfl, trivial⟩
                              ·
                                refine V_nil (X_next ?_)
                                refine C_false rfl ?_
                                refine C_skip (X_block (X_next ?_))
                                refine C_region ?_
                                refine V_w0.q (QY_move rfl) rfl ?_
                                refine V_w0.q (QY_arith rfl rfl rfl ⟨by omega, by omega⟩) rfl ?_
                                refine V_w0.q (QY_assign rfl) rfl ?_
                                refine V_nil (X_then ?_)
                                refine X_round (j + 1, upd ow1 (Z2 t j) true, q41, q51) ?_ ?_ ?_ ?_
                                · exact ⟨by omega, by omega, hlv.next ht0 hj0 (by omega) (by omega) h226 _ (.inr ⟨by omega, rfl⟩)⟩
                                · show (((L2 t : Nat) : Int) - (j + 1)).toNat < (((L2 t : Nat) : Int) - j).toNat
                                  omega
                                · exact ⟨rfl, rfl, rfl, rfl, rfl, rfl, rfl, rfl, rfl, rfl, rfl, rfl, rfl, rfl, rfl, rfl, rfl, rfl, rfl, rfl, rfl, rfl, trivial⟩
                                · exact ⟨rfl, rfl, rfl, rfl, rfl, trivial⟩
                      ·
                        refine V_nil (X_next ?_)
                        refine C_false rfl ?_
                        refine C_exit (X_then_exit (X_then_exit (X_block_exit (X_block (X_next ?_)))))
                        refine C_region ?_
                        refine V_w0.q (QY_move rfl) rfl ?_
                        refine V_w0.q (QY_arith rfl rfl rfl ⟨by omega, by omega⟩) rfl ?_
                        refine V_w0.q (QY_assign rfl) rfl ?_
                        refine V_nil (X_then ?_)
                        refine X_round (t + 1, ow1, q41, q51) ?_ ?_ ?_ ?_
                        · exact ⟨by omega, by omega, hlv.tree (by omega)⟩
                        · show ((nt : Int) - (t + 1)).toNat < ((nt : Int) - t).toNat
                          omega
                        · exact ⟨rfl, rfl, rfl, rfl, rfl, rfl, rfl, rfl, rfl, rfl, rfl, rfl, rfl, rfl, rfl, rfl, rfl, rfl, rfl, rfl, trivial⟩
                        · exact ⟨rfl, rfl, rfl, rfl, rfl, trivial⟩
                    ·
                      obtain rfl : t = (nt : Int) := by omega
                      refine V_nil (X_next ?_)
                      refine C_false rfl ?_
                      refine C_exit (X_then_exit (X_then_exit (X_block_exit (X_next ?_))))
                      refine C_seq ?_
                      refine C_seq ?_
                      refine C_region ?_
                      refine V_w0.q (QY_assign rfl) rfl ?_
                      refine V_nil (X_next ?_)
                      refine C_block ?_
                      refine C_loops (T := Int) (fun (i : Int) => [(0, .slice aF nf cF), (1, .slice aO no cO), (2, .slice aL nc cL), (3, .slice aN nl cN), (4, .slice aR ns cR), (5, .slice aP np cP), (6, .slice aQ nq cQ), (7, .slice aT nt cT), (8, .slice aH nh cH), (18, .bool false), (19, .int .i32 (n : Int)), (20, .int .i32 ((n : Int) - hc)), (21, .slice none 0 0), (22, .slice (some ⟨bV, 0, none⟩) nl nl), (23, .slice (some ⟨bX, 0, none⟩) nl nl), (24, .slice (some ⟨bU, 0, none⟩) nt nt), (25, .slice (some ⟨bH, 0, none⟩) hc hc), (26, .int .i32 (nl : Int)), (37, .slice (some ⟨bO, 0, none⟩) nl nl), (43, .int .i64 i)]) (fun (i : Int) => [(60, ⟨bU, nt, nt, ints .i32 g⟩), (61, ⟨bH, hc, hc, ints .i32 ht⟩), (62, ⟨bV, nl, nl, ints .i32 q4⟩), (63, ⟨bX, nl, nl, ints .i32 q5⟩), (64, ⟨bO, nl, nl, bools ow⟩)]) (fun (i : Int) => 0 ≤ i ∧ i ≤ ns ∧ SpI nl ((n : Int) - hc) L1 sr sl ss i) (fun (i : Int) => ((ns : Int) - i).toNat) 0 ?_ ?_ ?_ ?_
                      · exact ⟨by omega, by omega, fun i a b => by omega, fun i a b => by omega⟩
                      · exact ⟨rfl, rfl, rfl, rfl, rfl, rfl, rfl, rfl, rfl, rfl, rfl, rfl, rfl, rfl, rfl, rfl, rfl, rfl, rfl, rfl, trivial⟩
                      · exact ⟨rfl, rfl, rfl, rfl, rfl, trivial⟩
                      rintro i ⟨hi0, hi1, hsp⟩
                      show C _ _ _ _ _ _ [(0, .slice aF nf cF), (1, .slice aO no cO), (2, .slice aL nc cL), (3, .slice aN nl cN), (4, .slice aR ns cR), (5, .slice aP np cP), (6, .slice aQ nq cQ), (7, .slice aT nt cT), (8, .slice aH nh cH), (18, .bool false), (19, .int .i32 (n : Int)), (20, .int .i32 ((n : Int) - hc)), (21, .slice none 0 0), (22, .slice (some ⟨bV, 0, none⟩) nl nl), (23, .slice (some ⟨bX, 0, none⟩) nl nl), (24, .slice (some ⟨bU, 0, none⟩) nt nt), (25, .slice (some ⟨bH, 0, none⟩) hc hc), (26, .int .i32 (nl : Int)), (37, .slice (some ⟨bO, 0, none⟩) nl nl), (43, .int .i64 i)] [(60, ⟨bU, nt, nt, ints .i32 g⟩), (61, ⟨bH, hc, hc, ints .i32 ht⟩), (62, ⟨bV, nl, nl, ints .i32 q4⟩), (63, ⟨bX, nl, nl, ints .i32 q5⟩), (64, ⟨bO, nl, nl, bools ow⟩)]
                      refine C_seq ?_
                      refine C_seq ?_
                      refine C_region ?_
                      refine V_w0.q (QY_move rfl) rfl ?_
                      refine V_w0.q (QY_move rfl) rfl ?_
                      refine V_w0.q (QY_len sl22 rfl) rfl ?_
                      refine W_lss V_w0 rfl rfl rfl (fun h256 => ?_) (fun h256 => ?_)
                      ·
                        refine V_nil (X_next ?_)
                        refine C_true rfl ?_
                        refine C_skip (X_next ?_)
                        refine C_seq ?_
                        refine C_block ?_
                        refine C_seq ?_
                        refine C_region ?_
                        refine V_w0.q (QY_move rfl) rfl ?_
                        refine V_w0.q (QY_move rfl) rfl ?_
                        refine W_elem V_w0 rfl rfl (hR.rd) (by omega) (by omega) sl22 lf21 rfl rfl (fun _ => ?_)
                        refine V_w0.q (QY_assign rfl) rfl ?_
                        refine V_nil (X_next ?_)
                        refine C_seq ?_
                        refine C_region ?_
                        refine V_w0.q (QY_move rfl) rfl ?_
                        refine V_w0.q (QY_move rfl) rfl ?_
                        refine W_elem V_w0 rfl rfl (hP.rd) (by omega) (by omega) sl22 lf21 rfl rfl (fun _ => ?_)
                        refine V_w0.q (QY_assign rfl) rfl ?_
                        refine V_nil (X_next ?_)
                        refine C_seq ?_
                        refine C_region ?_
                        refine V_w0.q (QY_move rfl) rfl ?_
                        refine V_w0.q (QY_move rfl) rfl ?_
                        refine W_elem V_w0 rfl rfl (hQ.rd) (by omega) (by omega) sl22 lf21 rfl rfl (fun _ => ?_)
                        refine V_w0.q (QY_assign rfl) rfl ?_
                        refine V_nil (X_next ?_)
                        refine C_seq ?_
                        refine C_seq ?_
                        refine C_region ?_
                        refine V_w0.q (QY_move rfl) rfl ?_
                        refine W_lss V_w0 rfl rfl rfl (fun h272 => ?_) (fun h272 => ?_)
                        ·
                          refine V_w0.q (QY_move rfl) rfl ?_
                          refine V_walk.no rfl rfl rfl ?_
                          refine V_walk.no rfl rfl rfl ?_
                          refine V_walk.no rfl rfl rfl ?_
                          refine V_w0.q (QY_pick_true rfl rfl) rfl ?_
                          refine V_w0.q (QY_move rfl) rfl ?_
                          refine V_walk.no rfl rfl rfl ?_
                          refine V_walk.no rfl rfl rfl ?_
                          refine V_w0.q (QY_pick_true rfl rfl) rfl ?_
                          refine V_w0.q (QY_move rfl) rfl ?_
                          refine V_walk.no rfl rfl rfl ?_
                          refine V_walk.no rfl rfl rfl ?_
                          refine V_walk.no rfl rfl rfl ?_
                          refine V_w0.q (QY_pick_true rfl rfl) rfl ?_
                          refine V_w0.q (QY_move rfl) rfl ?_
                          refine V_walk.no rfl rfl rfl ?_
                          refine V_walk.no rfl rfl rfl ?_
                          refine V_w0.q (QY_pick_true rfl rfl) rfl ?_
                          refine V_w0.q (QY_move rfl) rfl ?_
                          refine V_walk.no rfl rfl rfl ?_
                          have hqw := hQw i hi0 (by omega)
                          refine V_walk.no rfl rfl rfl ?_
                          refine V_walk.no rfl rfl rfl ?_
                          refine V_walk.no rfl rfl rfl ?_
                          refine V_walk.no rfl rfl rfl ?_
                          refine V_walk.no rfl rfl rfl ?_
                          refine V_walk.no rfl rfl rfl ?_
                          refine V_walk.no rfl rfl rfl ?_
                          refine V_w0.q (QY_pick_true rfl rfl) rfl ?_
                          refine V_nil (X_next ?_)
                          refine C_true rfl ?_
                          refine C_ret (X_then_ret (X_block_ret (X_then_ret (X_then_ret (X_block_ret (X_then_ret (?_)))))))
                          refine X_retN (ts := [18, 19, 20, 21, 22, 23, 24, 25]) rfl (by decide) rfl (fun w hm => ?_)
                          exact ⟨⟨false, _, _, _, _, _, _, _⟩, (fun h => by cases h), rfl, hm.sub trivial⟩
                        ·
                          refine V_w0.q (QY_move rfl) rfl ?_
                          refine V_walk.yes rfl rfl ?_
                          refine V_w0.q (QY_move rfl) rfl ?_
                          refine V_walk.yes rfl rfl ?_
                          refine V_w0.q (QY_move rfl) rfl ?_
                          refine V_walk.yes rfl rfl ?_
                          refine W_geq V_w0 rfl rfl rfl (fun h276 => ?_) (fun h276 => ?_)
                          ·
                            refine V_w0.q (QY_pick_false rfl rfl) rfl ?_
                            refine V_w0.q (QY_move rfl) rfl ?_
                            refine V_walk.no rfl rfl rfl ?_
                            refine V_walk.no rfl rfl rfl ?_
                            refine V_w0.q (QY_pick_true rfl rfl) rfl ?_
                            refine V_w0.q (QY_move rfl) rfl ?_
                            refine V_walk.no rfl rfl rfl ?_
                            refine V_walk.no rfl rfl rfl ?_
                            refine V_walk.no rfl rfl rfl ?_
                            refine V_w0.q (QY_pick_true rfl rfl) rfl ?_
                            refine V_w0.q (QY_move rfl) rfl ?_
                            refine V_walk.no rfl rfl rfl ?_
                            refine V_walk.no rfl rfl rfl ?_
                            refine V_w0.q (QY_pick_true rfl rfl) rfl ?_
                            refine V_w0.q (QY_move rfl) rfl ?_
                            refine V_walk.no rfl rfl rfl ?_
                            have hqw := hQw i hi0 (by omega)
                            refine V_walk.no rfl rfl rfl ?_
                            refine V_walk.no rfl rfl rfl ?_
                            refine V_walk.no rfl rfl rfl ?_
                            refine V_walk.no rfl rfl rfl ?_
                            refine V_walk.no rfl rfl rfl ?_
                            refine V_walk.no rfl rfl rfl ?_
                            refine V_walk.no rfl rfl rfl ?_
                            refine V_w0.q (QY_pick_true rfl rfl) rfl ?_
                            refine V_nil (X_next ?_)
                            refine C_true rfl ?_
                            refine C_ret (X_then_ret (X_block_ret (X_then_ret (X_then_ret (X_block_ret (X_then_ret (?_)))))))
                            refine X_retN (ts := [18, 19, 20, 21, 22, 23, 24, 25]) rfl (by decide) rfl (fun w hm => ?_)
                            exact ⟨⟨false, _, _, _, _, _, _, _⟩, (fun h => by cases h), rfl, hm.sub trivial⟩
                          ·
                            refine V_w0.q (QY_pick_false rfl rfl) rfl ?_
                            refine V_w0.q (QY_move rfl) rfl ?_
                            refine V_walk.yes rfl rfl ?_
                            refine V_w0.q (QY_move rfl) rfl ?_
                            refine V_walk.yes rfl rfl ?_
                            refine W_lss V_w0 rfl rfl rfl (fun h280 => ?_) (fun h280 => ?_)
                            ·
                              refine V_w0.q (QY_pick_false rfl rfl) rfl ?_
                              refine V_w0.q (QY_move rfl) rfl ?_
                              refine V_walk.no rfl rfl rfl ?_
                              refine V_walk.no rfl rfl rfl ?_
                              refine V_walk.no rfl rfl rfl ?_
                              refine V_w0.q (QY_pick_true rfl rfl) rfl ?_
                              refine V_w0.q (QY_move rfl) rfl ?_
                              refine V_walk.no rfl rfl rfl ?_
                              refine V_walk.no rfl rfl rfl ?_
                              refine V_w0.q (QY_pick_true rfl rfl) rfl ?_
                              refine V_w0.q (QY_move rfl) rfl ?_
                              refine V_walk.no rfl rfl rfl ?_
                              have hqw := hQw i hi0 (by omega)
                              refine V_walk.no rfl rfl rfl ?_
                              refine V_walk.no rfl rfl rfl ?_
                              refine V_walk.no rfl rfl rfl ?_
                              refine V_walk.no rfl rfl rfl ?_
                              refine V_walk.no rfl rfl rfl ?_
                              refine V_walk.no rfl rfl rfl ?_
                              refine V_walk.no rfl rfl rfl ?_
                              refine V_w0.q (QY_pick_true rfl rfl) rfl ?_
                              refine V_nil (X_next ?_)
                              refine C_true rfl ?_
                              refine C_ret (X_then_ret (X_block_ret (X_then_ret (X_then_ret (X_block_ret (X_then_ret (?_)))))))
                              refine X_retN (ts := [18, 19, 20, 21, 22, 23, 24, 25]) rfl (by decide) rfl (fun w hm => ?_)
                              exact ⟨⟨false, _, _, _, _, _, _, _⟩, (fun h => by cases h), rfl, hm.sub trivial⟩
                            ·
                              refine V_w0.q (QY_pick_false rfl rfl) rfl ?_
                              refine V_w0.q (QY_move rfl) rfl ?_
                              refine V_walk.yes rfl rfl ?_
                              refine V_w0.q (QY_move rfl) rfl ?_
                              refine V_walk.yes rfl rfl ?_
                              refine V_w0.q (QY_move rfl) rfl ?_
                              refine V_walk.yes rfl rfl ?_
                              refine W_geq V_w0 rfl rfl rfl (fun h285 => ?_) (fun h285 => ?_)
                              ·
                                refine V_w0.q (QY_pick_false rfl rfl) rfl ?_
                                refine V_w0.q (QY_move rfl) rfl ?_
                                refine V_walk.no rfl rfl rfl ?_
                                refine V_walk.no rfl rfl rfl ?_
                                refine V_w0.q (QY_pick_true rfl rfl) rfl ?_
                                refine V_w0.q (QY_move rfl) rfl ?_
                                refine V_walk.no rfl rfl rfl ?_
                                have hqw := hQw i hi0 (by omega)
                                refine V_walk.no rfl rfl rfl ?_
                                refine V_walk.no rfl rfl rfl ?_
                                refine V_walk.no rfl rfl rfl ?_
                                refine V_walk.no rfl rfl rfl ?_
                                refine V_walk.no rfl rfl rfl ?_
                                refine V_walk.no rfl rfl rfl ?_
                                refine V_walk.no rfl rfl rfl ?_
                                refine V_w0.q (QY_pick_true rfl rfl) rfl ?_
                                refine V_nil (X_next ?_)
                                refine C_true rfl ?_
                                refine C_ret (X_then_ret (X_block_ret (X_then_ret (X_then_ret (X_block_ret (X_then_ret (?_)))))))
                                refine X_retN (ts := [18, 19, 20, 21, 22, 23, 24, 25]) rfl (by decide) rfl (fun w hm => ?_)
                                exact ⟨⟨false, _, _, _, _, _, _, _⟩, (fun h => by cases h), rfl, hm.sub trivial⟩
                              ·
                                refine V_w0.q (QY_pick_false rfl rfl) rfl ?_
                                refine V_w0.q (QY_move rfl) rfl ?_
                                refine V_walk.yes rfl rfl ?_
                                refine V_w0.q (QY_move rfl) rfl ?_
                                refine V_walk.yes rfl rfl ?_
                                refine W_lss V_w0 rfl rfl rfl (fun h289 => ?_) (fun h289 => ?_)
                                ·
                                  refine V_w0.q (QY_pick_false rfl rfl) rfl ?_
                                  refine V_w0.q (QY_move rfl) rfl ?_
                                  refine V_walk.no rfl rfl rfl ?_
                                  have hqw := hQw i hi0 (by omega)
                                  refine V_walk.no rfl rfl rfl ?_
                                  refine V_walk.no rfl rfl rfl ?_
                                  refine V_walk.no rfl rfl rfl ?_
                                  refine V_walk.no rfl rfl rfl ?_
                                  refine V_walk.no rfl rfl rfl ?_
                                  refine V_walk.no rfl rfl rfl ?_
                                  refine V_walk.no rfl rfl rfl ?_
                                  refine V_w0.q (QY_pick_true rfl rfl) rfl ?_
                                  refine V_nil (X_next ?_)
                                  refine C_true rfl ?_
                                  refine C_ret (X_then_ret (X_block_ret (X_then_ret (X_then_ret (X_block_ret (X_then_ret (?_)))))))
                                  refine X_retN (ts := [18, 19, 20, 21, 22, 23, 24, 25]) rfl (by decide) rfl (fun w hm => ?_)
                                  exact ⟨⟨false, _, _, _, _, _, _, _⟩, (fun h => by cases h), rfl, hm.sub trivial⟩
                                ·
                                  refine V_w0.q (QY_pick_false rfl rfl) rfl ?_
                                  refine V_w0.q (QY_move rfl) rfl ?_
                                  refine V_walk.yes rfl rfl ?_
                                  refine V_w0.q (QY_move rfl) rfl ?_
                                  have hqw := hQw i hi0 (by omega)
                                  refine V_walk.yes rfl rfl ?_
                                  refine V_w0.q (QY_conv it21 it3 rfl ⟨by omega, by omega⟩) rfl ?_
                                  refine V_walk.yes rfl rfl ?_
                                  refine V_w0.q (QY_move rfl) rfl ?_
                                  refine V_walk.yes rfl rfl ?_
                                  refine V_w0.q (QY_move rfl) rfl ?_
                                  refine V_walk.yes rfl rfl ?_
                                  refine W_elem2 V_walk rfl (fun _ => rfl) rfl rfl (hN.1.rd) (by omega) (by omega) sl42 lf22 rfl rfl (fun _ => ?_)
                                  refine V_walk.yes rfl rfl ?_
                                  refine V_w0.q (QY_len sl22 rfl) rfl ?_
                                  refine V_walk.yes rfl rfl ?_
                                  refine W_geq V_w0 rfl rfl rfl (fun h299 => ?_) (fun h299 => ?_)
                                  ·
                                    refine V_w0.q (QY_pick_false rfl rfl) rfl ?_
                                    refine V_nil (X_next ?_)
                                    refine C_true rfl ?_
                                    refine C_ret (X_then_ret (X_block_ret (X_then_ret (X_then_ret (X_block_ret (X_then_ret (?_)))))))
                                    refine X_retN (ts := [18, 19, 20, 21, 22, 23, 24, 25]) rfl (by decide) rfl (fun w hm => ?_)
                                    exact ⟨⟨false, _, _, _, _, _, _, _⟩, (fun h => by cases h), rfl, hm.sub trivial⟩
                                  ·
                                    refine V_w0.q (QY_pick_false rfl rfl) rfl ?_
                                    refine V_nil (X_next ?_)
                                    refine C_false rfl ?_
                                    refine C_skip (X_next ?_)
                                    refine C_seq ?_
                                    refine C_region ?_
                                    refine V_w0.q (QY_move rfl) rfl ?_
                                    refine W_gtr V_w0 rfl rfl rfl (fun h302 => ?_) (fun h302 => ?_)
                                    ·
                                      refine V_nil (X_next ?_)
                                      refine C_true rfl ?_
                                      refine C_seq ?_
                                      refine C_region ?_
                                      refine V_w0.q (QY_move rfl) rfl ?_
                                      refine V_w0.q (QY_move rfl) rfl ?_
                                      refine V_w0.q (QY_arith rfl rfl rfl ⟨by omega, by omega⟩) rfl ?_
                                      refine W_elem V_w0 rfl rfl (hP.rd) (by omega) (by omega) sl22 lf21 rfl rfl (fun _ => ?_)
                                      refine V_w0.q (QY_assign rfl) rfl ?_
                                      refine V_nil (X_next ?_)
                                      refine C_seq ?_
                                      refine C_region ?_
                                      refine V_w0.q (QY_move rfl) rfl ?_
                                      refine V_w0.q (QY_move rfl) rfl ?_
                                      refine V_w0.q (QY_arith rfl rfl rfl ⟨by omega, by omega⟩) rfl ?_
                                      refine W_elem V_w0 rfl rfl (hQ.rd) (by omega) (by omega) sl22 lf21 rfl rfl (fun _ => ?_)
                                      refine V_w0.q (QY_assign rfl) rfl ?_
                                      refine V_nil (X_next ?_)
                                      refine C_seq ?_
                                      refine C_region ?_
                                      refine V_w0.q (QY_move rfl) rfl ?_
                                      refine V_w0.q (QY_move rfl) rfl ?_
                                      refine W_gtr V_w0 rfl rfl rfl (fun h315 => ?_) (fun h315 => ?_)
                                      ·
                                        refine V_w0.q (QY_move rfl) rfl ?_
                                        refine V_walk.no rfl rfl rfl ?_
                                        refine V_walk.no rfl rfl rfl ?_
                                        refine V_walk.no rfl rfl rfl ?_
                                        refine V_walk.no rfl rfl rfl ?_
                                        refine V_no2 rfl rfl rfl ?_
                                        refine V_no2 rfl rfl rfl ?_
                                        refine V_no2 rfl rfl rfl ?_
                                        refine V_walk.no rfl rfl rfl ?_
                                        refine V_w0.q (QY_pick_true rfl rfl) rfl ?_
                                        refine V_nil (X_next ?_)
                                        refine C_true rfl ?_
                                        refine C_ret (X_block_ret (X_then_ret (X_then_ret (X_block_ret (X_then_ret (?_))))))
                                        refine X_retN (ts := [18, 19, 20, 21, 22, 23, 24, 25]) rfl (by decide) rfl (fun w hm => ?_)
                                        exact ⟨⟨false, _, _, _, _, _, _, _⟩, (fun h => by cases h), rfl, hm.sub trivial⟩
                                      ·
                                        refine V_w0.q (QY_move rfl) rfl ?_
                                        refine V_walk.yes rfl rfl ?_
                                        refine V_w0.q (QY_move rfl) rfl ?_
                                        refine V_walk.yes rfl rfl ?_
                                        refine V_w0.q (QY_move rfl) rfl ?_
                                        refine V_walk.yes rfl rfl ?_
                                        refine W_eql V_w0 rfl rfl rfl (fun h319 => ?_) (fun h319 => ?_)
                                        ·
                                          refine V_walk.yes rfl rfl ?_
                                          refine V_w0.q (QY_move rfl) rfl ?_
                                          refine V_walk.yes rfl rfl ?_
                                          refine V_w0.q (QY_move rfl) rfl ?_
                                          refine V_walk.yes rfl rfl ?_
                                          refine V_w0.q (QY_move rfl) rfl ?_
                                          refine V_walk.yes rfl rfl ?_
                                          refine W_gtr V_w0 rfl rfl rfl (fun h323 => ?_) (fun h323 => ?_)
                                          ·
                                            refine V_walk.yes rfl rfl ?_
                                            refine V_w0.q (QY_pick_true rfl rfl) rfl ?_
                                            refine V_w0.q (QY_pick_false rfl rfl) rfl ?_
                                            refine V_nil (X_next ?_)
                                            refine C_true rfl ?_
                                            refine C_ret (X_block_ret (X_then_ret (X_then_ret (X_block_ret (X_then_ret (?_))))))
                                            refine X_retN (ts := [18, 19, 20, 21, 22, 23, 24, 25]) rfl (by decide) rfl (fun w hm => ?_)
                                            exact ⟨⟨false, _, _, _, _, _, _, _⟩, (fun h => by cases h), rfl, hm.sub trivial⟩
                                          ·
                                            refine V_walk.yes rfl rfl ?_
                                            refine V_w0.q (QY_pick_true rfl rfl) rfl ?_
                                            refine V_w0.q (QY_pick_false rfl rfl) rfl ?_
                                            refine V_nil (X_next ?_)
                                            refine C_false rfl ?_
                                            refine C_skip (X_block (X_next ?_))
                                            refine C_region ?_
                                            refine V_w0.q (QY_move rfl) rfl ?_
                                            refine V_w0.q (QY_arith rfl rfl rfl ⟨by omega, by omega⟩) rfl ?_
                                            refine V_w0.q (QY_assign rfl) rfl ?_
                                            refine V_nil (X_then ?_)
                                            refine X_round (i + 1) ?_ ?_ ?_ ?_
                                            · refine ⟨by omega, by omega, fun i9 a b => ?_, fun i9 a b => ?_⟩
                                              · by_cases e : i = i9
                                                · subst e; exact ⟨by omega, by omega, by omega, by omega, by omega, by omega⟩
                                                · exact hsp.1 i9 a (by omega)
                                              · by_cases e : i = i9
                                                · subst e; exact .inr ⟨by omega, by omega⟩
                                                · exact hsp.2 i9 a (by omega)
                                            · show ((ns : Int) - (i + 1)).toNat < ((ns : Int) - i).toNat
                                              omega
                                            · exact ⟨rfl, rfl, rfl, rfl, rfl, rfl, rfl, rfl, rfl, rfl, rfl, rfl, rfl, rfl, rfl, rfl, rfl, rfl, rfl, rfl, trivial⟩
                                            · exact ⟨rfl, rfl, rfl, rfl, rfl, trivial⟩
                                        ·
                                          refine V_walk.yes rfl rfl ?_
                                          refine V_w0.q (QY_move rfl) rfl ?_
                                          refine V_walk.no rfl rfl rfl ?_
                                          refine V_walk.no rfl rfl rfl ?_
                                          refine V_walk.no rfl rfl rfl ?_
                                          refine V_walk.yes rfl rfl ?_
                                          refine V_w0.q (QY_pick_false rfl rfl) rfl ?_
                                          refine V_w0.q (QY_pick_false rfl rfl) rfl ?_
                                          refine V_nil (X_next ?_)
                                          refine C_false rfl ?_
                                          refine C_skip (X_block (X_next ?_))
                                          refine C_region ?_
                                          refine V_w0.q (QY_move rfl) rfl ?_
                                          refine V_w0.q (QY_arith rfl rfl rfl ⟨by omega, by omega⟩) rfl ?_
                                          refine V_w0.q (QY_assign rfl) rfl ?_
                                          refine V_nil (X_then ?_)
                                          refine X_round (i + 1) ?_ ?_ ?_ ?_
                                          · refine ⟨by omega, by omega, fun i9 a b => ?_, fun i9 a b => ?_⟩
                                            · by_cases e : i = i9
                                              · subst e; exact ⟨by omega, by omega, by omega, by omega, by omega, by omega⟩
                                              · exact hsp.1 i9 a (by omega)
                                            · by_cases e : i = i9
                                              · subst e; exact .inl (by omega)
                                              · exact hsp.2 i9 a (by omega)
                                          · show ((ns : Int) - (i + 1)).toNat < ((ns : Int) - i).toNat
                                            omega
                                          · exact ⟨rfl, rfl, rfl, rfl, rfl, rfl, rfl, rfl, rfl, rfl, rfl, rfl, rfl, rfl, rfl, rfl, rfl, rfl, rfl, rfl, trivial⟩
                                          · exact ⟨rfl, rfl, rfl, rfl, rfl, trivial⟩
                                    ·
                                      refine V_nil (X_next ?_)
                                      refine C_false rfl ?_
                                      refine C_skip (X_block (X_next ?_))
                                      refine C_region ?_
                                      refine V_w0.q (QY_move rfl) rfl ?_
                                      refine V_w0.q (QY_arith rfl rfl rfl ⟨by omega, by omega⟩) rfl ?_
                                      refine V_w0.q (QY_assign rfl) rfl ?_
                                      refine V_nil (X_then ?_)
                                      refine X_round (i + 1) ?_ ?_ ?_ ?_
                                      · refine ⟨by omega, by omega, fun i9 a b => ?_, fun i9 a b => ?_⟩
                                        · by_cases e : i = i9
                                          · subst e; exact ⟨by omega, by omega, by omega, by omega, by omega, by omega⟩
                                          · exact hsp.1 i9 a (by omega)
                                        · by_cases e : i = i9
                                          · subst e; omega
                                          · exact hsp.2 i9 a (by omega)
                                      · show ((ns : Int) - (i + 1)).toNat < ((ns : Int) - i).toNat
                                        omega
                                      · exact ⟨rfl, rfl, rfl, rfl, rfl, rfl, rfl, rfl, rfl, rfl, rfl, rfl, rfl, rfl, rfl, rfl, rfl, rfl, rfl, rfl, trivial⟩
                                      · exact ⟨rfl, rfl, rfl, rfl, rfl, trivial⟩
                      ·
                        obtain rfl : i = (ns : Int) := by omega
                        refine V_nil (X_next ?_)
                        refine C_false rfl ?_
                        refine C_exit (X_then_exit (X_then_exit (X_block_exit (X_next ?_))))
                        refine C_seq ?_
                        refine C_region ?_
                        refine V_w0.q (QY_move rfl) rfl ?_
                        refine V_w0.q (QY_arith rfl rfl rfl ⟨by omega, by omega⟩) rfl ?_
                        refine V_make 65 mk22 rfl rfl rfl (by omega) (by omega) (by omega) (by omega) rfl (fun bY => ?_)
                        refine V_w0.q (QY_assign rfl) rfl ?_
                        refine V_nil (X_next ?_)
                        refine C_seq ?_
                        refine C_region ?_
                        refine V_w0.q (QY_assign rfl) rfl ?_
                        refine V_nil (X_next ?_)
                        refine C_seq ?_
                        refine C_seq ?_
                        refine C_region ?_
                        refine V_w0.q (QY_assign rfl) rfl ?_
                        refine V_nil (X_next ?_)
                        refine C_block ?_
                        refine C_loops (T := Int × Int × (Int → Int)) (fun (zz9 : Int × Int × (Int → Int)) => match zz9 with | (l, k, lf) => [(0, .slice aF nf cF), (1, .slice aO no cO), (2, .slice aL nc cL), (3, .slice aN nl cN), (4, .slice aR ns cR), (5, .slice aP np cP), (6, .slice aQ nq cQ), (7, .slice aT nt cT), (8, .slice aH nh cH), (18, .bool false), (19, .int .i32 (n : Int)), (20, .int .i32 ((n : Int) - hc)), (21, .slice (some ⟨bY, 0, none⟩) ((nl : Int) + 1).toNat ((nl : Int) + 1).toNat), (22, .slice (some ⟨bV, 0, none⟩) nl nl), (23, .slice (some ⟨bX, 0, none⟩) nl nl), (24, .slice (some ⟨bU, 0, none⟩) nt nt), (25, .slice (some ⟨bH, 0, none⟩) hc hc), (26, .int .i32 (nl : Int)), (49, .int .i64 k), (50, .int .i32 l)]) (fun (zz9 : Int × Int × (Int → Int)) => match zz9 with | (l, k, lf) => [(60, ⟨bU, nt, nt, ints .i32 g⟩), (61, ⟨bH, hc, hc, ints .i32 ht⟩), (62, ⟨bV, nl, nl, ints .i32 q4⟩), (63, ⟨bX, nl, nl, ints .i32 q5⟩), (65, ⟨bY, ((nl : Int) + 1).toNat, (nl : Int) + 1, ints .i32 lf⟩)]) (fun (zz9 : Int × Int × (Int → Int)) => match zz9 with | (l, k, lf) => 0 ≤ l ∧ l ≤ (nl : Int) + 1 ∧ 0 ≤ k ∧ k ≤ ns ∧ (∀ i, 0 ≤ i → i < k → sl i < l) ∧ ∀ l9, 0 ≤ l9 → l9 < l → LfOK ns sl l9 (lf l9)) (fun (zz9 : Int × Int × (Int → Int)) => match zz9 with | (l, k, lf) => ((nl : Int) + 1 - l).toNat) (0, 0, fun _ => 0) ?_ ?_ ?_ ?_
                        · exact ⟨by omega, by omega, by omega, by omega, fun i a b => by omega, fun l9 a b => by omega⟩
                        · exact ⟨rfl, rfl, rfl, rfl, rfl, rfl, rfl, rfl, rfl, rfl, rfl, rfl, rfl, rfl, rfl, rfl, rfl, rfl, rfl, rfl, trivial⟩
                        · exact ⟨rfl, rfl, rfl, rfl, rfl, trivial⟩
                        rintro ⟨l, k, lf⟩ ⟨hl0, hl1, hk0, hk1, hks, hlf⟩
                        show C _ _ _ _ _ _ [(0, .slice aF nf cF), (1, .slice aO no cO), (2, .slice aL nc cL), (3, .slice aN nl cN), (4, .slice aR ns cR), (5, .slice aP np cP), (6, .slice aQ nq cQ), (7, .slice aT nt cT), (8, .slice aH nh cH), (18, .bool false), (19, .int .i32 (n : Int)), (20, .int .i32 ((n : Int) - hc)), (21, .slice (some ⟨bY, 0, none⟩) ((nl : Int) + 1).toNat ((nl : Int) + 1).toNat), (22, .slice (some ⟨bV, 0, none⟩) nl nl), (23, .slice (some ⟨bX, 0, none⟩) nl nl), (24, .slice (some ⟨bU, 0, none⟩) nt nt), (25, .slice (some ⟨bH, 0, none⟩) hc hc), (26, .int .i32 (nl : Int)), (49, .int .i64 k), (50, .int .i32 l)] [(60, ⟨bU, nt, nt, ints .i32 g⟩), (61, ⟨bH, hc, hc, ints .i32 ht⟩), (62, ⟨bV, nl, nl, ints .i32 q4⟩), (63, ⟨bX, nl, nl, ints .i32 q5⟩), (65, ⟨bY, ((nl : Int) + 1).toNat, (nl : Int) + 1, ints .i32 lf⟩)]
                        refine C_seq ?_
                        refine C_seq ?_
                        refine C_region ?_
                        refine V_w0.q (QY_move rfl) rfl ?_
                        refine V_w0.q (QY_move rfl) rfl ?_
                        refine W_leq V_w0 rfl rfl rfl (fun h331 => ?_) (fun h331 => ?_)
                        ·
                          refine V_nil (X_next ?_)
                          refine C_true rfl ?_
                          refine C_skip (X_next ?_)
                          refine C_seq ?_
                          refine C_block ?_
                          refine C_seq ?_
                          refine C_block ?_
                          refine C_loops (T := Int) (fun (k1 : Int) => [(0, .slice aF nf cF), (1, .slice aO no cO), (2, .slice aL nc cL), (3, .slice aN nl cN), (4, .slice aR ns cR), (5, .slice aP np cP), (6, .slice aQ nq cQ), (7, .slice aT nt cT), (8, .slice aH nh cH), (18, .bool false), (19, .int .i32 (n : Int)), (20, .int .i32 ((n : Int) - hc)), (21, .slice (some ⟨bY, 0, none⟩) ((nl : Int) + 1).toNat ((nl : Int) + 1).toNat), (22, .slice (some ⟨bV, 0, none⟩) nl nl), (23, .slice (some ⟨bX, 0, none⟩) nl nl), (24, .slice (some ⟨bU, 0, none⟩) nt nt), (25, .slice (some ⟨bH, 0, none⟩) hc hc), (26, .int .i32 (nl : Int)), (49, .int .i64 k1), (50, .int .i32 l)]) (fun (k1 : Int) => [(60, ⟨bU, nt, nt, ints .i32 g⟩), (61, ⟨bH, hc, hc, ints .i32 ht⟩), (62, ⟨bV, nl, nl, ints .i32 q4⟩), (63, ⟨bX, nl, nl, ints .i32 q5⟩), (65, ⟨bY, ((nl : Int) + 1).toNat, (nl : Int) + 1, ints .i32 lf⟩)]) (fun (k1 : Int) => 0 ≤ k1 ∧ k1 ≤ ns ∧ ∀ i, 0 ≤ i → i < k1 → sl i < l) (fun (k1 : Int) => ((ns : Int) - k1).toNat) k ?_ ?_ ?_ ?_
                          · exact ⟨by omega, by omega, hks⟩
                          · exact ⟨rfl, rfl, rfl, rfl, rfl, rfl, rfl, rfl, rfl, rfl, rfl, rfl, rfl, rfl, rfl, rfl, rfl, rfl, rfl, rfl, trivial⟩
                          · exact ⟨rfl, rfl, rfl, rfl, rfl, trivial⟩
                          rintro k1 ⟨hk10, hk11, hk1s⟩
                          show C _ _ _ _ _ _ [(0, .slice aF nf cF), (1, .slice aO no cO), (2, .slice aL nc cL), (3, .slice aN nl cN), (4, .slice aR ns cR), (5, .slice aP np cP), (6, .slice aQ nq cQ), (7, .slice aT nt cT), (8, .slice aH nh cH), (18, .bool false), (19, .int .i32 (n : Int)), (20, .int .i32 ((n : Int) - hc)), (21, .slice (some ⟨bY, 0, none⟩) ((nl : Int) + 1).toNat ((nl : Int) + 1).toNat), (22, .slice (some ⟨bV, 0, none⟩) nl nl), (23, .slice (some ⟨bX, 0, none⟩) nl nl), (24, .slice (some ⟨bU, 0, none⟩) nt nt), (25, .slice (some ⟨bH, 0, none⟩) hc hc), (26, .int .i32 (nl : Int)), (49, .int .i64 k1), (50, .int .i32 l)] [(60, ⟨bU, nt, nt, ints .i32 g⟩), (61, ⟨bH, hc, hc, ints .i32 ht⟩), (62, ⟨bV, nl, nl, ints .i32 q4⟩), (63, ⟨bX, nl, nl, ints .i32 q5⟩), (65, ⟨bY, ((nl : Int) + 1).toNat, (nl : Int) + 1, ints .i32 lf⟩)]
                          refine C_seq ?_
                          refine C_seq ?_
                          refine C_region ?_
                          refine V_w0.q (QY_move rfl) rfl ?_
                          refine V_w0.q (QY_move rfl) rfl ?_
                          refine V_w0.q (QY_len sl22 rfl) rfl ?_
                          refine W_lss V_w0 rfl rfl rfl (fun h337 => ?_) (fun h337 => ?_)
                          ·
                            refine V_w0.q (QY_move rfl) rfl ?_
                            refine V_walk.yes rfl rfl ?_
                            refine V_w0.q (QY_move rfl) rfl ?_
                            refine V_walk.yes rfl rfl ?_
                            refine V_w0.q (QY_move rfl) rfl ?_
                            refine V_walk.yes rfl rfl ?_
                            refine W_elem2 V_walk rfl (fun _ => rfl) rfl rfl (hP.rd) (by omega) (by omega) sl22 lf21 rfl rfl (fun _ => ?_)
                            refine V_walk.yes rfl rfl ?_
                            refine V_w0.q (QY_move rfl) rfl ?_
                            refine V_walk.yes rfl rfl ?_
                            refine W_lss V_w0 rfl rfl rfl (fun h344 => ?_) (fun h344 => ?_)
                            ·
                              refine V_w0.q (QY_pick_true rfl rfl) rfl ?_
                              refine V_nil (X_next ?_)
                              refine C_true rfl ?_
                              refine C_skip (X_next ?_)
                              refine C_block ?_
                              refine C_region ?_
                              refine V_w0.q (QY_move rfl) rfl ?_
                              refine V_w0.q (QY_arith rfl rfl rfl ⟨by omega, by omega⟩) rfl ?_
                              refine V_w0.q (QY_assign rfl) rfl ?_
                              refine V_nil (X_block (X_then ?_))
                              refine X_round (k1 + 1) ?_ ?_ ?_ ?_
                              · refine ⟨by omega, by omega, fun i9 a b => ?_⟩
                                by_cases e : k1 = i9
                                · subst e; exact h344
                                · exact hk1s i9 a (by omega)
                              · show ((ns : Int) - (k1 + 1)).toNat < ((ns : Int) - k1).toNat
                                omega
                              · exact ⟨rfl, rfl, rfl, rfl, rfl, rfl, rfl, rfl, rfl, rfl, rfl, rfl, rfl, rfl, rfl, rfl, rfl, rfl, rfl, rfl, trivial⟩
                              · exact ⟨rfl, rfl, rfl, rfl, rfl, trivial⟩
                            ·
                              refine V_w0.q (QY_pick_true rfl rfl) rfl ?_
                              refine V_nil (X_next ?_)
                              refine C_false rfl ?_
                              refine C_exit (X_then_exit (X_then_exit (X_block_exit (X_next ?_))))
                              refine C_region ?_
                              refine V_w0.q (QY_move rfl) rfl ?_
                              refine V_w0.q (QY_move rfl) rfl ?_
                              refine V_w0.q (QY_move rfl) rfl ?_
                              refine V_w0.q (QY_conv it3 it21 rfl ⟨by omega, by omega⟩) rfl ?_
                              refine V_set (q := 65) rfl rfl rfl rfl rfl (by omega) (by omega) (by omega) sl22 lf21 rfl rfl (upd_ints _ _ _ _) (fun _ => ?_)
                              refine V_nil (X_block (X_next ?_))
                              refine C_region ?_
                              refine V_w0.q (QY_move rfl) rfl ?_
                              refine V_w0.q (QY_arith rfl rfl rfl ⟨by omega, by omega⟩) rfl ?_
                              refine V_w0.q (QY_assign rfl) rfl ?_
                              refine V_nil (X_then ?_)
                              refine X_round (l + 1, k1, upd lf l k1) ?_ ?_ ?_ ?_
                              · refine ⟨by omega, by omega, by omega, by omega, fun i9 a b => by have := hk1s i9 a b; omega, fun l9 a b => ?_⟩
                                by_cases e : l = l9
                                · subst e
                                  rw [upd_same]
                                  refine ⟨by omega, by omega, hk1s, fun i9 a9 b9 => ?_⟩
                                  · have hle := hsp.le (i9 - k1).toNat k1 hk10 (by omega)
                                    rw [show k1 + (((i9 - k1).toNat : Nat) : Int) = i9 from by omega] at hle
                                    omega
                                · rw [upd_other _ _ _ (fun h => e h.symm)]; exact hlf l9 a (by omega)
                              · show (((nl : Int) + 1) - (l + 1)).toNat < (((nl : Int) + 1) - l).toNat
                                omega
                              · exact ⟨rfl, rfl, rfl, rfl, rfl, rfl, rfl, rfl, rfl, rfl, rfl, rfl, rfl, rfl, rfl, rfl, rfl, rfl, rfl, rfl, trivial⟩
                              · exact ⟨rfl, rfl, rfl, rfl, rfl, trivial⟩
                          ·
                            refine V_w0.q (QY_move rfl) rfl ?_
                            refine V_walk.no rfl rfl rfl ?_
                            refine V_walk.no rfl rfl rfl ?_
                            refine V_walk.no rfl rfl rfl ?_
                            refine V_walk.no rfl rfl rfl ?_
                            refine V_walk.no rfl rfl rfl ?_
                            refine V_walk.no rfl rfl rfl ?_
                            refine V_w0.q (QY_pick_false rfl rfl) rfl ?_
                            refine V_nil (X_next ?_)
                            refine C_false rfl ?_
                            refine C_exit (X_then_exit (X_then_exit (X_block_exit (X_next ?_))))
                            refine C_region ?_
                            refine V_w0.q (QY_move rfl) rfl ?_
                            refine V_w0.q (QY_move rfl) rfl ?_
                            refine V_w0.q (QY_move rfl) rfl ?_
                            refine V_w0.q (QY_conv it3 it21 rfl ⟨by omega, by omega⟩) rfl ?_
                            refine V_set (q := 65) rfl rfl rfl rfl rfl (by omega) (by omega) (by omega) sl22 lf21 rfl rfl (upd_ints _ _ _ _) (fun _ => ?_)
                            refine V_nil (X_block (X_next ?_))
                            refine C_region ?_
                            refine V_w0.q (QY_move rfl) rfl ?_
                            refine V_w0.q (QY_arith rfl rfl rfl ⟨by omega, by omega⟩) rfl ?_
                            refine V_w0.q (QY_assign rfl) rfl ?_
                            refine V_nil (X_then ?_)
                            refine X_round (l + 1, k1, upd lf l k1) ?_ ?_ ?_ ?_
                            · refine ⟨by omega, by omega, by omega, by omega, fun i9 a b => by have := hk1s i9 a b; omega, fun l9 a b => ?_⟩
                              by_cases e : l = l9
                              · subst e
                                rw [upd_same]
                                refine ⟨by omega, by omega, hk1s, fun i9 a9 b9 => ?_⟩
                                · omega
                              · rw [upd_other _ _ _ (fun h => e h.symm)]; exact hlf l9 a (by omega)
                            · show (((nl : Int) + 1) - (l + 1)).toNat < (((nl : Int) + 1) - l).toNat
                              omega
                            · exact ⟨rfl, rfl, rfl, rfl, rfl, rfl, rfl, rfl, rfl, rfl, rfl, rfl, rfl, rfl, rfl, rfl, rfl, rfl, rfl, rfl, trivial⟩
                            · exact ⟨rfl, rfl, rfl, rfl, rfl, trivial⟩
                        ·
                          refine V_nil (X_next ?_)
                          refine C_false rfl ?_
                          refine C_exit (X_then_exit (X_then_exit (X_block_exit (X_next ?_))))
                          refine C_seq ?_
                          refine C_region ?_
                          refine V_w0.q (QY_assign rfl) rfl ?_
                          refine V_nil (X_next ?_)
                          refine C_ret (?_)
                          refine X_retN (ts := [18, 19, 20, 21, 22, 23, 24, 25]) rfl (by decide) rfl (fun w hm => ?_)
                          refine ⟨⟨true, .int .i32 (n : Int), .int .i32 ((n : Int) - hc), .slice (some ⟨bY, 0, none⟩) ((nl : Int) + 1).toNat ((nl : Int) + 1).toNat, .slice (some ⟨bV, 0, none⟩) nl nl, .slice (some ⟨bX, 0, none⟩) nl nl, .slice (some ⟨bU, 0, none⟩) nt nt, .slice (some ⟨bH, 0, none⟩) hc hc⟩, fun _ => ⟨n, hc, (n : Int) - hc, some ⟨bY, 0, none⟩, some ⟨bV, 0, none⟩, some ⟨bX, 0, none⟩, some ⟨bU, 0, none⟩, some ⟨bH, 0, none⟩, lf, q4, q5, g, ht, rfl, rfl, ?_, rfl, rfl, rfl, rfl, ?_, ?_, ?_, ?_, ?_, hg, hhs.symm, ?_⟩, rfl, hm.sub trivial⟩
                          · show Value.slice _ _ _ = Value.slice _ _ _
                            rw [show ((nl : Int) + 1).toNat = nl + 1 from by omega]
                          · have h9 := (Rd_own (q := 65) (n := ((nl : Int) + 1).toNat) (cap := ((nl : Int) + 1).toNat) rfl (by omega)).at hm
                            rw [show ((nl : Int) + 1).toNat = nl + 1 from by omega] at h9
                            exact h9
                          · exact (Rd_own (q := 62) rfl (Int.le_refl _)).at hm
                          · exact (Rd_own (q := 63) rfl (Int.le_refl _)).at hm
                          · exact (Rd_own (q := 60) rfl (Int.le_refl _)).at hm
                          · exact (Rd_own (q := 61) rfl (Int.le_refl _)).at hm
                          · exact ⟨hadj, hnn, by omega, by omega, by omega, by omega, by omega, hht, fun l9 i9 a b c d => hnod l9 i9 a b c d, ⟨ow, hlv⟩, hsp, fun l9 a b => hlf l9 a (by omega)⟩

end Go.Proofs.Qxb6001307a
