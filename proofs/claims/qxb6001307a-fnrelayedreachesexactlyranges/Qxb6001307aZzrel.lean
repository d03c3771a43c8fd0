/-
  OWN WORK (the rule applications laid by a program of our own, wip/gen). ZZRelayed.
-/
import Derived.Test.Qxb6001307aRelH
import Derived.Test.Qxb6001307aKitP
import Derived.Test.Qxb6001307aNewp
namespace Go.Proofs.Qxb6001307a
open Go.RowKit
set_option linter.unusedSimpArgs false
set_option linter.unusedVariables false

structure ZOut where
  (r : RelOut) (a1 a2 a3 : Option Addr) (c1 c2 c3 : Nat)
theorem relayed35n (B : Nat → Prop) (w0 : World) (bR bA bl bs bv bt bL nl ns nt nf no hc cF cO cV cH : Nat) (aF aO aV aH : Option Addr) (cA cS cW cT : Int → Value) (cl : Int → Int) (h0s : ns = 0) (h0c : hc = 0) :
    ∀ w, Mem B w0 [(70, ⟨bR, 15, 15, fl [.slice (some ⟨bl, 0, none⟩) nl nl, .slice (some ⟨bs, 0, none⟩) ns ns, .slice aV (nl + 1) cV, .slice none 0 0, .slice none 0 0, .slice none 0 0, .slice none 0 0, .slice (some ⟨bt, 0, none⟩) nt nt, .slice (some ⟨bv, 0, none⟩) nl nl, .slice aH hc cH, .slice none 0 0, .slice none 0 0, .slice none 0 0, .slice none 0 0, .slice none 0 0]⟩), (71, ⟨bA, 3, 3, fl [.slice aF nf cF, .slice aO no cO, .slice (some ⟨bL, 0, none⟩) no no]⟩), (34, ⟨bL, no, no, ints .u8 cl⟩), (72, ⟨bl, nl * 2, ((nl * 2 : Nat) : Int), cA⟩), (73, ⟨bs, ns * 3, ((ns * 3 : Nat) : Int), cS⟩), (74, ⟨bv, nl * 2, ((nl * 2 : Nat) : Int), cW⟩), (75, ⟨bt, nt * 2, ((nt * 2 : Nat) : Int), cT⟩)] w → Calls Try.prog 35 #[.pointer (some ⟨bR, 0, none⟩), .pointer (some ⟨bA, 0, none⟩)] w fun e w' => ∃ y : Unit, True ∧ e = .returned (.pointer (some ⟨bA, 0, none⟩)) ∧ Mem B w0 [(70, ⟨bR, 15, 15, fl [.slice (some ⟨bl, 0, none⟩) nl nl, .slice (some ⟨bs, 0, none⟩) ns ns, .slice aV (nl + 1) cV, .slice none 0 0, .slice none 0 0, .slice none 0 0, .slice none 0 0, .slice (some ⟨bt, 0, none⟩) nt nt, .slice (some ⟨bv, 0, none⟩) nl nl, .slice aH hc cH, .slice none 0 0, .slice none 0 0, .slice none 0 0, .slice none 0 0, .slice none 0 0]⟩), (71, ⟨bA, 3, 3, fl [.slice aF nf cF, .slice aO no cO, .slice (some ⟨bL, 0, none⟩) no no]⟩), (34, ⟨bL, no, no, ints .u8 cl⟩), (72, ⟨bl, nl * 2, ((nl * 2 : Nat) : Int), cA⟩), (73, ⟨bs, ns * 3, ((ns * 3 : Nat) : Int), cS⟩), (74, ⟨bv, nl * 2, ((nl * 2 : Nat) : Int), cW⟩), (75, ⟨bt, nt * 2, ((nt * 2 : Nat) : Int), cT⟩)] w' := by
  refine enter (N := 498) (vs := [.pointer (some ⟨bR, 0, none⟩), .pointer (some ⟨bA, 0, none⟩)]) Try.func35 rfl Try.ntmps35 rfl ?_
  refine C_seq ?_
  refine C_region ?_
  refine V_w0.q (QY_assign rfl) rfl ?_
  refine V_nil (X_next ?_)
  refine C_seq ?_
  refine C_seq ?_
  refine C_region ?_
  refine V_w0.q (QY_move rfl) rfl ?_
  refine V_w0.q (QY_ptrnil Try.underlying64 rfl) rfl ?_
  refine V_w0.q (QY_move rfl) rfl ?_
  refine V_walk.yes rfl rfl ?_
  refine V_w0.q (QY_move rfl) rfl ?_
  refine V_walk.yes rfl rfl ?_
  refine W_fld2 V_walk (q := 70) rfl (fun _ => rfl) (fun _ _ => rfl) rfl rfl fa72_1 lf66 (by decide) rfl rfl rfl rfl ?_
  refine V_walk.yes rfl rfl ?_
  refine V_w0.q (QY_len sl66 rfl) rfl ?_
  refine V_walk.yes rfl rfl ?_
  refine W_eql V_w0 rfl rfl rfl (fun h39 => ?_) (fun h39 => False.elim (h39 (by omega)))
  refine V_walk.yes rfl rfl ?_
  refine V_w0.q (QY_move rfl) rfl ?_
  refine V_walk.yes rfl rfl ?_
  refine V_w0.q (QY_move rfl) rfl ?_
  refine V_walk.yes rfl rfl ?_
  refine W_fld2 V_walk (q := 70) rfl (fun _ => rfl) (fun _ _ => rfl) rfl rfl fa72_9 lf22 (by decide) rfl rfl rfl rfl ?_
  refine V_walk.yes rfl rfl ?_
  refine V_w0.q (QY_len sl22 rfl) rfl ?_
  refine V_walk.yes rfl rfl ?_
  refine W_eql V_w0 rfl rfl rfl (fun h46 => ?_) (fun h46 => False.elim (h46 (by omega)))
  refine V_walk.yes rfl rfl ?_
  refine V_w0.q (QY_pick_true rfl rfl) rfl ?_
  refine V_w0.q (QY_pick_false rfl rfl) rfl ?_
  refine V_nil (X_next ?_)
  refine C_true rfl ?_
  refine C_seq ?_
  refine C_region ?_
  refine V_w0.q (QY_move rfl) rfl ?_
  refine V_w0.q (QY_assign rfl) rfl ?_
  refine V_nil (X_next ?_)
  refine C_ret (X_then_ret (?_))
  refine X_ret1 rfl rfl (fun w hm => ?_)
  exact ⟨(), trivial, rfl, hm⟩

set_option maxHeartbeats 2000000 in
theorem zz25s (w : World) (nl ns nt nf no n hc T kF kO kL kN kR kP kQ kV kW kX kT kU kH : Nat) (aF aO aL aN aR aP aQ aV aW aX aT aU aH : Option Addr) (A1 A2 : Int → Option Addr) (L1 L2 C1 C2 : Int → Nat) (f o cl sr sl ss lf lt ln th : Int → Int) (Z1 Z2 : Int → Int → Int) (hb ow : Int → Bool) (tx : Int)
    (hF : RdW w (.slice aF nf kF) nf (ints .i32 f)) (hO : RdW w (.slice aO no kO) no (ints .i32 o)) (hL : RdW w (.slice aL no kL) no (ints .u8 cl)) (hN : RdR w aN nl kN A1 L1 C1 Z1) (hR : RdW w (.slice aR ns kR) ns (ints .i32 sr)) (hP : RdW w (.slice aP ns kP) ns (ints .i32 sl)) (hQ : RdW w (.slice aQ ns kQ) ns (ints .i32 ss)) (hV : RdW w (.slice aV (nl + 1) kV) (nl + 1) (ints .i32 lf)) (hW : RdW w (.slice aW nl kW) nl (ints .i32 lt)) (hX : RdW w (.slice aX nl kX) nl (ints .i32 ln)) (hT0 : RdR w aT nt kT A2 L2 C2 Z2) (hU : RdW w (.slice aU nt kU) nt (ints .i32 th)) (hth : ∀ t, 0 ≤ t → t < (nt : Int) → th t = thF hb L2 t)
    (hadj : AdjOK nf no no f o) (hn : (n : Int) = (nf : Int) - 1) (hlv : LvI nl L1 L2 Z2 (thF hb L2) nt 0 ow lt) (hsp : SpI nl tx L1 sr sl ss ns) (hlf : ∀ l, 0 ≤ l → l ≤ (nl : Int) → LfOK ns sl l (lf l)) (hhu : hu hb L2 nt = hc) (htx : tx = (n : Int) - hc) (htx0 : 0 ≤ tx) (hT : (T : Int) = (n : Int) + rel lf lt L1 nl) (hcO : no ≤ kO)
    (hnf : (nf : Int) ≤ 4097) (hno : (no : Int) ≤ 262144) (hnl : (nl : Int) ≤ 65536) (hns : (ns : Int) ≤ 4096) (hnt : (nt : Int) ≤ 65536) (htL1 : tot L1 nl ≤ 4096) (htL2 : tot L2 nt ≤ 4096)
    (hsome : 0 < ns ∨ 0 < hc) : Calls Try.prog 25 #[.slice aF nf kF, .slice aO no kO, .slice aL no kL, .slice aN nl kN, .slice aR ns kR, .slice aP ns kP, .slice aQ ns kQ, .slice aV (nl + 1) kV, .slice aW nl kW, .slice aX nl kX, .slice aT nt kT, .slice aU nt kU, .slice aH hc kH] w fun e w' => ∃ z : ZOut, (RelRes nl ns nt n T f o cl (rel lf lt L1) sr sl ss hb L2 Z1 Z2 tx z.r ∧ RdW w' (.slice z.a1 (T + 1) z.c1) (T + 1) (ints .i32 z.r.rf) ∧ RdW w' (.slice z.a2 z.r.m z.c2) z.r.m (ints .i32 z.r.ro) ∧ RdW w' (.slice z.a3 z.r.m z.c3) z.r.m (ints .u8 z.r.rc)) ∧ e = .returned (.tuple [.slice z.a1 (T + 1) z.c1, .slice z.a2 z.r.m z.c2, .slice z.a3 z.r.m z.c3].toArray) ∧ Mem (Old w) w [] w' := by
  refine enter (N := 190) (vs := [.slice aF nf kF, .slice aO no kO, .slice aL no kL, .slice aN nl kN, .slice aR ns kR, .slice aP ns kP, .slice aQ ns kQ, .slice aV (nl + 1) kV, .slice aW nl kW, .slice aX nl kX, .slice aT nt kT, .slice aU nt kU, .slice aH hc kH]) Try.func25 rfl Try.ntmps25 rfl ?_ w (Mem.start w)
  refine C_seq ?_
  refine C_region ?_
  refine V_w0.q (QY_assign rfl) rfl ?_
  refine V_w0.q (QY_assign rfl) rfl ?_
  refine V_w0.q (QY_assign rfl) rfl ?_
  refine V_nil (X_next ?_)
  refine C_seq ?_
  refine C_region ?_
  refine V_w0.q (QY_move rfl) rfl ?_
  refine V_w0.q (QY_move rfl) rfl ?_
  refine V_w0.q (QY_move rfl) rfl ?_
  refine V_call cb32 rfl (T := Nat) (Φ := fun _ => True) (val := fun b => .slice (some ⟨b, 0, none⟩) no no) (H' := fun b => [(34, ⟨b, no, no, ints .u8 cl⟩)]) (fun w1 hm => (cs32 w1 aL no kL cl (hL.rd.at hm) (by omega)).mono fun e w2 ⟨y, _, he, hM⟩ => ⟨y, trivial, he, by simpa using hm.join (hM.rekey 34)⟩) rfl ?_
  intro bL _
  refine V_w0.q (v := .agg [.slice aF nf kF, .slice aO no kO, .slice (some ⟨bL, 0, none⟩) no no].toArray) (QY_build (parts := [(0, .tmp 40), (1, .tmp 41), (2, .tmp 43)]) (vs := [(0, .slice aF nf kF), (1, .slice aO no kO), (2, .slice (some ⟨bL, 0, none⟩) no no)]) (fun a hf => by
    simp only [List.map_cons, List.map_nil]
    rw [hf.eval (x := .tmp 40) rfl, hf.eval (x := .tmp 41) rfl, hf.eval (x := .tmp 43) rfl] <;> rfl) (fun w => build57 w _ _ _ rfl rfl rfl)) rfl ?_
  refine V_box 71 (cs := [.slice aF nf kF, .slice aO no kO, .slice (some ⟨bL, 0, none⟩) no no]) rfl (m := 3) rfl (mi := 3) rfl rfl (fun bA => ?_)
  refine V_w0.q (QY_assign rfl) rfl ?_
  refine V_nil (X_next ?_)
  refine C_seq ?_
  refine C_region ?_
  refine V_w0.q (QY_move rfl) rfl ?_
  refine V_w0.q (QY_move rfl) rfl ?_
  refine V_w0.q (v := .agg [.slice none 0 0, .slice none 0 0, .slice aV (nl + 1) kV, .slice none 0 0, .slice none 0 0, .slice none 0 0, .slice none 0 0, .slice none 0 0, .slice none 0 0, .slice aH hc kH, .slice none 0 0, .slice none 0 0, .slice none 0 0, .slice none 0 0, .slice none 0 0].toArray) (QY_build (parts := [(2, .tmp 46), (9, .tmp 47)]) (vs := [(2, .slice aV (nl + 1) kV), (9, .slice aH hc kH)]) (fun a hf => by
    simp only [List.map_cons, List.map_nil]
    rw [hf.eval (x := .tmp 46) rfl, hf.eval (x := .tmp 47) rfl] <;> rfl) (fun w => build72 w _ _ rfl rfl)) rfl ?_
  refine V_box 70 (cs := [.slice none 0 0, .slice none 0 0, .slice aV (nl + 1) kV, .slice none 0 0, .slice none 0 0, .slice none 0 0, .slice none 0 0, .slice none 0 0, .slice none 0 0, .slice aH hc kH, .slice none 0 0, .slice none 0 0, .slice none 0 0, .slice none 0 0, .slice none 0 0]) rfl (m := 15) rfl (mi := 15) rfl rfl (fun bR => ?_)
  refine V_w0.q (QY_assign rfl) rfl ?_
  refine V_nil (X_next ?_)
  refine C_seq ?_
  refine C_region ?_
  refine V_w0.q (QY_move rfl) rfl ?_
  refine V_w0.q (QY_move rfl) rfl ?_
  refine V_w0.q (QY_len sl42 rfl) rfl ?_
  refine V_makeA 72 mk65 rfl rfl (by omega) (by omega) rfl (fun bl => ?_)
  refine V_fset (q := 70) rfl rfl fa72_0 lf65 (by decide) rfl rfl rfl rfl rfl ?_
  refine V_nil (X_next ?_)
  refine C_seq ?_
  refine C_seq ?_
  refine C_region ?_
  refine V_w0.q (QY_move rfl) rfl ?_
  refine V_w0.q (QY_len sl42 rfl) rfl ?_
  refine V_w0.q (QY_move rfl) rfl ?_
  refine V_nil (X_next ?_)
  refine C_block ?_
  refine C_loops (T := Int × (Int → Value)) (fun (zz9 : Int × (Int → Value)) => match zz9 with | (l, cA) => [(3, .slice aN nl kN), (4, .slice aR ns kR), (5, .slice aP ns kP), (6, .slice aQ ns kQ), (8, .slice aW nl kW), (9, .slice aX nl kX), (10, .slice aT nt kT), (11, .slice aU nt kU), (29, .pointer (some ⟨bA, 0, none⟩)), (30, .pointer (some ⟨bR, 0, none⟩)), (56, .slice aN nl kN), (57, .int .i64 (nl : Int)), (58, .int .i64 l)]) (fun (zz9 : Int × (Int → Value)) => match zz9 with | (l, cA) => [(34, ⟨bL, no, no, ints .u8 cl⟩), (71, ⟨bA, 3, 3, fl [.slice aF nf kF, .slice aO no kO, .slice (some ⟨bL, 0, none⟩) no no]⟩), (70, ⟨bR, 15, 15, fl [.slice (some ⟨bl, 0, none⟩) nl nl, .slice none 0 0, .slice aV (nl + 1) kV, .slice none 0 0, .slice none 0 0, .slice none 0 0, .slice none 0 0, .slice none 0 0, .slice none 0 0, .slice aH hc kH, .slice none 0 0, .slice none 0 0, .slice none 0 0, .slice none 0 0, .slice none 0 0]⟩), (72, ⟨bl, nl * 2, ((nl * 2 : Nat) : Int), cA⟩)]) (fun (zz9 : Int × (Int → Value)) => match zz9 with | (l, cA) => 0 ≤ l ∧ l ≤ nl ∧ ∀ k, 0 ≤ k → k < l → cA (2 * k) = .int .i32 0 ∧ cA (2 * k + 1) = .slice (A1 k) (L1 k) (C1 k)) (fun (zz9 : Int × (Int → Value)) => match zz9 with | (l, cA) => ((nl : Int) - l).toNat) (0, fun i => (Value.agg #[.int .i32 0, .slice none 0 0]).cells.getD (i.toNat % 2) undef) ?_ ?_ ?_ ?_
  · exact ⟨by omega, by omega, fun k a b => by omega⟩
  · exact ⟨rfl, rfl, rfl, rfl, rfl, rfl, rfl, rfl, rfl, rfl, rfl, rfl, rfl, trivial⟩
  · exact ⟨rfl, rfl, rfl, rfl, trivial⟩
  rintro ⟨l, cA⟩ ⟨hl0, hl1, hcA⟩
  show C _ _ _ _ _ _ [(3, .slice aN nl kN), (4, .slice aR ns kR), (5, .slice aP ns kP), (6, .slice aQ ns kQ), (8, .slice aW nl kW), (9, .slice aX nl kX), (10, .slice aT nt kT), (11, .slice aU nt kU), (29, .pointer (some ⟨bA, 0, none⟩)), (30, .pointer (some ⟨bR, 0, none⟩)), (56, .slice aN nl kN), (57, .int .i64 (nl : Int)), (58, .int .i64 l)] [(34, ⟨bL, no, no, ints .u8 cl⟩), (71, ⟨bA, 3, 3, fl [.slice aF nf kF, .slice aO no kO, .slice (some ⟨bL, 0, none⟩) no no]⟩), (70, ⟨bR, 15, 15, fl [.slice (some ⟨bl, 0, none⟩) nl nl, .slice none 0 0, .slice aV (nl + 1) kV, .slice none 0 0, .slice none 0 0, .slice none 0 0, .slice none 0 0, .slice none 0 0, .slice none 0 0, .slice aH hc kH, .slice none 0 0, .slice none 0 0, .slice none 0 0, .slice none 0 0, .slice none 0 0]⟩), (72, ⟨bl, nl * 2, ((nl * 2 : Nat) : Int), cA⟩)]
  refine C_seq ?_
  refine C_region ?_
  refine W_lss V_w0 rfl rfl rfl (fun h59 => ?_) (fun h59 => ?_)
  ·
    refine V_nil (X_next ?_)
    refine C_seq ?_
    refine C_true rfl ?_
    refine C_skip (X_next ?_)
    refine C_seq ?_
    refine C_block ?_
    refine C_seq ?_
    refine C_region ?_
    refine V_w0.q (QY_move rfl) rfl ?_
    refine W_elem V_w0 rfl rfl (hN.1.rd) (by omega) (by omega) sl42 lf22 rfl rfl (fun _ => ?_)
    refine V_w0.q (QY_assign rfl) rfl ?_
    refine V_w0.q (QY_assign rfl) rfl ?_
    refine V_nil (X_next ?_)
    refine C_region ?_
    refine V_w0.q (QY_move rfl) rfl ?_
    refine W_fld V_w0 (q := 70) rfl rfl fa72_0 lf65 (by decide) rfl rfl rfl rfl ?_
    refine V_w0.q (QY_move rfl) rfl ?_
    refine V_w0.q (QY_move rfl) rfl ?_
    refine V_w0.q (v := .agg [.int .i32 0, .slice (A1 l) (L1 l) (C1 l)].toArray) (QY_build (parts := [(1, .tmp 68)]) (vs := [(1, .slice (A1 l) (L1 l) (C1 l))]) (fun a hf => by
      simp only [List.map_cons, List.map_nil]
      rw [hf.eval (x := .tmp 68) rfl] <;> rfl) (fun w => build74 w _ rfl)) rfl ?_
    refine V_w0.q (QY_index2 (o' := (l : Int).toNat * 2) sl65 rfl rfl (by omega) (by omega) (by omega)) rfl ?_
    refine V_storeA (q := 72) ag74 rfl rfl rfl rfl (by intro v hv; simp at hv; rcases hv with rfl | rfl <;> rfl) (by decide) (by omega) rfl ?_
    refine V_nil (X_block (X_next ?_))
    refine C_region ?_
    refine V_w0.q (QY_arith rfl rfl rfl ⟨by omega, by omega⟩) rfl ?_
    refine V_w0.q (QY_move rfl) rfl ?_
    refine V_nil (X_then ?_)
    refine X_round (l + 1, lay cA (((l : Int).toNat * 2 : Nat) : Int) [.int .i32 0, .slice (A1 l) (L1 l) (C1 l)]) ?_ ?_ ?_ ?_
    · refine ⟨by omega, by omega, fun k a b => ?_⟩
      rw [lay2_0 hl0, lay2_1 hl0]
      by_cases e : k = l
      · subst e; rw [if_pos rfl, if_pos rfl]; exact ⟨rfl, rfl⟩
      · rw [if_neg e, if_neg e]; exact hcA k a (by omega)
    · show ((nl : Int) - (l + 1)).toNat < ((nl : Int) - l).toNat
      omega
    · exact ⟨rfl, rfl, rfl, rfl, rfl, rfl, rfl, rfl, rfl, rfl, rfl, rfl, rfl, trivial⟩
    · exact ⟨rfl, rfl, rfl, rfl, trivial⟩
  ·
    obtain rfl : l = (nl : Int) := by omega
    refine V_nil (X_next ?_)
    refine C_seq ?_
    refine C_false rfl ?_
    refine C_exit (X_then_exit (X_then_exit (X_block_exit (X_next ?_))))
    refine C_seq ?_
    refine C_region ?_
    refine V_w0.q (QY_move rfl) rfl ?_
    refine V_w0.q (QY_move rfl) rfl ?_
    refine V_w0.q (QY_len sl22 rfl) rfl ?_
    refine V_makeA 73 mk66 rfl rfl (by omega) (by omega) rfl (fun bs => ?_)
    refine V_fset (q := 70) rfl rfl fa72_1 lf66 (by decide) rfl rfl rfl rfl rfl ?_
    refine V_nil (X_next ?_)
    refine C_seq ?_
    refine C_seq ?_
    refine C_region ?_
    refine V_w0.q (QY_move rfl) rfl ?_
    refine V_w0.q (QY_len sl22 rfl) rfl ?_
    refine V_w0.q (QY_move rfl) rfl ?_
    refine V_nil (X_next ?_)
    refine C_block ?_
    refine C_loops (T := Int × (Int → Value)) (fun (zz9 : Int × (Int → Value)) => match zz9 with | (i, cS) => [(3, .slice aN nl kN), (4, .slice aR ns kR), (5, .slice aP ns kP), (6, .slice aQ ns kQ), (8, .slice aW nl kW), (9, .slice aX nl kX), (10, .slice aT nt kT), (11, .slice aU nt kU), (29, .pointer (some ⟨bA, 0, none⟩)), (30, .pointer (some ⟨bR, 0, none⟩)), (79, .int .i64 (ns : Int)), (80, .int .i64 i)]) (fun (zz9 : Int × (Int → Value)) => match zz9 with | (i, cS) => [(34, ⟨bL, no, no, ints .u8 cl⟩), (71, ⟨bA, 3, 3, fl [.slice aF nf kF, .slice aO no kO, .slice (some ⟨bL, 0, none⟩) no no]⟩), (70, ⟨bR, 15, 15, fl [.slice (some ⟨bl, 0, none⟩) nl nl, .slice (some ⟨bs, 0, none⟩) ns ns, .slice aV (nl + 1) kV, .slice none 0 0, .slice none 0 0, .slice none 0 0, .slice none 0 0, .slice none 0 0, .slice none 0 0, .slice aH hc kH, .slice none 0 0, .slice none 0 0, .slice none 0 0, .slice none 0 0, .slice none 0 0]⟩), (72, ⟨bl, nl * 2, ((nl * 2 : Nat) : Int), cA⟩), (73, ⟨bs, ns * 3, ((ns * 3 : Nat) : Int), cS⟩)]) (fun (zz9 : Int × (Int → Value)) => match zz9 with | (i, cS) => 0 ≤ i ∧ i ≤ ns ∧ ∀ k, 0 ≤ k → k < i → cS (3 * k) = .int .i32 (sr k) ∧ cS (3 * k + 1) = .int .i32 (sl k) ∧ cS (3 * k + 2) = .int .i32 (ss k)) (fun (zz9 : Int × (Int → Value)) => match zz9 with | (i, cS) => ((ns : Int) - i).toNat) (0, fun i => (Value.agg #[.int .i32 0, .int .i32 0, .int .i32 0]).cells.getD (i.toNat % 3) undef) ?_ ?_ ?_ ?_
    · exact ⟨by omega, by omega, fun k a b => by omega⟩
    · exact ⟨rfl, rfl, rfl, rfl, rfl, rfl, rfl, rfl, rfl, rfl, rfl, rfl, trivial⟩
    · exact ⟨rfl, rfl, rfl, rfl, rfl, trivial⟩
    rintro ⟨i, cS⟩ ⟨hi0, hi1, hcS⟩
    show C _ _ _ _ _ _ [(3, .slice aN nl kN), (4, .slice aR ns kR), (5, .slice aP ns kP), (6, .slice aQ ns kQ), (8, .slice aW nl kW), (9, .slice aX nl kX), (10, .slice aT nt kT), (11, .slice aU nt kU), (29, .pointer (some ⟨bA, 0, none⟩)), (30, .pointer (some ⟨bR, 0, none⟩)), (79, .int .i64 (ns : Int)), (80, .int .i64 i)] [(34, ⟨bL, no, no, ints .u8 cl⟩), (71, ⟨bA, 3, 3, fl [.slice aF nf kF, .slice aO no kO, .slice (some ⟨bL, 0, none⟩) no no]⟩), (70, ⟨bR, 15, 15, fl [.slice (some ⟨bl, 0, none⟩) nl nl, .slice (some ⟨bs, 0, none⟩) ns ns, .slice aV (nl + 1) kV, .slice none 0 0, .slice none 0 0, .slice none 0 0, .slice none 0 0, .slice none 0 0, .slice none 0 0, .slice aH hc kH, .slice none 0 0, .slice none 0 0, .slice none 0 0, .slice none 0 0, .slice none 0 0]⟩), (72, ⟨bl, nl * 2, ((nl * 2 : Nat) : Int), cA⟩), (73, ⟨bs, ns * 3, ((ns * 3 : Nat) : Int), cS⟩)]
    refine C_seq ?_
    refine C_region ?_
    refine W_lss V_w0 rfl rfl rfl (fun h81 => ?_) (fun h81 => ?_)
    ·
      refine V_nil (X_next ?_)
      refine C_seq ?_
      refine C_true rfl ?_
      refine C_skip (X_next ?_)
      refine C_seq ?_
      refine C_block ?_
      refine C_seq ?_
      refine C_region ?_
      refine V_w0.q (QY_move rfl) rfl ?_
      refine V_w0.q (QY_assign rfl) rfl ?_
      refine V_nil (X_next ?_)
      refine C_draws 18 18 mix (by kernel_rfl) ?_
      refine T_w0.q (QY_move rfl) rfl ?_
      refine W_fld T_w0 (q := 70) rfl rfl fa72_1 lf66 (by decide) rfl rfl rfl rfl ?_
      refine T_w0.q (QY_move rfl) rfl ?_
      refine T_w0.q (QY_move rfl) rfl ?_
      refine T_w0.q (QY_move rfl) rfl ?_
      refine W_elem T_w0 rfl rfl (hR.rd) (by omega) (by omega) sl22 lf21 rfl rfl (fun _ => ?_)
      refine T_w0.q (QY_move rfl) rfl ?_
      refine T_w0.q (QY_move rfl) rfl ?_
      refine W_elem T_w0 rfl rfl (hP.rd) (by omega) (by omega) sl22 lf21 rfl rfl (fun _ => ?_)
      refine T_w0.q (QY_move rfl) rfl ?_
      refine T_w0.q (QY_move rfl) rfl ?_
      refine W_elem T_w0 rfl rfl (hQ.rd) (by omega) (by omega) sl22 lf21 rfl rfl (fun _ => ?_)
      refine T_w0.q (v := .agg [.int .i32 (sr i), .int .i32 (sl i), .int .i32 (ss i)].toArray) (QY_build (parts := [(0, .tmp 91), (1, .tmp 95), (2, .tmp 99)]) (vs := [(0, .int .i32 (sr i)), (1, .int .i32 (sl i)), (2, .int .i32 (ss i))]) (fun a hf => by
        simp only [List.map_cons, List.map_nil]
        rw [hf.eval (x := .tmp 91) rfl, hf.eval (x := .tmp 95) rfl, hf.eval (x := .tmp 99) rfl] <;> rfl) (fun w => build76 w _ _ _ rfl rfl rfl)) rfl ?_
      refine T_tail rfl rfl ?_
      refine V_w0.q (QY_index2 (o' := (i : Int).toNat * 3) sl66 rfl rfl (by omega) (by omega) (by omega)) rfl ?_
      refine V_storeA (q := 73) ag76 rfl rfl rfl rfl (by intro v hv; simp at hv; rcases hv with rfl | rfl | rfl <;> rfl) (by decide) (by omega) rfl ?_
      refine V_nil (X_Qn (X_block (X_next ?_)))
      refine C_region ?_
      refine V_w0.q (QY_arith rfl rfl rfl ⟨by omega, by omega⟩) rfl ?_
      refine V_w0.q (QY_move rfl) rfl ?_
      refine V_nil (X_then ?_)
      refine X_round (i + 1, lay cS (((i : Int).toNat * 3 : Nat) : Int) [.int .i32 (sr i), .int .i32 (sl i), .int .i32 (ss i)]) ?_ ?_ ?_ ?_
      · refine ⟨by omega, by omega, fun k a b => ?_⟩
        have h3 := lay3_at (c := cS) (l := i) (k := k) (v0 := .int .i32 (sr i)) (v1 := .int .i32 (sl i)) (v2 := .int .i32 (ss i)) hi0
        by_cases e : k = i
        · subst e; rw [if_pos rfl, if_pos rfl, if_pos rfl] at h3; exact h3
        · rw [if_neg e, if_neg e, if_neg e] at h3
          have h4 := hcS k a (by omega)
          exact ⟨h3.1.trans h4.1, h3.2.1.trans h4.2.1, h3.2.2.trans h4.2.2⟩
      · show ((ns : Int) - (i + 1)).toNat < ((ns : Int) - i).toNat
        omega
      · exact ⟨rfl, rfl, rfl, rfl, rfl, rfl, rfl, rfl, rfl, rfl, rfl, rfl, trivial⟩
      · exact ⟨rfl, rfl, rfl, rfl, rfl, trivial⟩
    ·
      obtain rfl : i = (ns : Int) := by omega
      refine V_nil (X_next ?_)
      refine C_seq ?_
      refine C_false rfl ?_
      refine C_exit (X_then_exit (X_then_exit (X_block_exit (X_next ?_))))
      refine C_seq ?_
      refine C_region ?_
      refine V_w0.q (QY_move rfl) rfl ?_
      refine V_w0.q (QY_move rfl) rfl ?_
      refine V_w0.q (QY_len sl22 rfl) rfl ?_
      refine V_makeA 74 mk69 rfl rfl (by omega) (by omega) rfl (fun bv => ?_)
      refine V_fset (q := 70) rfl rfl fa72_8 lf69 (by decide) rfl rfl rfl rfl rfl ?_
      refine V_nil (X_next ?_)
      refine C_seq ?_
      refine C_seq ?_
      refine C_region ?_
      refine V_w0.q (QY_move rfl) rfl ?_
      refine V_w0.q (QY_len sl22 rfl) rfl ?_
      refine V_w0.q (QY_move rfl) rfl ?_
      refine V_nil (X_next ?_)
      refine C_block ?_
      refine C_loops (T := Int × (Int → Value)) (fun (zz9 : Int × (Int → Value)) => match zz9 with | (l, cW) => [(3, .slice aN nl kN), (4, .slice aR ns kR), (5, .slice aP ns kP), (6, .slice aQ ns kQ), (8, .slice aW nl kW), (9, .slice aX nl kX), (10, .slice aT nt kT), (11, .slice aU nt kU), (29, .pointer (some ⟨bA, 0, none⟩)), (30, .pointer (some ⟨bR, 0, none⟩)), (110, .int .i64 (nl : Int)), (111, .int .i64 l)]) (fun (zz9 : Int × (Int → Value)) => match zz9 with | (l, cW) => [(34, ⟨bL, no, no, ints .u8 cl⟩), (71, ⟨bA, 3, 3, fl [.slice aF nf kF, .slice aO no kO, .slice (some ⟨bL, 0, none⟩) no no]⟩), (70, ⟨bR, 15, 15, fl [.slice (some ⟨bl, 0, none⟩) nl nl, .slice (some ⟨bs, 0, none⟩) ns ns, .slice aV (nl + 1) kV, .slice none 0 0, .slice none 0 0, .slice none 0 0, .slice none 0 0, .slice none 0 0, .slice (some ⟨bv, 0, none⟩) nl nl, .slice aH hc kH, .slice none 0 0, .slice none 0 0, .slice none 0 0, .slice none 0 0, .slice none 0 0]⟩), (72, ⟨bl, nl * 2, ((nl * 2 : Nat) : Int), cA⟩), (73, ⟨bs, ns * 3, ((ns * 3 : Nat) : Int), cS⟩), (74, ⟨bv, nl * 2, ((nl * 2 : Nat) : Int), cW⟩)]) (fun (zz9 : Int × (Int → Value)) => match zz9 with | (l, cW) => 0 ≤ l ∧ l ≤ nl ∧ ∀ k, 0 ≤ k → k < l → cW (2 * k) = .int .i32 (lt k)) (fun (zz9 : Int × (Int → Value)) => match zz9 with | (l, cW) => ((nl : Int) - l).toNat) (0, fun i => (Value.agg #[.int .i32 0, .int .i32 0]).cells.getD (i.toNat % 2) undef) ?_ ?_ ?_ ?_
      · exact ⟨by omega, by omega, fun k a b => by omega⟩
      · exact ⟨rfl, rfl, rfl, rfl, rfl, rfl, rfl, rfl, rfl, rfl, rfl, rfl, trivial⟩
      · exact ⟨rfl, rfl, rfl, rfl, rfl, rfl, trivial⟩
      rintro ⟨l, cW⟩ ⟨hl0, hl1, hcW⟩
      show C _ _ _ _ _ _ [(3, .slice aN nl kN), (4, .slice aR ns kR), (5, .slice aP ns kP), (6, .slice aQ ns kQ), (8, .slice aW nl kW), (9, .slice aX nl kX), (10, .slice aT nt kT), (11, .slice aU nt kU), (29, .pointer (some ⟨bA, 0, none⟩)), (30, .pointer (some ⟨bR, 0, none⟩)), (110, .int .i64 (nl : Int)), (111, .int .i64 l)] [(34, ⟨bL, no, no, ints .u8 cl⟩), (71, ⟨bA, 3, 3, fl [.slice aF nf kF, .slice aO no kO, .slice (some ⟨bL, 0, none⟩) no no]⟩), (70, ⟨bR, 15, 15, fl [.slice (some ⟨bl, 0, none⟩) nl nl, .slice (some ⟨bs, 0, none⟩) ns ns, .slice aV (nl + 1) kV, .slice none 0 0, .slice none 0 0, .slice none 0 0, .slice none 0 0, .slice none 0 0, .slice (some ⟨bv, 0, none⟩) nl nl, .slice aH hc kH, .slice none 0 0, .slice none 0 0, .slice none 0 0, .slice none 0 0, .slice none 0 0]⟩), (72, ⟨bl, nl * 2, ((nl * 2 : Nat) : Int), cA⟩), (73, ⟨bs, ns * 3, ((ns * 3 : Nat) : Int), cS⟩), (74, ⟨bv, nl * 2, ((nl * 2 : Nat) : Int), cW⟩)]
      refine C_seq ?_
      refine C_region ?_
      refine W_lss V_w0 rfl rfl rfl (fun h112 => ?_) (fun h112 => ?_)
      ·
        refine V_nil (X_next ?_)
        refine C_seq ?_
        refine C_true rfl ?_
        refine C_skip (X_next ?_)
        refine C_seq ?_
        refine C_block ?_
        refine C_seq ?_
        refine C_region ?_
        refine V_w0.q (QY_move rfl) rfl ?_
        refine V_w0.q (QY_assign rfl) rfl ?_
        refine V_nil (X_next ?_)
        refine C_draws 14 14 mix (by kernel_rfl) ?_
        refine T_w0.q (QY_move rfl) rfl ?_
        refine W_fld T_w0 (q := 70) rfl rfl fa72_8 lf69 (by decide) rfl rfl rfl rfl ?_
        refine T_w0.q (QY_move rfl) rfl ?_
        refine T_w0.q (QY_move rfl) rfl ?_
        refine T_w0.q (QY_move rfl) rfl ?_
        refine W_elem T_w0 rfl rfl (hW.rd) (by omega) (by omega) sl22 lf21 rfl rfl (fun _ => ?_)
        refine T_w0.q (QY_move rfl) rfl ?_
        refine T_w0.q (QY_move rfl) rfl ?_
        refine W_elem T_w0 rfl rfl (hX.rd) (by omega) (by omega) sl22 lf21 rfl rfl (fun _ => ?_)
        refine T_w0.q (v := .agg [.int .i32 (lt l), .int .i32 (ln l)].toArray) (QY_build (parts := [(0, .tmp 122), (1, .tmp 126)]) (vs := [(0, .int .i32 (lt l)), (1, .int .i32 (ln l))]) (fun a hf => by
          simp only [List.map_cons, List.map_nil]
          rw [hf.eval (x := .tmp 122) rfl, hf.eval (x := .tmp 126) rfl] <;> rfl) (fun w => build78 w _ _ rfl rfl)) rfl ?_
        refine T_tail rfl rfl ?_
        refine V_w0.q (QY_index2 (o' := (l : Int).toNat * 2) sl69 rfl rfl (by omega) (by omega) (by omega)) rfl ?_
        refine V_storeA (q := 74) ag78 rfl rfl rfl rfl (by intro v hv; simp at hv; rcases hv with rfl | rfl <;> rfl) (by decide) (by omega) rfl ?_
        refine V_nil (X_Qn (X_block (X_next ?_)))
        refine C_region ?_
        refine V_w0.q (QY_arith rfl rfl rfl ⟨by omega, by omega⟩) rfl ?_
        refine V_w0.q (QY_move rfl) rfl ?_
        refine V_nil (X_then ?_)
        refine X_round (l + 1, lay cW (((l : Int).toNat * 2 : Nat) : Int) [.int .i32 (lt l), .int .i32 (ln l)]) ?_ ?_ ?_ ?_
        · refine ⟨by omega, by omega, fun k a b => ?_⟩
          rw [lay2_0 hl0]
          by_cases e : k = l
          · subst e; rw [if_pos rfl]
          · rw [if_neg e]; exact hcW k a (by omega)
        · show ((nl : Int) - (l + 1)).toNat < ((nl : Int) - l).toNat
          omega
        · exact ⟨rfl, rfl, rfl, rfl, rfl, rfl, rfl, rfl, rfl, rfl, rfl, rfl, trivial⟩
        · exact ⟨rfl, rfl, rfl, rfl, rfl, rfl, trivial⟩
      ·
        obtain rfl : l = (nl : Int) := by omega
        refine V_nil (X_next ?_)
        refine C_seq ?_
        refine C_false rfl ?_
        refine C_exit (X_then_exit (X_then_exit (X_block_exit (X_next ?_))))
        refine C_seq ?_
        refine C_region ?_
        refine V_w0.q (QY_move rfl) rfl ?_
        refine V_w0.q (QY_move rfl) rfl ?_
        refine V_w0.q (QY_len sl42 rfl) rfl ?_
        refine V_makeA 75 mk68 rfl rfl (by omega) (by omega) rfl (fun bt => ?_)
        refine V_fset (q := 70) rfl rfl fa72_7 lf68 (by decide) rfl rfl rfl rfl rfl ?_
        refine V_nil (X_next ?_)
        refine C_seq ?_
        refine C_seq ?_
        refine C_region ?_
        refine V_w0.q (QY_move rfl) rfl ?_
        refine V_w0.q (QY_len sl42 rfl) rfl ?_
        refine V_w0.q (QY_move rfl) rfl ?_
        refine V_nil (X_next ?_)
        refine C_block ?_
        refine C_loops (T := Int × (Int → Value)) (fun (zz9 : Int × (Int → Value)) => match zz9 with | (t, cT) => [(3, .slice aN nl kN), (4, .slice aR ns kR), (5, .slice aP ns kP), (6, .slice aQ ns kQ), (8, .slice aW nl kW), (9, .slice aX nl kX), (10, .slice aT nt kT), (11, .slice aU nt kU), (29, .pointer (some ⟨bA, 0, none⟩)), (30, .pointer (some ⟨bR, 0, none⟩)), (137, .int .i64 (nt : Int)), (138, .int .i64 t)]) (fun (zz9 : Int × (Int → Value)) => match zz9 with | (t, cT) => [(34, ⟨bL, no, no, ints .u8 cl⟩), (71, ⟨bA, 3, 3, fl [.slice aF nf kF, .slice aO no kO, .slice (some ⟨bL, 0, none⟩) no no]⟩), (70, ⟨bR, 15, 15, fl [.slice (some ⟨bl, 0, none⟩) nl nl, .slice (some ⟨bs, 0, none⟩) ns ns, .slice aV (nl + 1) kV, .slice none 0 0, .slice none 0 0, .slice none 0 0, .slice none 0 0, .slice (some ⟨bt, 0, none⟩) nt nt, .slice (some ⟨bv, 0, none⟩) nl nl, .slice aH hc kH, .slice none 0 0, .slice none 0 0, .slice none 0 0, .slice none 0 0, .slice none 0 0]⟩), (72, ⟨bl, nl * 2, ((nl * 2 : Nat) : Int), cA⟩), (73, ⟨bs, ns * 3, ((ns * 3 : Nat) : Int), cS⟩), (74, ⟨bv, nl * 2, ((nl * 2 : Nat) : Int), cW⟩), (75, ⟨bt, nt * 2, ((nt * 2 : Nat) : Int), cT⟩)]) (fun (zz9 : Int × (Int → Value)) => match zz9 with | (t, cT) => 0 ≤ t ∧ t ≤ nt ∧ ∀ k, 0 ≤ k → k < t → cT (2 * k) = .slice (A2 k) (L2 k) (C2 k) ∧ cT (2 * k + 1) = .int .i32 (thF hb L2 k)) (fun (zz9 : Int × (Int → Value)) => match zz9 with | (t, cT) => ((nt : Int) - t).toNat) (0, fun i => (Value.agg #[.slice none 0 0, .int .i32 0]).cells.getD (i.toNat % 2) undef) ?_ ?_ ?_ ?_
        · exact ⟨by omega, by omega, fun k a b => by omega⟩
        · exact ⟨rfl, rfl, rfl, rfl, rfl, rfl, rfl, rfl, rfl, rfl, rfl, rfl, trivial⟩
        · exact ⟨rfl, rfl, rfl, rfl, rfl, rfl, rfl, trivial⟩
        rintro ⟨t, cT⟩ ⟨ht0, ht1, hcT⟩
        show C _ _ _ _ _ _ [(3, .slice aN nl kN), (4, .slice aR ns kR), (5, .slice aP ns kP), (6, .slice aQ ns kQ), (8, .slice aW nl kW), (9, .slice aX nl kX), (10, .slice aT nt kT), (11, .slice aU nt kU), (29, .pointer (some ⟨bA, 0, none⟩)), (30, .pointer (some ⟨bR, 0, none⟩)), (137, .int .i64 (nt : Int)), (138, .int .i64 t)] [(34, ⟨bL, no, no, ints .u8 cl⟩), (71, ⟨bA, 3, 3, fl [.slice aF nf kF, .slice aO no kO, .slice (some ⟨bL, 0, none⟩) no no]⟩), (70, ⟨bR, 15, 15, fl [.slice (some ⟨bl, 0, none⟩) nl nl, .slice (some ⟨bs, 0, none⟩) ns ns, .slice aV (nl + 1) kV, .slice none 0 0, .slice none 0 0, .slice none 0 0, .slice none 0 0, .slice (some ⟨bt, 0, none⟩) nt nt, .slice (some ⟨bv, 0, none⟩) nl nl, .slice aH hc kH, .slice none 0 0, .slice none 0 0, .slice none 0 0, .slice none 0 0, .slice none 0 0]⟩), (72, ⟨bl, nl * 2, ((nl * 2 : Nat) : Int), cA⟩), (73, ⟨bs, ns * 3, ((ns * 3 : Nat) : Int), cS⟩), (74, ⟨bv, nl * 2, ((nl * 2 : Nat) : Int), cW⟩), (75, ⟨bt, nt * 2, ((nt * 2 : Nat) : Int), cT⟩)]
        refine C_seq ?_
        refine C_region ?_
        refine W_lss V_w0 rfl rfl rfl (fun h139 => ?_) (fun h139 => ?_)
        ·
          refine V_nil (X_next ?_)
          refine C_seq ?_
          refine C_true rfl ?_
          refine C_skip (X_next ?_)
          refine C_seq ?_
          refine C_block ?_
          refine C_seq ?_
          refine C_region ?_
          refine V_w0.q (QY_move rfl) rfl ?_
          refine V_w0.q (QY_assign rfl) rfl ?_
          refine V_nil (X_next ?_)
          refine C_draws 14 14 mix (by kernel_rfl) ?_
          refine T_w0.q (QY_move rfl) rfl ?_
          refine W_fld T_w0 (q := 70) rfl rfl fa72_7 lf68 (by decide) rfl rfl rfl rfl ?_
          refine T_w0.q (QY_move rfl) rfl ?_
          refine T_w0.q (QY_move rfl) rfl ?_
          refine T_w0.q (QY_move rfl) rfl ?_
          refine W_elem T_w0 rfl rfl (hT0.1.rd) (by omega) (by omega) sl42 lf22 rfl rfl (fun _ => ?_)
          refine T_w0.q (QY_move rfl) rfl ?_
          refine T_w0.q (QY_move rfl) rfl ?_
          refine W_elem T_w0 rfl rfl (hU.rd) (by omega) (by omega) sl22 lf21 rfl rfl (fun _ => ?_)
          refine T_w0.q (v := .agg [.slice (A2 t) (L2 t) (C2 t), .int .i32 (th t)].toArray) (QY_build (parts := [(0, .tmp 149), (1, .tmp 153)]) (vs := [(0, .slice (A2 t) (L2 t) (C2 t)), (1, .int .i32 (th t))]) (fun a hf => by
            simp only [List.map_cons, List.map_nil]
            rw [hf.eval (x := .tmp 149) rfl, hf.eval (x := .tmp 153) rfl] <;> rfl) (fun w => build80 w _ _ rfl rfl)) rfl ?_
          refine T_tail rfl rfl ?_
          refine V_w0.q (QY_index2 (o' := (t : Int).toNat * 2) sl68 rfl rfl (by omega) (by omega) (by omega)) rfl ?_
          refine V_storeA (q := 75) ag80 rfl rfl rfl rfl (by intro v hv; simp at hv; rcases hv with rfl | rfl <;> rfl) (by decide) (by omega) rfl ?_
          refine V_nil (X_Qn (X_block (X_next ?_)))
          refine C_region ?_
          refine V_w0.q (QY_arith rfl rfl rfl ⟨by omega, by omega⟩) rfl ?_
          refine V_w0.q (QY_move rfl) rfl ?_
          refine V_nil (X_then ?_)
          refine X_round (t + 1, lay cT (((t : Int).toNat * 2 : Nat) : Int) [.slice (A2 t) (L2 t) (C2 t), .int .i32 (th t)]) ?_ ?_ ?_ ?_
          · refine ⟨by omega, by omega, fun k a b => ?_⟩
            rw [lay2_0 ht0, lay2_1 ht0]
            by_cases e : k = t
            · subst e; rw [if_pos rfl, if_pos rfl, hth k a (by omega)]; exact ⟨rfl, rfl⟩
            · rw [if_neg e, if_neg e]; exact hcT k a (by omega)
          · show ((nt : Int) - (t + 1)).toNat < ((nt : Int) - t).toNat
            omega
          · exact ⟨rfl, rfl, rfl, rfl, rfl, rfl, rfl, rfl, rfl, rfl, rfl, rfl, trivial⟩
          · exact ⟨rfl, rfl, rfl, rfl, rfl, rfl, rfl, trivial⟩
        ·
          obtain rfl : t = (nt : Int) := by omega
          refine V_nil (X_next ?_)
          refine C_seq ?_
          refine C_false rfl ?_
          refine C_exit (X_then_exit (X_then_exit (X_block_exit (X_next ?_))))
          refine C_seq ?_
          refine C_region ?_
          refine V_w0.q (QY_move rfl) rfl ?_
          refine V_w0.q (QY_move rfl) rfl ?_
          refine V_call cb35 rfl (T := RelOut) (Φ := fun y => RelRes nl ns nt n T f o cl (rel lf lt L1) sr sl ss hb L2 Z1 Z2 tx y) (val := fun y => .pointer (some ⟨y.b, 0, none⟩)) (H' := fun y => [(76, ⟨y.b, 3, 3, fl [.slice (some ⟨y.bf, 0, none⟩) (T + 1) (T + 1), .slice (some ⟨y.bo, 0, none⟩) y.m y.m, .slice (some ⟨y.bc, 0, none⟩) y.m y.m]⟩), (77, ⟨y.bf, T + 1, (T : Int) + 1, ints .i32 y.rf⟩), (78, ⟨y.bo, y.m, y.m, ints .i32 y.ro⟩), (79, ⟨y.bc, y.m, y.m, ints .u8 y.rc⟩)]) (fun w1 hm => relayed35 (Old w) w bR bA bl bs bv bt bL nl ns nt nf no n hc T kF kO kV kH aF aO aV aH cA cS cW cT A1 A2 L1 L2 C1 C2 f o cl sr sl ss lf lt Z1 Z2 hb ow tx hcA hcS hcW hcT hF.rdb hO.rdb hV.rdb (fun l a b => (hN.2 l a b).rdb) (fun t a b => (hT0.2 t a b).rdb) hadj hn hlv hsp hhu htx htx0 hT hcO hnf hno hnl hns hnt htL1 htL2 hsome w1 (hm.sub ⟨rfl, rfl, rfl, rfl, rfl, rfl, rfl, trivial⟩)) rfl ?_
          intro y hy
          have hmb := hy.mb
          refine V_w0.q (QY_assign rfl) rfl ?_
          refine V_nil (X_next ?_)
          refine C_seq ?_
          refine C_region ?_
          refine V_w0.q (QY_move rfl) rfl ?_
          refine W_fld V_w0 (q := 76) rfl rfl fa57_2 lf54 (by decide) rfl rfl rfl rfl ?_
          refine V_w0.q (QY_len sl54 rfl) rfl ?_
          refine V_make 90 mk23 rfl rfl rfl (by omega) (by omega) (by omega) (by omega) rfl (fun bC => ?_)
          refine V_w0.q (QY_assign rfl) rfl ?_
          refine V_nil (X_next ?_)
          refine C_seq ?_
          refine C_seq ?_
          refine C_region ?_
          refine V_w0.q (QY_move rfl) rfl ?_
          refine W_fld V_w0 (q := 76) rfl rfl fa57_2 lf54 (by decide) rfl rfl rfl rfl ?_
          refine V_w0.q (QY_len sl54 rfl) rfl ?_
          refine V_w0.q (QY_move rfl) rfl ?_
          refine V_nil (X_next ?_)
          refine C_block ?_
          refine C_loops (T := Int × (Int → Int)) (fun (zz9 : Int × (Int → Int)) => match zz9 with | (k, g) => [(36, .pointer (some ⟨y.b, 0, none⟩)), (37, .slice (some ⟨bC, 0, none⟩) y.m y.m), (169, .slice (some ⟨y.bc, 0, none⟩) y.m y.m), (170, .int .i64 (y.m : Int)), (171, .int .i64 k)]) (fun (zz9 : Int × (Int → Int)) => match zz9 with | (k, g) => [(76, ⟨y.b, 3, 3, fl [.slice (some ⟨y.bf, 0, none⟩) (T + 1) (T + 1), .slice (some ⟨y.bo, 0, none⟩) y.m y.m, .slice (some ⟨y.bc, 0, none⟩) y.m y.m]⟩), (77, ⟨y.bf, T + 1, (T : Int) + 1, ints .i32 y.rf⟩), (78, ⟨y.bo, y.m, y.m, ints .i32 y.ro⟩), (79, ⟨y.bc, y.m, y.m, ints .u8 y.rc⟩), (90, ⟨bC, y.m, y.m, ints .u8 g⟩)]) (fun (zz9 : Int × (Int → Int)) => match zz9 with | (k, g) => 0 ≤ k ∧ k ≤ y.m ∧ ∀ i, 0 ≤ i → i < k → g i = y.rc i) (fun (zz9 : Int × (Int → Int)) => match zz9 with | (k, g) => ((y.m : Int) - k).toNat) (0, fun _ => 0) ?_ ?_ ?_ ?_
          · exact ⟨by omega, by omega, fun i a b => by omega⟩
          · exact ⟨rfl, rfl, rfl, rfl, rfl, trivial⟩
          · exact ⟨rfl, rfl, rfl, rfl, rfl, trivial⟩
          rintro ⟨k, g⟩ ⟨hk0, hk1, hg⟩
          show C _ _ _ _ _ _ [(36, .pointer (some ⟨y.b, 0, none⟩)), (37, .slice (some ⟨bC, 0, none⟩) y.m y.m), (169, .slice (some ⟨y.bc, 0, none⟩) y.m y.m), (170, .int .i64 (y.m : Int)), (171, .int .i64 k)] [(76, ⟨y.b, 3, 3, fl [.slice (some ⟨y.bf, 0, none⟩) (T + 1) (T + 1), .slice (some ⟨y.bo, 0, none⟩) y.m y.m, .slice (some ⟨y.bc, 0, none⟩) y.m y.m]⟩), (77, ⟨y.bf, T + 1, (T : Int) + 1, ints .i32 y.rf⟩), (78, ⟨y.bo, y.m, y.m, ints .i32 y.ro⟩), (79, ⟨y.bc, y.m, y.m, ints .u8 y.rc⟩), (90, ⟨bC, y.m, y.m, ints .u8 g⟩)]
          refine C_seq ?_
          refine C_region ?_
          refine W_lss V_w0 rfl rfl rfl (fun h172 => ?_) (fun h172 => ?_)
          ·
            refine V_nil (X_next ?_)
            refine C_seq ?_
            refine C_true rfl ?_
            refine C_skip (X_next ?_)
            refine C_seq ?_
            refine C_block ?_
            refine C_seq ?_
            refine C_region ?_
            refine V_w0.q (QY_move rfl) rfl ?_
            refine W_elem V_w0 rfl rfl (Rd_own (q := 79) rfl (by omega)) (by omega) (by omega) sl54 lf58 rfl rfl (fun _ => ?_)
            refine V_w0.q (QY_assign rfl) rfl ?_
            refine V_w0.q (QY_assign rfl) rfl ?_
            refine V_nil (X_next ?_)
            refine C_region ?_
            refine V_w0.q (QY_move rfl) rfl ?_
            refine V_w0.q (QY_move rfl) rfl ?_
            refine V_w0.q (QY_move rfl) rfl ?_
            refine V_set (q := 90) rfl rfl rfl rfl rfl (by omega) (by omega) (by omega) sl23 lf5 rfl rfl (upd_ints _ _ _ _) (fun _ => ?_)
            refine V_nil (X_block (X_next ?_))
            refine C_region ?_
            refine V_w0.q (QY_arith rfl rfl rfl ⟨by omega, by omega⟩) rfl ?_
            refine V_w0.q (QY_move rfl) rfl ?_
            refine V_nil (X_then ?_)
            refine X_round (k + 1, upd g k (y.rc k)) ?_ ?_ ?_ ?_
            · exact ⟨by omega, by omega, upd_copy hg⟩
            · show ((y.m : Int) - (k + 1)).toNat < ((y.m : Int) - k).toNat
              omega
            · exact ⟨rfl, rfl, rfl, rfl, rfl, trivial⟩
            · exact ⟨rfl, rfl, rfl, rfl, rfl, trivial⟩
          ·
            obtain rfl : k = (y.m : Int) := by omega
            refine V_nil (X_next ?_)
            refine C_seq ?_
            refine C_false rfl ?_
            refine C_exit (X_then_exit (X_then_exit (X_block_exit (X_next ?_))))
            refine C_seq ?_
            refine C_draw mix (by kernel_rfl) ?_
            refine S_w0.q (QY_move rfl) rfl ?_
            refine W_fld S_w0 (q := 76) rfl rfl fa57_0 lf22 (by decide) rfl rfl rfl rfl ?_
            refine S_w0.q (QY_move rfl) rfl ?_
            refine W_fld S_w0 (q := 76) rfl rfl fa57_1 lf22 (by decide) rfl rfl rfl rfl ?_
            refine S_w0.q (QY_move rfl) rfl ?_
            refine S_w0.q (QY_assign rfl) rfl ?_
            refine S_w0.q (QY_assign rfl) rfl ?_
            refine S_w0.q (QY_assign rfl) rfl ?_
            refine S_nil (X_next ?_)
            refine C_ret (?_)
            refine X_retN (ts := [26, 27, 28]) rfl (by decide) rfl (fun w hm => ?_)
            have h1 := hm.say (q := 90) (k := ⟨bC, y.m, y.m, ints .u8 g⟩) rfl (n := y.m) (c := ints .u8 y.rc) (Int.le_refl _) (fun i h0 h1 => by show ints .u8 y.rc i = ints .u8 g i; unfold ints; rw [hg i h0 (by omega)])
            refine ⟨⟨y, some ⟨y.bf, 0, none⟩, some ⟨y.bo, 0, none⟩, some ⟨bC, 0, none⟩, T + 1, y.m, y.m⟩, ⟨hy, ?_, ?_, ?_⟩, rfl, hm.sub trivial⟩
            · exact (Rd_own (q := 77) rfl (by omega)).at hm
            · exact (Rd_own (q := 78) rfl (by omega)).at hm
            · exact (Rd_own (q := 90) rfl (by omega)).at h1

set_option maxHeartbeats 2000000 in
theorem zz25n (w : World) (nl ns nt nf no n hc T kF kO kL kN kR kP kQ kV kW kX kT kU kH : Nat) (aF aO aL aN aR aP aQ aV aW aX aT aU aH : Option Addr) (A1 A2 : Int → Option Addr) (L1 L2 C1 C2 : Int → Nat) (f o cl sr sl ss lf lt ln th : Int → Int) (Z1 Z2 : Int → Int → Int) (hb ow : Int → Bool) (tx : Int)
    (hF : RdW w (.slice aF nf kF) nf (ints .i32 f)) (hO : RdW w (.slice aO no kO) no (ints .i32 o)) (hL : RdW w (.slice aL no kL) no (ints .u8 cl)) (hN : RdR w aN nl kN A1 L1 C1 Z1) (hR : RdW w (.slice aR ns kR) ns (ints .i32 sr)) (hP : RdW w (.slice aP ns kP) ns (ints .i32 sl)) (hQ : RdW w (.slice aQ ns kQ) ns (ints .i32 ss)) (hV : RdW w (.slice aV (nl + 1) kV) (nl + 1) (ints .i32 lf)) (hW : RdW w (.slice aW nl kW) nl (ints .i32 lt)) (hX : RdW w (.slice aX nl kX) nl (ints .i32 ln)) (hT0 : RdR w aT nt kT A2 L2 C2 Z2) (hU : RdW w (.slice aU nt kU) nt (ints .i32 th)) (hth : ∀ t, 0 ≤ t → t < (nt : Int) → th t = thF hb L2 t)
    (hadj : AdjOK nf no no f o) (hn : (n : Int) = (nf : Int) - 1) (hlv : LvI nl L1 L2 Z2 (thF hb L2) nt 0 ow lt) (hsp : SpI nl tx L1 sr sl ss ns) (hlf : ∀ l, 0 ≤ l → l ≤ (nl : Int) → LfOK ns sl l (lf l)) (hhu : hu hb L2 nt = hc) (htx : tx = (n : Int) - hc) (htx0 : 0 ≤ tx) (hT : (T : Int) = (n : Int) + rel lf lt L1 nl) (hcO : no ≤ kO)
    (hnf : (nf : Int) ≤ 4097) (hno : (no : Int) ≤ 262144) (hnl : (nl : Int) ≤ 65536) (hns : (ns : Int) ≤ 4096) (hnt : (nt : Int) ≤ 65536) (htL1 : tot L1 nl ≤ 4096) (htL2 : tot L2 nt ≤ 4096)
    (h0s : ns = 0) (h0c : hc = 0) : Calls Try.prog 25 #[.slice aF nf kF, .slice aO no kO, .slice aL no kL, .slice aN nl kN, .slice aR ns kR, .slice aP ns kP, .slice aQ ns kQ, .slice aV (nl + 1) kV, .slice aW nl kW, .slice aX nl kX, .slice aT nt kT, .slice aU nt kU, .slice aH hc kH] w fun e w' => ∃ z : ZOut, (RelRes nl ns nt n T f o cl (rel lf lt L1) sr sl ss hb L2 Z1 Z2 tx z.r ∧ RdW w' (.slice z.a1 (T + 1) z.c1) (T + 1) (ints .i32 z.r.rf) ∧ RdW w' (.slice z.a2 z.r.m z.c2) z.r.m (ints .i32 z.r.ro) ∧ RdW w' (.slice z.a3 z.r.m z.c3) z.r.m (ints .u8 z.r.rc)) ∧ e = .returned (.tuple [.slice z.a1 (T + 1) z.c1, .slice z.a2 z.r.m z.c2, .slice z.a3 z.r.m z.c3].toArray) ∧ Mem (Old w) w [] w' := by
  obtain ⟨hTn, hres⟩ := none_res (L1 := L1) (Z1 := Z1) (sr := sr) (ss := ss) (cl := cl) (tx := tx) hadj hn hlv hlf hhu hT hno h0s h0c
  refine enter (N := 190) (vs := [.slice aF nf kF, .slice aO no kO, .slice aL no kL, .slice aN nl kN, .slice aR ns kR, .slice aP ns kP, .slice aQ ns kQ, .slice aV (nl + 1) kV, .slice aW nl kW, .slice aX nl kX, .slice aT nt kT, .slice aU nt kU, .slice aH hc kH]) Try.func25 rfl Try.ntmps25 rfl ?_ w (Mem.start w)
  refine C_seq ?_
  refine C_region ?_
  refine V_w0.q (QY_assign rfl) rfl ?_
  refine V_w0.q (QY_assign rfl) rfl ?_
  refine V_w0.q (QY_assign rfl) rfl ?_
  refine V_nil (X_next ?_)
  refine C_seq ?_
  refine C_region ?_
  refine V_w0.q (QY_move rfl) rfl ?_
  refine V_w0.q (QY_move rfl) rfl ?_
  refine V_w0.q (QY_move rfl) rfl ?_
  refine V_call cb32 rfl (T := Nat) (Φ := fun _ => True) (val := fun b => .slice (some ⟨b, 0, none⟩) no no) (H' := fun b => [(34, ⟨b, no, no, ints .u8 cl⟩)]) (fun w1 hm => (cs32 w1 aL no kL cl (hL.rd.at hm) (by omega)).mono fun e w2 ⟨y, _, he, hM⟩ => ⟨y, trivial, he, by simpa using hm.join (hM.rekey 34)⟩) rfl ?_
  intro bL _
  refine V_w0.q (v := .agg [.slice aF nf kF, .slice aO no kO, .slice (some ⟨bL, 0, none⟩) no no].toArray) (QY_build (parts := [(0, .tmp 40), (1, .tmp 41), (2, .tmp 43)]) (vs := [(0, .slice aF nf kF), (1, .slice aO no kO), (2, .slice (some ⟨bL, 0, none⟩) no no)]) (fun a hf => by
    simp only [List.map_cons, List.map_nil]
    rw [hf.eval (x := .tmp 40) rfl, hf.eval (x := .tmp 41) rfl, hf.eval (x := .tmp 43) rfl] <;> rfl) (fun w => build57 w _ _ _ rfl rfl rfl)) rfl ?_
  refine V_box 71 (cs := [.slice aF nf kF, .slice aO no kO, .slice (some ⟨bL, 0, none⟩) no no]) rfl (m := 3) rfl (mi := 3) rfl rfl (fun bA => ?_)
  refine V_w0.q (QY_assign rfl) rfl ?_
  refine V_nil (X_next ?_)
  refine C_seq ?_
  refine C_region ?_
  refine V_w0.q (QY_move rfl) rfl ?_
  refine V_w0.q (QY_move rfl) rfl ?_
  refine V_w0.q (v := .agg [.slice none 0 0, .slice none 0 0, .slice aV (nl + 1) kV, .slice none 0 0, .slice none 0 0, .slice none 0 0, .slice none 0 0, .slice none 0 0, .slice none 0 0, .slice aH hc kH, .slice none 0 0, .slice none 0 0, .slice none 0 0, .slice none 0 0, .slice none 0 0].toArray) (QY_build (parts := [(2, .tmp 46), (9, .tmp 47)]) (vs := [(2, .slice aV (nl + 1) kV), (9, .slice aH hc kH)]) (fun a hf => by
    simp only [List.map_cons, List.map_nil]
    rw [hf.eval (x := .tmp 46) rfl, hf.eval (x := .tmp 47) rfl] <;> rfl) (fun w => build72 w _ _ rfl rfl)) rfl ?_
  refine V_box 70 (cs := [.slice none 0 0, .slice none 0 0, .slice aV (nl + 1) kV, .slice none 0 0, .slice none 0 0, .slice none 0 0, .slice none 0 0, .slice none 0 0, .slice none 0 0, .slice aH hc kH, .slice none 0 0, .slice none 0 0, .slice none 0 0, .slice none 0 0, .slice none 0 0]) rfl (m := 15) rfl (mi := 15) rfl rfl (fun bR => ?_)
  refine V_w0.q (QY_assign rfl) rfl ?_
  refine V_nil (X_next ?_)
  refine C_seq ?_
  refine C_region ?_
  refine V_w0.q (QY_move rfl) rfl ?_
  refine V_w0.q (QY_move rfl) rfl ?_
  refine V_w0.q (QY_len sl42 rfl) rfl ?_
  refine V_makeA 72 mk65 rfl rfl (by omega) (by omega) rfl (fun bl => ?_)
  refine V_fset (q := 70) rfl rfl fa72_0 lf65 (by decide) rfl rfl rfl rfl rfl ?_
  refine V_nil (X_next ?_)
  refine C_seq ?_
  refine C_seq ?_
  refine C_region ?_
  refine V_w0.q (QY_move rfl) rfl ?_
  refine V_w0.q (QY_len sl42 rfl) rfl ?_
  refine V_w0.q (QY_move rfl) rfl ?_
  refine V_nil (X_next ?_)
  refine C_block ?_
  refine C_loops (T := Int × (Int → Value)) (fun (zz9 : Int × (Int → Value)) => match zz9 with | (l, cA) => [(3, .slice aN nl kN), (4, .slice aR ns kR), (5, .slice aP ns kP), (6, .slice aQ ns kQ), (8, .slice aW nl kW), (9, .slice aX nl kX), (10, .slice aT nt kT), (11, .slice aU nt kU), (29, .pointer (some ⟨bA, 0, none⟩)), (30, .pointer (some ⟨bR, 0, none⟩)), (56, .slice aN nl kN), (57, .int .i64 (nl : Int)), (58, .int .i64 l)]) (fun (zz9 : Int × (Int → Value)) => match zz9 with | (l, cA) => [(34, ⟨bL, no, no, ints .u8 cl⟩), (71, ⟨bA, 3, 3, fl [.slice aF nf kF, .slice aO no kO, .slice (some ⟨bL, 0, none⟩) no no]⟩), (70, ⟨bR, 15, 15, fl [.slice (some ⟨bl, 0, none⟩) nl nl, .slice none 0 0, .slice aV (nl + 1) kV, .slice none 0 0, .slice none 0 0, .slice none 0 0, .slice none 0 0, .slice none 0 0, .slice none 0 0, .slice aH hc kH, .slice none 0 0, .slice none 0 0, .slice none 0 0, .slice none 0 0, .slice none 0 0]⟩), (72, ⟨bl, nl * 2, ((nl * 2 : Nat) : Int), cA⟩)]) (fun (zz9 : Int × (Int → Value)) => match zz9 with | (l, cA) => 0 ≤ l ∧ l ≤ nl ∧ ∀ k, 0 ≤ k → k < l → cA (2 * k) = .int .i32 0 ∧ cA (2 * k + 1) = .slice (A1 k) (L1 k) (C1 k)) (fun (zz9 : Int × (Int → Value)) => match zz9 with | (l, cA) => ((nl : Int) - l).toNat) (0, fun i => (Value.agg #[.int .i32 0, .slice none 0 0]).cells.getD (i.toNat % 2) undef) ?_ ?_ ?_ ?_
  · exact ⟨by omega, by omega, fun k a b => by omega⟩
  · exact ⟨rfl, rfl, rfl, rfl, rfl, rfl, rfl, rfl, rfl, rfl, rfl, rfl, rfl, trivial⟩
  · exact ⟨rfl, rfl, rfl, rfl, trivial⟩
  rintro ⟨l, cA⟩ ⟨hl0, hl1, hcA⟩
  show C _ _ _ _ _ _ [(3, .slice aN nl kN), (4, .slice aR ns kR), (5, .slice aP ns kP), (6, .slice aQ ns kQ), (8, .slice aW nl kW), (9, .slice aX nl kX), (10, .slice aT nt kT), (11, .slice aU nt kU), (29, .pointer (some ⟨bA, 0, none⟩)), (30, .pointer (some ⟨bR, 0, none⟩)), (56, .slice aN nl kN), (57, .int .i64 (nl : Int)), (58, .int .i64 l)] [(34, ⟨bL, no, no, ints .u8 cl⟩), (71, ⟨bA, 3, 3, fl [.slice aF nf kF, .slice aO no kO, .slice (some ⟨bL, 0, none⟩) no no]⟩), (70, ⟨bR, 15, 15, fl [.slice (some ⟨bl, 0, none⟩) nl nl, .slice none 0 0, .slice aV (nl + 1) kV, .slice none 0 0, .slice none 0 0, .slice none 0 0, .slice none 0 0, .slice none 0 0, .slice none 0 0, .slice aH hc kH, .slice none 0 0, .slice none 0 0, .slice none 0 0, .slice none 0 0, .slice none 0 0]⟩), (72, ⟨bl, nl * 2, ((nl * 2 : Nat) : Int), cA⟩)]
  refine C_seq ?_
  refine C_region ?_
  refine W_lss V_w0 rfl rfl rfl (fun h59 => ?_) (fun h59 => ?_)
  ·
    refine V_nil (X_next ?_)
    refine C_seq ?_
    refine C_true rfl ?_
    refine C_skip (X_next ?_)
    refine C_seq ?_
    refine C_block ?_
    refine C_seq ?_
    refine C_region ?_
    refine V_w0.q (QY_move rfl) rfl ?_
    refine W_elem V_w0 rfl rfl (hN.1.rd) (by omega) (by omega) sl42 lf22 rfl rfl (fun _ => ?_)
    refine V_w0.q (QY_assign rfl) rfl ?_
    refine V_w0.q (QY_assign rfl) rfl ?_
    refine V_nil (X_next ?_)
    refine C_region ?_
    refine V_w0.q (QY_move rfl) rfl ?_
    refine W_fld V_w0 (q := 70) rfl rfl fa72_0 lf65 (by decide) rfl rfl rfl rfl ?_
    refine V_w0.q (QY_move rfl) rfl ?_
    refine V_w0.q (QY_move rfl) rfl ?_
    refine V_w0.q (v := .agg [.int .i32 0, .slice (A1 l) (L1 l) (C1 l)].toArray) (QY_build (parts := [(1, .tmp 68)]) (vs := [(1, .slice (A1 l) (L1 l) (C1 l))]) (fun a hf => by
      simp only [List.map_cons, List.map_nil]
      rw [hf.eval (x := .tmp 68) rfl] <;> rfl) (fun w => build74 w _ rfl)) rfl ?_
    refine V_w0.q (QY_index2 (o' := (l : Int).toNat * 2) sl65 rfl rfl (by omega) (by omega) (by omega)) rfl ?_
    refine V_storeA (q := 72) ag74 rfl rfl rfl rfl (by intro v hv; simp at hv; rcases hv with rfl | rfl <;> rfl) (by decide) (by omega) rfl ?_
    refine V_nil (X_block (X_next ?_))
    refine C_region ?_
    refine V_w0.q (QY_arith rfl rfl rfl ⟨by omega, by omega⟩) rfl ?_
    refine V_w0.q (QY_move rfl) rfl ?_
    refine V_nil (X_then ?_)
    refine X_round (l + 1, lay cA (((l : Int).toNat * 2 : Nat) : Int) [.int .i32 0, .slice (A1 l) (L1 l) (C1 l)]) ?_ ?_ ?_ ?_
    · refine ⟨by omega, by omega, fun k a b => ?_⟩
      rw [lay2_0 hl0, lay2_1 hl0]
      by_cases e : k = l
      · subst e; rw [if_pos rfl, if_pos rfl]; exact ⟨rfl, rfl⟩
      · rw [if_neg e, if_neg e]; exact hcA k a (by omega)
    · show ((nl : Int) - (l + 1)).toNat < ((nl : Int) - l).toNat
      omega
    · exact ⟨rfl, rfl, rfl, rfl, rfl, rfl, rfl, rfl, rfl, rfl, rfl, rfl, rfl, trivial⟩
    · exact ⟨rfl, rfl, rfl, rfl, trivial⟩
  ·
    obtain rfl : l = (nl : Int) := by omega
    refine V_nil (X_next ?_)
    refine C_seq ?_
    refine C_false rfl ?_
    refine C_exit (X_then_exit (X_then_exit (X_block_exit (X_next ?_))))
    refine C_seq ?_
    refine C_region ?_
    refine V_w0.q (QY_move rfl) rfl ?_
    refine V_w0.q (QY_move rfl) rfl ?_
    refine V_w0.q (QY_len sl22 rfl) rfl ?_
    refine V_makeA 73 mk66 rfl rfl (by omega) (by omega) rfl (fun bs => ?_)
    refine V_fset (q := 70) rfl rfl fa72_1 lf66 (by decide) rfl rfl rfl rfl rfl ?_
    refine V_nil (X_next ?_)
    refine C_seq ?_
    refine C_seq ?_
    refine C_region ?_
    refine V_w0.q (QY_move rfl) rfl ?_
    refine V_w0.q (QY_len sl22 rfl) rfl ?_
    refine V_w0.q (QY_move rfl) rfl ?_
    refine V_nil (X_next ?_)
    refine C_block ?_
    refine C_loops (T := Int × (Int → Value)) (fun (zz9 : Int × (Int → Value)) => match zz9 with | (i, cS) => [(3, .slice aN nl kN), (4, .slice aR ns kR), (5, .slice aP ns kP), (6, .slice aQ ns kQ), (8, .slice aW nl kW), (9, .slice aX nl kX), (10, .slice aT nt kT), (11, .slice aU nt kU), (29, .pointer (some ⟨bA, 0, none⟩)), (30, .pointer (some ⟨bR, 0, none⟩)), (79, .int .i64 (ns : Int)), (80, .int .i64 i)]) (fun (zz9 : Int × (Int → Value)) => match zz9 with | (i, cS) => [(34, ⟨bL, no, no, ints .u8 cl⟩), (71, ⟨bA, 3, 3, fl [.slice aF nf kF, .slice aO no kO, .slice (some ⟨bL, 0, none⟩) no no]⟩), (70, ⟨bR, 15, 15, fl [.slice (some ⟨bl, 0, none⟩) nl nl, .slice (some ⟨bs, 0, none⟩) ns ns, .slice aV (nl + 1) kV, .slice none 0 0, .slice none 0 0, .slice none 0 0, .slice none 0 0, .slice none 0 0, .slice none 0 0, .slice aH hc kH, .slice none 0 0, .slice none 0 0, .slice none 0 0, .slice none 0 0, .slice none 0 0]⟩), (72, ⟨bl, nl * 2, ((nl * 2 : Nat) : Int), cA⟩), (73, ⟨bs, ns * 3, ((ns * 3 : Nat) : Int), cS⟩)]) (fun (zz9 : Int × (Int → Value)) => match zz9 with | (i, cS) => 0 ≤ i ∧ i ≤ ns ∧ ∀ k, 0 ≤ k → k < i → cS (3 * k) = .int .i32 (sr k) ∧ cS (3 * k + 1) = .int .i32 (sl k) ∧ cS (3 * k + 2) = .int .i32 (ss k)) (fun (zz9 : Int × (Int → Value)) => match zz9 with | (i, cS) => ((ns : Int) - i).toNat) (0, fun i => (Value.agg #[.int .i32 0, .int .i32 0, .int .i32 0]).cells.getD (i.toNat % 3) undef) ?_ ?_ ?_ ?_
    · exact ⟨by omega, by omega, fun k a b => by omega⟩
    · exact ⟨rfl, rfl, rfl, rfl, rfl, rfl, rfl, rfl, rfl, rfl, rfl, rfl, trivial⟩
    · exact ⟨rfl, rfl, rfl, rfl, rfl, trivial⟩
    rintro ⟨i, cS⟩ ⟨hi0, hi1, hcS⟩
    show C _ _ _ _ _ _ [(3, .slice aN nl kN), (4, .slice aR ns kR), (5, .slice aP ns kP), (6, .slice aQ ns kQ), (8, .slice aW nl kW), (9, .slice aX nl kX), (10, .slice aT nt kT), (11, .slice aU nt kU), (29, .pointer (some ⟨bA, 0, none⟩)), (30, .pointer (some ⟨bR, 0, none⟩)), (79, .int .i64 (ns : Int)), (80, .int .i64 i)] [(34, ⟨bL, no, no, ints .u8 cl⟩), (71, ⟨bA, 3, 3, fl [.slice aF nf kF, .slice aO no kO, .slice (some ⟨bL, 0, none⟩) no no]⟩), (70, ⟨bR, 15, 15, fl [.slice (some ⟨bl, 0, none⟩) nl nl, .slice (some ⟨bs, 0, none⟩) ns ns, .slice aV (nl + 1) kV, .slice none 0 0, .slice none 0 0, .slice none 0 0, .slice none 0 0, .slice none 0 0, .slice none 0 0, .slice aH hc kH, .slice none 0 0, .slice none 0 0, .slice none 0 0, .slice none 0 0, .slice none 0 0]⟩), (72, ⟨bl, nl * 2, ((nl * 2 : Nat) : Int), cA⟩), (73, ⟨bs, ns * 3, ((ns * 3 : Nat) : Int), cS⟩)]
    refine C_seq ?_
    refine C_region ?_
    refine W_lss V_w0 rfl rfl rfl (fun h81 => ?_) (fun h81 => ?_)
    ·
      refine V_nil (X_next ?_)
      refine C_seq ?_
      refine C_true rfl ?_
      refine C_skip (X_next ?_)
      refine C_seq ?_
      refine C_block ?_
      refine C_seq ?_
      refine C_region ?_
      refine V_w0.q (QY_move rfl) rfl ?_
      refine V_w0.q (QY_assign rfl) rfl ?_
      refine V_nil (X_next ?_)
      refine C_draws 18 18 mix (by kernel_rfl) ?_
      refine T_w0.q (QY_move rfl) rfl ?_
      refine W_fld T_w0 (q := 70) rfl rfl fa72_1 lf66 (by decide) rfl rfl rfl rfl ?_
      refine T_w0.q (QY_move rfl) rfl ?_
      refine T_w0.q (QY_move rfl) rfl ?_
      refine T_w0.q (QY_move rfl) rfl ?_
      refine W_elem T_w0 rfl rfl (hR.rd) (by omega) (by omega) sl22 lf21 rfl rfl (fun _ => ?_)
      refine T_w0.q (QY_move rfl) rfl ?_
      refine T_w0.q (QY_move rfl) rfl ?_
      refine W_elem T_w0 rfl rfl (hP.rd) (by omega) (by omega) sl22 lf21 rfl rfl (fun _ => ?_)
      refine T_w0.q (QY_move rfl) rfl ?_
      refine T_w0.q (QY_move rfl) rfl ?_
      refine W_elem T_w0 rfl rfl (hQ.rd) (by omega) (by omega) sl22 lf21 rfl rfl (fun _ => ?_)
      refine T_w0.q (v := .agg [.int .i32 (sr i), .int .i32 (sl i), .int .i32 (ss i)].toArray) (QY_build (parts := [(0, .tmp 91), (1, .tmp 95), (2, .tmp 99)]) (vs := [(0, .int .i32 (sr i)), (1, .int .i32 (sl i)), (2, .int .i32 (ss i))]) (fun a hf => by
        simp only [List.map_cons, List.map_nil]
        rw [hf.eval (x := .tmp 91) rfl, hf.eval (x := .tmp 95) rfl, hf.eval (x := .tmp 99) rfl] <;> rfl) (fun w => build76 w _ _ _ rfl rfl rfl)) rfl ?_
      refine T_tail rfl rfl ?_
      refine V_w0.q (QY_index2 (o' := (i : Int).toNat * 3) sl66 rfl rfl (by omega) (by omega) (by omega)) rfl ?_
      refine V_storeA (q := 73) ag76 rfl rfl rfl rfl (by intro v hv; simp at hv; rcases hv with rfl | rfl | rfl <;> rfl) (by decide) (by omega) rfl ?_
      refine V_nil (X_Qn (X_block (X_next ?_)))
      refine C_region ?_
      refine V_w0.q (QY_arith rfl rfl rfl ⟨by omega, by omega⟩) rfl ?_
      refine V_w0.q (QY_move rfl) rfl ?_
      refine V_nil (X_then ?_)
      refine X_round (i + 1, lay cS (((i : Int).toNat * 3 : Nat) : Int) [.int .i32 (sr i), .int .i32 (sl i), .int .i32 (ss i)]) ?_ ?_ ?_ ?_
      · refine ⟨by omega, by omega, fun k a b => ?_⟩
        have h3 := lay3_at (c := cS) (l := i) (k := k) (v0 := .int .i32 (sr i)) (v1 := .int .i32 (sl i)) (v2 := .int .i32 (ss i)) hi0
        by_cases e : k = i
        · subst e; rw [if_pos rfl, if_pos rfl, if_pos rfl] at h3; exact h3
        · rw [if_neg e, if_neg e, if_neg e] at h3
          have h4 := hcS k a (by omega)
          exact ⟨h3.1.trans h4.1, h3.2.1.trans h4.2.1, h3.2.2.trans h4.2.2⟩
      · show ((ns : Int) - (i + 1)).toNat < ((ns : Int) - i).toNat
        omega
      · exact ⟨rfl, rfl, rfl, rfl, rfl, rfl, rfl, rfl, rfl, rfl, rfl, rfl, trivial⟩
      · exact ⟨rfl, rfl, rfl, rfl, rfl, trivial⟩
    ·
      obtain rfl : i = (ns : Int) := by omega
      refine V_nil (X_next ?_)
      refine C_seq ?_
      refine C_false rfl ?_
      refine C_exit (X_then_exit (X_then_exit (X_block_exit (X_next ?_))))
      refine C_seq ?_
      refine C_region ?_
      refine V_w0.q (QY_move rfl) rfl ?_
      refine V_w0.q (QY_move rfl) rfl ?_
      refine V_w0.q (QY_len sl22 rfl) rfl ?_
      refine V_makeA 74 mk69 rfl rfl (by omega) (by omega) rfl (fun bv => ?_)
      refine V_fset (q := 70) rfl rfl fa72_8 lf69 (by decide) rfl rfl rfl rfl rfl ?_
      refine V_nil (X_next ?_)
      refine C_seq ?_
      refine C_seq ?_
      refine C_region ?_
      refine V_w0.q (QY_move rfl) rfl ?_
      refine V_w0.q (QY_len sl22 rfl) rfl ?_
      refine V_w0.q (QY_move rfl) rfl ?_
      refine V_nil (X_next ?_)
      refine C_block ?_
      refine C_loops (T := Int × (Int → Value)) (fun (zz9 : Int × (Int → Value)) => match zz9 with | (l, cW) => [(3, .slice aN nl kN), (4, .slice aR ns kR), (5, .slice aP ns kP), (6, .slice aQ ns kQ), (8, .slice aW nl kW), (9, .slice aX nl kX), (10, .slice aT nt kT), (11, .slice aU nt kU), (29, .pointer (some ⟨bA, 0, none⟩)), (30, .pointer (some ⟨bR, 0, none⟩)), (110, .int .i64 (nl : Int)), (111, .int .i64 l)]) (fun (zz9 : Int × (Int → Value)) => match zz9 with | (l, cW) => [(34, ⟨bL, no, no, ints .u8 cl⟩), (71, ⟨bA, 3, 3, fl [.slice aF nf kF, .slice aO no kO, .slice (some ⟨bL, 0, none⟩) no no]⟩), (70, ⟨bR, 15, 15, fl [.slice (some ⟨bl, 0, none⟩) nl nl, .slice (some ⟨bs, 0, none⟩) ns ns, .slice aV (nl + 1) kV, .slice none 0 0, .slice none 0 0, .slice none 0 0, .slice none 0 0, .slice none 0 0, .slice (some ⟨bv, 0, none⟩) nl nl, .slice aH hc kH, .slice none 0 0, .slice none 0 0, .slice none 0 0, .slice none 0 0, .slice none 0 0]⟩), (72, ⟨bl, nl * 2, ((nl * 2 : Nat) : Int), cA⟩), (73, ⟨bs, ns * 3, ((ns * 3 : Nat) : Int), cS⟩), (74, ⟨bv, nl * 2, ((nl * 2 : Nat) : Int), cW⟩)]) (fun (zz9 : Int × (Int → Value)) => match zz9 with | (l, cW) => 0 ≤ l ∧ l ≤ nl ∧ ∀ k, 0 ≤ k → k < l → cW (2 * k) = .int .i32 (lt k)) (fun (zz9 : Int × (Int → Value)) => match zz9 with | (l, cW) => ((nl : Int) - l).toNat) (0, fun i => (Value.agg #[.int .i32 0, .int .i32 0]).cells.getD (i.toNat % 2) undef) ?_ ?_ ?_ ?_
      · exact ⟨by omega, by omega, fun k a b => by omega⟩
      · exact ⟨rfl, rfl, rfl, rfl, rfl, rfl, rfl, rfl, rfl, rfl, rfl, rfl, trivial⟩
      · exact ⟨rfl, rfl, rfl, rfl, rfl, rfl, trivial⟩
      rintro ⟨l, cW⟩ ⟨hl0, hl1, hcW⟩
      show C _ _ _ _ _ _ [(3, .slice aN nl kN), (4, .slice aR ns kR), (5, .slice aP ns kP), (6, .slice aQ ns kQ), (8, .slice aW nl kW), (9, .slice aX nl kX), (10, .slice aT nt kT), (11, .slice aU nt kU), (29, .pointer (some ⟨bA, 0, none⟩)), (30, .pointer (some ⟨bR, 0, none⟩)), (110, .int .i64 (nl : Int)), (111, .int .i64 l)] [(34, ⟨bL, no, no, ints .u8 cl⟩), (71, ⟨bA, 3, 3, fl [.slice aF nf kF, .slice aO no kO, .slice (some ⟨bL, 0, none⟩) no no]⟩), (70, ⟨bR, 15, 15, fl [.slice (some ⟨bl, 0, none⟩) nl nl, .slice (some ⟨bs, 0, none⟩) ns ns, .slice aV (nl + 1) kV, .slice none 0 0, .slice none 0 0, .slice none 0 0, .slice none 0 0, .slice none 0 0, .slice (some ⟨bv, 0, none⟩) nl nl, .slice aH hc kH, .slice none 0 0, .slice none 0 0, .slice none 0 0, .slice none 0 0, .slice none 0 0]⟩), (72, ⟨bl, nl * 2, ((nl * 2 : Nat) : Int), cA⟩), (73, ⟨bs, ns * 3, ((ns * 3 : Nat) : Int), cS⟩), (74, ⟨bv, nl * 2, ((nl * 2 : Nat) : Int), cW⟩)]
      refine C_seq ?_
      refine C_region ?_
      refine W_lss V_w0 rfl rfl rfl (fun h112 => ?_) (fun h112 => ?_)
      ·
        refine V_nil (X_next ?_)
        refine C_seq ?_
        refine C_true rfl ?_
        refine C_skip (X_next ?_)
        refine C_seq ?_
        refine C_block ?_
        refine C_seq ?_
        refine C_region ?_
        refine V_w0.q (QY_move rfl) rfl ?_
        refine V_w0.q (QY_assign rfl) rfl ?_
        refine V_nil (X_next ?_)
        refine C_draws 14 14 mix (by kernel_rfl) ?_
        refine T_w0.q (QY_move rfl) rfl ?_
        refine W_fld T_w0 (q := 70) rfl rfl fa72_8 lf69 (by decide) rfl rfl rfl rfl ?_
        refine T_w0.q (QY_move rfl) rfl ?_
        refine T_w0.q (QY_move rfl) rfl ?_
        refine T_w0.q (QY_move rfl) rfl ?_
        refine W_elem T_w0 rfl rfl (hW.rd) (by omega) (by omega) sl22 lf21 rfl rfl (fun _ => ?_)
        refine T_w0.q (QY_move rfl) rfl ?_
        refine T_w0.q (QY_move rfl) rfl ?_
        refine W_elem T_w0 rfl rfl (hX.rd) (by omega) (by omega) sl22 lf21 rfl rfl (fun _ => ?_)
        refine T_w0.q (v := .agg [.int .i32 (lt l), .int .i32 (ln l)].toArray) (QY_build (parts := [(0, .tmp 122), (1, .tmp 126)]) (vs := [(0, .int .i32 (lt l)), (1, .int .i32 (ln l))]) (fun a hf => by
          simp only [List.map_cons, List.map_nil]
          rw [hf.eval (x := .tmp 122) rfl, hf.eval (x := .tmp 126) rfl] <;> rfl) (fun w => build78 w _ _ rfl rfl)) rfl ?_
        refine T_tail rfl rfl ?_
        refine V_w0.q (QY_index2 (o' := (l : Int).toNat * 2) sl69 rfl rfl (by omega) (by omega) (by omega)) rfl ?_
        refine V_storeA (q := 74) ag78 rfl rfl rfl rfl (by intro v hv; simp at hv; rcases hv with rfl | rfl <;> rfl) (by decide) (by omega) rfl ?_
        refine V_nil (X_Qn (X_block (X_next ?_)))
        refine C_region ?_
        refine V_w0.q (QY_arith rfl rfl rfl ⟨by omega, by omega⟩) rfl ?_
        refine V_w0.q (QY_move rfl) rfl ?_
        refine V_nil (X_then ?_)
        refine X_round (l + 1, lay cW (((l : Int).toNat * 2 : Nat) : Int) [.int .i32 (lt l), .int .i32 (ln l)]) ?_ ?_ ?_ ?_
        · refine ⟨by omega, by omega, fun k a b => ?_⟩
          rw [lay2_0 hl0]
          by_cases e : k = l
          · subst e; rw [if_pos rfl]
          · rw [if_neg e]; exact hcW k a (by omega)
        · show ((nl : Int) - (l + 1)).toNat < ((nl : Int) - l).toNat
          omega
        · exact ⟨rfl, rfl, rfl, rfl, rfl, rfl, rfl, rfl, rfl, rfl, rfl, rfl, trivial⟩
        · exact ⟨rfl, rfl, rfl, rfl, rfl, rfl, trivial⟩
      ·
        obtain rfl : l = (nl : Int) := by omega
        refine V_nil (X_next ?_)
        refine C_seq ?_
        refine C_false rfl ?_
        refine C_exit (X_then_exit (X_then_exit (X_block_exit (X_next ?_))))
        refine C_seq ?_
        refine C_region ?_
        refine V_w0.q (QY_move rfl) rfl ?_
        refine V_w0.q (QY_move rfl) rfl ?_
        refine V_w0.q (QY_len sl42 rfl) rfl ?_
        refine V_makeA 75 mk68 rfl rfl (by omega) (by omega) rfl (fun bt => ?_)
        refine V_fset (q := 70) rfl rfl fa72_7 lf68 (by decide) rfl rfl rfl rfl rfl ?_
        refine V_nil (X_next ?_)
        refine C_seq ?_
        refine C_seq ?_
        refine C_region ?_
        refine V_w0.q (QY_move rfl) rfl ?_
        refine V_w0.q (QY_len sl42 rfl) rfl ?_
        refine V_w0.q (QY_move rfl) rfl ?_
        refine V_nil (X_next ?_)
        refine C_block ?_
        refine C_loops (T := Int × (Int → Value)) (fun (zz9 : Int × (Int → Value)) => match zz9 with | (t, cT) => [(3, .slice aN nl kN), (4, .slice aR ns kR), (5, .slice aP ns kP), (6, .slice aQ ns kQ), (8, .slice aW nl kW), (9, .slice aX nl kX), (10, .slice aT nt kT), (11, .slice aU nt kU), (29, .pointer (some ⟨bA, 0, none⟩)), (30, .pointer (some ⟨bR, 0, none⟩)), (137, .int .i64 (nt : Int)), (138, .int .i64 t)]) (fun (zz9 : Int × (Int → Value)) => match zz9 with | (t, cT) => [(34, ⟨bL, no, no, ints .u8 cl⟩), (71, ⟨bA, 3, 3, fl [.slice aF nf kF, .slice aO no kO, .slice (some ⟨bL, 0, none⟩) no no]⟩), (70, ⟨bR, 15, 15, fl [.slice (some ⟨bl, 0, none⟩) nl nl, .slice (some ⟨bs, 0, none⟩) ns ns, .slice aV (nl + 1) kV, .slice none 0 0, .slice none 0 0, .slice none 0 0, .slice none 0 0, .slice (some ⟨bt, 0, none⟩) nt nt, .slice (some ⟨bv, 0, none⟩) nl nl, .slice aH hc kH, .slice none 0 0, .slice none 0 0, .slice none 0 0, .slice none 0 0, .slice none 0 0]⟩), (72, ⟨bl, nl * 2, ((nl * 2 : Nat) : Int), cA⟩), (73, ⟨bs, ns * 3, ((ns * 3 : Nat) : Int), cS⟩), (74, ⟨bv, nl * 2, ((nl * 2 : Nat) : Int), cW⟩), (75, ⟨bt, nt * 2, ((nt * 2 : Nat) : Int), cT⟩)]) (fun (zz9 : Int × (Int → Value)) => match zz9 with | (t, cT) => 0 ≤ t ∧ t ≤ nt ∧ ∀ k, 0 ≤ k → k < t → cT (2 * k) = .slice (A2 k) (L2 k) (C2 k) ∧ cT (2 * k + 1) = .int .i32 (thF hb L2 k)) (fun (zz9 : Int × (Int → Value)) => match zz9 with | (t, cT) => ((nt : Int) - t).toNat) (0, fun i => (Value.agg #[.slice none 0 0, .int .i32 0]).cells.getD (i.toNat % 2) undef) ?_ ?_ ?_ ?_
        · exact ⟨by omega, by omega, fun k a b => by omega⟩
        · exact ⟨rfl, rfl, rfl, rfl, rfl, rfl, rfl, rfl, rfl, rfl, rfl, rfl, trivial⟩
        · exact ⟨rfl, rfl, rfl, rfl, rfl, rfl, rfl, trivial⟩
        rintro ⟨t, cT⟩ ⟨ht0, ht1, hcT⟩
        show C _ _ _ _ _ _ [(3, .slice aN nl kN), (4, .slice aR ns kR), (5, .slice aP ns kP), (6, .slice aQ ns kQ), (8, .slice aW nl kW), (9, .slice aX nl kX), (10, .slice aT nt kT), (11, .slice aU nt kU), (29, .pointer (some ⟨bA, 0, none⟩)), (30, .pointer (some ⟨bR, 0, none⟩)), (137, .int .i64 (nt : Int)), (138, .int .i64 t)] [(34, ⟨bL, no, no, ints .u8 cl⟩), (71, ⟨bA, 3, 3, fl [.slice aF nf kF, .slice aO no kO, .slice (some ⟨bL, 0, none⟩) no no]⟩), (70, ⟨bR, 15, 15, fl [.slice (some ⟨bl, 0, none⟩) nl nl, .slice (some ⟨bs, 0, none⟩) ns ns, .slice aV (nl + 1) kV, .slice none 0 0, .slice none 0 0, .slice none 0 0, .slice none 0 0, .slice (some ⟨bt, 0, none⟩) nt nt, .slice (some ⟨bv, 0, none⟩) nl nl, .slice aH hc kH, .slice none 0 0, .slice none 0 0, .slice none 0 0, .slice none 0 0, .slice none 0 0]⟩), (72, ⟨bl, nl * 2, ((nl * 2 : Nat) : Int), cA⟩), (73, ⟨bs, ns * 3, ((ns * 3 : Nat) : Int), cS⟩), (74, ⟨bv, nl * 2, ((nl * 2 : Nat) : Int), cW⟩), (75, ⟨bt, nt * 2, ((nt * 2 : Nat) : Int), cT⟩)]
        refine C_seq ?_
        refine C_region ?_
        refine W_lss V_w0 rfl rfl rfl (fun h139 => ?_) (fun h139 => ?_)
        ·
          refine V_nil (X_next ?_)
          refine C_seq ?_
          refine C_true rfl ?_
          refine C_skip (X_next ?_)
          refine C_seq ?_
          refine C_block ?_
          refine C_seq ?_
          refine C_region ?_
          refine V_w0.q (QY_move rfl) rfl ?_
          refine V_w0.q (QY_assign rfl) rfl ?_
          refine V_nil (X_next ?_)
          refine C_draws 14 14 mix (by kernel_rfl) ?_
          refine T_w0.q (QY_move rfl) rfl ?_
          refine W_fld T_w0 (q := 70) rfl rfl fa72_7 lf68 (by decide) rfl rfl rfl rfl ?_
          refine T_w0.q (QY_move rfl) rfl ?_
          refine T_w0.q (QY_move rfl) rfl ?_
          refine T_w0.q (QY_move rfl) rfl ?_
          refine W_elem T_w0 rfl rfl (hT0.1.rd) (by omega) (by omega) sl42 lf22 rfl rfl (fun _ => ?_)
          refine T_w0.q (QY_move rfl) rfl ?_
          refine T_w0.q (QY_move rfl) rfl ?_
          refine W_elem T_w0 rfl rfl (hU.rd) (by omega) (by omega) sl22 lf21 rfl rfl (fun _ => ?_)
          refine T_w0.q (v := .agg [.slice (A2 t) (L2 t) (C2 t), .int .i32 (th t)].toArray) (QY_build (parts := [(0, .tmp 149), (1, .tmp 153)]) (vs := [(0, .slice (A2 t) (L2 t) (C2 t)), (1, .int .i32 (th t))]) (fun a hf => by
            simp only [List.map_cons, List.map_nil]
            rw [hf.eval (x := .tmp 149) rfl, hf.eval (x := .tmp 153) rfl] <;> rfl) (fun w => build80 w _ _ rfl rfl)) rfl ?_
          refine T_tail rfl rfl ?_
          refine V_w0.q (QY_index2 (o' := (t : Int).toNat * 2) sl68 rfl rfl (by omega) (by omega) (by omega)) rfl ?_
          refine V_storeA (q := 75) ag80 rfl rfl rfl rfl (by intro v hv; simp at hv; rcases hv with rfl | rfl <;> rfl) (by decide) (by omega) rfl ?_
          refine V_nil (X_Qn (X_block (X_next ?_)))
          refine C_region ?_
          refine V_w0.q (QY_arith rfl rfl rfl ⟨by omega, by omega⟩) rfl ?_
          refine V_w0.q (QY_move rfl) rfl ?_
          refine V_nil (X_then ?_)
          refine X_round (t + 1, lay cT (((t : Int).toNat * 2 : Nat) : Int) [.slice (A2 t) (L2 t) (C2 t), .int .i32 (th t)]) ?_ ?_ ?_ ?_
          · refine ⟨by omega, by omega, fun k a b => ?_⟩
            rw [lay2_0 ht0, lay2_1 ht0]
            by_cases e : k = t
            · subst e; rw [if_pos rfl, if_pos rfl, hth k a (by omega)]; exact ⟨rfl, rfl⟩
            · rw [if_neg e, if_neg e]; exact hcT k a (by omega)
          · show ((nt : Int) - (t + 1)).toNat < ((nt : Int) - t).toNat
            omega
          · exact ⟨rfl, rfl, rfl, rfl, rfl, rfl, rfl, rfl, rfl, rfl, rfl, rfl, trivial⟩
          · exact ⟨rfl, rfl, rfl, rfl, rfl, rfl, rfl, trivial⟩
        ·
          obtain rfl : t = (nt : Int) := by omega
          refine V_nil (X_next ?_)
          refine C_seq ?_
          refine C_false rfl ?_
          refine C_exit (X_then_exit (X_then_exit (X_block_exit (X_next ?_))))
          refine C_seq ?_
          refine C_region ?_
          refine V_w0.q (QY_move rfl) rfl ?_
          refine V_w0.q (QY_move rfl) rfl ?_
          refine V_call cb35 rfl (T := Unit) (Φ := fun _ => True) (val := fun _ => .pointer (some ⟨bA, 0, none⟩)) (H' := fun _ => [(70, ⟨bR, 15, 15, fl [.slice (some ⟨bl, 0, none⟩) nl nl, .slice (some ⟨bs, 0, none⟩) ns ns, .slice aV (nl + 1) kV, .slice none 0 0, .slice none 0 0, .slice none 0 0, .slice none 0 0, .slice (some ⟨bt, 0, none⟩) nt nt, .slice (some ⟨bv, 0, none⟩) nl nl, .slice aH hc kH, .slice none 0 0, .slice none 0 0, .slice none 0 0, .slice none 0 0, .slice none 0 0]⟩), (71, ⟨bA, 3, 3, fl [.slice aF nf kF, .slice aO no kO, .slice (some ⟨bL, 0, none⟩) no no]⟩), (34, ⟨bL, no, no, ints .u8 cl⟩), (72, ⟨bl, nl * 2, ((nl * 2 : Nat) : Int), cA⟩), (73, ⟨bs, ns * 3, ((ns * 3 : Nat) : Int), cS⟩), (74, ⟨bv, nl * 2, ((nl * 2 : Nat) : Int), cW⟩), (75, ⟨bt, nt * 2, ((nt * 2 : Nat) : Int), cT⟩)]) (fun w1 hm => relayed35n (Old w) w bR bA bl bs bv bt bL nl ns nt nf no hc kF kO kV kH aF aO aV aH cA cS cW cT cl h0s h0c w1 (hm.sub ⟨rfl, rfl, rfl, rfl, rfl, rfl, rfl, trivial⟩)) rfl ?_
          intro _ _
          refine V_w0.q (QY_assign rfl) rfl ?_
          refine V_nil (X_next ?_)
          refine C_seq ?_
          refine C_region ?_
          refine V_w0.q (QY_move rfl) rfl ?_
          refine W_fld V_w0 (q := 71) rfl rfl fa57_2 lf54 (by decide) rfl rfl rfl rfl ?_
          refine V_w0.q (QY_len sl54 rfl) rfl ?_
          refine V_make 90 mk23 rfl rfl rfl (by omega) (by omega) (by omega) (by omega) rfl (fun bC => ?_)
          refine V_w0.q (QY_assign rfl) rfl ?_
          refine V_nil (X_next ?_)
          refine C_seq ?_
          refine C_seq ?_
          refine C_region ?_
          refine V_w0.q (QY_move rfl) rfl ?_
          refine W_fld V_w0 (q := 71) rfl rfl fa57_2 lf54 (by decide) rfl rfl rfl rfl ?_
          refine V_w0.q (QY_len sl54 rfl) rfl ?_
          refine V_w0.q (QY_move rfl) rfl ?_
          refine V_nil (X_next ?_)
          refine C_block ?_
          refine C_loops (T := Int × (Int → Int)) (fun (zz9 : Int × (Int → Int)) => match zz9 with | (k, g) => [(36, .pointer (some ⟨bA, 0, none⟩)), (37, .slice (some ⟨bC, 0, none⟩) no no), (169, .slice (some ⟨bL, 0, none⟩) no no), (170, .int .i64 (no : Int)), (171, .int .i64 k)]) (fun (zz9 : Int × (Int → Int)) => match zz9 with | (k, g) => [(70, ⟨bR, 15, 15, fl [.slice (some ⟨bl, 0, none⟩) nl nl, .slice (some ⟨bs, 0, none⟩) ns ns, .slice aV (nl + 1) kV, .slice none 0 0, .slice none 0 0, .slice none 0 0, .slice none 0 0, .slice (some ⟨bt, 0, none⟩) nt nt, .slice (some ⟨bv, 0, none⟩) nl nl, .slice aH hc kH, .slice none 0 0, .slice none 0 0, .slice none 0 0, .slice none 0 0, .slice none 0 0]⟩), (71, ⟨bA, 3, 3, fl [.slice aF nf kF, .slice aO no kO, .slice (some ⟨bL, 0, none⟩) no no]⟩), (34, ⟨bL, no, no, ints .u8 cl⟩), (72, ⟨bl, nl * 2, ((nl * 2 : Nat) : Int), cA⟩), (73, ⟨bs, ns * 3, ((ns * 3 : Nat) : Int), cS⟩), (74, ⟨bv, nl * 2, ((nl * 2 : Nat) : Int), cW⟩), (75, ⟨bt, nt * 2, ((nt * 2 : Nat) : Int), cT⟩), (90, ⟨bC, no, no, ints .u8 g⟩)]) (fun (zz9 : Int × (Int → Int)) => match zz9 with | (k, g) => 0 ≤ k ∧ k ≤ no ∧ ∀ i, 0 ≤ i → i < k → g i = cl i) (fun (zz9 : Int × (Int → Int)) => match zz9 with | (k, g) => ((no : Int) - k).toNat) (0, fun _ => 0) ?_ ?_ ?_ ?_
          · exact ⟨by omega, by omega, fun i a b => by omega⟩
          · exact ⟨rfl, rfl, rfl, rfl, rfl, trivial⟩
          · exact ⟨rfl, rfl, rfl, rfl, rfl, rfl, rfl, rfl, trivial⟩
          rintro ⟨k, g⟩ ⟨hk0, hk1, hg⟩
          show C _ _ _ _ _ _ [(36, .pointer (some ⟨bA, 0, none⟩)), (37, .slice (some ⟨bC, 0, none⟩) no no), (169, .slice (some ⟨bL, 0, none⟩) no no), (170, .int .i64 (no : Int)), (171, .int .i64 k)] [(70, ⟨bR, 15, 15, fl [.slice (some ⟨bl, 0, none⟩) nl nl, .slice (some ⟨bs, 0, none⟩) ns ns, .slice aV (nl + 1) kV, .slice none 0 0, .slice none 0 0, .slice none 0 0, .slice none 0 0, .slice (some ⟨bt, 0, none⟩) nt nt, .slice (some ⟨bv, 0, none⟩) nl nl, .slice aH hc kH, .slice none 0 0, .slice none 0 0, .slice none 0 0, .slice none 0 0, .slice none 0 0]⟩), (71, ⟨bA, 3, 3, fl [.slice aF nf kF, .slice aO no kO, .slice (some ⟨bL, 0, none⟩) no no]⟩), (34, ⟨bL, no, no, ints .u8 cl⟩), (72, ⟨bl, nl * 2, ((nl * 2 : Nat) : Int), cA⟩), (73, ⟨bs, ns * 3, ((ns * 3 : Nat) : Int), cS⟩), (74, ⟨bv, nl * 2, ((nl * 2 : Nat) : Int), cW⟩), (75, ⟨bt, nt * 2, ((nt * 2 : Nat) : Int), cT⟩), (90, ⟨bC, no, no, ints .u8 g⟩)]
          refine C_seq ?_
          refine C_region ?_
          refine W_lss V_w0 rfl rfl rfl (fun h172 => ?_) (fun h172 => ?_)
          ·
            refine V_nil (X_next ?_)
            refine C_seq ?_
            refine C_true rfl ?_
            refine C_skip (X_next ?_)
            refine C_seq ?_
            refine C_block ?_
            refine C_seq ?_
            refine C_region ?_
            refine V_w0.q (QY_move rfl) rfl ?_
            refine W_elem V_w0 rfl rfl (Rd_own (q := 34) rfl (by omega)) (by omega) (by omega) sl54 lf58 rfl rfl (fun _ => ?_)
            refine V_w0.q (QY_assign rfl) rfl ?_
            refine V_w0.q (QY_assign rfl) rfl ?_
            refine V_nil (X_next ?_)
            refine C_region ?_
            refine V_w0.q (QY_move rfl) rfl ?_
            refine V_w0.q (QY_move rfl) rfl ?_
            refine V_w0.q (QY_move rfl) rfl ?_
            refine V_set (q := 90) rfl rfl rfl rfl rfl (by omega) (by omega) (by omega) sl23 lf5 rfl rfl (upd_ints _ _ _ _) (fun _ => ?_)
            refine V_nil (X_block (X_next ?_))
            refine C_region ?_
            refine V_w0.q (QY_arith rfl rfl rfl ⟨by omega, by omega⟩) rfl ?_
            refine V_w0.q (QY_move rfl) rfl ?_
            refine V_nil (X_then ?_)
            refine X_round (k + 1, upd g k (cl k)) ?_ ?_ ?_ ?_
            · exact ⟨by omega, by omega, upd_copy hg⟩
            · show ((no : Int) - (k + 1)).toNat < ((no : Int) - k).toNat
              omega
            · exact ⟨rfl, rfl, rfl, rfl, rfl, trivial⟩
            · exact ⟨rfl, rfl, rfl, rfl, rfl, rfl, rfl, rfl, trivial⟩
          ·
            obtain rfl : k = (no : Int) := by omega
            refine V_nil (X_next ?_)
            refine C_seq ?_
            refine C_false rfl ?_
            refine C_exit (X_then_exit (X_then_exit (X_block_exit (X_next ?_))))
            refine C_seq ?_
            refine C_draw mix (by kernel_rfl) ?_
            refine S_w0.q (QY_move rfl) rfl ?_
            refine W_fld S_w0 (q := 71) rfl rfl fa57_0 lf22 (by decide) rfl rfl rfl rfl ?_
            refine S_w0.q (QY_move rfl) rfl ?_
            refine W_fld S_w0 (q := 71) rfl rfl fa57_1 lf22 (by decide) rfl rfl rfl rfl ?_
            refine S_w0.q (QY_move rfl) rfl ?_
            refine S_w0.q (QY_assign rfl) rfl ?_
            refine S_w0.q (QY_assign rfl) rfl ?_
            refine S_w0.q (QY_assign rfl) rfl ?_
            refine S_nil (X_next ?_)
            refine C_ret (?_)
            refine X_retN (ts := [26, 27, 28]) rfl (by decide) rfl (fun w hm => ?_)
            have h1 := hm.say (q := 90) (k := ⟨bC, no, no, ints .u8 g⟩) rfl (n := no) (c := ints .u8 cl) (Int.le_refl _) (fun i h0 h1 => by show ints .u8 cl i = ints .u8 g i; unfold ints; rw [hg i h0 (by omega)])
            have e9 : T + 1 = nf := by omega
            rw [e9]
            refine ⟨⟨⟨0, 0, 0, 0, no, 0, 0, fun _ => 0, fun _ => 0, f, o, cl⟩, aF, aO, some ⟨bC, 0, none⟩, kF, kO, no⟩, ⟨hres, ?_, ?_, ?_⟩, rfl, hm.sub trivial⟩
            · exact (hF.rd (H := [])).at (hm.sub trivial)
            · exact (hO.rd (H := [])).at (hm.sub trivial)
            · exact (Rd_own (q := 90) rfl (by omega)).at h1

theorem zz25 (w : World) (nl ns nt nf no n hc T kF kO kL kN kR kP kQ kV kW kX kT kU kH : Nat) (aF aO aL aN aR aP aQ aV aW aX aT aU aH : Option Addr) (A1 A2 : Int → Option Addr) (L1 L2 C1 C2 : Int → Nat) (f o cl sr sl ss lf lt ln th : Int → Int) (Z1 Z2 : Int → Int → Int) (hb ow : Int → Bool) (tx : Int)
    (hF : RdW w (.slice aF nf kF) nf (ints .i32 f)) (hO : RdW w (.slice aO no kO) no (ints .i32 o)) (hL : RdW w (.slice aL no kL) no (ints .u8 cl)) (hN : RdR w aN nl kN A1 L1 C1 Z1) (hR : RdW w (.slice aR ns kR) ns (ints .i32 sr)) (hP : RdW w (.slice aP ns kP) ns (ints .i32 sl)) (hQ : RdW w (.slice aQ ns kQ) ns (ints .i32 ss)) (hV : RdW w (.slice aV (nl + 1) kV) (nl + 1) (ints .i32 lf)) (hW : RdW w (.slice aW nl kW) nl (ints .i32 lt)) (hX : RdW w (.slice aX nl kX) nl (ints .i32 ln)) (hT0 : RdR w aT nt kT A2 L2 C2 Z2) (hU : RdW w (.slice aU nt kU) nt (ints .i32 th)) (hth : ∀ t, 0 ≤ t → t < (nt : Int) → th t = thF hb L2 t)
    (hadj : AdjOK nf no no f o) (hn : (n : Int) = (nf : Int) - 1) (hlv : LvI nl L1 L2 Z2 (thF hb L2) nt 0 ow lt) (hsp : SpI nl tx L1 sr sl ss ns) (hlf : ∀ l, 0 ≤ l → l ≤ (nl : Int) → LfOK ns sl l (lf l)) (hhu : hu hb L2 nt = hc) (htx : tx = (n : Int) - hc) (htx0 : 0 ≤ tx) (hT : (T : Int) = (n : Int) + rel lf lt L1 nl) (hcO : no ≤ kO)
    (hnf : (nf : Int) ≤ 4097) (hno : (no : Int) ≤ 262144) (hnl : (nl : Int) ≤ 65536) (hns : (ns : Int) ≤ 4096) (hnt : (nt : Int) ≤ 65536) (htL1 : tot L1 nl ≤ 4096) (htL2 : tot L2 nt ≤ 4096) : Calls Try.prog 25 #[.slice aF nf kF, .slice aO no kO, .slice aL no kL, .slice aN nl kN, .slice aR ns kR, .slice aP ns kP, .slice aQ ns kQ, .slice aV (nl + 1) kV, .slice aW nl kW, .slice aX nl kX, .slice aT nt kT, .slice aU nt kU, .slice aH hc kH] w fun e w' => ∃ z : ZOut, (RelRes nl ns nt n T f o cl (rel lf lt L1) sr sl ss hb L2 Z1 Z2 tx z.r ∧ RdW w' (.slice z.a1 (T + 1) z.c1) (T + 1) (ints .i32 z.r.rf) ∧ RdW w' (.slice z.a2 z.r.m z.c2) z.r.m (ints .i32 z.r.ro) ∧ RdW w' (.slice z.a3 z.r.m z.c3) z.r.m (ints .u8 z.r.rc)) ∧ e = .returned (.tuple [.slice z.a1 (T + 1) z.c1, .slice z.a2 z.r.m z.c2, .slice z.a3 z.r.m z.c3].toArray) ∧ Mem (Old w) w [] w' := by
  by_cases hsome : 0 < ns ∨ 0 < hc
  · exact zz25s w nl ns nt nf no n hc T kF kO kL kN kR kP kQ kV kW kX kT kU kH aF aO aL aN aR aP aQ aV aW aX aT aU aH A1 A2 L1 L2 C1 C2 f o cl sr sl ss lf lt ln th Z1 Z2 hb ow tx hF hO hL hN hR hP hQ hV hW hX hT0 hU hth hadj hn hlv hsp hlf hhu htx htx0 hT hcO hnf hno hnl hns hnt htL1 htL2 hsome
  · exact zz25n w nl ns nt nf no n hc T kF kO kL kN kR kP kQ kV kW kX kT kU kH aF aO aL aN aR aP aQ aV aW aX aT aU aH A1 A2 L1 L2 C1 C2 f o cl sr sl ss lf lt ln th Z1 Z2 hb ow tx hF hO hL hN hR hP hQ hV hW hX hT0 hU hth hadj hn hlv hsp hlf hhu htx htx0 hT hcO hnf hno hnl hns hnt htL1 htL2 (by omega) (by omega)
end Go.Proofs.Qxb6001307a
