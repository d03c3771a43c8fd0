/-
  OWN WORK (the rule applications laid by a program of our own, wip/gen). ZZTake, ZZPartitionOut.
-/
import Derived.Test.Qxb6001307aTake
namespace Go.Proofs.Qxb6001307a
open Go.RowKit
set_option linter.unusedSimpArgs false
set_option linter.unusedVariables false

set_option maxHeartbeats 1000000 in
theorem take13 (B : Nat → Prop) (w0 : World) (bP bA nf no n K r m s0 bF sF cF bO sO cO bL sL cL bC sC cC bB sB cB bE sE cE bX sX cX bT sT cT bZ sZ cZ bW sW cW bN sN cN bS sS cS bD sD cD : Nat) (aF aO aL aC aB aE aX aT aZ aW aN aD : Option Addr) (f o cl comp beg en cls cnt siz spt st fo : Int → Int) (on : Int → Bool) (al tx c u : Int) (vMem vIdx vLow vCalls : Value)
    (hF : 0 < nf → aF = some ⟨bF, 0, none⟩) (hO : 0 < no → aO = some ⟨bO, 0, none⟩) (hL : 0 < no → aL = some ⟨bL, 0, none⟩) (hC : 0 < n → aC = some ⟨bC, 0, none⟩) (hN : 0 < n → aN = some ⟨bN, 0, none⟩)
    (gB : Gs ⟨bB, sB, K, ints .i32 beg⟩ 1 K (.slice aB K cB)) (gE : Gs ⟨bE, sE, K, ints .i32 en⟩ 1 K (.slice aE K cE)) (gX : Gs ⟨bX, sX, K, ints .u8 cls⟩ 1 K (.slice aX K cX)) (gT : Gs ⟨bT, sT, K, ints .i32 cnt⟩ 1 K (.slice aT K cT)) (gZ : Gs ⟨bZ, sZ, K, ints .i64 siz⟩ 1 K (.slice aZ K cZ)) (gW : Gs ⟨bW, sW, K, ints .i64 spt⟩ 1 K (.slice aW K cW)) (gD : Gs ⟨bD, sD, m, ints .i32 fo⟩ 1 m (.slice aD m cD))
    (hadj : AdjOK nf no no f o) (hnn : (n : Int) = (nf : Int) - 1) (hnf : (nf : Int) ≤ 1048576) (hno : (no : Int) ≤ 1048576) (hK : (K : Int) ≤ 1048576) (hmr : (m : Int) + r ≤ 1048576) (hrs : r ≤ s0) (hrc : r ≤ cS)
    (hc0 : 0 ≤ c) (hcK : c < (K : Int)) (hb0 : 0 ≤ beg c) (hb1 : beg c ≤ 1048576) (t : Nat) (ht : t < r) (hu : st t = u) (hu2 : ∀ i, (t : Int) < i → i < (r : Int) → st i ≠ u) (hnd : ∀ i, 0 ≤ i → i < (r : Int) → 0 ≤ st i ∧ st i < (n : Int)) :
    ∀ w, Mem B w0 [(30, ⟨bP, 17, 17, fl [.pointer (some ⟨bA, 0, none⟩), .int .u8 al, .int .i32 tx, .slice aC n cC, vMem, .slice aB K cB, .slice aE K cE, .slice aX K cX, .slice aT K cT, .slice aZ K cZ, .slice aW K cW, vIdx, vLow, .slice aN n cN, .slice (some ⟨bS, 0, none⟩) r cS, vCalls, .slice aD m cD]⟩), (31, ⟨bA, 3, 3, fl [.slice aF nf cF, .slice aO no cO, .slice aL no cL]⟩), (32, ⟨bF, sF, nf, ints .i32 f⟩), (33, ⟨bO, sO, no, ints .i32 o⟩), (34, ⟨bL, sL, no, ints .u8 cl⟩), (35, ⟨bC, sC, n, ints .i32 comp⟩), (36, ⟨bB, sB, K, ints .i32 beg⟩), (37, ⟨bE, sE, K, ints .i32 en⟩), (38, ⟨bX, sX, K, ints .u8 cls⟩), (39, ⟨bT, sT, K, ints .i32 cnt⟩), (40, ⟨bZ, sZ, K, ints .i64 siz⟩), (41, ⟨bW, sW, K, ints .i64 spt⟩), (42, ⟨bN, sN, n, bools on⟩), (43, ⟨bS, sS, s0, ints .i32 st⟩), (44, ⟨bD, sD, m, ints .i32 fo⟩)] w → Calls Try.prog 13 #[.pointer (some ⟨bP, 0, none⟩), .int .i32 c, .int .i32 u] w (fun e w' => ∃ y : TakeOut, TakeRel K m r t n f o cl al tx c st comp on beg en cls cnt siz spt fo y ∧ e = .returned (.tuple #[]) ∧ Mem B w0 [(30, ⟨bP, 17, 17, fl [.pointer (some ⟨bA, 0, none⟩), .int .u8 al, .int .i32 tx, .slice aC n cC, vMem, .slice y.aB (K + 1) y.cB, .slice y.aE (K + 1) y.cE, .slice y.aX (K + 1) y.cX, .slice y.aT (K + 1) y.cT, .slice y.aZ (K + 1) y.cZ, .slice y.aW (K + 1) y.cW, vIdx, vLow, .slice aN n cN, .slice (some ⟨bS, 0, none⟩) t cS, vCalls, .slice (some ⟨y.bD, 0, none⟩) (m + (r - t)) y.cD]⟩), (31, ⟨bA, 3, 3, fl [.slice aF nf cF, .slice aO no cO, .slice aL no cL]⟩), (32, ⟨bF, sF, nf, ints .i32 f⟩), (33, ⟨bO, sO, no, ints .i32 o⟩), (34, ⟨bL, sL, no, ints .u8 cl⟩), (35, ⟨bC, sC, n, ints .i32 y.comp⟩), (36, ⟨y.bB, y.sB, (K + 1), ints .i32 (upd beg K (beg c + m))⟩), (37, ⟨y.bE, y.sE, (K + 1), ints .i32 (upd en K (beg c + ((m + (r - t) : Nat) : Int)))⟩), (38, ⟨y.bX, y.sX, (K + 1), ints .u8 (upd cls K y.x)⟩), (39, ⟨y.bT, y.sT, (K + 1), ints .i32 (upd cnt K y.ct)⟩), (40, ⟨y.bZ, y.sZ, (K + 1), ints .i64 (upd siz K y.z)⟩), (41, ⟨y.bW, y.sW, (K + 1), ints .i64 (upd spt K 0)⟩), (42, ⟨bN, sN, n, bools y.on⟩), (43, ⟨bS, sS, s0, ints .i32 st⟩), (44, ⟨y.bD, y.sD, ((m + (r - t) : Nat) : Int), ints .i32 y.fo⟩)] w') := by
  refine enter (N := 10) (vs := [.pointer (some ⟨bP, 0, none⟩), .int .i32 c, .int .i32 u]) Try.func13 rfl Try.ntmps13 rfl ?_
  refine C_region ?_
  refine V_w0.q (QY_move rfl) rfl ?_
  refine V_w0.q (QY_move rfl) rfl ?_
  refine V_w0.q (QY_move rfl) rfl ?_
  refine V_call cb33 rfl (T := TakeOut) (Φ := TakeRel K m r t n f o cl al tx c st comp on beg en cls cnt siz spt fo) (val := fun _ => .tuple #[]) (H' := fun y => [(30, ⟨bP, 17, 17, fl [.pointer (some ⟨bA, 0, none⟩), .int .u8 al, .int .i32 tx, .slice aC n cC, vMem, .slice y.aB (K + 1) y.cB, .slice y.aE (K + 1) y.cE, .slice y.aX (K + 1) y.cX, .slice y.aT (K + 1) y.cT, .slice y.aZ (K + 1) y.cZ, .slice y.aW (K + 1) y.cW, vIdx, vLow, .slice aN n cN, .slice (some ⟨bS, 0, none⟩) t cS, vCalls, .slice (some ⟨y.bD, 0, none⟩) (m + (r - t)) y.cD]⟩), (31, ⟨bA, 3, 3, fl [.slice aF nf cF, .slice aO no cO, .slice aL no cL]⟩), (32, ⟨bF, sF, nf, ints .i32 f⟩), (33, ⟨bO, sO, no, ints .i32 o⟩), (34, ⟨bL, sL, no, ints .u8 cl⟩), (35, ⟨bC, sC, n, ints .i32 y.comp⟩), (36, ⟨y.bB, y.sB, (K + 1), ints .i32 (upd beg K (beg c + m))⟩), (37, ⟨y.bE, y.sE, (K + 1), ints .i32 (upd en K (beg c + ((m + (r - t) : Nat) : Int)))⟩), (38, ⟨y.bX, y.sX, (K + 1), ints .u8 (upd cls K y.x)⟩), (39, ⟨y.bT, y.sT, (K + 1), ints .i32 (upd cnt K y.ct)⟩), (40, ⟨y.bZ, y.sZ, (K + 1), ints .i64 (upd siz K y.z)⟩), (41, ⟨y.bW, y.sW, (K + 1), ints .i64 (upd spt K 0)⟩), (42, ⟨bN, sN, n, bools y.on⟩), (43, ⟨bS, sS, s0, ints .i32 st⟩), (44, ⟨y.bD, y.sD, ((m + (r - t) : Nat) : Int), ints .i32 y.fo⟩)]) (take33 B w0 bP bA nf no n K r m s0 bF sF cF bO sO cO bL sL cL bC sC cC bB sB cB bE sE cE bX sX cX bT sT cT bZ sZ cZ bW sW cW bN sN cN bS sS cS bD sD cD aF aO aL aC aB aE aX aT aZ aW aN aD f o cl comp beg en cls cnt siz spt st fo on al tx c u vMem vIdx vLow vCalls hF hO hL hC hN gB gE gX gT gZ gW gD hadj hnn hnf hno hK hmr hrs hrc hc0 hcK hb0 hb1 t ht hu hu2 hnd) rfl ?_
  intro y hy
  refine V_nil (?_)
  refine X_end0 rfl (fun w hm => ?_)
  exact ⟨y, hy, rfl, hm⟩

theorem out14 (B : Nat → Prop) (w0 : World) (bP bX sX cX K : Nat) (aX : Option Addr) (cls : Int → Int) (v0 v1 v2 v3 v4 v5 v6 v8 v9 v10 v11 v12 v13 v14 v15 v16 : Value) (hX : 0 < K → aX = some ⟨bX, 0, none⟩) (hK : (K : Int) ≤ 1048577) :
    ∀ w, Mem B w0 [(30, ⟨bP, 17, 17, fl [v0, v1, v2, v3, v4, v5, v6, .slice aX K cX, v8, v9, v10, v11, v12, v13, v14, v15, v16]⟩), (38, ⟨bX, sX, K, ints .u8 cls⟩)] w → Calls Try.prog 14 #[.pointer (some ⟨bP, 0, none⟩)] w (fun e w' => ∃ y : Nat, True ∧ e = .returned (.tuple [v3, v14, v16, v5, v6, v8, .slice (some ⟨y, 0, none⟩) K K, v9, v10, v13].toArray) ∧ Mem B w0 [(30, ⟨bP, 17, 17, fl [v0, v1, v2, v3, v4, v5, v6, .slice aX K cX, v8, v9, v10, v11, v12, v13, v14, v15, v16]⟩), (38, ⟨bX, sX, K, ints .u8 cls⟩), (45, ⟨y, K, K, ints .u8 cls⟩)] w') := by
  refine enter (N := 72) (vs := [.pointer (some ⟨bP, 0, none⟩)]) Try.func14 rfl Try.ntmps14 rfl ?_
  refine C_seq ?_
  refine C_region ?_
  refine V_w0.q (QY_assign rfl) rfl ?_
  refine V_w0.q (QY_assign rfl) rfl ?_
  refine V_w0.q (QY_assign rfl) rfl ?_
  refine V_w0.q (QY_assign rfl) rfl ?_
  refine V_w0.q (QY_assign rfl) rfl ?_
  refine V_w0.q (QY_assign rfl) rfl ?_
  refine V_w0.q (QY_assign rfl) rfl ?_
  refine V_w0.q (QY_assign rfl) rfl ?_
  refine V_w0.q (QY_assign rfl) rfl ?_
  refine V_w0.q (QY_assign rfl) rfl ?_
  refine V_nil (X_next ?_)
  refine C_seq ?_
  refine C_region ?_
  refine V_w0.q (QY_move rfl) rfl ?_
  refine W_fld V_w0 (q := 30) rfl rfl fa61_7 lf54 (by decide) rfl rfl rfl rfl ?_
  refine V_w0.q (QY_len sl54 rfl) rfl ?_
  refine V_make 45 mk23 rfl rfl rfl (by omega) (by omega) (by omega) (by omega) rfl (fun b19 => ?_)
  refine V_w0.q (QY_assign rfl) rfl ?_
  refine V_nil (X_next ?_)
  refine C_seq ?_
  refine C_seq ?_
  refine C_region ?_
  refine V_w0.q (QY_move rfl) rfl ?_
  refine W_fld V_w0 (q := 30) rfl rfl fa61_7 lf54 (by decide) rfl rfl rfl rfl ?_
  refine V_w0.q (QY_len sl54 rfl) rfl ?_
  refine V_w0.q (QY_move rfl) rfl ?_
  refine V_nil (X_next ?_)
  refine C_block ?_
  refine C_loops (T := Int × (Int → Int)) (fun (x : Int × (Int → Int)) => match x with | (k, g) => [(0, .pointer (some ⟨bP, 0, none⟩)), (8, .slice (some ⟨b19, 0, none⟩) K K), (23, .slice aX K cX), (24, .int .i64 (K : Int)), (25, .int .i64 k)]) (fun (x : Int × (Int → Int)) => match x with | (k, g) => [(30, ⟨bP, 17, 17, fl [v0, v1, v2, v3, v4, v5, v6, .slice aX K cX, v8, v9, v10, v11, v12, v13, v14, v15, v16]⟩), (38, ⟨bX, sX, K, ints .u8 cls⟩), (45, ⟨b19, K, K, ints .u8 g⟩)]) (fun (x : Int × (Int → Int)) => match x with | (k, g) => 0 ≤ k ∧ k ≤ K ∧ ∀ i, 0 ≤ i → i < k → g i = cls i) (fun (x : Int × (Int → Int)) => match x with | (k, g) => ((K : Int) - k).toNat) (0, fun _ => 0) ?_ ?_ ?_ ?_
  · exact ⟨by omega, by omega, fun i h0 h1 => by omega⟩
  · exact ⟨rfl, rfl, rfl, rfl, rfl, trivial⟩
  · exact ⟨rfl, rfl, rfl, trivial⟩
  rintro ⟨k, g⟩ ⟨hk0, hk1, hg⟩
  show C _ _ _ _ _ _ [(0, .pointer (some ⟨bP, 0, none⟩)), (8, .slice (some ⟨b19, 0, none⟩) K K), (23, .slice aX K cX), (24, .int .i64 (K : Int)), (25, .int .i64 k)] [(30, ⟨bP, 17, 17, fl [v0, v1, v2, v3, v4, v5, v6, .slice aX K cX, v8, v9, v10, v11, v12, v13, v14, v15, v16]⟩), (38, ⟨bX, sX, K, ints .u8 cls⟩), (45, ⟨b19, K, K, ints .u8 g⟩)]
  refine C_seq ?_
  refine C_region ?_
  refine W_lss V_w0 rfl rfl rfl (fun h26 => ?_) (fun h26 => ?_)
  ·
    refine V_nil (X_next ?_)
    refine C_seq ?_
    refine C_true rfl ?_
    refine C_skip (X_next ?_)
    refine C_seq ?_
    refine C_block ?_
    refine C_seq ?_
    refine C_region ?_
    refine V_w0.q (QY_move rfl) rfl ?_
    refine W_elem V_w0 rfl rfl (Rd_sl (q := 38) rfl hX (by omega)) (by omega) (by omega) sl54 lf58 rfl rfl (fun _ => ?_)
    refine V_w0.q (QY_assign rfl) rfl ?_
    refine V_w0.q (QY_assign rfl) rfl ?_
    refine V_nil (X_next ?_)
    refine C_region ?_
    refine V_w0.q (QY_move rfl) rfl ?_
    refine V_w0.q (QY_move rfl) rfl ?_
    refine V_w0.q (QY_move rfl) rfl ?_
    refine V_set (q := 45) rfl rfl rfl rfl rfl (by omega) (by omega) (by omega) sl23 lf5 rfl rfl (upd_ints _ _ _ _) (fun _ => ?_)
    refine V_nil (X_block (X_next ?_))
    refine C_region ?_
    refine V_w0.q (QY_arith rfl rfl rfl ⟨by omega, by omega⟩) rfl ?_
    refine V_w0.q (QY_move rfl) rfl ?_
    refine V_nil (X_then ?_)
    refine X_round (k + 1, upd g k (cls k)) ?_ ?_ ?_ ?_
    · exact ⟨by omega, by omega, upd_copy hg⟩
    · show ((K : Int) - (k + 1)).toNat < ((K : Int) - k).toNat
      omega
    · exact ⟨rfl, rfl, rfl, rfl, rfl, trivial⟩
    · exact ⟨rfl, rfl, rfl, trivial⟩
  ·
    refine V_nil (X_next ?_)
    refine C_seq ?_
    refine C_false rfl ?_
    refine C_exit (X_then_exit (X_then_exit (X_block_exit (X_next ?_))))
    refine C_seq ?_
    refine C_draw mix (by kernel_rfl) ?_
    refine S_w0.q (QY_move rfl) rfl ?_
    refine W_fld S_w0 (q := 30) rfl rfl fa61_3 lf22 (by decide) rfl rfl rfl rfl ?_
    refine S_w0.q (QY_move rfl) rfl ?_
    refine W_fld S_w0 (q := 30) rfl rfl fa61_14 lf22 (by decide) rfl rfl rfl rfl ?_
    refine S_w0.q (QY_move rfl) rfl ?_
    refine W_fld S_w0 (q := 30) rfl rfl fa61_16 lf22 (by decide) rfl rfl rfl rfl ?_
    refine S_w0.q (QY_move rfl) rfl ?_
    refine W_fld S_w0 (q := 30) rfl rfl fa61_5 lf22 (by decide) rfl rfl rfl rfl ?_
    refine S_w0.q (QY_move rfl) rfl ?_
    refine W_fld S_w0 (q := 30) rfl rfl fa61_6 lf22 (by decide) rfl rfl rfl rfl ?_
    refine S_w0.q (QY_move rfl) rfl ?_
    refine W_fld S_w0 (q := 30) rfl rfl fa61_8 lf22 (by decide) rfl rfl rfl rfl ?_
    refine S_w0.q (QY_move rfl) rfl ?_
    refine S_w0.q (QY_move rfl) rfl ?_
    refine W_fld S_w0 (q := 30) rfl rfl fa61_9 lf32 (by decide) rfl rfl rfl rfl ?_
    refine S_w0.q (QY_move rfl) rfl ?_
    refine W_fld S_w0 (q := 30) rfl rfl fa61_10 lf32 (by decide) rfl rfl rfl rfl ?_
    refine S_w0.q (QY_move rfl) rfl ?_
    refine W_fld S_w0 (q := 30) rfl rfl fa61_13 lf26 (by decide) rfl rfl rfl rfl ?_
    refine S_w0.q (QY_assign rfl) rfl ?_
    refine S_w0.q (QY_assign rfl) rfl ?_
    refine S_w0.q (QY_assign rfl) rfl ?_
    refine S_w0.q (QY_assign rfl) rfl ?_
    refine S_w0.q (QY_assign rfl) rfl ?_
    refine S_w0.q (QY_assign rfl) rfl ?_
    refine S_w0.q (QY_assign rfl) rfl ?_
    refine S_w0.q (QY_assign rfl) rfl ?_
    refine S_w0.q (QY_assign rfl) rfl ?_
    refine S_w0.q (QY_assign rfl) rfl ?_
    refine S_nil (X_next ?_)
    refine C_ret (?_)
    refine X_retN (ts := [2, 3, 4, 5, 6, 7, 8, 9, 10, 11]) rfl (by decide) rfl (fun w hm => ?_)
    refine ⟨b19, trivial, rfl, ?_⟩
    have h1 := hm.say (q := 45) (k := ⟨b19, K, K, ints .u8 g⟩) rfl (n := K) (c := ints .u8 cls) (Int.le_refl _) (fun i h0 h1 => by show ints .u8 cls i = ints .u8 g i; unfold ints; rw [hg i h0 (by omega)])
    exact h1.sub ⟨rfl, rfl, rfl, trivial⟩

end Go.Proofs.Qxb6001307a
