/-
  OWN WORK (the rule applications laid by a program of our own, wip/gen). partition.split.
-/
import Derived.Test.Qxb6001307aPlainY
import Derived.Test.Qxb6001307aNewSp
namespace Go.Proofs.Qxb6001307a
open Go.RowKit
set_option linter.unusedSimpArgs false
set_option linter.unusedVariables false

set_option maxHeartbeats 4000000 in
theorem split34 (B : Nat → Prop) (w0 : World) (bP bA nf no n bF bO bL bC bI bJ bN bQ bB bE bX bT bZ bW : Nat) (aF aO : Option Addr) (f o cl : Int → Int) (al : Int) (ou : Int → Bool) (hF : 0 < nf → aF = some ⟨bF, 0, none⟩) (hO : 0 < no → aO = some ⟨bO, 0, none⟩) (hadj : AdjOK nf no no f o) (hnn : (n : Int) = (nf : Int) - 1) (hnf : (nf : Int) ≤ 1048576) (hno : (no : Int) ≤ 1048576) :
    ∀ w, Mem B w0 [(30, ⟨bP, 17, 17, fl [.pointer (some ⟨bA, 0, none⟩), .int .u8 al, .int .i32 0, .slice (some ⟨bC, 0, none⟩) n n, .slice (some ⟨bQ, 0, none⟩) n n, .slice (some ⟨bB, 0, none⟩) 1 1, .slice (some ⟨bE, 0, none⟩) 1 1, .slice (some ⟨bX, 0, none⟩) 1 1, .slice (some ⟨bT, 0, none⟩) 1 1, .slice (some ⟨bZ, 0, none⟩) 1 1, .slice (some ⟨bW, 0, none⟩) 1 1, .slice (some ⟨bI, 0, none⟩) n n, .slice (some ⟨bJ, 0, none⟩) n n, .slice (some ⟨bN, 0, none⟩) n n, .slice none 0 0, .slice none 0 0, .slice none 0 0]⟩), (31, ⟨bA, 3, 3, fl [.slice aF nf nf, .slice aO no no, .slice (some ⟨bL, 0, none⟩) no no]⟩), (32, ⟨bF, nf, nf, ints .i32 f⟩), (33, ⟨bO, no, no, ints .i32 o⟩), (34, ⟨bL, no, no, ints .u8 cl⟩), (35, ⟨bC, n, n, ints .i32 (fun v => if ou v = true then -1 else 0)⟩), (36, ⟨bB, 1, 1, fun _ => .int .i32 0⟩), (37, ⟨bE, 1, 1, fun _ => .int .i32 (n : Int)⟩), (38, ⟨bX, 1, 1, fun _ => .int .u8 0⟩), (39, ⟨bT, 1, 1, fun _ => .int .i32 0⟩), (40, ⟨bZ, 1, 1, fun _ => .int .i64 0⟩), (41, ⟨bW, 1, 1, fun _ => .int .i64 0⟩), (47, ⟨bI, n, n, fun _ => .int .i32 0⟩), (48, ⟨bJ, n, n, fun _ => .int .i32 0⟩), (42, ⟨bN, n, n, fun _ => .bool false⟩), (53, ⟨bQ, n, n, fun i => .int .i32 i⟩)] w → Calls Try.prog 34 #[.pointer (some ⟨bP, 0, none⟩), .int .i32 0] w (fun e w' => ∃ y : SOut, SRel n f o cl al ou y.x ∧ e = .returned (.tuple #[]) ∧ Mem B w0 [(30, ⟨bP, 17, 17, fl [.pointer (some ⟨bA, 0, none⟩), .int .u8 al, .int .i32 0, .slice (some ⟨bC, 0, none⟩) n n, .slice (some ⟨bQ, 0, none⟩) n n, .slice y.x.aB y.x.K y.x.cB, .slice y.x.aE y.x.K y.x.cE, .slice y.x.aX y.x.K y.x.cX, .slice y.x.aT y.x.K y.x.cT, .slice y.x.aZ y.x.K y.x.cZ, .slice y.x.aW y.x.K y.x.cW, .slice (some ⟨bI, 0, none⟩) n n, .slice (some ⟨bJ, 0, none⟩) n n, .slice (some ⟨bN, 0, none⟩) n n, .slice y.aS y.x.r y.x.cS, .slice y.aK y.x.d y.x.cK, .slice y.x.aD y.x.m y.x.cD]⟩), (31, ⟨bA, 3, 3, fl [.slice aF nf nf, .slice aO no no, .slice (some ⟨bL, 0, none⟩) no no]⟩), (32, ⟨bF, nf, nf, ints .i32 f⟩), (33, ⟨bO, no, no, ints .i32 o⟩), (34, ⟨bL, no, no, ints .u8 cl⟩), (38, ⟨y.x.bX, y.x.sX, y.x.K, ints .u8 y.x.cls⟩), (39, ⟨y.x.bT, y.x.sT, y.x.K, ints .i32 y.x.cnt⟩), (40, ⟨y.x.bZ, y.x.sZ, y.x.K, ints .i64 y.x.siz⟩), (41, ⟨y.x.bW, y.x.sW, y.x.K, ints .i64 y.x.spt⟩), (48, ⟨bJ, n, n, ints .i32 y.x.low⟩), (35, ⟨bC, n, n, ints .i32 y.x.comp⟩), (36, ⟨y.x.bB, y.x.sB, y.x.K, ints .i32 y.x.beg⟩), (37, ⟨y.x.bE, y.x.sE, y.x.K, ints .i32 y.x.en⟩), (42, ⟨bN, n, n, bools y.x.on⟩), (47, ⟨bI, n, n, ints .i32 (fun _ => 0)⟩), (53, ⟨bQ, n, n, ints .i32 (fun i => if 0 ≤ i ∧ i < (y.x.m : Int) then y.x.fo i else i)⟩)] w') := by
  have hfm : ∀ v, 0 ≤ v → v < (n : Int) → f v ≤ f (v + 1) := fun v v0 v1 => hadj.2.2.1 v v0 (by omega)
  refine enter (N := 286) (vs := [.pointer (some ⟨bP, 0, none⟩), .int .i32 0]) Try.func34 rfl Try.ntmps34 rfl ?_
  refine C_seq ?_
  refine C_mem (fun w hm => ((hm.none 43 0 (n := 0) (Int.le_refl _) (ints .i32 (fun _ => 0))).none 44 0 (n := 0) (Int.le_refl _) (ints .i32 (fun _ => 0))).none 49 0 (n := 0) (Int.le_refl _) (ints .i32 (fun _ => 0))) ?_
  refine C_region ?_
  refine V_box1 51 rfl rfl rfl (fun bp => ?_)
  refine V_nil (X_next ?_)
  refine C_seq ?_
  refine C_region ?_
  refine V_w0.q (QY_cell lf29 (q := 51) rfl rfl (by decide) rfl) rfl ?_
  refine W_fld V_w0 (q := 30) rfl rfl fa61_0 lf53 (by decide) rfl rfl rfl rfl ?_
  refine V_alloc 52 ze53 rfl rfl (fun ba => ?_)
  refine V_storeC (q := 52) rfl rfl rfl lf53 rfl (by decide) rfl ?_
  refine V_know (fun w hm => hm.say (q := 52) rfl (n := 1) (c := fun _ => .pointer (some ⟨bA, 0, none⟩)) (Int.le_refl _) (fun i i0 i1 => by obtain rfl : i = 0 := (by have : i < 1 := i1; omega); rfl)) ?_
  refine V_nil (X_next ?_)
  refine C_seq ?_
  refine C_draw mix (by kernel_rfl) ?_
  refine S_w0.q (QY_cell lf29 (q := 51) rfl rfl (by decide) rfl) rfl ?_
  refine W_fld S_w0 (q := 30) rfl rfl fa61_4 lf22 (by decide) rfl rfl rfl rfl ?_
  refine S_w0.q (QY_cell lf29 (q := 51) rfl rfl (by decide) rfl) rfl ?_
  refine W_fld S_w0 (q := 30) rfl rfl fa61_5 lf22 (by decide) rfl rfl rfl rfl ?_
  refine S_w0.q (QY_move rfl) rfl ?_
  refine W_elem S_w0 rfl rfl (Rd_own (q := 36) rfl (by decide)) (by decide) (by decide) sl22 lf21 rfl rfl (fun _ => ?_)
  refine S_w0.q (QY_cell lf29 (q := 51) rfl rfl (by decide) rfl) rfl ?_
  refine W_fld S_w0 (q := 30) rfl rfl fa61_6 lf22 (by decide) rfl rfl rfl rfl ?_
  refine S_w0.q (QY_move rfl) rfl ?_
  refine W_elem S_w0 rfl rfl (Rd_own (q := 37) rfl (by decide)) (by decide) (by decide) sl22 lf21 rfl rfl (fun _ => ?_)
  refine S_w0.q (QY_slice_0hi sl22 rfl rfl rfl rfl (by omega) (by omega) (Nat.le_refl _)) rfl ?_
  refine S_w0.q (QY_assign rfl) rfl ?_
  refine S_nil (X_next ?_)
  refine C_seq ?_
  refine C_draws 6 6 mix (by kernel_rfl) ?_
  refine T_w0.q (QY_cell lf29 (q := 51) rfl rfl (by decide) rfl) rfl ?_
  refine T_w0.q (QY_cell lf29 (q := 51) rfl rfl (by decide) rfl) rfl ?_
  refine W_fld T_w0 (q := 30) rfl rfl fa61_16 lf22 (by decide) rfl rfl rfl rfl ?_
  refine T_w0.q (QY_slice_hi sl22 rfl rfl (by decide) (by decide) (by decide)) rfl ?_
  refine T_tail rfl rfl ?_
  refine V_fset (q := 30) rfl rfl fa61_16 lf22 (by decide) rfl rfl rfl rfl rfl ?_
  refine V_nil (X_Qn (X_next ?_))
  refine C_seq ?_
  refine C_region ?_
  refine V_alloc 50 ze21 rfl rfl (fun bs => ?_)
  refine V_nil (X_next ?_)
  refine C_seq ?_
  refine C_region ?_
  refine V_w0.q (QY_func (xs := [.tmp 6, .tmp 2, .tmp 4]) rfl) rfl ?_
  refine V_w0.q (QY_assign rfl) rfl ?_
  refine V_nil (X_next ?_)
  refine C_seq ?_
  refine C_seq ?_
  refine C_region ?_
  refine V_w0.q (QY_move rfl) rfl ?_
  refine V_w0.q (QY_len sl22 rfl) rfl ?_
  refine V_w0.q (QY_move rfl) rfl ?_
  refine V_nil (X_next ?_)
  refine C_block ?_
  refine C_loops (T := Int × SSt × Option Addr × Option Addr) (fun (zz9 : Int × SSt × Option Addr × Option Addr) => match zz9 with | (k, x, aS, aK) => [(1, .int .i32 0), (2, .pointer (some ⟨bp, 0, none⟩)), (4, .pointer (some ⟨ba, 0, none⟩)), (5, .slice (some ⟨bQ, 0, none⟩) n n), (7, .func (.func 36) #[] [.pointer (some ⟨bs, 0, none⟩), .pointer (some ⟨bp, 0, none⟩), .pointer (some ⟨ba, 0, none⟩)].toArray), (49, .slice (some ⟨bQ, 0, none⟩) n n), (50, .int .i64 (n : Int)), (51, .int .i64 k)]) (fun (zz9 : Int × SSt × Option Addr × Option Addr) => match zz9 with | (k, x, aS, aK) => [(30, ⟨bP, 17, 17, fl [.pointer (some ⟨bA, 0, none⟩), .int .u8 al, .int .i32 0, .slice (some ⟨bC, 0, none⟩) n n, .slice (some ⟨bQ, 0, none⟩) n n, .slice x.aB x.K x.cB, .slice x.aE x.K x.cE, .slice x.aX x.K x.cX, .slice x.aT x.K x.cT, .slice x.aZ x.K x.cZ, .slice x.aW x.K x.cW, .slice (some ⟨bI, 0, none⟩) n n, .slice (some ⟨bJ, 0, none⟩) n n, .slice (some ⟨bN, 0, none⟩) n n, .slice aS x.r x.cS, .slice aK x.d x.cK, .slice x.aD x.m x.cD]⟩), (31, ⟨bA, 3, 3, fl [.slice aF nf nf, .slice aO no no, .slice (some ⟨bL, 0, none⟩) no no]⟩), (32, ⟨bF, nf, nf, ints .i32 f⟩), (33, ⟨bO, no, no, ints .i32 o⟩), (34, ⟨bL, no, no, ints .u8 cl⟩), (35, ⟨bC, n, n, ints .i32 x.comp⟩), (36, ⟨x.bB, x.sB, x.K, ints .i32 x.beg⟩), (37, ⟨x.bE, x.sE, x.K, ints .i32 x.en⟩), (38, ⟨x.bX, x.sX, x.K, ints .u8 x.cls⟩), (39, ⟨x.bT, x.sT, x.K, ints .i32 x.cnt⟩), (40, ⟨x.bZ, x.sZ, x.K, ints .i64 x.siz⟩), (41, ⟨x.bW, x.sW, x.K, ints .i64 x.spt⟩), (42, ⟨bN, n, n, bools x.on⟩), (43, ⟨x.bS, x.sS, ((x.r : Nat) : Int), ints .i32 x.st⟩), (44, ⟨x.bD, x.sD, x.m, ints .i32 x.fo⟩), (47, ⟨bI, n, n, ints .i32 x.idx⟩), (48, ⟨bJ, n, n, ints .i32 x.low⟩), (49, ⟨x.bK, x.sK, 2 * ((x.d : Nat) : Int), ints .i32 x.cc⟩), (50, ⟨bs, 1, 1, fun _ => .int .i32 x.seen⟩), (51, ⟨bp, 1, 1, fun _ => .pointer (some ⟨bP, 0, none⟩)⟩), (52, ⟨ba, 1, 1, fun _ => .pointer (some ⟨bA, 0, none⟩)⟩), (53, ⟨bQ, n, n, fun i => .int .i32 i⟩)]) (fun (zz9 : Int × SSt × Option Addr × Option Addr) => match zz9 with | (k, x, aS, aK) => 0 ≤ k ∧ k ≤ n ∧ SOK n f o cl al ou x aS aK ∧ x.d = 0 ∧ ∀ i, 0 ≤ i → i < k → AL n ou i → x.idx i ≠ 0) (fun (zz9 : Int × SSt × Option Addr × Option Addr) => match zz9 with | (k, x, aS, aK) => ((n : Int) - k).toNat) (0, SSt.start n f ou bB bE bX bT bZ bW, none, none) ?_ ?_ ?_ ?_
  · exact ⟨by omega, by omega, SOK.start hfm, rfl, fun i i0 i1 => by omega⟩
  · exact ⟨rfl, rfl, rfl, rfl, rfl, rfl, rfl, rfl, trivial⟩
  · exact ⟨rfl, rfl, rfl, rfl, rfl, rfl, rfl, rfl, rfl, rfl, rfl, rfl, rfl, rfl, rfl, rfl, rfl, rfl, rfl, rfl, rfl, rfl, trivial⟩
  rintro ⟨k, x, aS, aK⟩ ⟨hk0, hk1, hok, hd0, hall⟩
  show C _ _ _ _ _ _ [(1, .int .i32 0), (2, .pointer (some ⟨bp, 0, none⟩)), (4, .pointer (some ⟨ba, 0, none⟩)), (5, .slice (some ⟨bQ, 0, none⟩) n n), (7, .func (.func 36) #[] [.pointer (some ⟨bs, 0, none⟩), .pointer (some ⟨bp, 0, none⟩), .pointer (some ⟨ba, 0, none⟩)].toArray), (49, .slice (some ⟨bQ, 0, none⟩) n n), (50, .int .i64 (n : Int)), (51, .int .i64 k)] [(30, ⟨bP, 17, 17, fl [.pointer (some ⟨bA, 0, none⟩), .int .u8 al, .int .i32 0, .slice (some ⟨bC, 0, none⟩) n n, .slice (some ⟨bQ, 0, none⟩) n n, .slice x.aB x.K x.cB, .slice x.aE x.K x.cE, .slice x.aX x.K x.cX, .slice x.aT x.K x.cT, .slice x.aZ x.K x.cZ, .slice x.aW x.K x.cW, .slice (some ⟨bI, 0, none⟩) n n, .slice (some ⟨bJ, 0, none⟩) n n, .slice (some ⟨bN, 0, none⟩) n n, .slice aS x.r x.cS, .slice aK x.d x.cK, .slice x.aD x.m x.cD]⟩), (31, ⟨bA, 3, 3, fl [.slice aF nf nf, .slice aO no no, .slice (some ⟨bL, 0, none⟩) no no]⟩), (32, ⟨bF, nf, nf, ints .i32 f⟩), (33, ⟨bO, no, no, ints .i32 o⟩), (34, ⟨bL, no, no, ints .u8 cl⟩), (35, ⟨bC, n, n, ints .i32 x.comp⟩), (36, ⟨x.bB, x.sB, x.K, ints .i32 x.beg⟩), (37, ⟨x.bE, x.sE, x.K, ints .i32 x.en⟩), (38, ⟨x.bX, x.sX, x.K, ints .u8 x.cls⟩), (39, ⟨x.bT, x.sT, x.K, ints .i32 x.cnt⟩), (40, ⟨x.bZ, x.sZ, x.K, ints .i64 x.siz⟩), (41, ⟨x.bW, x.sW, x.K, ints .i64 x.spt⟩), (42, ⟨bN, n, n, bools x.on⟩), (43, ⟨x.bS, x.sS, ((x.r : Nat) : Int), ints .i32 x.st⟩), (44, ⟨x.bD, x.sD, x.m, ints .i32 x.fo⟩), (47, ⟨bI, n, n, ints .i32 x.idx⟩), (48, ⟨bJ, n, n, ints .i32 x.low⟩), (49, ⟨x.bK, x.sK, 2 * ((x.d : Nat) : Int), ints .i32 x.cc⟩), (50, ⟨bs, 1, 1, fun _ => .int .i32 x.seen⟩), (51, ⟨bp, 1, 1, fun _ => .pointer (some ⟨bP, 0, none⟩)⟩), (52, ⟨ba, 1, 1, fun _ => .pointer (some ⟨bA, 0, none⟩)⟩), (53, ⟨bQ, n, n, fun i => .int .i32 i⟩)]
  refine C_seq ?_
  refine C_region ?_
  refine W_lss V_w0 rfl rfl rfl (fun h52 => ?_) (fun h52 => ?_)
  ·
    have hts := hok.ts
    have hsb := hts.seenb
    have hmr := hts.mr
    have hdr := hts.d_le
    have hKm := hok.tk.Km
    have hK1 := hok.tk.K1
    refine V_nil (X_next ?_)
    refine C_seq ?_
    refine C_true rfl ?_
    refine C_skip (X_next ?_)
    refine C_seq ?_
    refine C_block ?_
    refine C_seq ?_
    refine C_region ?_
    refine W_elem V_w0 rfl rfl (Rd_own (q := 53) rfl (by omega)) (by omega) (by omega) sl22 lf21 rfl rfl (fun _ => ?_)
    refine V_w0.q (QY_assign rfl) rfl ?_
    refine V_nil (X_next ?_)
    refine C_seq ?_
    refine C_seq ?_
    refine C_region ?_
    refine V_w0.q (QY_cell lf29 (q := 51) rfl rfl (by decide) rfl) rfl ?_
    refine W_fld V_w0 (q := 30) rfl rfl fa61_3 lf22 (by decide) rfl rfl rfl rfl ?_
    refine V_w0.q (QY_move rfl) rfl ?_
    refine W_elem V_w0 rfl rfl (Rd_own (q := 35) rfl (by omega)) (by omega) (by omega) sl22 lf21 rfl rfl (fun _ => ?_)
    refine V_w0.q (QY_move rfl) rfl ?_
    refine W_neq V_w0 rfl rfl rfl (fun h63 => ?_) (fun h63 => ?_)
    ·
      refine V_w0.q (QY_move rfl) rfl ?_
      refine V_walk.no rfl rfl rfl ?_
      refine V_walk.no rfl rfl rfl ?_
      refine V_walk.no rfl rfl rfl ?_
      refine V_walk.no rfl rfl rfl ?_
      refine V_walk.no rfl rfl rfl ?_
      refine V_walk.no rfl rfl rfl ?_
      refine V_walk.no rfl rfl rfl ?_
      refine V_walk.no rfl rfl rfl ?_
      refine V_w0.q (QY_pick_true rfl rfl) rfl ?_
      refine V_nil (X_next ?_)
      refine C_true rfl ?_
      refine C_exit (X_then_exit (X_block_exit (X_next ?_)))
      refine C_region ?_
      refine V_w0.q (QY_arith rfl rfl rfl ⟨by omega, by omega⟩) rfl ?_
      refine V_w0.q (QY_move rfl) rfl ?_
      refine V_nil (X_then ?_)
      refine X_round (k + 1, x, aS, aK) ?_ ?_ ?_ ?_
      · refine ⟨by omega, by omega, hok, hd0, fun i i0 i1 ha => ?_⟩
        by_cases e : i = k
        · subst e; exact hts.tkv _ (by have := hok.tk.cA _ ha; omega)
        · exact hall i i0 (by omega) ha
      · show ((n : Int) - (k + 1)).toNat < ((n : Int) - k).toNat
        omega
      · exact ⟨rfl, rfl, rfl, rfl, rfl, rfl, rfl, rfl, trivial⟩
      · exact ⟨rfl, rfl, rfl, rfl, rfl, rfl, rfl, rfl, rfl, rfl, rfl, rfl, rfl, rfl, rfl, rfl, rfl, rfl, rfl, rfl, rfl, rfl, trivial⟩
    ·
      refine V_w0.q (QY_move rfl) rfl ?_
      refine V_walk.yes rfl rfl ?_
      refine V_w0.q (QY_cell lf29 (q := 51) rfl rfl (by decide) rfl) rfl ?_
      refine V_walk.yes rfl rfl ?_
      refine W_fld2 V_walk (q := 30) rfl (fun _ => rfl) (fun _ _ => rfl) rfl rfl fa61_11 lf22 (by decide) rfl rfl rfl rfl ?_
      refine V_walk.yes rfl rfl ?_
      refine V_w0.q (QY_move rfl) rfl ?_
      refine V_walk.yes rfl rfl ?_
      refine W_elem2 V_walk rfl (fun _ => rfl) rfl rfl (Rd_own (q := 47) rfl (by omega)) (by omega) (by omega) sl22 lf21 rfl rfl (fun _ => ?_)
      refine V_walk.yes rfl rfl ?_
      refine W_neq V_w0 rfl rfl rfl (fun h72 => ?_) (fun h72 => ?_)
      ·
        refine V_w0.q (QY_pick_false rfl rfl) rfl ?_
        refine V_nil (X_next ?_)
        refine C_true rfl ?_
        refine C_exit (X_then_exit (X_block_exit (X_next ?_)))
        refine C_region ?_
        refine V_w0.q (QY_arith rfl rfl rfl ⟨by omega, by omega⟩) rfl ?_
        refine V_w0.q (QY_move rfl) rfl ?_
        refine V_nil (X_then ?_)
        refine X_round (k + 1, x, aS, aK) ?_ ?_ ?_ ?_
        · refine ⟨by omega, by omega, hok, hd0, fun i i0 i1 ha => ?_⟩
          by_cases e : i = k
          · subst e; exact h72
          · exact hall i i0 (by omega) ha
        · show ((n : Int) - (k + 1)).toNat < ((n : Int) - k).toNat
          omega
        · exact ⟨rfl, rfl, rfl, rfl, rfl, rfl, rfl, rfl, trivial⟩
        · exact ⟨rfl, rfl, rfl, rfl, rfl, rfl, rfl, rfl, rfl, rfl, rfl, rfl, rfl, rfl, rfl, rfl, rfl, rfl, rfl, rfl, rfl, rfl, trivial⟩
      ·
        refine V_w0.q (QY_pick_false rfl rfl) rfl ?_
        refine V_nil (X_next ?_)
        refine C_false rfl ?_
        refine C_skip (X_next ?_)
        refine C_seq ?_
        refine C_region ?_
        refine V_w0.q (QY_move rfl) rfl ?_
        refine V_w0.q (QY_move rfl) rfl ?_
        refine V_callv cb36 rfl rfl (T := VisOut) (Φ := fun y => Gs ⟨y.bS, y.sS, ((x.r + 1 : Nat) : Int), ints .i32 (upd x.st (x.r : Int) k)⟩ 1 (x.r + 1) (.slice y.aS (x.r + 1) y.cS) ∧ Gs ⟨y.bK, y.sK, 2 * ((x.d + 1 : Nat) : Int), ints .i32 (upd (upd x.cc (2 * (x.d : Int)) k) (2 * (x.d : Int) + 1) (f k))⟩ 2 (x.d + 1) (.slice y.aK (x.d + 1) y.cK)) (val := fun _ => .tuple #[]) (H' := fun y => [(30, ⟨bP, 17, 17, fl [(.pointer (some ⟨bA, 0, none⟩)), (.int .u8 al), (.int .i32 0), (.slice (some ⟨bC, 0, none⟩) n n), (.slice (some ⟨bQ, 0, none⟩) n n), (.slice x.aB x.K x.cB), (.slice x.aE x.K x.cE), (.slice x.aX x.K x.cX), (.slice x.aT x.K x.cT), (.slice x.aZ x.K x.cZ), (.slice x.aW x.K x.cW), .slice (some ⟨bI, 0, none⟩) n n, .slice (some ⟨bJ, 0, none⟩) n n, .slice (some ⟨bN, 0, none⟩) n n, .slice y.aS (x.r + 1) y.cS, .slice y.aK (x.d + 1) y.cK, (.slice x.aD x.m x.cD)]⟩), (31, ⟨bA, 3, 3, fl [.slice aF nf nf, (.slice aO no no), (.slice (some ⟨bL, 0, none⟩) no no)]⟩), (32, ⟨bF, nf, nf, ints .i32 f⟩), (42, ⟨bN, n, n, bools (upd x.on k true)⟩), (43, ⟨y.bS, y.sS, (((x.r + 1) : Nat) : Int), ints .i32 (upd x.st (x.r : Int) k)⟩), (47, ⟨bI, n, n, ints .i32 (upd x.idx k (x.seen + 1))⟩), (48, ⟨bJ, n, n, ints .i32 (upd x.low k (x.seen + 1))⟩), (49, ⟨y.bK, y.sK, 2 * (((x.d + 1) : Nat) : Int), ints .i32 (upd (upd x.cc (2 * (x.d : Int)) k) (2 * (x.d : Int) + 1) (f k))⟩), (50, ⟨bs, 1, 1, fun _ => .int .i32 (x.seen + 1)⟩), (51, ⟨bp, 1, 1, fun _ => .pointer (some ⟨bP, 0, none⟩)⟩), (52, ⟨ba, 1, 1, fun _ => .pointer (some ⟨bA, 0, none⟩)⟩)] ++ _) (fun w1 hm => (visit36 (Rest w1 [(30, ⟨bP, 17, 17, fl [(.pointer (some ⟨bA, 0, none⟩)), (.int .u8 al), (.int .i32 0), (.slice (some ⟨bC, 0, none⟩) n n), (.slice (some ⟨bQ, 0, none⟩) n n), (.slice x.aB x.K x.cB), (.slice x.aE x.K x.cE), (.slice x.aX x.K x.cX), (.slice x.aT x.K x.cT), (.slice x.aZ x.K x.cZ), (.slice x.aW x.K x.cW), .slice (some ⟨bI, 0, none⟩) n n, .slice (some ⟨bJ, 0, none⟩) n n, .slice (some ⟨bN, 0, none⟩) n n, .slice aS x.r x.cS, .slice aK x.d x.cK, (.slice x.aD x.m x.cD)]⟩), (31, ⟨bA, 3, 3, fl [.slice aF nf nf, (.slice aO no no), (.slice (some ⟨bL, 0, none⟩) no no)]⟩), (32, ⟨bF, nf, nf, ints .i32 f⟩), (42, ⟨bN, n, n, bools x.on⟩), (43, ⟨x.bS, x.sS, ((x.r : Nat) : Int), ints .i32 x.st⟩), (47, ⟨bI, n, n, ints .i32 x.idx⟩), (48, ⟨bJ, n, n, ints .i32 x.low⟩), (49, ⟨x.bK, x.sK, 2 * ((x.d : Nat) : Int), ints .i32 x.cc⟩), (50, ⟨bs, 1, 1, fun _ => .int .i32 x.seen⟩), (51, ⟨bp, 1, 1, fun _ => .pointer (some ⟨bP, 0, none⟩)⟩), (52, ⟨ba, 1, 1, fun _ => .pointer (some ⟨bA, 0, none⟩)⟩)]) w1 bP bA nf n x.r x.d bF bI bJ bN x.bS x.sS x.cS x.bK x.sK x.cK bs bp ba aF aS aK f x.idx x.low x.st x.cc x.on x.seen k (.pointer (some ⟨bA, 0, none⟩)) (.int .u8 al) (.int .i32 0) (.slice (some ⟨bC, 0, none⟩) n n) (.slice (some ⟨bQ, 0, none⟩) n n) (.slice x.aB x.K x.cB) (.slice x.aE x.K x.cE) (.slice x.aX x.K x.cX) (.slice x.aT x.K x.cT) (.slice x.aZ x.K x.cZ) (.slice x.aW x.K x.cW) (.slice x.aD x.m x.cD) (.slice aO no no) (.slice (some ⟨bL, 0, none⟩) no no) hF hok.gS hok.gK (by omega) (by omega) hnn (by omega) (by omega) (by omega) (by omega) w1 (hm.lend (fun q9 k9 hq => SubH.look (L' := [(30, ⟨bP, 17, 17, fl [(.pointer (some ⟨bA, 0, none⟩)), (.int .u8 al), (.int .i32 0), (.slice (some ⟨bC, 0, none⟩) n n), (.slice (some ⟨bQ, 0, none⟩) n n), (.slice x.aB x.K x.cB), (.slice x.aE x.K x.cE), (.slice x.aX x.K x.cX), (.slice x.aT x.K x.cT), (.slice x.aZ x.K x.cZ), (.slice x.aW x.K x.cW), .slice (some ⟨bI, 0, none⟩) n n, .slice (some ⟨bJ, 0, none⟩) n n, .slice (some ⟨bN, 0, none⟩) n n, .slice aS x.r x.cS, .slice aK x.d x.cK, (.slice x.aD x.m x.cD)]⟩), (31, ⟨bA, 3, 3, fl [.slice aF nf nf, (.slice aO no no), (.slice (some ⟨bL, 0, none⟩) no no)]⟩), (32, ⟨bF, nf, nf, ints .i32 f⟩), (42, ⟨bN, n, n, bools x.on⟩), (43, ⟨x.bS, x.sS, ((x.r : Nat) : Int), ints .i32 x.st⟩), (47, ⟨bI, n, n, ints .i32 x.idx⟩), (48, ⟨bJ, n, n, ints .i32 x.low⟩), (49, ⟨x.bK, x.sK, 2 * ((x.d : Nat) : Int), ints .i32 x.cc⟩), (50, ⟨bs, 1, 1, fun _ => .int .i32 x.seen⟩), (51, ⟨bp, 1, 1, fun _ => .pointer (some ⟨bP, 0, none⟩)⟩), (52, ⟨ba, 1, 1, fun _ => .pointer (some ⟨bA, 0, none⟩)⟩)]) ⟨rfl, rfl, rfl, rfl, rfl, rfl, rfl, rfl, rfl, rfl, rfl, trivial⟩ hq))).mono fun e w2 ⟨y, h1, he, hM⟩ => ⟨y, h1, he, hm.back (fun q9 k9 hq => SubH.look (L' := [(30, ⟨bP, 17, 17, fl [(.pointer (some ⟨bA, 0, none⟩)), (.int .u8 al), (.int .i32 0), (.slice (some ⟨bC, 0, none⟩) n n), (.slice (some ⟨bQ, 0, none⟩) n n), (.slice x.aB x.K x.cB), (.slice x.aE x.K x.cE), (.slice x.aX x.K x.cX), (.slice x.aT x.K x.cT), (.slice x.aZ x.K x.cZ), (.slice x.aW x.K x.cW), .slice (some ⟨bI, 0, none⟩) n n, .slice (some ⟨bJ, 0, none⟩) n n, .slice (some ⟨bN, 0, none⟩) n n, .slice aS x.r x.cS, .slice aK x.d x.cK, (.slice x.aD x.m x.cD)]⟩), (31, ⟨bA, 3, 3, fl [.slice aF nf nf, (.slice aO no no), (.slice (some ⟨bL, 0, none⟩) no no)]⟩), (32, ⟨bF, nf, nf, ints .i32 f⟩), (42, ⟨bN, n, n, bools x.on⟩), (43, ⟨x.bS, x.sS, ((x.r : Nat) : Int), ints .i32 x.st⟩), (47, ⟨bI, n, n, ints .i32 x.idx⟩), (48, ⟨bJ, n, n, ints .i32 x.low⟩), (49, ⟨x.bK, x.sK, 2 * ((x.d : Nat) : Int), ints .i32 x.cc⟩), (50, ⟨bs, 1, 1, fun _ => .int .i32 x.seen⟩), (51, ⟨bp, 1, 1, fun _ => .pointer (some ⟨bP, 0, none⟩)⟩), (52, ⟨ba, 1, 1, fun _ => .pointer (some ⟨bA, 0, none⟩)⟩)]) ⟨rfl, rfl, rfl, rfl, rfl, rfl, rfl, rfl, rfl, rfl, rfl, trivial⟩ hq) (keys_sub rfl) hM⟩) rfl ?_
        intro y hy
        refine V_nil (X_next ?_)
        refine C_block ?_
        refine C_loops (T := SSt × Option Addr × Option Addr) (fun (zz9 : SSt × Option Addr × Option Addr) => match zz9 with | (x, aS, aK) => [(1, .int .i32 0), (2, .pointer (some ⟨bp, 0, none⟩)), (4, .pointer (some ⟨ba, 0, none⟩)), (5, .slice (some ⟨bQ, 0, none⟩) n n), (7, .func (.func 36) #[] [.pointer (some ⟨bs, 0, none⟩), .pointer (some ⟨bp, 0, none⟩), .pointer (some ⟨ba, 0, none⟩)].toArray), (49, .slice (some ⟨bQ, 0, none⟩) n n), (50, .int .i64 (n : Int)), (51, .int .i64 k)]) (fun (zz9 : SSt × Option Addr × Option Addr) => match zz9 with | (x, aS, aK) => [(30, ⟨bP, 17, 17, fl [.pointer (some ⟨bA, 0, none⟩), .int .u8 al, .int .i32 0, .slice (some ⟨bC, 0, none⟩) n n, .slice (some ⟨bQ, 0, none⟩) n n, .slice x.aB x.K x.cB, .slice x.aE x.K x.cE, .slice x.aX x.K x.cX, .slice x.aT x.K x.cT, .slice x.aZ x.K x.cZ, .slice x.aW x.K x.cW, .slice (some ⟨bI, 0, none⟩) n n, .slice (some ⟨bJ, 0, none⟩) n n, .slice (some ⟨bN, 0, none⟩) n n, .slice aS x.r x.cS, .slice aK x.d x.cK, .slice x.aD x.m x.cD]⟩), (31, ⟨bA, 3, 3, fl [.slice aF nf nf, .slice aO no no, .slice (some ⟨bL, 0, none⟩) no no]⟩), (32, ⟨bF, nf, nf, ints .i32 f⟩), (33, ⟨bO, no, no, ints .i32 o⟩), (34, ⟨bL, no, no, ints .u8 cl⟩), (35, ⟨bC, n, n, ints .i32 x.comp⟩), (36, ⟨x.bB, x.sB, x.K, ints .i32 x.beg⟩), (37, ⟨x.bE, x.sE, x.K, ints .i32 x.en⟩), (38, ⟨x.bX, x.sX, x.K, ints .u8 x.cls⟩), (39, ⟨x.bT, x.sT, x.K, ints .i32 x.cnt⟩), (40, ⟨x.bZ, x.sZ, x.K, ints .i64 x.siz⟩), (41, ⟨x.bW, x.sW, x.K, ints .i64 x.spt⟩), (42, ⟨bN, n, n, bools x.on⟩), (43, ⟨x.bS, x.sS, ((x.r : Nat) : Int), ints .i32 x.st⟩), (44, ⟨x.bD, x.sD, x.m, ints .i32 x.fo⟩), (47, ⟨bI, n, n, ints .i32 x.idx⟩), (48, ⟨bJ, n, n, ints .i32 x.low⟩), (49, ⟨x.bK, x.sK, 2 * ((x.d : Nat) : Int), ints .i32 x.cc⟩), (50, ⟨bs, 1, 1, fun _ => .int .i32 x.seen⟩), (51, ⟨bp, 1, 1, fun _ => .pointer (some ⟨bP, 0, none⟩)⟩), (52, ⟨ba, 1, 1, fun _ => .pointer (some ⟨bA, 0, none⟩)⟩), (53, ⟨bQ, n, n, fun i => .int .i32 i⟩)]) (fun (zz9 : SSt × Option Addr × Option Addr) => match zz9 with | (x, aS, aK) => SOK n f o cl al ou x aS aK ∧ ∀ i, 0 ≤ i → i < k + 1 → AL n ou i → x.idx i ≠ 0) (fun (zz9 : SSt × Option Addr × Option Addr) => match zz9 with | (x, aS, aK) => tmu n f x.pr x.seen x.d) (x.visit f x.pr x.cc k y, y.aS, y.aK) ?_ ?_ ?_ ?_
        · refine ⟨hok.visit hfm (hok.tk.alive hk0 (by omega) (by omega)) (by omega) (by omega) x.pr x.cc hy (.inl ⟨hd0, rfl, rfl⟩), fun i i0 i1 ha => ?_⟩
          show upd x.idx k (x.seen + 1) i ≠ 0
          by_cases e : i = k
          · subst e; rw [upd_same]; omega
          · rw [upd_other _ _ _ e]; exact hall i i0 (by omega) ha
        · exact ⟨rfl, rfl, rfl, rfl, rfl, rfl, rfl, rfl, trivial⟩
        · exact ⟨rfl, rfl, rfl, rfl, rfl, rfl, rfl, rfl, rfl, rfl, rfl, rfl, rfl, rfl, rfl, rfl, rfl, rfl, rfl, rfl, rfl, rfl, trivial⟩
        rintro ⟨x, aS, aK⟩ ⟨hok, hvis⟩
        show C _ _ _ _ _ _ [(1, .int .i32 0), (2, .pointer (some ⟨bp, 0, none⟩)), (4, .pointer (some ⟨ba, 0, none⟩)), (5, .slice (some ⟨bQ, 0, none⟩) n n), (7, .func (.func 36) #[] [.pointer (some ⟨bs, 0, none⟩), .pointer (some ⟨bp, 0, none⟩), .pointer (some ⟨ba, 0, none⟩)].toArray), (49, .slice (some ⟨bQ, 0, none⟩) n n), (50, .int .i64 (n : Int)), (51, .int .i64 k)] [(30, ⟨bP, 17, 17, fl [.pointer (some ⟨bA, 0, none⟩), .int .u8 al, .int .i32 0, .slice (some ⟨bC, 0, none⟩) n n, .slice (some ⟨bQ, 0, none⟩) n n, .slice x.aB x.K x.cB, .slice x.aE x.K x.cE, .slice x.aX x.K x.cX, .slice x.aT x.K x.cT, .slice x.aZ x.K x.cZ, .slice x.aW x.K x.cW, .slice (some ⟨bI, 0, none⟩) n n, .slice (some ⟨bJ, 0, none⟩) n n, .slice (some ⟨bN, 0, none⟩) n n, .slice aS x.r x.cS, .slice aK x.d x.cK, .slice x.aD x.m x.cD]⟩), (31, ⟨bA, 3, 3, fl [.slice aF nf nf, .slice aO no no, .slice (some ⟨bL, 0, none⟩) no no]⟩), (32, ⟨bF, nf, nf, ints .i32 f⟩), (33, ⟨bO, no, no, ints .i32 o⟩), (34, ⟨bL, no, no, ints .u8 cl⟩), (35, ⟨bC, n, n, ints .i32 x.comp⟩), (36, ⟨x.bB, x.sB, x.K, ints .i32 x.beg⟩), (37, ⟨x.bE, x.sE, x.K, ints .i32 x.en⟩), (38, ⟨x.bX, x.sX, x.K, ints .u8 x.cls⟩), (39, ⟨x.bT, x.sT, x.K, ints .i32 x.cnt⟩), (40, ⟨x.bZ, x.sZ, x.K, ints .i64 x.siz⟩), (41, ⟨x.bW, x.sW, x.K, ints .i64 x.spt⟩), (42, ⟨bN, n, n, bools x.on⟩), (43, ⟨x.bS, x.sS, ((x.r : Nat) : Int), ints .i32 x.st⟩), (44, ⟨x.bD, x.sD, x.m, ints .i32 x.fo⟩), (47, ⟨bI, n, n, ints .i32 x.idx⟩), (48, ⟨bJ, n, n, ints .i32 x.low⟩), (49, ⟨x.bK, x.sK, 2 * ((x.d : Nat) : Int), ints .i32 x.cc⟩), (50, ⟨bs, 1, 1, fun _ => .int .i32 x.seen⟩), (51, ⟨bp, 1, 1, fun _ => .pointer (some ⟨bP, 0, none⟩)⟩), (52, ⟨ba, 1, 1, fun _ => .pointer (some ⟨bA, 0, none⟩)⟩), (53, ⟨bQ, n, n, fun i => .int .i32 i⟩)]
        refine C_seq ?_
        refine C_seq ?_
        refine C_region ?_
        refine V_w0.q (QY_cell lf29 (q := 51) rfl rfl (by decide) rfl) rfl ?_
        refine W_fld V_w0 (q := 30) rfl rfl fa61_15 lf59 (by decide) rfl rfl rfl rfl ?_
        refine V_w0.q (QY_len sl59 rfl) rfl ?_
        refine W_gtr V_w0 rfl rfl rfl (fun h82 => ?_) (fun h82 => ?_)
        ·
          have hts := hok.ts
          have hsb := hts.seenb
          have hmr := hts.mr
          have hdr := hts.d_le
          have hKm := hok.tk.Km
          have hK1 := hok.tk.K1
          have hb := hts.fpb ((x.d : Int) - 1) (by omega) (by omega)
          obtain ⟨u, hu⟩ : ∃ u, u = x.st (x.fp ((x.d : Int) - 1)) := ⟨_, rfl⟩
          have hA1 := hts.A1 _ hb.1 hb.2.1
          rw [← hu] at hA1
          have hua := ALn hA1.1
          have hcu : x.cc ((2 * (x.d - 1) : Nat) : Int) = u := by rw [show ((2 * (x.d - 1) : Nat) : Int) = 2 * ((x.d : Int) - 1) from by omega, hb.2.2.1, hu]
          have hce : x.cc ((2 * (x.d - 1) + 1 : Nat) : Int) = x.pr u := by rw [show ((2 * (x.d - 1) + 1 : Nat) : Int) = 2 * ((x.d : Int) - 1) + 1 from by omega, hb.2.2.2, hu]
          obtain ⟨haK, hsK, hdK⟩ := hok.gK.some (by omega)
          subst haK
          have hprb := hts.prb u hua.1 hua.2
          have hfu := adj_bounds hadj hua.1 (by omega)
          have hfu1 := adj_bounds hadj (show (0 : Int) ≤ u + 1 by omega) (by omega)
          refine V_nil (X_next ?_)
          refine C_true rfl ?_
          refine C_skip (X_next ?_)
          refine C_block ?_
          refine C_seq ?_
          refine C_draw mix (by kernel_rfl) ?_
          refine S_w0.q (QY_cell lf29 (q := 51) rfl rfl (by decide) rfl) rfl ?_
          refine W_fld S_w0 (q := 30) rfl rfl fa61_15 lf59 (by decide) rfl rfl rfl rfl ?_
          refine S_w0.q (QY_cell lf29 (q := 51) rfl rfl (by decide) rfl) rfl ?_
          refine W_fld S_w0 (q := 30) rfl rfl fa61_15 lf59 (by decide) rfl rfl rfl rfl ?_
          refine S_w0.q (QY_len sl59 rfl) rfl ?_
          refine S_w0.q (QY_arith rfl rfl rfl ⟨by omega, by omega⟩) rfl ?_
          refine S_w0.q (QY_index2 (o' := 2 * (x.d - 1)) sl59 rfl rfl (by omega) (by omega) (by omega)) rfl ?_
          refine S_w0.q (QY_assign rfl) rfl ?_
          refine S_nil (X_next ?_)
          refine C_seq ?_
          refine C_region ?_
          refine V_w0.q (QY_move rfl) rfl ?_
          refine V_w0.q (QY_nil rfl) rfl ?_
          refine V_w0.q (QY_fieldP (o' := 2 * (x.d - 1)) fa83_0 rfl rfl) rfl ?_
          refine V_w0.q (QY_cell lf21 (q := 49) rfl rfl (by omega) (congrArg (Value.int .i32) hcu)) rfl ?_
          refine V_w0.q (QY_assign rfl) rfl ?_
          refine V_nil (X_next ?_)
          refine C_seq ?_
          refine C_seq ?_
          refine C_region ?_
          refine V_w0.q (QY_move rfl) rfl ?_
          refine V_w0.q (QY_nil rfl) rfl ?_
          refine V_w0.q (QY_fieldP (o' := 2 * (x.d - 1) + 1) fa83_1 rfl rfl) rfl ?_
          refine V_w0.q (QY_cell lf21 (q := 49) rfl rfl (by omega) (congrArg (Value.int .i32) hce)) rfl ?_
          refine V_w0.q (QY_assign rfl) rfl ?_
          refine V_nil (X_next ?_)
          refine C_seq ?_
          refine C_region ?_
          refine V_w0.q (QY_move rfl) rfl ?_
          refine V_w0.q (QY_cell lf53 (q := 52) rfl rfl (by decide) rfl) rfl ?_
          refine W_fld V_w0 (q := 31) rfl rfl fa57_0 lf22 (by decide) rfl rfl rfl rfl ?_
          refine V_w0.q (QY_move rfl) rfl ?_
          refine V_w0.q (QY_arith rfl rfl rfl ⟨by omega, by omega⟩) rfl ?_
          refine W_elem V_w0 rfl rfl (Rd_sl (q := 32) rfl hF (by omega)) (by omega) (by omega) sl22 lf21 rfl rfl (fun _ => ?_)
          refine W_lss V_w0 rfl rfl rfl (fun h111 => ?_) (fun h111 => ?_)
          ·
            have hoe := hadj.2.2.2.2.2 (x.pr u) (by omega) (by omega)
            refine V_nil (X_next ?_)
            refine C_true rfl ?_
            refine C_seq ?_
            refine C_region ?_
            refine V_w0.q (QY_move rfl) rfl ?_
            refine V_w0.q (QY_nil rfl) rfl ?_
            refine V_w0.q (QY_fieldP (o' := 2 * (x.d - 1) + 1) fa83_1 rfl rfl) rfl ?_
            refine V_w0.q (QY_cell lf21 (q := 49) rfl rfl (by omega) (congrArg (Value.int .i32) hce)) rfl ?_
            refine V_w0.q (QY_arith rfl rfl rfl ⟨by omega, by omega⟩) rfl ?_
            refine V_w0.q (QY_nil rfl) rfl ?_
            refine V_w0.q (QY_fieldP (o' := 2 * (x.d - 1) + 1) fa83_1 rfl rfl) rfl ?_
            refine V_storeC (q := 49) rfl rfl rfl lf21 rfl (by omega) (show upd (ints .i32 x.cc) ((2 * (x.d - 1) + 1 : Nat) : Int) (.int .i32 (x.pr u + 1)) = ints .i32 (upd x.cc (2 * ((x.d : Int) - 1) + 1) (x.pr u + 1)) from by rw [show ((2 * (x.d - 1) + 1 : Nat) : Int) = 2 * ((x.d : Int) - 1) + 1 from by omega]; exact upd_ints _ _ _ _) ?_
            refine V_nil (X_next ?_)
            refine C_seq ?_
            refine C_region ?_
            refine V_w0.q (QY_cell lf53 (q := 52) rfl rfl (by decide) rfl) rfl ?_
            refine W_fld V_w0 (q := 31) rfl rfl fa57_1 lf22 (by decide) rfl rfl rfl rfl ?_
            refine V_w0.q (QY_move rfl) rfl ?_
            refine W_elem V_w0 rfl rfl (Rd_sl (q := 33) rfl hO (by omega)) (by omega) (by omega) sl22 lf21 rfl rfl (fun _ => ?_)
            refine V_w0.q (QY_assign rfl) rfl ?_
            refine V_nil (X_next ?_)
            refine C_seq ?_
            refine C_block ?_
            refine C_seq ?_
            refine C_seq ?_
            refine C_draw mix (by kernel_rfl) ?_
            refine S_w0.q (QY_cell lf53 (q := 52) rfl rfl (by decide) rfl) rfl ?_
            refine W_fld S_w0 (q := 31) rfl rfl fa57_2 lf54 (by decide) rfl rfl rfl rfl ?_
            refine S_w0.q (QY_move rfl) rfl ?_
            refine W_elem S_w0 rfl rfl (Rd_own (q := 34) rfl (by omega)) (by omega) (by omega) sl54 lf58 rfl rfl (fun _ => ?_)
            refine S_w0.q (QY_cell lf29 (q := 51) rfl rfl (by decide) rfl) rfl ?_
            refine W_fld S_w0 (q := 30) rfl rfl fa61_1 lf58 (by decide) rfl rfl rfl rfl ?_
            refine S_w0.q (QY_and rfl rfl) rfl ?_
            refine W_eql S_w0 rfl rfl rfl (fun h139 => ?_) (fun h139 => ?_)
            ·
              refine S_w0.q (QY_assign rfl) rfl ?_
              refine S_nil (X_next ?_)
              refine C_true rfl ?_
              refine C_skip (X_next ?_)
              refine C_true rfl ?_
              refine C_skip (X_block (X_next ?_))
              refine C_exit (X_then_exit (X_block_exit (X_then ?_)))
              refine X_round (x.skip u, aS, some ⟨x.bK, 0, none⟩) ?_ ?_ ?_ ?_
              · exact ⟨hok.skip (by omega) hu h111 (.inl h139), fun i i0 i1 ha => hvis i i0 i1 ha⟩
              · exact hts.mu_read hua.1 hua.2 h111
              · exact ⟨rfl, rfl, rfl, rfl, rfl, rfl, rfl, rfl, trivial⟩
              · exact ⟨rfl, rfl, rfl, rfl, rfl, rfl, rfl, rfl, rfl, rfl, rfl, rfl, rfl, rfl, rfl, rfl, rfl, rfl, rfl, rfl, rfl, rfl, trivial⟩
            ·
              refine S_w0.q (QY_assign rfl) rfl ?_
              refine S_nil (X_next ?_)
              refine C_false rfl ?_
              refine C_region ?_
              refine V_w0.q (QY_cell lf29 (q := 51) rfl rfl (by decide) rfl) rfl ?_
              refine W_fld V_w0 (q := 30) rfl rfl fa61_3 lf22 (by decide) rfl rfl rfl rfl ?_
              refine V_w0.q (QY_move rfl) rfl ?_
              refine W_elem V_w0 rfl rfl (Rd_own (q := 35) rfl (by omega)) (by omega) (by omega) sl22 lf21 rfl rfl (fun _ => ?_)
              refine V_w0.q (QY_move rfl) rfl ?_
              refine W_neq V_w0 rfl rfl rfl (fun h148 => ?_) (fun h148 => ?_)
              ·
                refine V_w0.q (QY_assign rfl) rfl ?_
                refine V_nil (X_next ?_)
                refine C_true rfl ?_
                refine C_skip (X_block (X_next ?_))
                refine C_exit (X_then_exit (X_block_exit (X_then ?_)))
                refine X_round (x.skip u, aS, some ⟨x.bK, 0, none⟩) ?_ ?_ ?_ ?_
                · exact ⟨hok.skip (by omega) hu h111 (.inr h148), fun i i0 i1 ha => hvis i i0 i1 ha⟩
                · exact hts.mu_read hua.1 hua.2 h111
                · exact ⟨rfl, rfl, rfl, rfl, rfl, rfl, rfl, rfl, trivial⟩
                · exact ⟨rfl, rfl, rfl, rfl, rfl, rfl, rfl, rfl, rfl, rfl, rfl, rfl, rfl, rfl, rfl, rfl, rfl, rfl, rfl, rfl, rfl, rfl, trivial⟩
              ·
                refine V_w0.q (QY_assign rfl) rfl ?_
                refine V_nil (X_next ?_)
                refine C_false rfl ?_
                refine C_seq ?_
                refine C_region ?_
                refine V_w0.q (QY_cell lf29 (q := 51) rfl rfl (by decide) rfl) rfl ?_
                refine W_fld V_w0 (q := 30) rfl rfl fa61_11 lf22 (by decide) rfl rfl rfl rfl ?_
                refine V_w0.q (QY_move rfl) rfl ?_
                refine W_elem V_w0 rfl rfl (Rd_own (q := 47) rfl (by omega)) (by omega) (by omega) sl22 lf21 rfl rfl (fun _ => ?_)
                refine W_eql V_w0 rfl rfl rfl (fun h157 => ?_) (fun h157 => ?_)
                ·
                  have hA := hok.tk.alive hoe.1 (by omega) (by omega)
                  have hsn : x.seen + 1 ≤ n := by have := (hts.visit (fun v hv => ALn hv) hfm hA (by omega) h157 (upd x.pr u (x.pr u + 1)) (upd x.cc (2 * ((x.d : Int) - 1) + 1) (x.pr u + 1)) (.inr ⟨by omega, by rw [hu], by rw [hu], by rw [← hu]; omega, by rw [← hu]; exact h139, by rw [hu]⟩)).seenb; exact this.2
                  refine V_w0.q (QY_assign rfl) rfl ?_
                  refine V_nil (X_next ?_)
                  refine C_true rfl ?_
                  refine C_region ?_
                  refine V_w0.q (QY_move rfl) rfl ?_
                  refine V_w0.q (QY_move rfl) rfl ?_
                  refine V_callv cb36 rfl rfl (T := VisOut) (Φ := fun y => Gs ⟨y.bS, y.sS, ((x.r + 1 : Nat) : Int), ints .i32 (upd x.st (x.r : Int) (o (x.pr u)))⟩ 1 (x.r + 1) (.slice y.aS (x.r + 1) y.cS) ∧ Gs ⟨y.bK, y.sK, 2 * ((x.d + 1 : Nat) : Int), ints .i32 (upd (upd (upd x.cc (2 * ((x.d : Int) - 1) + 1) (x.pr u + 1)) (2 * (x.d : Int)) (o (x.pr u))) (2 * (x.d : Int) + 1) (f (o (x.pr u))))⟩ 2 (x.d + 1) (.slice y.aK (x.d + 1) y.cK)) (val := fun _ => .tuple #[]) (H' := fun y => [(30, ⟨bP, 17, 17, fl [(.pointer (some ⟨bA, 0, none⟩)), (.int .u8 al), (.int .i32 0), (.slice (some ⟨bC, 0, none⟩) n n), (.slice (some ⟨bQ, 0, none⟩) n n), (.slice x.aB x.K x.cB), (.slice x.aE x.K x.cE), (.slice x.aX x.K x.cX), (.slice x.aT x.K x.cT), (.slice x.aZ x.K x.cZ), (.slice x.aW x.K x.cW), .slice (some ⟨bI, 0, none⟩) n n, .slice (some ⟨bJ, 0, none⟩) n n, .slice (some ⟨bN, 0, none⟩) n n, .slice y.aS (x.r + 1) y.cS, .slice y.aK (x.d + 1) y.cK, (.slice x.aD x.m x.cD)]⟩), (31, ⟨bA, 3, 3, fl [.slice aF nf nf, (.slice aO no no), (.slice (some ⟨bL, 0, none⟩) no no)]⟩), (32, ⟨bF, nf, nf, ints .i32 f⟩), (42, ⟨bN, n, n, bools (upd x.on (o (x.pr u)) true)⟩), (43, ⟨y.bS, y.sS, (((x.r + 1) : Nat) : Int), ints .i32 (upd x.st (x.r : Int) (o (x.pr u)))⟩), (47, ⟨bI, n, n, ints .i32 (upd x.idx (o (x.pr u)) (x.seen + 1))⟩), (48, ⟨bJ, n, n, ints .i32 (upd x.low (o (x.pr u)) (x.seen + 1))⟩), (49, ⟨y.bK, y.sK, 2 * (((x.d + 1) : Nat) : Int), ints .i32 (upd (upd (upd x.cc (2 * ((x.d : Int) - 1) + 1) (x.pr u + 1)) (2 * (x.d : Int)) (o (x.pr u))) (2 * (x.d : Int) + 1) (f (o (x.pr u))))⟩), (50, ⟨bs, 1, 1, fun _ => .int .i32 (x.seen + 1)⟩), (51, ⟨bp, 1, 1, fun _ => .pointer (some ⟨bP, 0, none⟩)⟩), (52, ⟨ba, 1, 1, fun _ => .pointer (some ⟨bA, 0, none⟩)⟩)] ++ _) (fun w1 hm => (visit36 (Rest w1 [(30, ⟨bP, 17, 17, fl [(.pointer (some ⟨bA, 0, none⟩)), (.int .u8 al), (.int .i32 0), (.slice (some ⟨bC, 0, none⟩) n n), (.slice (some ⟨bQ, 0, none⟩) n n), (.slice x.aB x.K x.cB), (.slice x.aE x.K x.cE), (.slice x.aX x.K x.cX), (.slice x.aT x.K x.cT), (.slice x.aZ x.K x.cZ), (.slice x.aW x.K x.cW), .slice (some ⟨bI, 0, none⟩) n n, .slice (some ⟨bJ, 0, none⟩) n n, .slice (some ⟨bN, 0, none⟩) n n, .slice aS x.r x.cS, .slice (some ⟨x.bK, 0, none⟩) x.d x.cK, (.slice x.aD x.m x.cD)]⟩), (31, ⟨bA, 3, 3, fl [.slice aF nf nf, (.slice aO no no), (.slice (some ⟨bL, 0, none⟩) no no)]⟩), (32, ⟨bF, nf, nf, ints .i32 f⟩), (42, ⟨bN, n, n, bools x.on⟩), (43, ⟨x.bS, x.sS, ((x.r : Nat) : Int), ints .i32 x.st⟩), (47, ⟨bI, n, n, ints .i32 x.idx⟩), (48, ⟨bJ, n, n, ints .i32 x.low⟩), (49, ⟨x.bK, x.sK, 2 * ((x.d : Nat) : Int), ints .i32 (upd x.cc (2 * ((x.d : Int) - 1) + 1) (x.pr u + 1))⟩), (50, ⟨bs, 1, 1, fun _ => .int .i32 x.seen⟩), (51, ⟨bp, 1, 1, fun _ => .pointer (some ⟨bP, 0, none⟩)⟩), (52, ⟨ba, 1, 1, fun _ => .pointer (some ⟨bA, 0, none⟩)⟩)]) w1 bP bA nf n x.r x.d bF bI bJ bN x.bS x.sS x.cS x.bK x.sK x.cK bs bp ba aF aS (some ⟨x.bK, 0, none⟩) f x.idx x.low x.st (upd x.cc (2 * ((x.d : Int) - 1) + 1) (x.pr u + 1)) x.on x.seen (o (x.pr u)) (.pointer (some ⟨bA, 0, none⟩)) (.int .u8 al) (.int .i32 0) (.slice (some ⟨bC, 0, none⟩) n n) (.slice (some ⟨bQ, 0, none⟩) n n) (.slice x.aB x.K x.cB) (.slice x.aE x.K x.cE) (.slice x.aX x.K x.cX) (.slice x.aT x.K x.cT) (.slice x.aZ x.K x.cZ) (.slice x.aW x.K x.cW) (.slice x.aD x.m x.cD) (.slice aO no no) (.slice (some ⟨bL, 0, none⟩) no no) hF hok.gS (hok.gK.shrink (by omega) (Nat.le_refl _)) (by omega) (by omega) hnn (by omega) (by omega) (by omega) (by omega) w1 (hm.lend (fun q9 k9 hq => SubH.look (L' := [(30, ⟨bP, 17, 17, fl [(.pointer (some ⟨bA, 0, none⟩)), (.int .u8 al), (.int .i32 0), (.slice (some ⟨bC, 0, none⟩) n n), (.slice (some ⟨bQ, 0, none⟩) n n), (.slice x.aB x.K x.cB), (.slice x.aE x.K x.cE), (.slice x.aX x.K x.cX), (.slice x.aT x.K x.cT), (.slice x.aZ x.K x.cZ), (.slice x.aW x.K x.cW), .slice (some ⟨bI, 0, none⟩) n n, .slice (some ⟨bJ, 0, none⟩) n n, .slice (some ⟨bN, 0, none⟩) n n, .slice aS x.r x.cS, .slice (some ⟨x.bK, 0, none⟩) x.d x.cK, (.slice x.aD x.m x.cD)]⟩), (31, ⟨bA, 3, 3, fl [.slice aF nf nf, (.slice aO no no), (.slice (some ⟨bL, 0, none⟩) no no)]⟩), (32, ⟨bF, nf, nf, ints .i32 f⟩), (42, ⟨bN, n, n, bools x.on⟩), (43, ⟨x.bS, x.sS, ((x.r : Nat) : Int), ints .i32 x.st⟩), (47, ⟨bI, n, n, ints .i32 x.idx⟩), (48, ⟨bJ, n, n, ints .i32 x.low⟩), (49, ⟨x.bK, x.sK, 2 * ((x.d : Nat) : Int), ints .i32 (upd x.cc (2 * ((x.d : Int) - 1) + 1) (x.pr u + 1))⟩), (50, ⟨bs, 1, 1, fun _ => .int .i32 x.seen⟩), (51, ⟨bp, 1, 1, fun _ => .pointer (some ⟨bP, 0, none⟩)⟩), (52, ⟨ba, 1, 1, fun _ => .pointer (some ⟨bA, 0, none⟩)⟩)]) ⟨rfl, rfl, rfl, rfl, rfl, rfl, rfl, rfl, rfl, rfl, rfl, trivial⟩ hq))).mono fun e w2 ⟨y, h1, he, hM⟩ => ⟨y, h1, he, hm.back (fun q9 k9 hq => SubH.look (L' := [(30, ⟨bP, 17, 17, fl [(.pointer (some ⟨bA, 0, none⟩)), (.int .u8 al), (.int .i32 0), (.slice (some ⟨bC, 0, none⟩) n n), (.slice (some ⟨bQ, 0, none⟩) n n), (.slice x.aB x.K x.cB), (.slice x.aE x.K x.cE), (.slice x.aX x.K x.cX), (.slice x.aT x.K x.cT), (.slice x.aZ x.K x.cZ), (.slice x.aW x.K x.cW), .slice (some ⟨bI, 0, none⟩) n n, .slice (some ⟨bJ, 0, none⟩) n n, .slice (some ⟨bN, 0, none⟩) n n, .slice aS x.r x.cS, .slice (some ⟨x.bK, 0, none⟩) x.d x.cK, (.slice x.aD x.m x.cD)]⟩), (31, ⟨bA, 3, 3, fl [.slice aF nf nf, (.slice aO no no), (.slice (some ⟨bL, 0, none⟩) no no)]⟩), (32, ⟨bF, nf, nf, ints .i32 f⟩), (42, ⟨bN, n, n, bools x.on⟩), (43, ⟨x.bS, x.sS, ((x.r : Nat) : Int), ints .i32 x.st⟩), (47, ⟨bI, n, n, ints .i32 x.idx⟩), (48, ⟨bJ, n, n, ints .i32 x.low⟩), (49, ⟨x.bK, x.sK, 2 * ((x.d : Nat) : Int), ints .i32 (upd x.cc (2 * ((x.d : Int) - 1) + 1) (x.pr u + 1))⟩), (50, ⟨bs, 1, 1, fun _ => .int .i32 x.seen⟩), (51, ⟨bp, 1, 1, fun _ => .pointer (some ⟨bP, 0, none⟩)⟩), (52, ⟨ba, 1, 1, fun _ => .pointer (some ⟨bA, 0, none⟩)⟩)]) ⟨rfl, rfl, rfl, rfl, rfl, rfl, rfl, rfl, rfl, rfl, rfl, trivial⟩ hq) (keys_sub rfl) hM⟩) rfl ?_
                  intro y hy
                  refine V_nil (X_block (X_next ?_))
                  refine C_exit (X_then_exit (X_block_exit (X_then ?_)))
                  refine X_round (x.visit f (upd x.pr u (x.pr u + 1)) (upd x.cc (2 * ((x.d : Int) - 1) + 1) (x.pr u + 1)) (o (x.pr u)) y, y.aS, y.aK) ?_ ?_ ?_ ?_
                  · exact ⟨hok.visit hfm hA (by omega) h157 (upd x.pr u (x.pr u + 1)) (upd x.cc (2 * ((x.d : Int) - 1) + 1) (x.pr u + 1)) hy (.inr ⟨by omega, by rw [hu], by rw [hu], by rw [← hu]; omega, by rw [← hu]; exact h139, by rw [hu]⟩), fun i i0 i1 ha => upd_ne (by omega) (hvis i i0 i1 ha)⟩
                  · exact hts.mu_visit hua.1 hua.2 h111 hsn
                  · exact ⟨rfl, rfl, rfl, rfl, rfl, rfl, rfl, rfl, trivial⟩
                  · exact ⟨rfl, rfl, rfl, rfl, rfl, rfl, rfl, rfl, rfl, rfl, rfl, rfl, rfl, rfl, rfl, rfl, rfl, rfl, rfl, rfl, rfl, rfl, trivial⟩
                ·
                  have hA := hok.tk.alive hoe.1 (by omega) (by omega)
                  refine V_w0.q (QY_assign rfl) rfl ?_
                  refine V_nil (X_next ?_)
                  refine C_false rfl ?_
                  refine C_seq ?_
                  refine C_region ?_
                  refine V_w0.q (QY_cell lf29 (q := 51) rfl rfl (by decide) rfl) rfl ?_
                  refine W_fld V_w0 (q := 30) rfl rfl fa61_13 lf26 (by decide) rfl rfl rfl rfl ?_
                  refine V_w0.q (QY_move rfl) rfl ?_
                  refine W_elem V_w0 rfl rfl (Rd_own (q := 42) rfl (by omega)) (by omega) (by omega) sl26 lf4 rfl rfl (fun _ => ?_)
                  refine W_bool V_w0 168 rfl (fun h168 => ?_) (fun h168 => False.elim (by obtain ⟨i, a, b, c⟩ := hts.vis _ hA (by omega) h157; exact absurd (h168.symm.trans ((hts.on1 _).2 ⟨i, a, b, c⟩)) (by decide)))
                  refine V_w0.q (QY_assign rfl) rfl ?_
                  refine V_nil (X_next ?_)
                  refine C_true rfl ?_
                  refine C_draws 20 20 mix (by kernel_rfl) ?_
                  refine T_w0.q (QY_cell lf29 (q := 51) rfl rfl (by decide) rfl) rfl ?_
                  refine W_fld T_w0 (q := 30) rfl rfl fa61_12 lf22 (by decide) rfl rfl rfl rfl ?_
                  refine T_w0.q (QY_move rfl) rfl ?_
                  refine T_w0.q (QY_cell lf29 (q := 51) rfl rfl (by decide) rfl) rfl ?_
                  refine W_fld T_w0 (q := 30) rfl rfl fa61_12 lf22 (by decide) rfl rfl rfl rfl ?_
                  refine T_w0.q (QY_move rfl) rfl ?_
                  refine W_elem T_w0 rfl rfl (Rd_own (q := 48) rfl (by omega)) (by omega) (by omega) sl22 lf21 rfl rfl (fun _ => ?_)
                  refine T_w0.q (QY_cell lf29 (q := 51) rfl rfl (by decide) rfl) rfl ?_
                  refine W_fld T_w0 (q := 30) rfl rfl fa61_11 lf22 (by decide) rfl rfl rfl rfl ?_
                  refine T_w0.q (QY_move rfl) rfl ?_
                  refine W_elem T_w0 rfl rfl (Rd_own (q := 47) rfl (by omega)) (by omega) (by omega) sl22 lf21 rfl rfl (fun _ => ?_)
                  refine T_w0.q (QY_min rfl rfl rfl) rfl ?_
                  refine T_tail rfl rfl ?_
                  refine V_set (q := 48) rfl rfl rfl rfl rfl (by omega) (by omega) (by omega) sl22 lf21 rfl rfl (upd_ints _ _ _ _) (fun _ => ?_)
                  refine V_nil (X_Qn (X_block (X_next ?_)))
                  refine C_exit (X_then_exit (X_block_exit (X_then ?_)))
                  refine X_round (x.back u (if x.idx (o (x.pr u)) < x.low u then x.idx (o (x.pr u)) else x.low u), aS, some ⟨x.bK, 0, none⟩) ?_ ?_ ?_ ?_
                  · exact ⟨hok.back (by omega) hu h111 h139 (by omega) hA h157, fun i i0 i1 ha => hvis i i0 i1 ha⟩
                  · exact hts.mu_read hua.1 hua.2 h111
                  · exact ⟨rfl, rfl, rfl, rfl, rfl, rfl, rfl, rfl, trivial⟩
                  · exact ⟨rfl, rfl, rfl, rfl, rfl, rfl, rfl, rfl, rfl, rfl, rfl, rfl, rfl, rfl, rfl, rfl, rfl, rfl, rfl, rfl, rfl, rfl, trivial⟩
          ·
            refine V_nil (X_next ?_)
            refine C_false rfl ?_
            refine C_skip (X_next ?_)
            refine C_seq ?_
            refine C_draws 12 12 mix (by kernel_rfl) ?_
            refine T_w0.q (QY_cell lf29 (q := 51) rfl rfl (by decide) rfl) rfl ?_
            refine T_w0.q (QY_cell lf29 (q := 51) rfl rfl (by decide) rfl) rfl ?_
            refine W_fld T_w0 (q := 30) rfl rfl fa61_15 lf59 (by decide) rfl rfl rfl rfl ?_
            refine T_w0.q (QY_cell lf29 (q := 51) rfl rfl (by decide) rfl) rfl ?_
            refine W_fld T_w0 (q := 30) rfl rfl fa61_15 lf59 (by decide) rfl rfl rfl rfl ?_
            refine T_w0.q (QY_len sl59 rfl) rfl ?_
            refine T_w0.q (QY_arith rfl rfl rfl ⟨by omega, by omega⟩) rfl ?_
            refine T_w0.q (QY_slice_hi sl59 rfl rfl (by omega) (by omega) (by omega)) rfl ?_
            refine T_tail rfl rfl ?_
            refine V_fset (q := 30) rfl rfl fa61_15 lf59 (by decide) rfl rfl rfl rfl rfl ?_
            refine V_nil (X_Qn (X_next ?_))
            refine C_seq ?_
            refine C_seq ?_
            refine C_region ?_
            refine V_w0.q (QY_cell lf29 (q := 51) rfl rfl (by decide) rfl) rfl ?_
            refine W_fld V_w0 (q := 30) rfl rfl fa61_15 lf59 (by decide) rfl rfl rfl rfl ?_
            refine V_w0.q (QY_len sl59 rfl) rfl ?_
            refine W_gtr V_w0 rfl rfl rfl (fun h209 => ?_) (fun h209 => ?_)
            ·
              obtain ⟨p, hp⟩ : ∃ p, p = x.st (x.fp ((x.d : Int) - 2)) := ⟨_, rfl⟩
              have hb2 := hts.fpb ((x.d : Int) - 2) (by omega) (by omega)
              have hpa := ALn (hts.A1 _ hb2.1 hb2.2.1).1
              rw [← hp] at hpa
              have hcp : x.cc ((2 * (x.d - 2) : Nat) : Int) = p := by rw [show ((2 * (x.d - 2) : Nat) : Int) = 2 * ((x.d : Int) - 2) from by omega, hb2.2.2.1, hp]
              have hup : u ≠ p := fun e => by
                have e2 := hts.dis hb.1 hb2.1 hb.2.1 hb2.2.1 (by rw [← hu, ← hp]; exact e)
                have := hts.fpi ((x.d : Int) - 2) ((x.d : Int) - 1) (by omega) (by omega) (by omega)
                omega
              refine V_nil (X_next ?_)
              refine C_true rfl ?_
              refine C_seq ?_
              refine C_draw mix (by kernel_rfl) ?_
              refine S_w0.q (QY_cell lf29 (q := 51) rfl rfl (by decide) rfl) rfl ?_
              refine W_fld S_w0 (q := 30) rfl rfl fa61_15 lf59 (by decide) rfl rfl rfl rfl ?_
              refine S_w0.q (QY_cell lf29 (q := 51) rfl rfl (by decide) rfl) rfl ?_
              refine W_fld S_w0 (q := 30) rfl rfl fa61_15 lf59 (by decide) rfl rfl rfl rfl ?_
              refine S_w0.q (QY_len sl59 rfl) rfl ?_
              refine S_w0.q (QY_arith rfl rfl rfl ⟨by omega, by omega⟩) rfl ?_
              refine S_w0.q (QY_index2 (o' := 2 * (x.d - 2)) sl59 rfl rfl (by omega) (by omega) (by omega)) rfl ?_
              refine S_w0.q (QY_fieldP (o' := 2 * (x.d - 2)) fa83_0 rfl rfl) rfl ?_
              refine S_w0.q (QY_cell lf21 (q := 49) rfl rfl (by omega) (congrArg (Value.int .i32) hcp)) rfl ?_
              refine S_w0.q (QY_assign rfl) rfl ?_
              refine S_nil (X_next ?_)
              refine C_draws 20 20 mix (by kernel_rfl) ?_
              refine T_w0.q (QY_cell lf29 (q := 51) rfl rfl (by decide) rfl) rfl ?_
              refine W_fld T_w0 (q := 30) rfl rfl fa61_12 lf22 (by decide) rfl rfl rfl rfl ?_
              refine T_w0.q (QY_move rfl) rfl ?_
              refine T_w0.q (QY_cell lf29 (q := 51) rfl rfl (by decide) rfl) rfl ?_
              refine W_fld T_w0 (q := 30) rfl rfl fa61_12 lf22 (by decide) rfl rfl rfl rfl ?_
              refine T_w0.q (QY_move rfl) rfl ?_
              refine W_elem T_w0 rfl rfl (Rd_own (q := 48) rfl (by omega)) (by omega) (by omega) sl22 lf21 rfl rfl (fun _ => ?_)
              refine T_w0.q (QY_cell lf29 (q := 51) rfl rfl (by decide) rfl) rfl ?_
              refine W_fld T_w0 (q := 30) rfl rfl fa61_12 lf22 (by decide) rfl rfl rfl rfl ?_
              refine T_w0.q (QY_move rfl) rfl ?_
              refine W_elem T_w0 rfl rfl (Rd_own (q := 48) rfl (by omega)) (by omega) (by omega) sl22 lf21 rfl rfl (fun _ => ?_)
              refine T_w0.q (QY_min rfl rfl rfl) rfl ?_
              refine T_tail rfl rfl ?_
              refine V_set (q := 48) rfl rfl rfl rfl rfl (by omega) (by omega) (by omega) sl22 lf21 rfl rfl (upd_ints _ _ _ _) (fun _ => ?_)
              refine V_nil (X_Qn (X_next ?_))
              refine C_seq ?_
              refine C_draw mix (by kernel_rfl) ?_
              refine S_w0.q (QY_cell lf29 (q := 51) rfl rfl (by decide) rfl) rfl ?_
              refine W_fld S_w0 (q := 30) rfl rfl fa61_12 lf22 (by decide) rfl rfl rfl rfl ?_
              refine S_w0.q (QY_move rfl) rfl ?_
              refine W_elem S_w0 rfl rfl (Rd_own (q := 48) rfl (by omega)) (by omega) (by omega) sl22 lf21 rfl rfl (fun _ => ?_)
              refine S_w0.q (QY_cell lf29 (q := 51) rfl rfl (by decide) rfl) rfl ?_
              refine W_fld S_w0 (q := 30) rfl rfl fa61_11 lf22 (by decide) rfl rfl rfl rfl ?_
              refine S_w0.q (QY_move rfl) rfl ?_
              refine W_elem S_w0 rfl rfl (Rd_own (q := 47) rfl (by omega)) (by omega) (by omega) sl22 lf21 rfl rfl (fun _ => ?_)
              refine W_eql S_w0 rfl rfl rfl (fun h258 => ?_) (fun h258 => ?_)
              ·
                obtain ⟨t, ht⟩ : ∃ t : Nat, (t : Int) = x.fp ((x.d : Int) - 1) := ⟨(x.fp ((x.d : Int) - 1)).toNat, by omega⟩
                obtain ⟨haS, hsS, hrS⟩ := hok.gS.some (by omega)
                subst haS
                refine S_nil (X_next ?_)
                refine C_true rfl ?_
                refine C_region ?_
                refine V_w0.q (QY_cell lf29 (q := 51) rfl rfl (by decide) rfl) rfl ?_
                refine V_w0.q (QY_move rfl) rfl ?_
                refine V_w0.q (QY_move rfl) rfl ?_
                refine V_call cb33 rfl (T := TakeOut) (Φ := TakeRel x.K x.m x.r t n f o cl al 0 0 x.st x.comp x.on x.beg x.en x.cls x.cnt x.siz x.spt x.fo) (val := fun _ => .tuple #[]) (H' := fun y => [(30, ⟨bP, 17, 17, fl [.pointer (some ⟨bA, 0, none⟩), .int .u8 al, .int .i32 0, .slice (some ⟨bC, 0, none⟩) n n, (.slice (some ⟨bQ, 0, none⟩) n n), .slice y.aB (x.K + 1) y.cB, .slice y.aE (x.K + 1) y.cE, .slice y.aX (x.K + 1) y.cX, .slice y.aT (x.K + 1) y.cT, .slice y.aZ (x.K + 1) y.cZ, .slice y.aW (x.K + 1) y.cW, (.slice (some ⟨bI, 0, none⟩) n n), (.slice (some ⟨bJ, 0, none⟩) n n), .slice (some ⟨bN, 0, none⟩) n n, .slice (some ⟨x.bS, 0, none⟩) t x.cS, (.slice (some ⟨x.bK, 0, none⟩) ((x.d : Int) - 1).toNat x.cK), .slice (some ⟨y.bD, 0, none⟩) (x.m + (x.r - t)) y.cD]⟩), (31, ⟨bA, 3, 3, fl [.slice aF nf nf, .slice aO no no, .slice (some ⟨bL, 0, none⟩) no no]⟩), (32, ⟨bF, nf, nf, ints .i32 f⟩), (33, ⟨bO, no, no, ints .i32 o⟩), (34, ⟨bL, no, no, ints .u8 cl⟩), (35, ⟨bC, n, n, ints .i32 y.comp⟩), (36, ⟨y.bB, y.sB, ((x.K : Int) + 1), ints .i32 (upd x.beg x.K (x.beg 0 + x.m))⟩), (37, ⟨y.bE, y.sE, ((x.K : Int) + 1), ints .i32 (upd x.en x.K (x.beg 0 + ((x.m + (x.r - t) : Nat) : Int)))⟩), (38, ⟨y.bX, y.sX, ((x.K : Int) + 1), ints .u8 (upd x.cls x.K y.x)⟩), (39, ⟨y.bT, y.sT, ((x.K : Int) + 1), ints .i32 (upd x.cnt x.K y.ct)⟩), (40, ⟨y.bZ, y.sZ, ((x.K : Int) + 1), ints .i64 (upd x.siz x.K y.z)⟩), (41, ⟨y.bW, y.sW, ((x.K : Int) + 1), ints .i64 (upd x.spt x.K 0)⟩), (42, ⟨bN, n, n, bools y.on⟩), (43, ⟨x.bS, x.sS, x.r, ints .i32 x.st⟩), (44, ⟨y.bD, y.sD, ((x.m + (x.r - t) : Nat) : Int), ints .i32 y.fo⟩)] ++ _) (fun w1 hm => (take33 (Rest w1 [(30, ⟨bP, 17, 17, fl [.pointer (some ⟨bA, 0, none⟩), .int .u8 al, .int .i32 0, .slice (some ⟨bC, 0, none⟩) n n, .slice (some ⟨bQ, 0, none⟩) n n, .slice x.aB x.K x.cB, .slice x.aE x.K x.cE, .slice x.aX x.K x.cX, .slice x.aT x.K x.cT, .slice x.aZ x.K x.cZ, .slice x.aW x.K x.cW, .slice (some ⟨bI, 0, none⟩) n n, .slice (some ⟨bJ, 0, none⟩) n n, .slice (some ⟨bN, 0, none⟩) n n, .slice (some ⟨x.bS, 0, none⟩) x.r x.cS, .slice (some ⟨x.bK, 0, none⟩) ((x.d : Int) - 1).toNat x.cK, .slice x.aD x.m x.cD]⟩), (31, ⟨bA, 3, 3, fl [.slice aF nf nf, .slice aO no no, .slice (some ⟨bL, 0, none⟩) no no]⟩), (32, ⟨bF, nf, nf, ints .i32 f⟩), (33, ⟨bO, no, no, ints .i32 o⟩), (34, ⟨bL, no, no, ints .u8 cl⟩), (35, ⟨bC, n, n, ints .i32 x.comp⟩), (36, ⟨x.bB, x.sB, x.K, ints .i32 x.beg⟩), (37, ⟨x.bE, x.sE, x.K, ints .i32 x.en⟩), (38, ⟨x.bX, x.sX, x.K, ints .u8 x.cls⟩), (39, ⟨x.bT, x.sT, x.K, ints .i32 x.cnt⟩), (40, ⟨x.bZ, x.sZ, x.K, ints .i64 x.siz⟩), (41, ⟨x.bW, x.sW, x.K, ints .i64 x.spt⟩), (42, ⟨bN, n, n, bools x.on⟩), (43, ⟨x.bS, x.sS, ((x.r : Nat) : Int), ints .i32 x.st⟩), (44, ⟨x.bD, x.sD, x.m, ints .i32 x.fo⟩)]) w1 bP bA nf no n x.K x.r x.m x.r bF nf nf bO no no bL no no bC n n x.bB x.sB x.cB x.bE x.sE x.cE x.bX x.sX x.cX x.bT x.sT x.cT x.bZ x.sZ x.cZ x.bW x.sW x.cW bN n n x.bS x.sS x.cS x.bD x.sD x.cD aF aO (some ⟨bL, 0, none⟩) (some ⟨bC, 0, none⟩) x.aB x.aE x.aX x.aT x.aZ x.aW (some ⟨bN, 0, none⟩) x.aD f o cl x.comp x.beg x.en x.cls x.cnt x.siz x.spt x.st x.fo x.on al 0 0 u (.slice (some ⟨bQ, 0, none⟩) n n) (.slice (some ⟨bI, 0, none⟩) n n) (.slice (some ⟨bJ, 0, none⟩) n n) (.slice (some ⟨x.bK, 0, none⟩) ((x.d : Int) - 1).toNat x.cK) hF hO (fun _ => rfl) (fun _ => rfl) (fun _ => rfl) hok.gB hok.gE hok.gX hok.gT hok.gZ hok.gW hok.gD hadj hnn (by omega) (by omega) (by omega) (by omega) (Nat.le_refl _) (by omega) (by omega) (by omega) (by rw [hok.tk.b0]; omega) (by rw [hok.tk.b0]; omega) t (by omega) (by rw [ht, ← hu]) (fun i i0 i1 e => by have := hts.dis (i := i) (j := x.fp ((x.d : Int) - 1)) (by omega) (by omega) i1 (by omega) (by rw [e, hu]); omega) (fun i i0 i1 => ALn (hts.A1 i i0 i1).1) w1 (hm.lend (fun q9 k9 hq => SubH.look (L' := [(30, ⟨bP, 17, 17, fl [.pointer (some ⟨bA, 0, none⟩), .int .u8 al, .int .i32 0, .slice (some ⟨bC, 0, none⟩) n n, .slice (some ⟨bQ, 0, none⟩) n n, .slice x.aB x.K x.cB, .slice x.aE x.K x.cE, .slice x.aX x.K x.cX, .slice x.aT x.K x.cT, .slice x.aZ x.K x.cZ, .slice x.aW x.K x.cW, .slice (some ⟨bI, 0, none⟩) n n, .slice (some ⟨bJ, 0, none⟩) n n, .slice (some ⟨bN, 0, none⟩) n n, .slice (some ⟨x.bS, 0, none⟩) x.r x.cS, .slice (some ⟨x.bK, 0, none⟩) ((x.d : Int) - 1).toNat x.cK, .slice x.aD x.m x.cD]⟩), (31, ⟨bA, 3, 3, fl [.slice aF nf nf, .slice aO no no, .slice (some ⟨bL, 0, none⟩) no no]⟩), (32, ⟨bF, nf, nf, ints .i32 f⟩), (33, ⟨bO, no, no, ints .i32 o⟩), (34, ⟨bL, no, no, ints .u8 cl⟩), (35, ⟨bC, n, n, ints .i32 x.comp⟩), (36, ⟨x.bB, x.sB, x.K, ints .i32 x.beg⟩), (37, ⟨x.bE, x.sE, x.K, ints .i32 x.en⟩), (38, ⟨x.bX, x.sX, x.K, ints .u8 x.cls⟩), (39, ⟨x.bT, x.sT, x.K, ints .i32 x.cnt⟩), (40, ⟨x.bZ, x.sZ, x.K, ints .i64 x.siz⟩), (41, ⟨x.bW, x.sW, x.K, ints .i64 x.spt⟩), (42, ⟨bN, n, n, bools x.on⟩), (43, ⟨x.bS, x.sS, ((x.r : Nat) : Int), ints .i32 x.st⟩), (44, ⟨x.bD, x.sD, x.m, ints .i32 x.fo⟩)]) ⟨rfl, rfl, rfl, rfl, rfl, rfl, rfl, rfl, rfl, rfl, rfl, rfl, rfl, rfl, rfl, trivial⟩ hq))).mono fun e w2 ⟨y, h1, he, hM⟩ => ⟨y, h1, he, hm.back (fun q9 k9 hq => SubH.look (L' := [(30, ⟨bP, 17, 17, fl [.pointer (some ⟨bA, 0, none⟩), .int .u8 al, .int .i32 0, .slice (some ⟨bC, 0, none⟩) n n, .slice (some ⟨bQ, 0, none⟩) n n, .slice x.aB x.K x.cB, .slice x.aE x.K x.cE, .slice x.aX x.K x.cX, .slice x.aT x.K x.cT, .slice x.aZ x.K x.cZ, .slice x.aW x.K x.cW, .slice (some ⟨bI, 0, none⟩) n n, .slice (some ⟨bJ, 0, none⟩) n n, .slice (some ⟨bN, 0, none⟩) n n, .slice (some ⟨x.bS, 0, none⟩) x.r x.cS, .slice (some ⟨x.bK, 0, none⟩) ((x.d : Int) - 1).toNat x.cK, .slice x.aD x.m x.cD]⟩), (31, ⟨bA, 3, 3, fl [.slice aF nf nf, .slice aO no no, .slice (some ⟨bL, 0, none⟩) no no]⟩), (32, ⟨bF, nf, nf, ints .i32 f⟩), (33, ⟨bO, no, no, ints .i32 o⟩), (34, ⟨bL, no, no, ints .u8 cl⟩), (35, ⟨bC, n, n, ints .i32 x.comp⟩), (36, ⟨x.bB, x.sB, x.K, ints .i32 x.beg⟩), (37, ⟨x.bE, x.sE, x.K, ints .i32 x.en⟩), (38, ⟨x.bX, x.sX, x.K, ints .u8 x.cls⟩), (39, ⟨x.bT, x.sT, x.K, ints .i32 x.cnt⟩), (40, ⟨x.bZ, x.sZ, x.K, ints .i64 x.siz⟩), (41, ⟨x.bW, x.sW, x.K, ints .i64 x.spt⟩), (42, ⟨bN, n, n, bools x.on⟩), (43, ⟨x.bS, x.sS, ((x.r : Nat) : Int), ints .i32 x.st⟩), (44, ⟨x.bD, x.sD, x.m, ints .i32 x.fo⟩)]) ⟨rfl, rfl, rfl, rfl, rfl, rfl, rfl, rfl, rfl, rfl, rfl, rfl, rfl, rfl, rfl, trivial⟩ hq) (keys_sub rfl) hM⟩) rfl ?_
                intro y hy
                refine V_nil (X_block (X_then ?_))
                refine X_mem (fun w hm => hm.say (q := 49) rfl (n := 2 * ((((x.d : Int) - 1).toNat : Nat) : Int)) (by show _ ≤ 2 * ((x.d : Nat) : Int); omega) (fun i _ _ => rfl)) ?_
                refine X_mem (fun w hm => hm.say (q := 43) rfl (n := ((t : Nat) : Int)) (by show _ ≤ ((x.r : Nat) : Int); omega) (fun i _ _ => rfl)) ?_
                refine X_round (x.taken (upd x.low p (if x.low u < x.low p then x.low u else x.low p)) t y, some ⟨x.bS, 0, none⟩, some ⟨x.bK, 0, none⟩) ?_ ?_ ?_ ?_
                · have hlu : (upd x.low p (if x.low u < x.low p then x.low u else x.low p)) u = x.low u := upd_other _ _ _ hup
                  exact ⟨hok.take (by omega) hu h111 (by rw [← hlu]; exact h258) ht (by rw [hp]; exact hts.low_stays (by omega) hu (by rw [← hlu]; exact h258)) hy, fun i i0 i1 ha => hvis i i0 i1 ha⟩
                · show tmu n f x.pr x.seen ((x.d : Int) - 1).toNat < _
                  rw [show ((x.d : Int) - 1).toNat = x.d - 1 from by omega]
                  exact hts.mu_pop (by omega)
                · exact ⟨rfl, rfl, rfl, rfl, rfl, rfl, rfl, rfl, trivial⟩
                · exact ⟨rfl, rfl, rfl, rfl, rfl, rfl, rfl, rfl, rfl, rfl, rfl, rfl, rfl, rfl, rfl, rfl, rfl, rfl, rfl, rfl, rfl, rfl, trivial⟩
              ·
                refine S_nil (X_next ?_)
                refine C_false rfl ?_
                refine C_skip (X_block (X_then ?_))
                refine X_mem (fun w hm => hm.say (q := 49) rfl (n := 2 * ((((x.d : Int) - 1).toNat : Nat) : Int)) (by show _ ≤ 2 * ((x.d : Nat) : Int); omega) (fun i _ _ => rfl)) ?_
                refine X_round (x.pop (upd x.low p (if x.low u < x.low p then x.low u else x.low p)), aS, some ⟨x.bK, 0, none⟩) ?_ ?_ ?_ ?_
                · have hlu : (upd x.low p (if x.low u < x.low p then x.low u else x.low p)) u = x.low u := upd_other _ _ _ hup
                  refine ⟨?_, fun i i0 i1 ha => hvis i i0 i1 ha⟩
                  rw [hp]
                  exact (hok.pop (by omega) hu h111 (by rw [← hlu]; exact h258)).2
                · show tmu n f x.pr x.seen ((x.d : Int) - 1).toNat < _
                  rw [show ((x.d : Int) - 1).toNat = x.d - 1 from by omega]
                  exact hts.mu_pop (by omega)
                · exact ⟨rfl, rfl, rfl, rfl, rfl, rfl, rfl, rfl, trivial⟩
                · exact ⟨rfl, rfl, rfl, rfl, rfl, rfl, rfl, rfl, rfl, rfl, rfl, rfl, rfl, rfl, rfl, rfl, rfl, rfl, rfl, rfl, rfl, rfl, trivial⟩
            ·
              refine V_nil (X_next ?_)
              refine C_false rfl ?_
              refine C_skip (X_next ?_)
              refine C_seq ?_
              refine C_draw mix (by kernel_rfl) ?_
              refine S_w0.q (QY_cell lf29 (q := 51) rfl rfl (by decide) rfl) rfl ?_
              refine W_fld S_w0 (q := 30) rfl rfl fa61_12 lf22 (by decide) rfl rfl rfl rfl ?_
              refine S_w0.q (QY_move rfl) rfl ?_
              refine W_elem S_w0 rfl rfl (Rd_own (q := 48) rfl (by omega)) (by omega) (by omega) sl22 lf21 rfl rfl (fun _ => ?_)
              refine S_w0.q (QY_cell lf29 (q := 51) rfl rfl (by decide) rfl) rfl ?_
              refine W_fld S_w0 (q := 30) rfl rfl fa61_11 lf22 (by decide) rfl rfl rfl rfl ?_
              refine S_w0.q (QY_move rfl) rfl ?_
              refine W_elem S_w0 rfl rfl (Rd_own (q := 47) rfl (by omega)) (by omega) (by omega) sl22 lf21 rfl rfl (fun _ => ?_)
              refine W_eql S_w0 rfl rfl rfl (fun h258 => ?_) (fun h258 => ?_)
              ·
                obtain ⟨t, ht⟩ : ∃ t : Nat, (t : Int) = x.fp ((x.d : Int) - 1) := ⟨(x.fp ((x.d : Int) - 1)).toNat, by omega⟩
                obtain ⟨haS, hsS, hrS⟩ := hok.gS.some (by omega)
                subst haS
                refine S_nil (X_next ?_)
                refine C_true rfl ?_
                refine C_region ?_
                refine V_w0.q (QY_cell lf29 (q := 51) rfl rfl (by decide) rfl) rfl ?_
                refine V_w0.q (QY_move rfl) rfl ?_
                refine V_w0.q (QY_move rfl) rfl ?_
                refine V_call cb33 rfl (T := TakeOut) (Φ := TakeRel x.K x.m x.r t n f o cl al 0 0 x.st x.comp x.on x.beg x.en x.cls x.cnt x.siz x.spt x.fo) (val := fun _ => .tuple #[]) (H' := fun y => [(30, ⟨bP, 17, 17, fl [.pointer (some ⟨bA, 0, none⟩), .int .u8 al, .int .i32 0, .slice (some ⟨bC, 0, none⟩) n n, (.slice (some ⟨bQ, 0, none⟩) n n), .slice y.aB (x.K + 1) y.cB, .slice y.aE (x.K + 1) y.cE, .slice y.aX (x.K + 1) y.cX, .slice y.aT (x.K + 1) y.cT, .slice y.aZ (x.K + 1) y.cZ, .slice y.aW (x.K + 1) y.cW, (.slice (some ⟨bI, 0, none⟩) n n), (.slice (some ⟨bJ, 0, none⟩) n n), .slice (some ⟨bN, 0, none⟩) n n, .slice (some ⟨x.bS, 0, none⟩) t x.cS, (.slice (some ⟨x.bK, 0, none⟩) ((x.d : Int) - 1).toNat x.cK), .slice (some ⟨y.bD, 0, none⟩) (x.m + (x.r - t)) y.cD]⟩), (31, ⟨bA, 3, 3, fl [.slice aF nf nf, .slice aO no no, .slice (some ⟨bL, 0, none⟩) no no]⟩), (32, ⟨bF, nf, nf, ints .i32 f⟩), (33, ⟨bO, no, no, ints .i32 o⟩), (34, ⟨bL, no, no, ints .u8 cl⟩), (35, ⟨bC, n, n, ints .i32 y.comp⟩), (36, ⟨y.bB, y.sB, ((x.K : Int) + 1), ints .i32 (upd x.beg x.K (x.beg 0 + x.m))⟩), (37, ⟨y.bE, y.sE, ((x.K : Int) + 1), ints .i32 (upd x.en x.K (x.beg 0 + ((x.m + (x.r - t) : Nat) : Int)))⟩), (38, ⟨y.bX, y.sX, ((x.K : Int) + 1), ints .u8 (upd x.cls x.K y.x)⟩), (39, ⟨y.bT, y.sT, ((x.K : Int) + 1), ints .i32 (upd x.cnt x.K y.ct)⟩), (40, ⟨y.bZ, y.sZ, ((x.K : Int) + 1), ints .i64 (upd x.siz x.K y.z)⟩), (41, ⟨y.bW, y.sW, ((x.K : Int) + 1), ints .i64 (upd x.spt x.K 0)⟩), (42, ⟨bN, n, n, bools y.on⟩), (43, ⟨x.bS, x.sS, x.r, ints .i32 x.st⟩), (44, ⟨y.bD, y.sD, ((x.m + (x.r - t) : Nat) : Int), ints .i32 y.fo⟩)] ++ _) (fun w1 hm => (take33 (Rest w1 [(30, ⟨bP, 17, 17, fl [.pointer (some ⟨bA, 0, none⟩), .int .u8 al, .int .i32 0, .slice (some ⟨bC, 0, none⟩) n n, .slice (some ⟨bQ, 0, none⟩) n n, .slice x.aB x.K x.cB, .slice x.aE x.K x.cE, .slice x.aX x.K x.cX, .slice x.aT x.K x.cT, .slice x.aZ x.K x.cZ, .slice x.aW x.K x.cW, .slice (some ⟨bI, 0, none⟩) n n, .slice (some ⟨bJ, 0, none⟩) n n, .slice (some ⟨bN, 0, none⟩) n n, .slice (some ⟨x.bS, 0, none⟩) x.r x.cS, .slice (some ⟨x.bK, 0, none⟩) ((x.d : Int) - 1).toNat x.cK, .slice x.aD x.m x.cD]⟩), (31, ⟨bA, 3, 3, fl [.slice aF nf nf, .slice aO no no, .slice (some ⟨bL, 0, none⟩) no no]⟩), (32, ⟨bF, nf, nf, ints .i32 f⟩), (33, ⟨bO, no, no, ints .i32 o⟩), (34, ⟨bL, no, no, ints .u8 cl⟩), (35, ⟨bC, n, n, ints .i32 x.comp⟩), (36, ⟨x.bB, x.sB, x.K, ints .i32 x.beg⟩), (37, ⟨x.bE, x.sE, x.K, ints .i32 x.en⟩), (38, ⟨x.bX, x.sX, x.K, ints .u8 x.cls⟩), (39, ⟨x.bT, x.sT, x.K, ints .i32 x.cnt⟩), (40, ⟨x.bZ, x.sZ, x.K, ints .i64 x.siz⟩), (41, ⟨x.bW, x.sW, x.K, ints .i64 x.spt⟩), (42, ⟨bN, n, n, bools x.on⟩), (43, ⟨x.bS, x.sS, ((x.r : Nat) : Int), ints .i32 x.st⟩), (44, ⟨x.bD, x.sD, x.m, ints .i32 x.fo⟩)]) w1 bP bA nf no n x.K x.r x.m x.r bF nf nf bO no no bL no no bC n n x.bB x.sB x.cB x.bE x.sE x.cE x.bX x.sX x.cX x.bT x.sT x.cT x.bZ x.sZ x.cZ x.bW x.sW x.cW bN n n x.bS x.sS x.cS x.bD x.sD x.cD aF aO (some ⟨bL, 0, none⟩) (some ⟨bC, 0, none⟩) x.aB x.aE x.aX x.aT x.aZ x.aW (some ⟨bN, 0, none⟩) x.aD f o cl x.comp x.beg x.en x.cls x.cnt x.siz x.spt x.st x.fo x.on al 0 0 u (.slice (some ⟨bQ, 0, none⟩) n n) (.slice (some ⟨bI, 0, none⟩) n n) (.slice (some ⟨bJ, 0, none⟩) n n) (.slice (some ⟨x.bK, 0, none⟩) ((x.d : Int) - 1).toNat x.cK) hF hO (fun _ => rfl) (fun _ => rfl) (fun _ => rfl) hok.gB hok.gE hok.gX hok.gT hok.gZ hok.gW hok.gD hadj hnn (by omega) (by omega) (by omega) (by omega) (Nat.le_refl _) (by omega) (by omega) (by omega) (by rw [hok.tk.b0]; omega) (by rw [hok.tk.b0]; omega) t (by omega) (by rw [ht, ← hu]) (fun i i0 i1 e => by have := hts.dis (i := i) (j := x.fp ((x.d : Int) - 1)) (by omega) (by omega) i1 (by omega) (by rw [e, hu]); omega) (fun i i0 i1 => ALn (hts.A1 i i0 i1).1) w1 (hm.lend (fun q9 k9 hq => SubH.look (L' := [(30, ⟨bP, 17, 17, fl [.pointer (some ⟨bA, 0, none⟩), .int .u8 al, .int .i32 0, .slice (some ⟨bC, 0, none⟩) n n, .slice (some ⟨bQ, 0, none⟩) n n, .slice x.aB x.K x.cB, .slice x.aE x.K x.cE, .slice x.aX x.K x.cX, .slice x.aT x.K x.cT, .slice x.aZ x.K x.cZ, .slice x.aW x.K x.cW, .slice (some ⟨bI, 0, none⟩) n n, .slice (some ⟨bJ, 0, none⟩) n n, .slice (some ⟨bN, 0, none⟩) n n, .slice (some ⟨x.bS, 0, none⟩) x.r x.cS, .slice (some ⟨x.bK, 0, none⟩) ((x.d : Int) - 1).toNat x.cK, .slice x.aD x.m x.cD]⟩), (31, ⟨bA, 3, 3, fl [.slice aF nf nf, .slice aO no no, .slice (some ⟨bL, 0, none⟩) no no]⟩), (32, ⟨bF, nf, nf, ints .i32 f⟩), (33, ⟨bO, no, no, ints .i32 o⟩), (34, ⟨bL, no, no, ints .u8 cl⟩), (35, ⟨bC, n, n, ints .i32 x.comp⟩), (36, ⟨x.bB, x.sB, x.K, ints .i32 x.beg⟩), (37, ⟨x.bE, x.sE, x.K, ints .i32 x.en⟩), (38, ⟨x.bX, x.sX, x.K, ints .u8 x.cls⟩), (39, ⟨x.bT, x.sT, x.K, ints .i32 x.cnt⟩), (40, ⟨x.bZ, x.sZ, x.K, ints .i64 x.siz⟩), (41, ⟨x.bW, x.sW, x.K, ints .i64 x.spt⟩), (42, ⟨bN, n, n, bools x.on⟩), (43, ⟨x.bS, x.sS, ((x.r : Nat) : Int), ints .i32 x.st⟩), (44, ⟨x.bD, x.sD, x.m, ints .i32 x.fo⟩)]) ⟨rfl, rfl, rfl, rfl, rfl, rfl, rfl, rfl, rfl, rfl, rfl, rfl, rfl, rfl, rfl, trivial⟩ hq))).mono fun e w2 ⟨y, h1, he, hM⟩ => ⟨y, h1, he, hm.back (fun q9 k9 hq => SubH.look (L' := [(30, ⟨bP, 17, 17, fl [.pointer (some ⟨bA, 0, none⟩), .int .u8 al, .int .i32 0, .slice (some ⟨bC, 0, none⟩) n n, .slice (some ⟨bQ, 0, none⟩) n n, .slice x.aB x.K x.cB, .slice x.aE x.K x.cE, .slice x.aX x.K x.cX, .slice x.aT x.K x.cT, .slice x.aZ x.K x.cZ, .slice x.aW x.K x.cW, .slice (some ⟨bI, 0, none⟩) n n, .slice (some ⟨bJ, 0, none⟩) n n, .slice (some ⟨bN, 0, none⟩) n n, .slice (some ⟨x.bS, 0, none⟩) x.r x.cS, .slice (some ⟨x.bK, 0, none⟩) ((x.d : Int) - 1).toNat x.cK, .slice x.aD x.m x.cD]⟩), (31, ⟨bA, 3, 3, fl [.slice aF nf nf, .slice aO no no, .slice (some ⟨bL, 0, none⟩) no no]⟩), (32, ⟨bF, nf, nf, ints .i32 f⟩), (33, ⟨bO, no, no, ints .i32 o⟩), (34, ⟨bL, no, no, ints .u8 cl⟩), (35, ⟨bC, n, n, ints .i32 x.comp⟩), (36, ⟨x.bB, x.sB, x.K, ints .i32 x.beg⟩), (37, ⟨x.bE, x.sE, x.K, ints .i32 x.en⟩), (38, ⟨x.bX, x.sX, x.K, ints .u8 x.cls⟩), (39, ⟨x.bT, x.sT, x.K, ints .i32 x.cnt⟩), (40, ⟨x.bZ, x.sZ, x.K, ints .i64 x.siz⟩), (41, ⟨x.bW, x.sW, x.K, ints .i64 x.spt⟩), (42, ⟨bN, n, n, bools x.on⟩), (43, ⟨x.bS, x.sS, ((x.r : Nat) : Int), ints .i32 x.st⟩), (44, ⟨x.bD, x.sD, x.m, ints .i32 x.fo⟩)]) ⟨rfl, rfl, rfl, rfl, rfl, rfl, rfl, rfl, rfl, rfl, rfl, rfl, rfl, rfl, rfl, trivial⟩ hq) (keys_sub rfl) hM⟩) rfl ?_
                intro y hy
                refine V_nil (X_block (X_then ?_))
                refine X_mem (fun w hm => hm.say (q := 49) rfl (n := 2 * ((((x.d : Int) - 1).toNat : Nat) : Int)) (by show _ ≤ 2 * ((x.d : Nat) : Int); omega) (fun i _ _ => rfl)) ?_
                refine X_mem (fun w hm => hm.say (q := 43) rfl (n := ((t : Nat) : Int)) (by show _ ≤ ((x.r : Nat) : Int); omega) (fun i _ _ => rfl)) ?_
                refine X_round (x.taken x.low t y, some ⟨x.bS, 0, none⟩, some ⟨x.bK, 0, none⟩) ?_ ?_ ?_ ?_
                · have hlu : x.low u = x.low u := rfl
                  exact ⟨hok.take (by omega) hu h111 (by rw [← hlu]; exact h258) ht rfl hy, fun i i0 i1 ha => hvis i i0 i1 ha⟩
                · show tmu n f x.pr x.seen ((x.d : Int) - 1).toNat < _
                  rw [show ((x.d : Int) - 1).toNat = x.d - 1 from by omega]
                  exact hts.mu_pop (by omega)
                · exact ⟨rfl, rfl, rfl, rfl, rfl, rfl, rfl, rfl, trivial⟩
                · exact ⟨rfl, rfl, rfl, rfl, rfl, rfl, rfl, rfl, rfl, rfl, rfl, rfl, rfl, rfl, rfl, rfl, rfl, rfl, rfl, rfl, rfl, rfl, trivial⟩
              ·
                refine S_nil (X_next ?_)
                refine C_false rfl ?_
                refine C_skip (X_block (X_then ?_))
                refine X_mem (fun w hm => hm.say (q := 49) rfl (n := 2 * ((((x.d : Int) - 1).toNat : Nat) : Int)) (by show _ ≤ 2 * ((x.d : Nat) : Int); omega) (fun i _ _ => rfl)) ?_
                refine X_round (x.pop x.low, aS, some ⟨x.bK, 0, none⟩) ?_ ?_ ?_ ?_
                · exfalso
                  have := (hok.pop (by omega) hu h111 h258).1
                  omega
                · exfalso
                  have := (hok.pop (by omega) hu h111 h258).1
                  omega
                · exact ⟨rfl, rfl, rfl, rfl, rfl, rfl, rfl, rfl, trivial⟩
                · exact ⟨rfl, rfl, rfl, rfl, rfl, rfl, rfl, rfl, rfl, rfl, rfl, rfl, rfl, rfl, rfl, rfl, rfl, rfl, rfl, rfl, rfl, rfl, trivial⟩
        ·
          refine V_nil (X_next ?_)
          refine C_false rfl ?_
          refine C_exit (X_then_exit (X_then_exit (X_block_exit (X_block (X_next ?_)))))
          refine C_region ?_
          refine V_w0.q (QY_arith rfl rfl rfl ⟨by omega, by omega⟩) rfl ?_
          refine V_w0.q (QY_move rfl) rfl ?_
          refine V_nil (X_then ?_)
          refine X_round (k + 1, x, aS, aK) ?_ ?_ ?_ ?_
          · exact ⟨by omega, by omega, hok, by omega, fun i i0 i1 ha => hvis i i0 i1 ha⟩
          · show ((n : Int) - (k + 1)).toNat < ((n : Int) - k).toNat
            omega
          · exact ⟨rfl, rfl, rfl, rfl, rfl, rfl, rfl, rfl, trivial⟩
          · exact ⟨rfl, rfl, rfl, rfl, rfl, rfl, rfl, rfl, rfl, rfl, rfl, rfl, rfl, rfl, rfl, rfl, rfl, rfl, rfl, rfl, rfl, rfl, trivial⟩
  ·
    have hts := hok.ts
    have hsb := hts.seenb
    have hmr := hts.mr
    have hdr := hts.d_le
    have hKm := hok.tk.Km
    have hK1 := hok.tk.K1
    obtain rfl : k = (n : Int) := by omega
    have hr0 : x.r = 0 := hts.d0 hd0
    refine V_nil (X_next ?_)
    refine C_seq ?_
    refine C_false rfl ?_
    refine C_exit (X_then_exit (X_then_exit (X_block_exit (X_next ?_))))
    refine C_seq ?_
    refine C_region ?_
    refine V_w0.q (QY_move rfl) rfl ?_
    refine V_w0.q (QY_cell lf29 (q := 51) rfl rfl (by decide) rfl) rfl ?_
    refine W_fld V_w0 (q := 30) rfl rfl fa61_16 lf22 (by decide) rfl rfl rfl rfl ?_
    refine V_copy (q := 53) mk22 rfl rfl rfl (hok.gD.rd (q := 44) rfl (by omega)) (by omega) (by omega) (fun i _ _ => rfl) rfl ?_
    refine V_know (fun w hm => hm.say (q := 53) rfl (n := n) (c := ints .i32 (fun i => if 0 ≤ i ∧ i < (x.m : Int) then x.fo i else i)) (Int.le_refl _) (fun i _ _ => by show Value.int .i32 (if 0 ≤ i ∧ i < (x.m : Int) then x.fo i else i) = if 0 ≤ i ∧ i < (x.m : Int) then Value.int .i32 (x.fo i) else Value.int .i32 i; by_cases hc : 0 ≤ i ∧ i < (x.m : Int); (rw [if_pos hc, if_pos hc]); (rw [if_neg hc, if_neg hc]))) ?_
    refine V_nil (X_next ?_)
    refine C_seq ?_
    refine C_region ?_
    refine V_w0.q (QY_cell lf29 (q := 51) rfl rfl (by decide) rfl) rfl ?_
    refine W_fld V_w0 (q := 30) rfl rfl fa61_16 lf22 (by decide) rfl rfl rfl rfl ?_
    refine V_w0.q (QY_len sl22 rfl) rfl ?_
    refine V_w0.q (QY_move rfl) rfl ?_
    refine V_nil (X_next ?_)
    refine C_block ?_
    refine C_loops (T := Int × (Int → Int)) (fun (zz9 : Int × (Int → Int)) => match zz9 with | (k, g) => [(2, .pointer (some ⟨bp, 0, none⟩)), (273, .slice x.aD x.m x.cD), (274, .int .i64 (x.m : Int)), (275, .int .i64 k)]) (fun (zz9 : Int × (Int → Int)) => match zz9 with | (k, g) => [(30, ⟨bP, 17, 17, fl [.pointer (some ⟨bA, 0, none⟩), .int .u8 al, .int .i32 0, .slice (some ⟨bC, 0, none⟩) n n, .slice (some ⟨bQ, 0, none⟩) n n, .slice x.aB x.K x.cB, .slice x.aE x.K x.cE, .slice x.aX x.K x.cX, .slice x.aT x.K x.cT, .slice x.aZ x.K x.cZ, .slice x.aW x.K x.cW, .slice (some ⟨bI, 0, none⟩) n n, .slice (some ⟨bJ, 0, none⟩) n n, .slice (some ⟨bN, 0, none⟩) n n, .slice aS x.r x.cS, .slice aK x.d x.cK, .slice x.aD x.m x.cD]⟩), (31, ⟨bA, 3, 3, fl [.slice aF nf nf, .slice aO no no, .slice (some ⟨bL, 0, none⟩) no no]⟩), (32, ⟨bF, nf, nf, ints .i32 f⟩), (33, ⟨bO, no, no, ints .i32 o⟩), (34, ⟨bL, no, no, ints .u8 cl⟩), (35, ⟨bC, n, n, ints .i32 x.comp⟩), (36, ⟨x.bB, x.sB, x.K, ints .i32 x.beg⟩), (37, ⟨x.bE, x.sE, x.K, ints .i32 x.en⟩), (38, ⟨x.bX, x.sX, x.K, ints .u8 x.cls⟩), (39, ⟨x.bT, x.sT, x.K, ints .i32 x.cnt⟩), (40, ⟨x.bZ, x.sZ, x.K, ints .i64 x.siz⟩), (41, ⟨x.bW, x.sW, x.K, ints .i64 x.spt⟩), (42, ⟨bN, n, n, bools x.on⟩), (43, ⟨x.bS, x.sS, ((x.r : Nat) : Int), ints .i32 x.st⟩), (44, ⟨x.bD, x.sD, x.m, ints .i32 x.fo⟩), (47, ⟨bI, n, n, ints .i32 g⟩), (48, ⟨bJ, n, n, ints .i32 x.low⟩), (49, ⟨x.bK, x.sK, 2 * ((x.d : Nat) : Int), ints .i32 x.cc⟩), (50, ⟨bs, 1, 1, fun _ => .int .i32 x.seen⟩), (51, ⟨bp, 1, 1, fun _ => .pointer (some ⟨bP, 0, none⟩)⟩), (52, ⟨ba, 1, 1, fun _ => .pointer (some ⟨bA, 0, none⟩)⟩), (53, ⟨bQ, n, n, ints .i32 (fun i => if 0 ≤ i ∧ i < (x.m : Int) then x.fo i else i)⟩)]) (fun (zz9 : Int × (Int → Int)) => match zz9 with | (k, g) => 0 ≤ k ∧ k ≤ x.m ∧ (∀ i, 0 ≤ i → i < k → g (x.fo i) = 0) ∧ (∀ v, g v = 0 ∨ g v = x.idx v)) (fun (zz9 : Int × (Int → Int)) => match zz9 with | (k, g) => ((x.m : Int) - k).toNat) (0, x.idx) ?_ ?_ ?_ ?_
    · exact ⟨by omega, by omega, fun i i0 i1 => by omega, fun v => .inr rfl⟩
    · exact ⟨rfl, rfl, rfl, rfl, trivial⟩
    · exact ⟨rfl, rfl, rfl, rfl, rfl, rfl, rfl, rfl, rfl, rfl, rfl, rfl, rfl, rfl, rfl, rfl, rfl, rfl, rfl, rfl, rfl, rfl, trivial⟩
    rintro ⟨k, g⟩ ⟨hj0, hj1, hg1, hg2⟩
    show C _ _ _ _ _ _ [(2, .pointer (some ⟨bp, 0, none⟩)), (273, .slice x.aD x.m x.cD), (274, .int .i64 (x.m : Int)), (275, .int .i64 k)] [(30, ⟨bP, 17, 17, fl [.pointer (some ⟨bA, 0, none⟩), .int .u8 al, .int .i32 0, .slice (some ⟨bC, 0, none⟩) n n, .slice (some ⟨bQ, 0, none⟩) n n, .slice x.aB x.K x.cB, .slice x.aE x.K x.cE, .slice x.aX x.K x.cX, .slice x.aT x.K x.cT, .slice x.aZ x.K x.cZ, .slice x.aW x.K x.cW, .slice (some ⟨bI, 0, none⟩) n n, .slice (some ⟨bJ, 0, none⟩) n n, .slice (some ⟨bN, 0, none⟩) n n, .slice aS x.r x.cS, .slice aK x.d x.cK, .slice x.aD x.m x.cD]⟩), (31, ⟨bA, 3, 3, fl [.slice aF nf nf, .slice aO no no, .slice (some ⟨bL, 0, none⟩) no no]⟩), (32, ⟨bF, nf, nf, ints .i32 f⟩), (33, ⟨bO, no, no, ints .i32 o⟩), (34, ⟨bL, no, no, ints .u8 cl⟩), (35, ⟨bC, n, n, ints .i32 x.comp⟩), (36, ⟨x.bB, x.sB, x.K, ints .i32 x.beg⟩), (37, ⟨x.bE, x.sE, x.K, ints .i32 x.en⟩), (38, ⟨x.bX, x.sX, x.K, ints .u8 x.cls⟩), (39, ⟨x.bT, x.sT, x.K, ints .i32 x.cnt⟩), (40, ⟨x.bZ, x.sZ, x.K, ints .i64 x.siz⟩), (41, ⟨x.bW, x.sW, x.K, ints .i64 x.spt⟩), (42, ⟨bN, n, n, bools x.on⟩), (43, ⟨x.bS, x.sS, ((x.r : Nat) : Int), ints .i32 x.st⟩), (44, ⟨x.bD, x.sD, x.m, ints .i32 x.fo⟩), (47, ⟨bI, n, n, ints .i32 g⟩), (48, ⟨bJ, n, n, ints .i32 x.low⟩), (49, ⟨x.bK, x.sK, 2 * ((x.d : Nat) : Int), ints .i32 x.cc⟩), (50, ⟨bs, 1, 1, fun _ => .int .i32 x.seen⟩), (51, ⟨bp, 1, 1, fun _ => .pointer (some ⟨bP, 0, none⟩)⟩), (52, ⟨ba, 1, 1, fun _ => .pointer (some ⟨bA, 0, none⟩)⟩), (53, ⟨bQ, n, n, ints .i32 (fun i => if 0 ≤ i ∧ i < (x.m : Int) then x.fo i else i)⟩)]
    refine C_seq ?_
    refine C_region ?_
    refine W_lss V_w0 rfl rfl rfl (fun h276 => ?_) (fun h276 => ?_)
    ·
      have hfn := ALn (hok.tk.tA _ (hok.tk.foA k hj0 (by omega))).1
      refine V_nil (X_next ?_)
      refine C_seq ?_
      refine C_true rfl ?_
      refine C_skip (X_next ?_)
      refine C_seq ?_
      refine C_block ?_
      refine C_seq ?_
      refine C_region ?_
      refine W_elem V_w0 rfl rfl (hok.gD.rd (q := 44) rfl (by omega)) (by omega) (by omega) sl22 lf21 rfl rfl (fun _ => ?_)
      refine V_w0.q (QY_assign rfl) rfl ?_
      refine V_nil (X_next ?_)
      refine C_region ?_
      refine V_w0.q (QY_cell lf29 (q := 51) rfl rfl (by decide) rfl) rfl ?_
      refine W_fld V_w0 (q := 30) rfl rfl fa61_11 lf22 (by decide) rfl rfl rfl rfl ?_
      refine V_w0.q (QY_move rfl) rfl ?_
      refine V_set (q := 47) rfl rfl rfl rfl rfl (by omega) (by omega) (by omega) sl22 lf21 rfl rfl (upd_ints _ _ _ _) (fun _ => ?_)
      refine V_nil (X_block (X_next ?_))
      refine C_region ?_
      refine V_w0.q (QY_arith rfl rfl rfl ⟨by omega, by omega⟩) rfl ?_
      refine V_w0.q (QY_move rfl) rfl ?_
      refine V_nil (X_then ?_)
      refine X_round (k + 1, upd g (x.fo k) 0) ?_ ?_ ?_ ?_
      · refine ⟨by omega, by omega, fun i i0 i1 => ?_, fun v => ?_⟩
        · by_cases e : x.fo i = x.fo k
          · rw [e, upd_same]
          · rw [upd_other _ _ _ e]
            exact hg1 i i0 (by have : i ≠ k := fun e2 => e (by rw [e2]); omega)
        · by_cases e : v = x.fo k
          · subst e; left; exact upd_same _ _ _
          · rw [upd_other _ _ _ e]; exact hg2 v
      · show ((x.m : Int) - (k + 1)).toNat < ((x.m : Int) - k).toNat
        omega
      · exact ⟨rfl, rfl, rfl, rfl, trivial⟩
      · exact ⟨rfl, rfl, rfl, rfl, rfl, rfl, rfl, rfl, rfl, rfl, rfl, rfl, rfl, rfl, rfl, rfl, rfl, rfl, rfl, rfl, rfl, rfl, trivial⟩
    ·
      refine V_nil (X_next ?_)
      refine C_seq ?_
      refine C_false rfl ?_
      refine C_exit (X_then_exit (X_then_exit (X_block_exit (?_))))
      refine X_end0 rfl (fun w hm => ?_)
      refine ⟨⟨x, aS, aK⟩, ⟨hok.tk, (hts.all_taken' hr0 hok.tk hall).1, (hts.all_taken' hr0 hok.tk hall).2.1, (hts.all_taken' hr0 hok.tk hall).2.2, hr0, hok.gB, hok.gE⟩, rfl, ?_⟩
      have hz := hts.reset' hr0 hok.tk (g := g) (fun i i0 i1 => hg1 i i0 (by omega)) hg2
      have hm2 := hm.say (q := 47) rfl (n := n) (c := ints .i32 (fun _ => 0)) (Int.le_refl _) (fun i _ _ => by show ints .i32 (fun _ => 0) i = ints .i32 g i; unfold ints; rw [hz i])
      exact hm2.sub ⟨rfl, rfl, rfl, rfl, rfl, rfl, rfl, rfl, rfl, rfl, rfl, rfl, rfl, rfl, rfl, rfl, trivial⟩

end Go.Proofs.Qxb6001307a
