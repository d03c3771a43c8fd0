/-
  OWN WORK (the rule applications laid by a program of our own, wip/gen). FnSplitGivesStrongComponents.
-/
import Derived.Test.Qxb6001307aPlainZ
import Derived.Test.Qxb6001307aClones
namespace Go.Proofs.Qxb6001307a
open Go.RowKit
set_option linter.unusedSimpArgs false
set_option linter.unusedVariables false

theorem split19 (B : Nat → Prop) (w0 : World) (bP bA nf no n bF bO bL bC bI bJ bN bQ bB bE bX bT bZ bW : Nat) (aF aO : Option Addr) (f o cl : Int → Int) (al : Int) (ou : Int → Bool) (hF : 0 < nf → aF = some ⟨bF, 0, none⟩) (hO : 0 < no → aO = some ⟨bO, 0, none⟩) (hadj : AdjOK nf no no f o) (hnn : (n : Int) = (nf : Int) - 1) (hnf : (nf : Int) ≤ 1048576) (hno : (no : Int) ≤ 1048576) :
    ∀ w, Mem B w0 [(30, ⟨bP, 17, 17, fl [.pointer (some ⟨bA, 0, none⟩), .int .u8 al, .int .i32 0, .slice (some ⟨bC, 0, none⟩) n n, .slice (some ⟨bQ, 0, none⟩) n n, .slice (some ⟨bB, 0, none⟩) 1 1, .slice (some ⟨bE, 0, none⟩) 1 1, .slice (some ⟨bX, 0, none⟩) 1 1, .slice (some ⟨bT, 0, none⟩) 1 1, .slice (some ⟨bZ, 0, none⟩) 1 1, .slice (some ⟨bW, 0, none⟩) 1 1, .slice (some ⟨bI, 0, none⟩) n n, .slice (some ⟨bJ, 0, none⟩) n n, .slice (some ⟨bN, 0, none⟩) n n, .slice none 0 0, .slice none 0 0, .slice none 0 0]⟩), (31, ⟨bA, 3, 3, fl [.slice aF nf nf, .slice aO no no, .slice (some ⟨bL, 0, none⟩) no no]⟩), (32, ⟨bF, nf, nf, ints .i32 f⟩), (33, ⟨bO, no, no, ints .i32 o⟩), (34, ⟨bL, no, no, ints .u8 cl⟩), (35, ⟨bC, n, n, ints .i32 (fun v => if ou v = true then -1 else 0)⟩), (36, ⟨bB, 1, 1, fun _ => .int .i32 0⟩), (37, ⟨bE, 1, 1, fun _ => .int .i32 (n : Int)⟩), (38, ⟨bX, 1, 1, fun _ => .int .u8 0⟩), (39, ⟨bT, 1, 1, fun _ => .int .i32 0⟩), (40, ⟨bZ, 1, 1, fun _ => .int .i64 0⟩), (41, ⟨bW, 1, 1, fun _ => .int .i64 0⟩), (47, ⟨bI, n, n, fun _ => .int .i32 0⟩), (48, ⟨bJ, n, n, fun _ => .int .i32 0⟩), (42, ⟨bN, n, n, fun _ => .bool false⟩), (53, ⟨bQ, n, n, fun i => .int .i32 i⟩)] w → Calls Try.prog 19 #[.pointer (some ⟨bP, 0, none⟩), .int .i32 0] w (fun e w' => ∃ y : SOut, SRel n f o cl al ou y.x ∧ e = .returned (.tuple #[]) ∧ Mem B w0 [(30, ⟨bP, 17, 17, fl [.pointer (some ⟨bA, 0, none⟩), .int .u8 al, .int .i32 0, .slice (some ⟨bC, 0, none⟩) n n, .slice (some ⟨bQ, 0, none⟩) n n, .slice y.x.aB y.x.K y.x.cB, .slice y.x.aE y.x.K y.x.cE, .slice y.x.aX y.x.K y.x.cX, .slice y.x.aT y.x.K y.x.cT, .slice y.x.aZ y.x.K y.x.cZ, .slice y.x.aW y.x.K y.x.cW, .slice (some ⟨bI, 0, none⟩) n n, .slice (some ⟨bJ, 0, none⟩) n n, .slice (some ⟨bN, 0, none⟩) n n, .slice y.aS y.x.r y.x.cS, .slice y.aK y.x.d y.x.cK, .slice y.x.aD y.x.m y.x.cD]⟩), (31, ⟨bA, 3, 3, fl [.slice aF nf nf, .slice aO no no, .slice (some ⟨bL, 0, none⟩) no no]⟩), (32, ⟨bF, nf, nf, ints .i32 f⟩), (33, ⟨bO, no, no, ints .i32 o⟩), (34, ⟨bL, no, no, ints .u8 cl⟩), (38, ⟨y.x.bX, y.x.sX, y.x.K, ints .u8 y.x.cls⟩), (39, ⟨y.x.bT, y.x.sT, y.x.K, ints .i32 y.x.cnt⟩), (40, ⟨y.x.bZ, y.x.sZ, y.x.K, ints .i64 y.x.siz⟩), (41, ⟨y.x.bW, y.x.sW, y.x.K, ints .i64 y.x.spt⟩), (48, ⟨bJ, n, n, ints .i32 y.x.low⟩), (35, ⟨bC, n, n, ints .i32 y.x.comp⟩), (36, ⟨y.x.bB, y.x.sB, y.x.K, ints .i32 y.x.beg⟩), (37, ⟨y.x.bE, y.x.sE, y.x.K, ints .i32 y.x.en⟩), (42, ⟨bN, n, n, bools y.x.on⟩), (47, ⟨bI, n, n, ints .i32 (fun _ => 0)⟩), (53, ⟨bQ, n, n, ints .i32 (fun i => if 0 ≤ i ∧ i < (y.x.m : Int) then y.x.fo i else i)⟩)] w') := by
  refine enter (N := 7) (vs := [.pointer (some ⟨bP, 0, none⟩), .int .i32 0]) Try.func19 rfl Try.ntmps19 rfl ?_
  refine C_region ?_
  refine V_w0.q (QY_move rfl) rfl ?_
  refine V_w0.q (QY_move rfl) rfl ?_
  refine V_call cb34 rfl (T := SOut) (Φ := fun y => SRel n f o cl al ou y.x) (val := fun _ => .tuple #[]) (H' := fun y => [(30, ⟨bP, 17, 17, fl [.pointer (some ⟨bA, 0, none⟩), .int .u8 al, .int .i32 0, .slice (some ⟨bC, 0, none⟩) n n, .slice (some ⟨bQ, 0, none⟩) n n, .slice y.x.aB y.x.K y.x.cB, .slice y.x.aE y.x.K y.x.cE, .slice y.x.aX y.x.K y.x.cX, .slice y.x.aT y.x.K y.x.cT, .slice y.x.aZ y.x.K y.x.cZ, .slice y.x.aW y.x.K y.x.cW, .slice (some ⟨bI, 0, none⟩) n n, .slice (some ⟨bJ, 0, none⟩) n n, .slice (some ⟨bN, 0, none⟩) n n, .slice y.aS y.x.r y.x.cS, .slice y.aK y.x.d y.x.cK, .slice y.x.aD y.x.m y.x.cD]⟩), (31, ⟨bA, 3, 3, fl [.slice aF nf nf, .slice aO no no, .slice (some ⟨bL, 0, none⟩) no no]⟩), (32, ⟨bF, nf, nf, ints .i32 f⟩), (33, ⟨bO, no, no, ints .i32 o⟩), (34, ⟨bL, no, no, ints .u8 cl⟩), (38, ⟨y.x.bX, y.x.sX, y.x.K, ints .u8 y.x.cls⟩), (39, ⟨y.x.bT, y.x.sT, y.x.K, ints .i32 y.x.cnt⟩), (40, ⟨y.x.bZ, y.x.sZ, y.x.K, ints .i64 y.x.siz⟩), (41, ⟨y.x.bW, y.x.sW, y.x.K, ints .i64 y.x.spt⟩), (48, ⟨bJ, n, n, ints .i32 y.x.low⟩), (35, ⟨bC, n, n, ints .i32 y.x.comp⟩), (36, ⟨y.x.bB, y.x.sB, y.x.K, ints .i32 y.x.beg⟩), (37, ⟨y.x.bE, y.x.sE, y.x.K, ints .i32 y.x.en⟩), (42, ⟨bN, n, n, bools y.x.on⟩), (47, ⟨bI, n, n, ints .i32 (fun _ => 0)⟩), (53, ⟨bQ, n, n, ints .i32 (fun i => if 0 ≤ i ∧ i < (y.x.m : Int) then y.x.fo i else i)⟩)]) (split34 B w0 bP bA nf no n bF bO bL bC bI bJ bN bQ bB bE bX bT bZ bW aF aO f o cl al ou hF hO hadj hnn hnf hno) rfl ?_
  intro y hy
  refine V_nil (?_)
  refine X_end0 rfl (fun w hm => ?_)
  exact ⟨y, hy, rfl, hm⟩

set_option maxHeartbeats 4000000 in
theorem fnSplit (w : World) (aF aO aL aQ : Option Addr) (nf no nc nO cF cO cL cQ : Nat) (f o cl : Int → Int) (al : Int) (og : Int → Bool) (hF : RdW w (.slice aF nf cF) nf (ints .i32 f)) (hO : RdW w (.slice aO no cO) no (ints .i32 o)) (hL : RdW w (.slice aL nc cL) nc (ints .u8 cl)) (hQ : RdW w (.slice aQ nO cQ) nO (bools og))
    (hFw : ∀ i, 0 ≤ i → i < (nf : Int) → -2147483648 ≤ f i ∧ f i ≤ 2147483647) (hOw : ∀ i, 0 ≤ i → i < (no : Int) → -2147483648 ≤ o i ∧ o i ≤ 2147483647) :
    Calls Try.prog 4 #[.slice aF nf cF, .slice aO no cO, .slice aL nc cL, .int .u8 al, .slice aQ nO cQ] w fun e w' => e = .returned (.bool true) ∧ Below w.heap.size w w' := by
  refine enter (N := 503) (vs := [.slice aF nf cF, .slice aO no cO, .slice aL nc cL, .int .u8 al, .slice aQ nO cQ]) Try.func4 rfl Try.ntmps4 rfl ?_ w (Mem.start w)
  refine C_seq ?_
  refine C_region ?_
  refine V_w0.q (QY_assign rfl) rfl ?_
  refine V_nil (X_next ?_)
  refine C_seq ?_
  refine C_seq ?_
  refine C_region ?_
  refine V_w0.q (QY_move rfl) rfl ?_
  refine V_w0.q (QY_move rfl) rfl ?_
  refine V_w0.q (QY_move rfl) rfl ?_
  refine V_w0.q (QY_move rfl) rfl ?_
  refine V_w0.q (QY_move rfl) rfl ?_
  refine V_call cb15 rfl (T := Bool) (Φ := fun y => y = true → (nf : Int) + no + nc + nO ≤ 1048576) (val := fun y => .bool y) (H' := fun _ => []) (fun w1 hm => (bytes15 w1 aF aO aL aQ nf no nc nO cF cO cL cQ _).mono fun e w2 ⟨y, h1, he, hM⟩ => ⟨y, h1, he, hm.join0 hM⟩) rfl ?_
  intro y51 hb51
  refine W_bool V_w0 51 rfl (fun h51 => ?_) (fun h51 => ?_)
  ·
    have hsum := hb51 h51
    refine V_w0.q (QY_not rfl) rfl ?_
    refine V_nil (X_next ?_)
    refine C_false rfl ?_
    refine C_skip (X_next ?_)
    refine C_seq ?_
    refine C_seq ?_
    refine C_region ?_
    refine V_w0.q (QY_move rfl) rfl ?_
    refine V_w0.q (QY_len sl22 rfl) rfl ?_
    refine W_gtr V_w0 rfl rfl rfl (fun h55 => ?_) (fun h55 => ?_)
    ·
      refine V_w0.q (QY_move rfl) rfl ?_
      refine V_walk.no rfl rfl rfl ?_
      refine V_walk.no rfl rfl rfl ?_
      refine V_walk.no rfl rfl rfl ?_
      refine V_w0.q (QY_pick_true rfl rfl) rfl ?_
      refine V_w0.q (QY_move rfl) rfl ?_
      refine V_walk.no rfl rfl rfl ?_
      refine V_walk.no rfl rfl rfl ?_
      refine V_walk.no rfl rfl rfl ?_
      refine V_w0.q (QY_pick_true rfl rfl) rfl ?_
      refine V_w0.q (QY_move rfl) rfl ?_
      refine V_walk.no rfl rfl rfl ?_
      refine V_walk.no rfl rfl rfl ?_
      refine V_walk.no rfl rfl rfl ?_
      refine V_w0.q (QY_pick_true rfl rfl) rfl ?_
      refine V_nil (X_next ?_)
      refine C_true rfl ?_
      refine C_seq ?_
      refine C_region ?_
      refine V_w0.q (QY_assign rfl) rfl ?_
      refine V_nil (X_next ?_)
      refine C_ret (X_then_ret (?_))
      refine X_ret1 rfl rfl (fun w hm => ?_)
      exact ⟨rfl, hm.below⟩
    ·
      refine V_w0.q (QY_move rfl) rfl ?_
      refine V_walk.yes rfl rfl ?_
      refine V_w0.q (QY_move rfl) rfl ?_
      refine V_walk.yes rfl rfl ?_
      refine V_w0.q (QY_len sl22 rfl) rfl ?_
      refine V_walk.yes rfl rfl ?_
      refine W_gtr V_w0 rfl rfl rfl (fun h59 => ?_) (fun h59 => ?_)
      ·
        refine V_w0.q (QY_pick_false rfl rfl) rfl ?_
        refine V_w0.q (QY_move rfl) rfl ?_
        refine V_walk.no rfl rfl rfl ?_
        refine V_walk.no rfl rfl rfl ?_
        refine V_walk.no rfl rfl rfl ?_
        refine V_w0.q (QY_pick_true rfl rfl) rfl ?_
        refine V_w0.q (QY_move rfl) rfl ?_
        refine V_walk.no rfl rfl rfl ?_
        refine V_walk.no rfl rfl rfl ?_
        refine V_walk.no rfl rfl rfl ?_
        refine V_w0.q (QY_pick_true rfl rfl) rfl ?_
        refine V_nil (X_next ?_)
        refine C_true rfl ?_
        refine C_seq ?_
        refine C_region ?_
        refine V_w0.q (QY_assign rfl) rfl ?_
        refine V_nil (X_next ?_)
        refine C_ret (X_then_ret (?_))
        refine X_ret1 rfl rfl (fun w hm => ?_)
        exact ⟨rfl, hm.below⟩
      ·
        refine V_w0.q (QY_pick_false rfl rfl) rfl ?_
        refine V_w0.q (QY_move rfl) rfl ?_
        refine V_walk.yes rfl rfl ?_
        refine V_w0.q (QY_move rfl) rfl ?_
        refine V_walk.yes rfl rfl ?_
        refine V_w0.q (QY_len sl23 rfl) rfl ?_
        refine V_walk.yes rfl rfl ?_
        refine W_gtr V_w0 rfl rfl rfl (fun h64 => ?_) (fun h64 => ?_)
        ·
          refine V_w0.q (QY_pick_false rfl rfl) rfl ?_
          refine V_w0.q (QY_move rfl) rfl ?_
          refine V_walk.no rfl rfl rfl ?_
          refine V_walk.no rfl rfl rfl ?_
          refine V_walk.no rfl rfl rfl ?_
          refine V_w0.q (QY_pick_true rfl rfl) rfl ?_
          refine V_nil (X_next ?_)
          refine C_true rfl ?_
          refine C_seq ?_
          refine C_region ?_
          refine V_w0.q (QY_assign rfl) rfl ?_
          refine V_nil (X_next ?_)
          refine C_ret (X_then_ret (?_))
          refine X_ret1 rfl rfl (fun w hm => ?_)
          exact ⟨rfl, hm.below⟩
        ·
          refine V_w0.q (QY_pick_false rfl rfl) rfl ?_
          refine V_w0.q (QY_move rfl) rfl ?_
          refine V_walk.yes rfl rfl ?_
          refine V_w0.q (QY_move rfl) rfl ?_
          refine V_walk.yes rfl rfl ?_
          refine V_w0.q (QY_len sl26 rfl) rfl ?_
          refine V_walk.yes rfl rfl ?_
          refine W_gtr V_w0 rfl rfl rfl (fun h69 => ?_) (fun h69 => ?_)
          ·
            refine V_w0.q (QY_pick_false rfl rfl) rfl ?_
            refine V_nil (X_next ?_)
            refine C_true rfl ?_
            refine C_seq ?_
            refine C_region ?_
            refine V_w0.q (QY_assign rfl) rfl ?_
            refine V_nil (X_next ?_)
            refine C_ret (X_then_ret (?_))
            refine X_ret1 rfl rfl (fun w hm => ?_)
            exact ⟨rfl, hm.below⟩
          ·
            refine V_w0.q (QY_pick_false rfl rfl) rfl ?_
            refine V_nil (X_next ?_)
            refine C_false rfl ?_
            refine C_skip (X_next ?_)
            refine C_seq ?_
            refine C_seq ?_
            refine C_region ?_
            refine V_w0.q (QY_move rfl) rfl ?_
            refine V_w0.q (QY_len sl22 rfl) rfl ?_
            refine V_w0.q (QY_arith rfl rfl rfl ⟨by omega, by omega⟩) rfl ?_
            refine V_w0.q (QY_move rfl) rfl ?_
            refine V_w0.q (QY_len sl22 rfl) rfl ?_
            refine V_w0.q (QY_arith rfl rfl rfl ⟨by omega, by omega⟩) rfl ?_
            refine V_w0.q (QY_arith rfl rfl rfl ⟨by omega, by omega⟩) rfl ?_
            refine V_w0.q (QY_move rfl) rfl ?_
            refine V_w0.q (QY_len sl23 rfl) rfl ?_
            refine V_w0.q (QY_arith rfl rfl rfl ⟨by omega, by omega⟩) rfl ?_
            refine V_w0.q (QY_move rfl) rfl ?_
            refine V_w0.q (QY_len sl26 rfl) rfl ?_
            refine V_w0.q (QY_arith rfl rfl rfl ⟨by omega, by omega⟩) rfl ?_
            refine W_gtr V_w0 rfl rfl rfl (fun h84 => ?_) (fun h84 => ?_)
            ·
              refine V_nil (X_next ?_)
              refine C_true rfl ?_
              refine C_seq ?_
              refine C_region ?_
              refine V_w0.q (QY_assign rfl) rfl ?_
              refine V_nil (X_next ?_)
              refine C_ret (X_then_ret (?_))
              refine X_ret1 rfl rfl (fun w hm => ?_)
              exact ⟨rfl, hm.below⟩
            ·
              refine V_nil (X_next ?_)
              refine C_false rfl ?_
              refine C_skip (X_next ?_)
              refine C_seq ?_
              refine C_region ?_
              refine V_w0.q (QY_move rfl) rfl ?_
              refine V_w0.q (QY_move rfl) rfl ?_
              refine V_w0.q (QY_move rfl) rfl ?_
              refine V_call cb9 rfl (T := Int) (Φ := fun y => y = -1 ∨ (y = (nf : Int) - 1 ∧ AdjOK nf no nc f o)) (val := fun y => .int .i32 y) (H' := fun _ => []) (fun w1 hm => (adj9 w1 aF aO aL nf no nc cF cO cL f o (hF.rd.at hm) (hO.rd.at hm) hFw hOw (by omega) (by omega) (by omega)).mono fun e w2 ⟨y, h1, he, hM⟩ => ⟨y, h1, he, hm.join0 hM⟩) rfl ?_
              intro y88 hy88
              refine V_w0.q (QY_assign rfl) rfl ?_
              refine V_nil (X_next ?_)
              refine C_seq ?_
              refine C_seq ?_
              refine C_region ?_
              refine V_w0.q (QY_move rfl) rfl ?_
              refine W_lss V_w0 rfl rfl rfl (fun h90 => ?_) (fun h90 => ?_)
              ·
                refine V_nil (X_next ?_)
                refine C_true rfl ?_
                refine C_seq ?_
                refine C_region ?_
                refine V_w0.q (QY_assign rfl) rfl ?_
                refine V_nil (X_next ?_)
                refine C_ret (X_then_ret (?_))
                refine X_ret1 rfl rfl (fun w hm => ?_)
                exact ⟨rfl, hm.below⟩
              ·
                obtain ⟨hnn, hadj⟩ := hy88.resolve_left (by omega)
                obtain ⟨n, rfl⟩ : ∃ n : Nat, y88 = (n : Int) := ⟨y88.toNat, by omega⟩
                obtain rfl : no = nc := by have := hadj.2.2.2.2.1; omega
                have hnb : (n : Int) ≤ 1024 := by omega
                have hsqn := sq_le hnb
                refine V_nil (X_next ?_)
                refine C_false rfl ?_
                refine C_skip (X_next ?_)
                refine C_seq ?_
                refine C_region ?_
                refine V_w0.q (QY_move rfl) rfl ?_
                refine V_call cb10 rfl (T := Nat × Option Addr) (Φ := fun y => 0 < nf → y.2 = some ⟨y.1, 0, none⟩) (val := fun y => .slice y.2 nf nf) (H' := fun y => (32, ⟨y.1, nf, nf, ints .i32 f⟩) :: []) (fun w1 hm => (clone10 w1 _ _ _ f ((hF.rd).at hm) (by omega)).mono fun e w2 ⟨y, h1, he, hM⟩ => ⟨y, h1, he, hm.join1 32 hM⟩) rfl ?_
                rintro ⟨bF, aF1⟩ h1F
                have h1F : 0 < nf → aF1 = some ⟨bF, 0, none⟩ := h1F
                refine V_w0.q (QY_assign rfl) rfl ?_
                refine V_nil (X_next ?_)
                refine C_seq ?_
                refine C_region ?_
                refine V_w0.q (QY_move rfl) rfl ?_
                refine V_call cb10 rfl (T := Nat × Option Addr) (Φ := fun y => 0 < no → y.2 = some ⟨y.1, 0, none⟩) (val := fun y => .slice y.2 no no) (H' := fun y => (33, ⟨y.1, no, no, ints .i32 o⟩) :: [(32, ⟨bF, nf, nf, ints .i32 f⟩)]) (fun w1 hm => (clone10 w1 _ _ _ o ((hO.rd).at hm) (by omega)).mono fun e w2 ⟨y, h1, he, hM⟩ => ⟨y, h1, he, hm.join1 33 hM⟩) rfl ?_
                rintro ⟨bO, aO1⟩ h1O
                have h1O : 0 < no → aO1 = some ⟨bO, 0, none⟩ := h1O
                refine V_w0.q (QY_assign rfl) rfl ?_
                refine V_nil (X_next ?_)
                refine C_seq ?_
                refine C_region ?_
                refine V_w0.q (QY_move rfl) rfl ?_
                refine V_call cb11 rfl (T := Nat × Option Addr) (Φ := fun y => 0 < no → y.2 = some ⟨y.1, 0, none⟩) (val := fun y => .slice y.2 no no) (H' := fun y => (20, ⟨y.1, no, no, ints .u8 cl⟩) :: [(33, ⟨bO, no, no, ints .i32 o⟩), (32, ⟨bF, nf, nf, ints .i32 f⟩)]) (fun w1 hm => (clone11 w1 _ _ _ cl ((hL.rd).at hm) (by omega)).mono fun e w2 ⟨y, h1, he, hM⟩ => ⟨y, h1, he, hm.join1 20 hM⟩) rfl ?_
                rintro ⟨bK0, aL1⟩ h1L
                have h1L : 0 < no → aL1 = some ⟨bK0, 0, none⟩ := h1L
                refine V_w0.q (QY_assign rfl) rfl ?_
                refine V_nil (X_next ?_)
                refine C_seq ?_
                refine C_region ?_
                refine V_w0.q (QY_move rfl) rfl ?_
                refine V_call cb16 rfl (T := Nat × Option Addr) (Φ := fun y => 0 < nO → y.2 = some ⟨y.1, 0, none⟩) (val := fun y => .slice y.2 nO nO) (H' := fun y => (55, ⟨y.1, nO, nO, bools og⟩) :: [(20, ⟨bK0, no, no, ints .u8 cl⟩), (33, ⟨bO, no, no, ints .i32 o⟩), (32, ⟨bF, nf, nf, ints .i32 f⟩)]) (fun w1 hm => (clone16 w1 _ _ _ og ((hQ.rd).at hm) (by omega)).mono fun e w2 ⟨y, h1, he, hM⟩ => ⟨y, h1, he, hm.join1 55 hM⟩) rfl ?_
                rintro ⟨bo, aQ1⟩ h1Q
                have h1Q : 0 < nO → aQ1 = some ⟨bo, 0, none⟩ := h1Q
                refine V_w0.q (QY_assign rfl) rfl ?_
                refine V_nil (X_next ?_)
                refine C_seq ?_
                refine C_region ?_
                refine V_w0.q (QY_move rfl) rfl ?_
                refine V_make 35 mk22 rfl rfl rfl (by omega) (by omega) (by omega) (by omega) rfl (fun bC => ?_)
                refine V_w0.q (QY_assign rfl) rfl ?_
                refine V_nil (X_next ?_)
                refine C_seq ?_
                refine C_region ?_
                refine V_w0.q (QY_move rfl) rfl ?_
                refine V_make 53 mk22 rfl rfl rfl (by omega) (by omega) (by omega) (by omega) rfl (fun bQ => ?_)
                refine V_w0.q (QY_assign rfl) rfl ?_
                refine V_nil (X_next ?_)
                refine C_seq ?_
                refine C_region ?_
                refine V_w0.q (QY_assign rfl) rfl ?_
                refine V_nil (X_next ?_)
                refine C_seq ?_
                refine C_seq ?_
                refine C_region ?_
                refine V_w0.q (QY_assign rfl) rfl ?_
                refine V_nil (X_next ?_)
                refine C_block ?_
                refine C_loops (T := Int × Int × (Int → Int) × (Int → Int)) (fun (zz9 : Int × Int × (Int → Int) × (Int → Int)) => match zz9 with | (v, re, cp, mm) => [(0, .slice aF1 nf nf), (1, .slice aO1 no no), (2, .slice aL1 no no), (3, .int .u8 al), (4, .slice aQ1 nO nO), (11, .int .i32 (n : Int)), (12, .slice (some ⟨bC, 0, none⟩) n n), (13, .slice (some ⟨bQ, 0, none⟩) n n), (14, .int .i32 re), (15, .int .i32 v)]) (fun (zz9 : Int × Int × (Int → Int) × (Int → Int)) => match zz9 with | (v, re, cp, mm) => [(53, ⟨bQ, n, n, ints .i32 mm⟩), (35, ⟨bC, n, n, ints .i32 cp⟩), (55, ⟨bo, nO, nO, bools og⟩), (20, ⟨bK0, no, no, ints .u8 cl⟩), (33, ⟨bO, no, no, ints .i32 o⟩), (32, ⟨bF, nf, nf, ints .i32 f⟩)]) (fun (zz9 : Int × Int × (Int → Int) × (Int → Int)) => match zz9 with | (v, re, cp, mm) => 0 ≤ v ∧ v ≤ n ∧ IniI (ouOf nO og) v re cp mm) (fun (zz9 : Int × Int × (Int → Int) × (Int → Int)) => match zz9 with | (v, re, cp, mm) => ((n : Int) - v).toNat) (0, 0, fun _ => 0, fun _ => 0) ?_ ?_ ?_ ?_
                · exact ⟨by omega, by omega, IniI.start _⟩
                · exact ⟨rfl, rfl, rfl, rfl, rfl, rfl, rfl, rfl, rfl, rfl, trivial⟩
                · exact ⟨rfl, rfl, rfl, rfl, rfl, rfl, trivial⟩
                rintro ⟨v, re, cp, mm⟩ ⟨hv0, hv1, hini⟩
                show C _ _ _ _ _ _ [(0, .slice aF1 nf nf), (1, .slice aO1 no no), (2, .slice aL1 no no), (3, .int .u8 al), (4, .slice aQ1 nO nO), (11, .int .i32 (n : Int)), (12, .slice (some ⟨bC, 0, none⟩) n n), (13, .slice (some ⟨bQ, 0, none⟩) n n), (14, .int .i32 re), (15, .int .i32 v)] [(53, ⟨bQ, n, n, ints .i32 mm⟩), (35, ⟨bC, n, n, ints .i32 cp⟩), (55, ⟨bo, nO, nO, bools og⟩), (20, ⟨bK0, no, no, ints .u8 cl⟩), (33, ⟨bO, no, no, ints .i32 o⟩), (32, ⟨bF, nf, nf, ints .i32 f⟩)]
                refine C_seq ?_
                refine C_seq ?_
                refine C_region ?_
                refine V_w0.q (QY_move rfl) rfl ?_
                refine V_w0.q (QY_move rfl) rfl ?_
                refine W_lss V_w0 rfl rfl rfl (fun h105 => ?_) (fun h105 => ?_)
                ·
                  have hinb := hini.b hv0
                  refine V_nil (X_next ?_)
                  refine C_true rfl ?_
                  refine C_skip (X_next ?_)
                  refine C_seq ?_
                  refine C_block ?_
                  refine C_seq ?_
                  refine C_region ?_
                  refine V_w0.q (QY_move rfl) rfl ?_
                  refine V_w0.q (QY_move rfl) rfl ?_
                  refine V_w0.q (QY_move rfl) rfl ?_
                  refine V_set (q := 53) rfl rfl rfl rfl rfl (by omega) (by omega) (by omega) sl22 lf21 rfl rfl (upd_ints _ _ _ _) (fun _ => ?_)
                  refine V_nil (X_next ?_)
                  refine C_seq ?_
                  refine C_region ?_
                  refine V_w0.q (QY_move rfl) rfl ?_
                  refine V_w0.q (QY_move rfl) rfl ?_
                  refine V_call cb17 rfl (T := Bool) (Φ := fun y => y = ouOf nO og v) (val := fun y => .bool y) (H' := fun _ => _) (fun w1 hm => (out17 w1 aQ1 nO nO og v ((Rd_sl (q := 55) rfl h1Q (by omega)).at hm) (by omega) (by omega)).mono fun e w2 ⟨y, h1, he, hM⟩ => ⟨y, h1, he, hm.join0 hM⟩) rfl ?_
                  intro y114 hy114
                  refine W_bool V_w0 114 rfl (fun h114 => ?_) (fun h114 => ?_)
                  ·
                    refine V_nil (X_next ?_)
                    refine C_true rfl ?_
                    refine C_region ?_
                    refine V_w0.q (QY_move rfl) rfl ?_
                    refine V_w0.q (QY_move rfl) rfl ?_
                    refine V_set (q := 35) rfl rfl rfl rfl rfl (by omega) (by omega) (by omega) sl22 lf21 rfl rfl (upd_ints _ _ _ _) (fun _ => ?_)
                    refine V_nil (X_block (X_next ?_))
                    refine C_region ?_
                    refine V_w0.q (QY_move rfl) rfl ?_
                    refine V_w0.q (QY_arith rfl rfl rfl ⟨by omega, by omega⟩) rfl ?_
                    refine V_w0.q (QY_assign rfl) rfl ?_
                    refine V_nil (X_then ?_)
                    refine X_round (v + 1, re, upd cp v (-1), upd mm v v) ?_ ?_ ?_ ?_
                    · exact ⟨by omega, by omega, hini.out hv0 (hy114.symm.trans h114)⟩
                    · show ((n : Int) - (v + 1)).toNat < ((n : Int) - v).toNat
                      omega
                    · exact ⟨rfl, rfl, rfl, rfl, rfl, rfl, rfl, rfl, rfl, rfl, trivial⟩
                    · exact ⟨rfl, rfl, rfl, rfl, rfl, rfl, trivial⟩
                  ·
                    refine V_nil (X_next ?_)
                    refine C_false rfl ?_
                    refine C_region ?_
                    refine V_w0.q (QY_move rfl) rfl ?_
                    refine V_w0.q (QY_arith rfl rfl rfl ⟨by omega, by omega⟩) rfl ?_
                    refine V_w0.q (QY_assign rfl) rfl ?_
                    refine V_nil (X_block (X_next ?_))
                    refine C_region ?_
                    refine V_w0.q (QY_move rfl) rfl ?_
                    refine V_w0.q (QY_arith rfl rfl rfl ⟨by omega, by omega⟩) rfl ?_
                    refine V_w0.q (QY_assign rfl) rfl ?_
                    refine V_nil (X_then ?_)
                    refine X_round (v + 1, re + 1, cp, upd mm v v) ?_ ?_ ?_ ?_
                    · exact ⟨by omega, by omega, hini.inn hv0 (hy114.symm.trans h114)⟩
                    · show ((n : Int) - (v + 1)).toNat < ((n : Int) - v).toNat
                      omega
                    · exact ⟨rfl, rfl, rfl, rfl, rfl, rfl, rfl, rfl, rfl, rfl, trivial⟩
                    · exact ⟨rfl, rfl, rfl, rfl, rfl, rfl, trivial⟩
                ·
                  obtain rfl : v = (n : Int) := by omega
                  refine V_nil (X_next ?_)
                  refine C_false rfl ?_
                  refine C_exit (X_then_exit (X_then_exit (X_block_exit (X_next ?_))))
                  refine C_seq ?_
                  refine C_mem (fun w hm => hm.say (q := 35) rfl (n := n) (c := ints .i32 (fun z => if (ouOf nO og) z = true then -1 else 0)) (Int.le_refl _) (fun i i0 i1 => by show Value.int .i32 (if (ouOf nO og) i = true then -1 else 0) = Value.int .i32 (cp i); rw [(hini.2.1 i i0 i1).1])) ?_
                  refine C_mem (fun w hm => hm.say (q := 53) rfl (n := n) (c := fun i => .int .i32 i) (Int.le_refl _) (fun i i0 i1 => by show Value.int .i32 i = Value.int .i32 (mm i); rw [(hini.2.1 i i0 i1).2])) ?_
                  refine C_mem (fun w hm => hm.sub (H' := [(53, ⟨bQ, n, n, fun i => .int .i32 i⟩), (35, ⟨bC, n, n, ints .i32 (fun z => if (ouOf nO og) z = true then -1 else 0)⟩), (55, ⟨bo, nO, nO, bools og⟩), (20, ⟨bK0, no, no, ints .u8 cl⟩), (33, ⟨bO, no, no, ints .i32 o⟩), (32, ⟨bF, nf, nf, ints .i32 f⟩)]) ⟨rfl, rfl, rfl, rfl, rfl, rfl, trivial⟩) ?_
                  refine C_region ?_
                  refine V_w0.q (QY_move rfl) rfl ?_
                  refine V_w0.q (QY_move rfl) rfl ?_
                  refine V_w0.q (QY_move rfl) rfl ?_
                  refine V_w0.q (QY_move rfl) rfl ?_
                  refine V_w0.q (QY_move rfl) rfl ?_
                  refine V_w0.q (QY_move rfl) rfl ?_
                  refine V_call cb18 rfl (T := NewS) (Φ := fun _ => True) (val := fun y => .pointer (some ⟨y.bP, 0, none⟩)) (H' := fun y => [(30, ⟨y.bP, 17, 17, fl [.pointer (some ⟨y.bA, 0, none⟩), .int .u8 al, .int .i32 0, (.slice (some ⟨bC, 0, none⟩) n n), .slice (some ⟨bQ, 0, none⟩) n n, .slice (some ⟨y.bB, 0, none⟩) 1 1, .slice (some ⟨y.bE, 0, none⟩) 1 1, .slice (some ⟨y.bX, 0, none⟩) 1 1, .slice (some ⟨y.bT, 0, none⟩) 1 1, .slice (some ⟨y.bZ, 0, none⟩) 1 1, .slice (some ⟨y.bW, 0, none⟩) 1 1, .slice (some ⟨y.bI, 0, none⟩) n n, .slice (some ⟨y.bJ, 0, none⟩) n n, .slice (some ⟨y.bN, 0, none⟩) n n, .slice none 0 0, .slice none 0 0, .slice none 0 0]⟩), (31, ⟨y.bA, 3, 3, fl [.slice aF1 nf nf, (.slice aO1 no no), .slice (some ⟨y.bL, 0, none⟩) no no]⟩), (34, ⟨y.bL, no, no, ints .u8 cl⟩), (36, ⟨y.bB, 1, 1, fun _ => (.int .i32 0)⟩), (37, ⟨y.bE, 1, 1, fun _ => (.int .i32 (n : Int))⟩), (38, ⟨y.bX, 1, 1, fun _ => (.int .u8 0)⟩), (39, ⟨y.bT, 1, 1, fun _ => (.int .i32 0)⟩), (40, ⟨y.bZ, 1, 1, fun _ => (.int .i64 0)⟩), (41, ⟨y.bW, 1, 1, fun _ => (.int .i64 0)⟩), (47, ⟨y.bI, n, n, fun _ => (.int .i32 0)⟩), (48, ⟨y.bJ, n, n, fun _ => (.int .i32 0)⟩), (42, ⟨y.bN, n, n, fun _ => (.bool false)⟩), (53, ⟨bQ, n, n, fun i => .int .i32 i⟩), (35, ⟨bC, n, n, ints .i32 (fun z => if (ouOf nO og) z = true then -1 else 0)⟩), (55, ⟨bo, nO, nO, bools og⟩), (20, ⟨bK0, no, no, ints .u8 cl⟩), (33, ⟨bO, no, no, ints .i32 o⟩), (32, ⟨bF, nf, nf, ints .i32 f⟩)]) (fun w1 hm => (new18 w1 (.slice aO1 no no) (.slice (some ⟨bC, 0, none⟩) n n) aF1 aL1 (some ⟨bQ, 0, none⟩) nf nf no no n n cl al ((Rd_sl (q := 20) rfl h1L (by omega)).at hm) (by omega) hnn (by omega) rfl rfl).mono fun e w2 ⟨y, h1, he, hM⟩ => ⟨y, h1, he, hm.join hM⟩) rfl ?_
                  rintro ⟨bP, bA, bL, bB, bE, bX, bT, bZ, bW, bI, bJ, bN⟩ _
                  refine V_w0.q (QY_assign rfl) rfl ?_
                  refine V_nil (X_next ?_)
                  refine C_seq ?_
                  refine C_region ?_
                  refine V_w0.q (QY_move rfl) rfl ?_
                  refine V_call cb19 rfl (T := SOut) (Φ := fun y => SRel n f o cl al (ouOf nO og) y.x) (val := fun _ => .tuple #[]) (H' := fun y => [(30, ⟨bP, 17, 17, fl [.pointer (some ⟨bA, 0, none⟩), .int .u8 al, .int .i32 0, .slice (some ⟨bC, 0, none⟩) n n, .slice (some ⟨bQ, 0, none⟩) n n, .slice y.x.aB y.x.K y.x.cB, .slice y.x.aE y.x.K y.x.cE, .slice y.x.aX y.x.K y.x.cX, .slice y.x.aT y.x.K y.x.cT, .slice y.x.aZ y.x.K y.x.cZ, .slice y.x.aW y.x.K y.x.cW, .slice (some ⟨bI, 0, none⟩) n n, .slice (some ⟨bJ, 0, none⟩) n n, .slice (some ⟨bN, 0, none⟩) n n, .slice y.aS y.x.r y.x.cS, .slice y.aK y.x.d y.x.cK, .slice y.x.aD y.x.m y.x.cD]⟩), (31, ⟨bA, 3, 3, fl [.slice aF1 nf nf, .slice aO1 no no, .slice (some ⟨bL, 0, none⟩) no no]⟩), (32, ⟨bF, nf, nf, ints .i32 f⟩), (33, ⟨bO, no, no, ints .i32 o⟩), (34, ⟨bL, no, no, ints .u8 cl⟩), (38, ⟨y.x.bX, y.x.sX, y.x.K, ints .u8 y.x.cls⟩), (39, ⟨y.x.bT, y.x.sT, y.x.K, ints .i32 y.x.cnt⟩), (40, ⟨y.x.bZ, y.x.sZ, y.x.K, ints .i64 y.x.siz⟩), (41, ⟨y.x.bW, y.x.sW, y.x.K, ints .i64 y.x.spt⟩), (48, ⟨bJ, n, n, ints .i32 y.x.low⟩), (35, ⟨bC, n, n, ints .i32 y.x.comp⟩), (36, ⟨y.x.bB, y.x.sB, y.x.K, ints .i32 y.x.beg⟩), (37, ⟨y.x.bE, y.x.sE, y.x.K, ints .i32 y.x.en⟩), (42, ⟨bN, n, n, bools y.x.on⟩), (47, ⟨bI, n, n, ints .i32 (fun _ => 0)⟩), (53, ⟨bQ, n, n, ints .i32 (fun i => if 0 ≤ i ∧ i < (y.x.m : Int) then y.x.fo i else i)⟩)] ++ _) (fun w1 hm => (split19 (Rest w1 [(30, ⟨bP, 17, 17, fl [.pointer (some ⟨bA, 0, none⟩), .int .u8 al, .int .i32 0, .slice (some ⟨bC, 0, none⟩) n n, .slice (some ⟨bQ, 0, none⟩) n n, .slice (some ⟨bB, 0, none⟩) 1 1, .slice (some ⟨bE, 0, none⟩) 1 1, .slice (some ⟨bX, 0, none⟩) 1 1, .slice (some ⟨bT, 0, none⟩) 1 1, .slice (some ⟨bZ, 0, none⟩) 1 1, .slice (some ⟨bW, 0, none⟩) 1 1, .slice (some ⟨bI, 0, none⟩) n n, .slice (some ⟨bJ, 0, none⟩) n n, .slice (some ⟨bN, 0, none⟩) n n, .slice none 0 0, .slice none 0 0, .slice none 0 0]⟩), (31, ⟨bA, 3, 3, fl [.slice aF1 nf nf, .slice aO1 no no, .slice (some ⟨bL, 0, none⟩) no no]⟩), (32, ⟨bF, nf, nf, ints .i32 f⟩), (33, ⟨bO, no, no, ints .i32 o⟩), (34, ⟨bL, no, no, ints .u8 cl⟩), (35, ⟨bC, n, n, ints .i32 (fun v => if (ouOf nO og) v = true then -1 else 0)⟩), (36, ⟨bB, 1, 1, fun _ => .int .i32 0⟩), (37, ⟨bE, 1, 1, fun _ => .int .i32 (n : Int)⟩), (38, ⟨bX, 1, 1, fun _ => .int .u8 0⟩), (39, ⟨bT, 1, 1, fun _ => .int .i32 0⟩), (40, ⟨bZ, 1, 1, fun _ => .int .i64 0⟩), (41, ⟨bW, 1, 1, fun _ => .int .i64 0⟩), (47, ⟨bI, n, n, fun _ => .int .i32 0⟩), (48, ⟨bJ, n, n, fun _ => .int .i32 0⟩), (42, ⟨bN, n, n, fun _ => .bool false⟩), (53, ⟨bQ, n, n, fun i => .int .i32 i⟩)]) w1 bP bA nf no n bF bO bL bC bI bJ bN bQ bB bE bX bT bZ bW aF1 aO1 f o cl al (ouOf nO og) h1F h1O hadj hnn (by omega) (by omega) w1 (hm.lend (fun q9 k9 hq => SubH.look (L' := [(30, ⟨bP, 17, 17, fl [.pointer (some ⟨bA, 0, none⟩), .int .u8 al, .int .i32 0, .slice (some ⟨bC, 0, none⟩) n n, .slice (some ⟨bQ, 0, none⟩) n n, .slice (some ⟨bB, 0, none⟩) 1 1, .slice (some ⟨bE, 0, none⟩) 1 1, .slice (some ⟨bX, 0, none⟩) 1 1, .slice (some ⟨bT, 0, none⟩) 1 1, .slice (some ⟨bZ, 0, none⟩) 1 1, .slice (some ⟨bW, 0, none⟩) 1 1, .slice (some ⟨bI, 0, none⟩) n n, .slice (some ⟨bJ, 0, none⟩) n n, .slice (some ⟨bN, 0, none⟩) n n, .slice none 0 0, .slice none 0 0, .slice none 0 0]⟩), (31, ⟨bA, 3, 3, fl [.slice aF1 nf nf, .slice aO1 no no, .slice (some ⟨bL, 0, none⟩) no no]⟩), (32, ⟨bF, nf, nf, ints .i32 f⟩), (33, ⟨bO, no, no, ints .i32 o⟩), (34, ⟨bL, no, no, ints .u8 cl⟩), (35, ⟨bC, n, n, ints .i32 (fun v => if (ouOf nO og) v = true then -1 else 0)⟩), (36, ⟨bB, 1, 1, fun _ => .int .i32 0⟩), (37, ⟨bE, 1, 1, fun _ => .int .i32 (n : Int)⟩), (38, ⟨bX, 1, 1, fun _ => .int .u8 0⟩), (39, ⟨bT, 1, 1, fun _ => .int .i32 0⟩), (40, ⟨bZ, 1, 1, fun _ => .int .i64 0⟩), (41, ⟨bW, 1, 1, fun _ => .int .i64 0⟩), (47, ⟨bI, n, n, fun _ => .int .i32 0⟩), (48, ⟨bJ, n, n, fun _ => .int .i32 0⟩), (42, ⟨bN, n, n, fun _ => .bool false⟩), (53, ⟨bQ, n, n, fun i => .int .i32 i⟩)]) ⟨rfl, rfl, rfl, rfl, rfl, rfl, rfl, rfl, rfl, rfl, rfl, rfl, rfl, rfl, rfl, rfl, trivial⟩ hq))).mono fun e w2 ⟨y, h1, he, hM⟩ => ⟨y, h1, he, hm.back (fun q9 k9 hq => SubH.look (L' := [(30, ⟨bP, 17, 17, fl [.pointer (some ⟨bA, 0, none⟩), .int .u8 al, .int .i32 0, .slice (some ⟨bC, 0, none⟩) n n, .slice (some ⟨bQ, 0, none⟩) n n, .slice (some ⟨bB, 0, none⟩) 1 1, .slice (some ⟨bE, 0, none⟩) 1 1, .slice (some ⟨bX, 0, none⟩) 1 1, .slice (some ⟨bT, 0, none⟩) 1 1, .slice (some ⟨bZ, 0, none⟩) 1 1, .slice (some ⟨bW, 0, none⟩) 1 1, .slice (some ⟨bI, 0, none⟩) n n, .slice (some ⟨bJ, 0, none⟩) n n, .slice (some ⟨bN, 0, none⟩) n n, .slice none 0 0, .slice none 0 0, .slice none 0 0]⟩), (31, ⟨bA, 3, 3, fl [.slice aF1 nf nf, .slice aO1 no no, .slice (some ⟨bL, 0, none⟩) no no]⟩), (32, ⟨bF, nf, nf, ints .i32 f⟩), (33, ⟨bO, no, no, ints .i32 o⟩), (34, ⟨bL, no, no, ints .u8 cl⟩), (35, ⟨bC, n, n, ints .i32 (fun v => if (ouOf nO og) v = true then -1 else 0)⟩), (36, ⟨bB, 1, 1, fun _ => .int .i32 0⟩), (37, ⟨bE, 1, 1, fun _ => .int .i32 (n : Int)⟩), (38, ⟨bX, 1, 1, fun _ => .int .u8 0⟩), (39, ⟨bT, 1, 1, fun _ => .int .i32 0⟩), (40, ⟨bZ, 1, 1, fun _ => .int .i64 0⟩), (41, ⟨bW, 1, 1, fun _ => .int .i64 0⟩), (47, ⟨bI, n, n, fun _ => .int .i32 0⟩), (48, ⟨bJ, n, n, fun _ => .int .i32 0⟩), (42, ⟨bN, n, n, fun _ => .bool false⟩), (53, ⟨bQ, n, n, fun i => .int .i32 i⟩)]) ⟨rfl, rfl, rfl, rfl, rfl, rfl, rfl, rfl, rfl, rfl, rfl, rfl, rfl, rfl, rfl, rfl, trivial⟩ hq) (keys_sub rfl) hM⟩) rfl ?_
                  rintro ⟨x, aS, aK⟩ hx
                  have hx : SRel n f o cl al (ouOf nO og) x := hx
                  refine V_nil (X_next ?_)
                  refine C_cut (T := Unit) (fun (u0 : Unit) => [(0, .slice aF1 nf nf), (1, .slice aO1 no no), (2, .slice aL1 no no), (3, .int .u8 al), (4, .slice aQ1 nO nO), (11, .int .i32 (n : Int)), (14, .int .i32 re), (17, .slice (some ⟨bC, 0, none⟩) n n), (18, .slice (some ⟨bQ, 0, none⟩) n n), (19, .slice x.aB x.K x.cB), (20, .slice x.aE x.K x.cE), (21, .slice (some ⟨bI, 0, none⟩) n n), (22, .slice (some ⟨bN, 0, none⟩) n n), (23, .slice aS x.r x.cS)]) (fun (u0 : Unit) => [(55, ⟨bo, nO, nO, bools og⟩), (20, ⟨bK0, no, no, ints .u8 cl⟩), (33, ⟨bO, no, no, ints .i32 o⟩), (32, ⟨bF, nf, nf, ints .i32 f⟩), (35, ⟨bC, n, n, ints .i32 x.comp⟩), (36, ⟨x.bB, x.sB, x.K, ints .i32 x.beg⟩), (37, ⟨x.bE, x.sE, x.K, ints .i32 x.en⟩), (42, ⟨bN, n, n, bools x.on⟩), (47, ⟨bI, n, n, ints .i32 (fun _ => 0)⟩), (53, ⟨bQ, n, n, ints .i32 (fun i => if 0 ≤ i ∧ i < (x.m : Int) then x.fo i else i)⟩)]) (fun (u0 : Unit) => True) ?_ ?_
                  ·
                    refine C_region ?_
                    refine V_w0.q (QY_move rfl) rfl ?_
                    refine V_call cb20 rfl (T := Unit) (Φ := fun _ => True) (val := fun _ => .tuple [.slice (some ⟨bC, 0, none⟩) n n, .slice (some ⟨bQ, 0, none⟩) n n, .slice x.aB x.K x.cB, .slice x.aE x.K x.cE, .slice (some ⟨bI, 0, none⟩) n n, .slice (some ⟨bN, 0, none⟩) n n, .slice aS x.r x.cS].toArray) (H' := fun y => [(30, ⟨bP, 17, 17, fl [.pointer (some ⟨bA, 0, none⟩), .int .u8 al, .int .i32 0, .slice (some ⟨bC, 0, none⟩) n n, .slice (some ⟨bQ, 0, none⟩) n n, .slice x.aB x.K x.cB, .slice x.aE x.K x.cE, .slice x.aX x.K x.cX, .slice x.aT x.K x.cT, .slice x.aZ x.K x.cZ, .slice x.aW x.K x.cW, .slice (some ⟨bI, 0, none⟩) n n, .slice (some ⟨bJ, 0, none⟩) n n, .slice (some ⟨bN, 0, none⟩) n n, .slice aS x.r x.cS, .slice aK x.d x.cK, .slice x.aD x.m x.cD]⟩)] ++ _) (fun w1 hm => (out20 (Rest w1 [(30, ⟨bP, 17, 17, fl [.pointer (some ⟨bA, 0, none⟩), .int .u8 al, .int .i32 0, .slice (some ⟨bC, 0, none⟩) n n, .slice (some ⟨bQ, 0, none⟩) n n, .slice x.aB x.K x.cB, .slice x.aE x.K x.cE, .slice x.aX x.K x.cX, .slice x.aT x.K x.cT, .slice x.aZ x.K x.cZ, .slice x.aW x.K x.cW, .slice (some ⟨bI, 0, none⟩) n n, .slice (some ⟨bJ, 0, none⟩) n n, .slice (some ⟨bN, 0, none⟩) n n, .slice aS x.r x.cS, .slice aK x.d x.cK, .slice x.aD x.m x.cD]⟩)]) w1 bP _ _ _ _ _ _ _ _ _ _ _ _ _ _ _ _ _ w1 (hm.lend (fun q9 k9 hq => SubH.look (L' := [(30, ⟨bP, 17, 17, fl [.pointer (some ⟨bA, 0, none⟩), .int .u8 al, .int .i32 0, .slice (some ⟨bC, 0, none⟩) n n, .slice (some ⟨bQ, 0, none⟩) n n, .slice x.aB x.K x.cB, .slice x.aE x.K x.cE, .slice x.aX x.K x.cX, .slice x.aT x.K x.cT, .slice x.aZ x.K x.cZ, .slice x.aW x.K x.cW, .slice (some ⟨bI, 0, none⟩) n n, .slice (some ⟨bJ, 0, none⟩) n n, .slice (some ⟨bN, 0, none⟩) n n, .slice aS x.r x.cS, .slice aK x.d x.cK, .slice x.aD x.m x.cD]⟩)]) ⟨rfl, trivial⟩ hq))).mono fun e w2 ⟨y, h1, he, hM⟩ => ⟨y, h1, he, hm.back (fun q9 k9 hq => SubH.look (L' := [(30, ⟨bP, 17, 17, fl [.pointer (some ⟨bA, 0, none⟩), .int .u8 al, .int .i32 0, .slice (some ⟨bC, 0, none⟩) n n, .slice (some ⟨bQ, 0, none⟩) n n, .slice x.aB x.K x.cB, .slice x.aE x.K x.cE, .slice x.aX x.K x.cX, .slice x.aT x.K x.cT, .slice x.aZ x.K x.cZ, .slice x.aW x.K x.cW, .slice (some ⟨bI, 0, none⟩) n n, .slice (some ⟨bJ, 0, none⟩) n n, .slice (some ⟨bN, 0, none⟩) n n, .slice aS x.r x.cS, .slice aK x.d x.cK, .slice x.aD x.m x.cD]⟩)]) ⟨rfl, trivial⟩ hq) (keys_sub rfl) hM⟩) rfl ?_
                    intro _ _
                    refine V_w0.q (QY_move rfl) rfl ?_
                    refine V_w0.q (QY_extract rfl rfl) rfl ?_
                    refine V_w0.q (QY_extract rfl rfl) rfl ?_
                    refine V_w0.q (QY_extract rfl rfl) rfl ?_
                    refine V_w0.q (QY_extract rfl rfl) rfl ?_
                    refine V_w0.q (QY_extract rfl rfl) rfl ?_
                    refine V_w0.q (QY_extract rfl rfl) rfl ?_
                    refine V_w0.q (QY_extract rfl rfl) rfl ?_
                    refine V_w0.q (QY_assign rfl) rfl ?_
                    refine V_w0.q (QY_assign rfl) rfl ?_
                    refine V_w0.q (QY_assign rfl) rfl ?_
                    refine V_w0.q (QY_assign rfl) rfl ?_
                    refine V_w0.q (QY_assign rfl) rfl ?_
                    refine V_w0.q (QY_assign rfl) rfl ?_
                    refine V_w0.q (QY_assign rfl) rfl ?_
                    refine V_nil (X_then ?_)
                    refine X_cut () ?_ ?_ ?_
                    · trivial
                    · exact ⟨rfl, rfl, rfl, rfl, rfl, rfl, rfl, rfl, rfl, rfl, rfl, rfl, rfl, rfl, trivial⟩
                    · exact ⟨rfl, rfl, rfl, rfl, rfl, rfl, rfl, rfl, rfl, rfl, trivial⟩
                  rintro u0 _
                  show C _ _ _ _ _ _ [(0, .slice aF1 nf nf), (1, .slice aO1 no no), (2, .slice aL1 no no), (3, .int .u8 al), (4, .slice aQ1 nO nO), (11, .int .i32 (n : Int)), (14, .int .i32 re), (17, .slice (some ⟨bC, 0, none⟩) n n), (18, .slice (some ⟨bQ, 0, none⟩) n n), (19, .slice x.aB x.K x.cB), (20, .slice x.aE x.K x.cE), (21, .slice (some ⟨bI, 0, none⟩) n n), (22, .slice (some ⟨bN, 0, none⟩) n n), (23, .slice aS x.r x.cS)] [(55, ⟨bo, nO, nO, bools og⟩), (20, ⟨bK0, no, no, ints .u8 cl⟩), (33, ⟨bO, no, no, ints .i32 o⟩), (32, ⟨bF, nf, nf, ints .i32 f⟩), (35, ⟨bC, n, n, ints .i32 x.comp⟩), (36, ⟨x.bB, x.sB, x.K, ints .i32 x.beg⟩), (37, ⟨x.bE, x.sE, x.K, ints .i32 x.en⟩), (42, ⟨bN, n, n, bools x.on⟩), (47, ⟨bI, n, n, ints .i32 (fun _ => 0)⟩), (53, ⟨bQ, n, n, ints .i32 (fun i => if 0 ≤ i ∧ i < (x.m : Int) then x.fo i else i)⟩)]
                  have hK1 := hx.tk.K1
                  have hKm := hx.tk.Km
                  have hr0 := hx.r0
                  have hmn : (x.m : Int) ≤ n := by
                    have := hini.b hv0
                    have h2 := hx.cnt
                    rw [hini.1] at this
                    have h3 : ((n : Int)).toNat = n := by omega
                    rw [h3] at this
                    omega
                  refine C_seq ?_
                  refine C_region ?_
                  refine V_w0.q (QY_move rfl) rfl ?_
                  refine V_w0.q (QY_len sl22 rfl) rfl ?_
                  refine V_w0.q (QY_conv it3 it21 rfl ⟨by omega, by omega⟩) rfl ?_
                  refine V_w0.q (QY_arith rfl rfl rfl ⟨by omega, by omega⟩) rfl ?_
                  refine V_w0.q (QY_assign rfl) rfl ?_
                  refine V_nil (X_next ?_)
                  refine C_seq ?_
                  refine C_seq ?_
                  refine C_region ?_
                  refine V_w0.q (QY_move rfl) rfl ?_
                  refine W_lss V_w0 rfl rfl rfl (fun h144 => False.elim (by omega)) (fun h144 => ?_)
                  refine V_w0.q (QY_move rfl) rfl ?_
                  refine V_walk.yes rfl rfl ?_
                  refine V_w0.q (QY_move rfl) rfl ?_
                  refine V_walk.yes rfl rfl ?_
                  refine V_w0.q (QY_len sl22 rfl) rfl ?_
                  refine V_walk.yes rfl rfl ?_
                  refine V_w0.q (QY_move rfl) rfl ?_
                  refine V_walk.yes rfl rfl ?_
                  refine V_w0.q (QY_len sl22 rfl) rfl ?_
                  refine V_walk.yes rfl rfl ?_
                  refine W_neq V_w0 rfl rfl rfl (fun h150 => False.elim (h150 rfl)) (fun h150 => ?_)
                  refine V_w0.q (QY_pick_false rfl rfl) rfl ?_
                  refine V_w0.q (QY_move rfl) rfl ?_
                  refine V_walk.yes rfl rfl ?_
                  refine V_w0.q (QY_move rfl) rfl ?_
                  refine V_walk.yes rfl rfl ?_
                  refine V_w0.q (QY_len sl22 rfl) rfl ?_
                  refine V_walk.yes rfl rfl ?_
                  refine V_w0.q (QY_conv it3 it21 rfl ⟨by omega, by omega⟩) rfl ?_
                  refine V_walk.yes rfl rfl ?_
                  refine V_w0.q (QY_move rfl) rfl ?_
                  refine V_walk.yes rfl rfl ?_
                  refine W_neq V_w0 rfl rfl rfl (fun h157 => False.elim (by omega)) (fun h157 => ?_)
                  refine V_w0.q (QY_pick_false rfl rfl) rfl ?_
                  refine V_w0.q (QY_move rfl) rfl ?_
                  refine V_walk.yes rfl rfl ?_
                  refine V_w0.q (QY_move rfl) rfl ?_
                  refine V_walk.yes rfl rfl ?_
                  refine V_w0.q (QY_len sl22 rfl) rfl ?_
                  refine V_walk.yes rfl rfl ?_
                  refine V_w0.q (QY_conv it3 it21 rfl ⟨by omega, by omega⟩) rfl ?_
                  refine V_walk.yes rfl rfl ?_
                  refine V_w0.q (QY_move rfl) rfl ?_
                  refine V_walk.yes rfl rfl ?_
                  refine W_neq V_w0 rfl rfl rfl (fun h164 => False.elim (by omega)) (fun h164 => ?_)
                  refine V_w0.q (QY_pick_false rfl rfl) rfl ?_
                  refine V_w0.q (QY_move rfl) rfl ?_
                  refine V_walk.yes rfl rfl ?_
                  refine V_w0.q (QY_move rfl) rfl ?_
                  refine V_walk.yes rfl rfl ?_
                  refine V_w0.q (QY_len sl22 rfl) rfl ?_
                  refine V_walk.yes rfl rfl ?_
                  refine V_w0.q (QY_conv it3 it21 rfl ⟨by omega, by omega⟩) rfl ?_
                  refine V_walk.yes rfl rfl ?_
                  refine V_w0.q (QY_move rfl) rfl ?_
                  refine V_walk.yes rfl rfl ?_
                  refine W_neq V_w0 rfl rfl rfl (fun h171 => False.elim (by omega)) (fun h171 => ?_)
                  refine V_w0.q (QY_pick_false rfl rfl) rfl ?_
                  refine V_w0.q (QY_move rfl) rfl ?_
                  refine V_walk.yes rfl rfl ?_
                  refine V_w0.q (QY_move rfl) rfl ?_
                  refine V_walk.yes rfl rfl ?_
                  refine V_w0.q (QY_len sl26 rfl) rfl ?_
                  refine V_walk.yes rfl rfl ?_
                  refine V_w0.q (QY_conv it3 it21 rfl ⟨by omega, by omega⟩) rfl ?_
                  refine V_walk.yes rfl rfl ?_
                  refine V_w0.q (QY_move rfl) rfl ?_
                  refine V_walk.yes rfl rfl ?_
                  refine W_neq V_w0 rfl rfl rfl (fun h178 => False.elim (by omega)) (fun h178 => ?_)
                  refine V_w0.q (QY_pick_false rfl rfl) rfl ?_
                  refine V_w0.q (QY_move rfl) rfl ?_
                  refine V_walk.yes rfl rfl ?_
                  refine V_w0.q (QY_move rfl) rfl ?_
                  refine V_walk.yes rfl rfl ?_
                  refine V_w0.q (QY_len sl22 rfl) rfl ?_
                  refine V_walk.yes rfl rfl ?_
                  refine W_neq V_w0 rfl rfl rfl (fun h183 => False.elim (by omega)) (fun h183 => ?_)
                  refine V_w0.q (QY_pick_false rfl rfl) rfl ?_
                  refine V_nil (X_next ?_)
                  refine C_false rfl ?_
                  refine C_skip (X_next ?_)
                  refine C_seq ?_
                  refine C_seq ?_
                  refine C_region ?_
                  refine V_w0.q (QY_move rfl) rfl ?_
                  refine W_elem V_w0 rfl rfl (hx.gB.rd (q := 36) rfl (by omega)) (by omega) (by omega) sl22 lf21 rfl rfl (fun _ => ?_)
                  refine W_neq V_w0 rfl rfl rfl (fun h188 => False.elim (h188 hx.tk.b0)) (fun h188 => ?_)
                  refine V_w0.q (QY_move rfl) rfl ?_
                  refine V_walk.yes rfl rfl ?_
                  refine V_w0.q (QY_move rfl) rfl ?_
                  refine V_walk.yes rfl rfl ?_
                  refine W_elem2 V_walk rfl (fun _ => rfl) rfl rfl (hx.gE.rd (q := 37) rfl (by omega)) (by omega) (by omega) sl22 lf21 rfl rfl (fun _ => ?_)
                  refine V_walk.yes rfl rfl ?_
                  refine V_w0.q (QY_move rfl) rfl ?_
                  refine V_walk.yes rfl rfl ?_
                  refine W_neq V_w0 rfl rfl rfl (fun h194 => False.elim (h194 hx.tk.e0)) (fun h194 => ?_)
                  refine V_w0.q (QY_pick_false rfl rfl) rfl ?_
                  refine V_nil (X_next ?_)
                  refine C_false rfl ?_
                  refine C_skip (X_next ?_)
                  refine C_seq ?_
                  refine C_region ?_
                  refine V_w0.q (QY_move rfl) rfl ?_
                  refine V_w0.q (QY_arith rfl rfl rfl ⟨by omega, by omega⟩) rfl ?_
                  refine V_make 54 mk22 rfl rfl rfl (by omega) (by omega) (by omega) (by omega) rfl (fun bc => ?_)
                  refine V_w0.q (QY_assign rfl) rfl ?_
                  refine V_nil (X_next ?_)
                  refine C_seq ?_
                  refine C_seq ?_
                  refine C_region ?_
                  refine V_w0.q (QY_assign rfl) rfl ?_
                  refine V_nil (X_next ?_)
                  refine C_block ?_
                  refine C_loops (T := Int × (Int → Int)) (fun (zz9 : Int × (Int → Int)) => match zz9 with | (v, ct) => [(0, .slice aF1 nf nf), (1, .slice aO1 no no), (2, .slice aL1 no no), (3, .int .u8 al), (4, .slice aQ1 nO nO), (11, .int .i32 (n : Int)), (14, .int .i32 re), (17, .slice (some ⟨bC, 0, none⟩) n n), (18, .slice (some ⟨bQ, 0, none⟩) n n), (19, .slice x.aB x.K x.cB), (20, .slice x.aE x.K x.cE), (21, .slice (some ⟨bI, 0, none⟩) n n), (22, .slice (some ⟨bN, 0, none⟩) n n), (23, .slice aS x.r x.cS), (24, .int .i32 ((x.K : Int) - 1)), (25, .slice (some ⟨bc, 0, none⟩) ((x.K : Int) - 1 + 1).toNat ((x.K : Int) - 1 + 1).toNat), (26, .int .i32 v)]) (fun (zz9 : Int × (Int → Int)) => match zz9 with | (v, ct) => [(55, ⟨bo, nO, nO, bools og⟩), (20, ⟨bK0, no, no, ints .u8 cl⟩), (33, ⟨bO, no, no, ints .i32 o⟩), (32, ⟨bF, nf, nf, ints .i32 f⟩), (35, ⟨bC, n, n, ints .i32 x.comp⟩), (36, ⟨x.bB, x.sB, x.K, ints .i32 x.beg⟩), (37, ⟨x.bE, x.sE, x.K, ints .i32 x.en⟩), (42, ⟨bN, n, n, bools x.on⟩), (47, ⟨bI, n, n, ints .i32 (fun _ => 0)⟩), (53, ⟨bQ, n, n, ints .i32 (fun i => if 0 ≤ i ∧ i < (x.m : Int) then x.fo i else i)⟩), (54, ⟨bc, ((x.K : Int) - 1 + 1).toNat, ((x.K : Int) - 1 + 1), ints .i32 ct⟩)]) (fun (zz9 : Int × (Int → Int)) => match zz9 with | (v, ct) => 0 ≤ v ∧ v ≤ n ∧ CntI x.comp x.K v ct) (fun (zz9 : Int × (Int → Int)) => match zz9 with | (v, ct) => ((n : Int) - v).toNat) (0, fun _ => 0) ?_ ?_ ?_ ?_
                  · exact ⟨by omega, by omega, CntI.start _ _⟩
                  · exact ⟨rfl, rfl, rfl, rfl, rfl, rfl, rfl, rfl, rfl, rfl, rfl, rfl, rfl, rfl, rfl, rfl, rfl, trivial⟩
                  · exact ⟨rfl, rfl, rfl, rfl, rfl, rfl, rfl, rfl, rfl, rfl, rfl, trivial⟩
                  rintro ⟨v, ct⟩ ⟨hv0, hv1, hct⟩
                  show C _ _ _ _ _ _ [(0, .slice aF1 nf nf), (1, .slice aO1 no no), (2, .slice aL1 no no), (3, .int .u8 al), (4, .slice aQ1 nO nO), (11, .int .i32 (n : Int)), (14, .int .i32 re), (17, .slice (some ⟨bC, 0, none⟩) n n), (18, .slice (some ⟨bQ, 0, none⟩) n n), (19, .slice x.aB x.K x.cB), (20, .slice x.aE x.K x.cE), (21, .slice (some ⟨bI, 0, none⟩) n n), (22, .slice (some ⟨bN, 0, none⟩) n n), (23, .slice aS x.r x.cS), (24, .int .i32 ((x.K : Int) - 1)), (25, .slice (some ⟨bc, 0, none⟩) ((x.K : Int) - 1 + 1).toNat ((x.K : Int) - 1 + 1).toNat), (26, .int .i32 v)] [(55, ⟨bo, nO, nO, bools og⟩), (20, ⟨bK0, no, no, ints .u8 cl⟩), (33, ⟨bO, no, no, ints .i32 o⟩), (32, ⟨bF, nf, nf, ints .i32 f⟩), (35, ⟨bC, n, n, ints .i32 x.comp⟩), (36, ⟨x.bB, x.sB, x.K, ints .i32 x.beg⟩), (37, ⟨x.bE, x.sE, x.K, ints .i32 x.en⟩), (42, ⟨bN, n, n, bools x.on⟩), (47, ⟨bI, n, n, ints .i32 (fun _ => 0)⟩), (53, ⟨bQ, n, n, ints .i32 (fun i => if 0 ≤ i ∧ i < (x.m : Int) then x.fo i else i)⟩), (54, ⟨bc, ((x.K : Int) - 1 + 1).toNat, ((x.K : Int) - 1 + 1), ints .i32 ct⟩)]
                  refine C_seq ?_
                  refine C_seq ?_
                  refine C_region ?_
                  refine V_w0.q (QY_move rfl) rfl ?_
                  refine V_w0.q (QY_move rfl) rfl ?_
                  refine W_lss V_w0 rfl rfl rfl (fun h201 => ?_) (fun h201 => ?_)
                  ·
                    refine V_nil (X_next ?_)
                    refine C_true rfl ?_
                    refine C_skip (X_next ?_)
                    refine C_seq ?_
                    refine C_block ?_
                    refine C_cut (T := Int → Int) (fun (ct1 : Int → Int) => [(0, .slice aF1 nf nf), (1, .slice aO1 no no), (2, .slice aL1 no no), (3, .int .u8 al), (4, .slice aQ1 nO nO), (11, .int .i32 (n : Int)), (14, .int .i32 re), (17, .slice (some ⟨bC, 0, none⟩) n n), (18, .slice (some ⟨bQ, 0, none⟩) n n), (19, .slice x.aB x.K x.cB), (20, .slice x.aE x.K x.cE), (21, .slice (some ⟨bI, 0, none⟩) n n), (22, .slice (some ⟨bN, 0, none⟩) n n), (23, .slice aS x.r x.cS), (24, .int .i32 ((x.K : Int) - 1)), (25, .slice (some ⟨bc, 0, none⟩) ((x.K : Int) - 1 + 1).toNat ((x.K : Int) - 1 + 1).toNat), (26, .int .i32 v)]) (fun (ct1 : Int → Int) => [(55, ⟨bo, nO, nO, bools og⟩), (20, ⟨bK0, no, no, ints .u8 cl⟩), (33, ⟨bO, no, no, ints .i32 o⟩), (32, ⟨bF, nf, nf, ints .i32 f⟩), (35, ⟨bC, n, n, ints .i32 x.comp⟩), (36, ⟨x.bB, x.sB, x.K, ints .i32 x.beg⟩), (37, ⟨x.bE, x.sE, x.K, ints .i32 x.en⟩), (42, ⟨bN, n, n, bools x.on⟩), (47, ⟨bI, n, n, ints .i32 (fun _ => 0)⟩), (53, ⟨bQ, n, n, ints .i32 (fun i => if 0 ≤ i ∧ i < (x.m : Int) then x.fo i else i)⟩), (54, ⟨bc, ((x.K : Int) - 1 + 1).toNat, ((x.K : Int) - 1 + 1), ints .i32 ct1⟩)]) (fun (ct1 : Int → Int) => CntI x.comp x.K (v + 1) ct1) ?_ ?_
                    ·
                      refine C_seq ?_
                      refine C_region ?_
                      refine V_w0.q (QY_move rfl) rfl ?_
                      refine V_w0.q (QY_move rfl) rfl ?_
                      refine V_call cb17 rfl (T := Bool) (Φ := fun y => y = ouOf nO og v) (val := fun y => .bool y) (H' := fun _ => _) (fun w1 hm => (out17 w1 aQ1 nO nO og v ((Rd_sl (q := 55) rfl h1Q (by omega)).at hm) (by omega) (by omega)).mono fun e w2 ⟨y, h1, he, hM⟩ => ⟨y, h1, he, hm.join0 hM⟩) rfl ?_
                      intro y206 hy206
                      refine W_bool V_w0 206 rfl (fun h206 => ?_) (fun h206 => ?_)
                      ·
                        have hvo : ¬ AL n (ouOf nO og) v := fun ha => by have h3 := ha.2.2; rw [← hy206, h206] at h3; cases h3
                        have hco := hx.tk.cO v hv0 (by omega) hvo
                        refine V_nil (X_next ?_)
                        refine C_true rfl ?_
                        refine C_seq ?_
                        refine C_region ?_
                        refine V_w0.q (QY_move rfl) rfl ?_
                        refine V_w0.q (QY_move rfl) rfl ?_
                        refine W_elem V_w0 rfl rfl (Rd_own (q := 35) rfl (by omega)) (by omega) (by omega) sl22 lf21 rfl rfl (fun _ => ?_)
                        refine W_neq V_w0 rfl rfl rfl (fun h211 => False.elim (h211 hco)) (fun h211 => ?_)
                        refine V_nil (X_next ?_)
                        refine C_false rfl ?_
                        refine C_skip (X_then ?_)
                        refine X_cut ct ?_ ?_ ?_
                        · exact hct.out hv0 hco
                        · exact ⟨rfl, rfl, rfl, rfl, rfl, rfl, rfl, rfl, rfl, rfl, rfl, rfl, rfl, rfl, rfl, rfl, rfl, trivial⟩
                        · exact ⟨rfl, rfl, rfl, rfl, rfl, rfl, rfl, rfl, rfl, rfl, rfl, trivial⟩
                      ·
                        have hc1 := hx.all v ⟨hv0, by omega, hy206.symm.trans h206⟩
                        have hc2 := (hx.tk.tA v hc1).2
                        have hcb := hct.b hv0 hc1 hc2
                        refine V_nil (X_next ?_)
                        refine C_false rfl ?_
                        refine C_seq ?_
                        refine C_region ?_
                        refine V_w0.q (QY_move rfl) rfl ?_
                        refine V_w0.q (QY_move rfl) rfl ?_
                        refine W_elem V_w0 rfl rfl (Rd_own (q := 35) rfl (by omega)) (by omega) (by omega) sl22 lf21 rfl rfl (fun _ => ?_)
                        refine V_w0.q (QY_assign rfl) rfl ?_
                        refine V_nil (X_next ?_)
                        refine C_seq ?_
                        refine C_seq ?_
                        refine C_region ?_
                        refine V_w0.q (QY_move rfl) rfl ?_
                        refine W_lss V_w0 rfl rfl rfl (fun h217 => False.elim (by omega)) (fun h217 => ?_)
                        refine V_w0.q (QY_move rfl) rfl ?_
                        refine V_walk.yes rfl rfl ?_
                        refine V_w0.q (QY_move rfl) rfl ?_
                        refine V_walk.yes rfl rfl ?_
                        refine V_w0.q (QY_move rfl) rfl ?_
                        refine V_walk.yes rfl rfl ?_
                        refine W_gtr V_w0 rfl rfl rfl (fun h221 => False.elim (by omega)) (fun h221 => ?_)
                        refine V_w0.q (QY_pick_false rfl rfl) rfl ?_
                        refine V_nil (X_next ?_)
                        refine C_false rfl ?_
                        refine C_skip (X_next ?_)
                        refine C_region ?_
                        refine V_w0.q (QY_move rfl) rfl ?_
                        refine V_w0.q (QY_move rfl) rfl ?_
                        refine W_elem V_w0 rfl rfl (Rd_own (q := 54) rfl (by omega)) (by omega) (by omega) sl22 lf21 rfl rfl (fun _ => ?_)
                        refine V_w0.q (QY_arith rfl rfl rfl ⟨by omega, by omega⟩) rfl ?_
                        refine V_set (q := 54) rfl rfl rfl rfl rfl (by omega) (by omega) (by omega) sl22 lf21 rfl rfl (upd_ints _ _ _ _) (fun _ => ?_)
                        refine V_nil (X_then ?_)
                        refine X_cut (upd ct (x.comp v) (ct (x.comp v) + 1)) ?_ ?_ ?_
                        · exact hct.inn hv0
                        · exact ⟨rfl, rfl, rfl, rfl, rfl, rfl, rfl, rfl, rfl, rfl, rfl, rfl, rfl, rfl, rfl, rfl, rfl, trivial⟩
                        · exact ⟨rfl, rfl, rfl, rfl, rfl, rfl, rfl, rfl, rfl, rfl, rfl, trivial⟩
                    rintro ct1 hct1
                    show C _ _ _ _ _ _ [(0, .slice aF1 nf nf), (1, .slice aO1 no no), (2, .slice aL1 no no), (3, .int .u8 al), (4, .slice aQ1 nO nO), (11, .int .i32 (n : Int)), (14, .int .i32 re), (17, .slice (some ⟨bC, 0, none⟩) n n), (18, .slice (some ⟨bQ, 0, none⟩) n n), (19, .slice x.aB x.K x.cB), (20, .slice x.aE x.K x.cE), (21, .slice (some ⟨bI, 0, none⟩) n n), (22, .slice (some ⟨bN, 0, none⟩) n n), (23, .slice aS x.r x.cS), (24, .int .i32 ((x.K : Int) - 1)), (25, .slice (some ⟨bc, 0, none⟩) ((x.K : Int) - 1 + 1).toNat ((x.K : Int) - 1 + 1).toNat), (26, .int .i32 v)] [(55, ⟨bo, nO, nO, bools og⟩), (20, ⟨bK0, no, no, ints .u8 cl⟩), (33, ⟨bO, no, no, ints .i32 o⟩), (32, ⟨bF, nf, nf, ints .i32 f⟩), (35, ⟨bC, n, n, ints .i32 x.comp⟩), (36, ⟨x.bB, x.sB, x.K, ints .i32 x.beg⟩), (37, ⟨x.bE, x.sE, x.K, ints .i32 x.en⟩), (42, ⟨bN, n, n, bools x.on⟩), (47, ⟨bI, n, n, ints .i32 (fun _ => 0)⟩), (53, ⟨bQ, n, n, ints .i32 (fun i => if 0 ≤ i ∧ i < (x.m : Int) then x.fo i else i)⟩), (54, ⟨bc, ((x.K : Int) - 1 + 1).toNat, ((x.K : Int) - 1 + 1), ints .i32 ct1⟩)]
                    refine C_seq ?_
                    refine C_region ?_
                    refine V_w0.q (QY_move rfl) rfl ?_
                    refine V_w0.q (QY_move rfl) rfl ?_
                    refine W_elem V_w0 rfl rfl (Rd_own (q := 47) rfl (by omega)) (by omega) (by omega) sl22 lf21 rfl rfl (fun _ => ?_)
                    refine W_neq V_w0 rfl rfl rfl (fun h233 => False.elim (h233 rfl)) (fun h233 => ?_)
                    refine V_w0.q (QY_move rfl) rfl ?_
                    refine V_walk.yes rfl rfl ?_
                    refine V_w0.q (QY_move rfl) rfl ?_
                    refine V_walk.yes rfl rfl ?_
                    refine V_w0.q (QY_move rfl) rfl ?_
                    refine V_walk.yes rfl rfl ?_
                    refine W_elem2 V_walk rfl (fun _ => rfl) rfl rfl (Rd_own (q := 42) rfl (by omega)) (by omega) (by omega) sl26 lf4 rfl rfl (fun _ => ?_)
                    refine W_bool V_w0 238 rfl (fun h238 => False.elim (by rw [hx.on v] at h238; cases h238)) (fun h238 => ?_)
                    refine V_w0.q (QY_pick_false rfl rfl) rfl ?_
                    refine V_nil (X_next ?_)
                    refine C_false rfl ?_
                    refine C_skip (X_block (X_next ?_))
                    refine C_region ?_
                    refine V_w0.q (QY_move rfl) rfl ?_
                    refine V_w0.q (QY_arith rfl rfl rfl ⟨by omega, by omega⟩) rfl ?_
                    refine V_w0.q (QY_assign rfl) rfl ?_
                    refine V_nil (X_then ?_)
                    refine X_round (v + 1, ct1) ?_ ?_ ?_ ?_
                    · exact ⟨by omega, by omega, hct1⟩
                    · show ((n : Int) - (v + 1)).toNat < ((n : Int) - v).toNat
                      omega
                    · exact ⟨rfl, rfl, rfl, rfl, rfl, rfl, rfl, rfl, rfl, rfl, rfl, rfl, rfl, rfl, rfl, rfl, rfl, trivial⟩
                    · exact ⟨rfl, rfl, rfl, rfl, rfl, rfl, rfl, rfl, rfl, rfl, rfl, trivial⟩
                  ·
                    obtain rfl : v = (n : Int) := by omega
                    refine V_nil (X_next ?_)
                    refine C_false rfl ?_
                    refine C_exit (X_then_exit (X_then_exit (X_block_exit (X_next ?_))))
                    refine C_seq ?_
                    refine C_region ?_
                    refine V_w0.q (QY_move rfl) rfl ?_
                    refine V_make 58 mk26 rfl rfl rfl (by omega) (by omega) (by omega) (by omega) rfl (fun bm => ?_)
                    refine V_w0.q (QY_assign rfl) rfl ?_
                    refine V_nil (X_next ?_)
                    refine C_seq ?_
                    refine C_region ?_
                    refine V_w0.q (QY_assign rfl) rfl ?_
                    refine V_nil (X_next ?_)
                    refine C_seq ?_
                    refine C_seq ?_
                    refine C_region ?_
                    refine V_w0.q (QY_assign rfl) rfl ?_
                    refine V_nil (X_next ?_)
                    refine C_block ?_
                    refine C_loops (T := Int × Int × (Int → Bool)) (fun (zz9 : Int × Int × (Int → Bool)) => match zz9 with | (k, pos, mk) => [(0, .slice aF1 nf nf), (1, .slice aO1 no no), (2, .slice aL1 no no), (3, .int .u8 al), (4, .slice aQ1 nO nO), (11, .int .i32 (n : Int)), (14, .int .i32 re), (17, .slice (some ⟨bC, 0, none⟩) n n), (18, .slice (some ⟨bQ, 0, none⟩) n n), (19, .slice x.aB x.K x.cB), (20, .slice x.aE x.K x.cE), (21, .slice (some ⟨bI, 0, none⟩) n n), (22, .slice (some ⟨bN, 0, none⟩) n n), (23, .slice aS x.r x.cS), (24, .int .i32 ((x.K : Int) - 1)), (25, .slice (some ⟨bc, 0, none⟩) ((x.K : Int) - 1 + 1).toNat ((x.K : Int) - 1 + 1).toNat), (28, .slice (some ⟨bm, 0, none⟩) n n), (29, .int .i32 pos), (30, .int .i32 k)]) (fun (zz9 : Int × Int × (Int → Bool)) => match zz9 with | (k, pos, mk) => [(55, ⟨bo, nO, nO, bools og⟩), (20, ⟨bK0, no, no, ints .u8 cl⟩), (33, ⟨bO, no, no, ints .i32 o⟩), (32, ⟨bF, nf, nf, ints .i32 f⟩), (35, ⟨bC, n, n, ints .i32 x.comp⟩), (36, ⟨x.bB, x.sB, x.K, ints .i32 x.beg⟩), (37, ⟨x.bE, x.sE, x.K, ints .i32 x.en⟩), (42, ⟨bN, n, n, bools x.on⟩), (47, ⟨bI, n, n, ints .i32 (fun _ => 0)⟩), (53, ⟨bQ, n, n, ints .i32 (fun i => if 0 ≤ i ∧ i < (x.m : Int) then x.fo i else i)⟩), (54, ⟨bc, ((x.K : Int) - 1 + 1).toNat, ((x.K : Int) - 1 + 1), ints .i32 ct⟩), (58, ⟨bm, n, n, bools mk⟩)]) (fun (zz9 : Int × Int × (Int → Bool)) => match zz9 with | (k, pos, mk) => 1 ≤ k ∧ k ≤ x.K ∧ pos = (if k = 1 then 0 else x.en (k - 1)) ∧ 0 ≤ pos ∧ pos ≤ x.m ∧ OnI x.fo pos mk) (fun (zz9 : Int × Int × (Int → Bool)) => match zz9 with | (k, pos, mk) => ((x.K : Int) - k).toNat) (1, 0, fun _ => false) ?_ ?_ ?_ ?_
                    · exact ⟨by omega, by omega, rfl, by omega, by omega, OnI.start _⟩
                    · exact ⟨rfl, rfl, rfl, rfl, rfl, rfl, rfl, rfl, rfl, rfl, rfl, rfl, rfl, rfl, rfl, rfl, rfl, rfl, rfl, trivial⟩
                    · exact ⟨rfl, rfl, rfl, rfl, rfl, rfl, rfl, rfl, rfl, rfl, rfl, rfl, trivial⟩
                    rintro ⟨k, pos, mk⟩ ⟨hk0, hk1, hpos, hp0, hpm, hmk⟩
                    show C _ _ _ _ _ _ [(0, .slice aF1 nf nf), (1, .slice aO1 no no), (2, .slice aL1 no no), (3, .int .u8 al), (4, .slice aQ1 nO nO), (11, .int .i32 (n : Int)), (14, .int .i32 re), (17, .slice (some ⟨bC, 0, none⟩) n n), (18, .slice (some ⟨bQ, 0, none⟩) n n), (19, .slice x.aB x.K x.cB), (20, .slice x.aE x.K x.cE), (21, .slice (some ⟨bI, 0, none⟩) n n), (22, .slice (some ⟨bN, 0, none⟩) n n), (23, .slice aS x.r x.cS), (24, .int .i32 ((x.K : Int) - 1)), (25, .slice (some ⟨bc, 0, none⟩) ((x.K : Int) - 1 + 1).toNat ((x.K : Int) - 1 + 1).toNat), (28, .slice (some ⟨bm, 0, none⟩) n n), (29, .int .i32 pos), (30, .int .i32 k)] [(55, ⟨bo, nO, nO, bools og⟩), (20, ⟨bK0, no, no, ints .u8 cl⟩), (33, ⟨bO, no, no, ints .i32 o⟩), (32, ⟨bF, nf, nf, ints .i32 f⟩), (35, ⟨bC, n, n, ints .i32 x.comp⟩), (36, ⟨x.bB, x.sB, x.K, ints .i32 x.beg⟩), (37, ⟨x.bE, x.sE, x.K, ints .i32 x.en⟩), (42, ⟨bN, n, n, bools x.on⟩), (47, ⟨bI, n, n, ints .i32 (fun _ => 0)⟩), (53, ⟨bQ, n, n, ints .i32 (fun i => if 0 ≤ i ∧ i < (x.m : Int) then x.fo i else i)⟩), (54, ⟨bc, ((x.K : Int) - 1 + 1).toNat, ((x.K : Int) - 1 + 1), ints .i32 ct⟩), (58, ⟨bm, n, n, bools mk⟩)]
                    refine C_seq ?_
                    refine C_seq ?_
                    refine C_region ?_
                    refine V_w0.q (QY_move rfl) rfl ?_
                    refine V_w0.q (QY_move rfl) rfl ?_
                    refine W_leq V_w0 rfl rfl rfl (fun h244 => ?_) (fun h244 => ?_)
                    ·
                      have htl := hx.tk.tile k hk0 (by omega)
                      have hbp : x.beg k = pos := by rw [htl.1, hpos]
                      have hcn : ct k = x.en k - x.beg k := (hct k hk0 (by omega)).trans (hx.tk.cnt k hk0 (by omega))
                      refine V_nil (X_next ?_)
                      refine C_true rfl ?_
                      refine C_skip (X_next ?_)
                      refine C_seq ?_
                      refine C_block ?_
                      refine C_seq ?_
                      refine C_seq ?_
                      refine C_draw mix (by kernel_rfl) ?_
                      refine S_w0.q (QY_move rfl) rfl ?_
                      refine S_w0.q (QY_move rfl) rfl ?_
                      refine W_elem S_w0 rfl rfl (hx.gB.rd (q := 36) rfl (by omega)) (by omega) (by omega) sl22 lf21 rfl rfl (fun _ => ?_)
                      refine S_w0.q (QY_move rfl) rfl ?_
                      refine W_neq S_w0 rfl rfl rfl (fun h252 => False.elim (h252 hbp)) (fun h252 => ?_)
                      refine S_w0.q (QY_move rfl) rfl ?_
                      refine S_walk.yes rfl rfl ?_
                      refine S_w0.q (QY_move rfl) rfl ?_
                      refine S_walk.yes rfl rfl ?_
                      refine S_w0.q (QY_move rfl) rfl ?_
                      refine S_walk.yes rfl rfl ?_
                      refine W_elem2 S_walk rfl (fun _ => rfl) rfl rfl (Rd_own (q := 54) rfl (by omega)) (by omega) (by omega) sl22 lf21 rfl rfl (fun _ => ?_)
                      refine S_walk.yes rfl rfl ?_
                      refine W_eql S_w0 rfl rfl rfl (fun h258 => False.elim (by omega)) (fun h258 => ?_)
                      refine S_w0.q (QY_pick_false rfl rfl) rfl ?_
                      refine S_w0.q (QY_move rfl) rfl ?_
                      refine S_walk.yes rfl rfl ?_
                      refine S_w0.q (QY_move rfl) rfl ?_
                      refine S_walk.yes rfl rfl ?_
                      refine S_w0.q (QY_move rfl) rfl ?_
                      refine S_walk.yes rfl rfl ?_
                      refine W_elem2 S_walk rfl (fun _ => rfl) rfl rfl (hx.gE.rd (q := 37) rfl (by omega)) (by omega) (by omega) sl22 lf21 rfl rfl (fun _ => ?_)
                      refine S_walk.yes rfl rfl ?_
                      refine S_w0.q (QY_move rfl) rfl ?_
                      refine S_walk.yes rfl rfl ?_
                      refine S_w0.q (QY_move rfl) rfl ?_
                      refine S_walk.yes rfl rfl ?_
                      refine W_elem2 S_walk rfl (fun _ => rfl) rfl rfl (hx.gB.rd (q := 36) rfl (by omega)) (by omega) (by omega) sl22 lf21 rfl rfl (fun _ => ?_)
                      refine S_walk.yes rfl rfl ?_
                      refine S_w0.q (QY_arith rfl rfl rfl ⟨by omega, by omega⟩) rfl ?_
                      refine S_walk.yes rfl rfl ?_
                      refine S_w0.q (QY_move rfl) rfl ?_
                      refine S_walk.yes rfl rfl ?_
                      refine S_w0.q (QY_move rfl) rfl ?_
                      refine S_walk.yes rfl rfl ?_
                      refine W_elem2 S_walk rfl (fun _ => rfl) rfl rfl (Rd_own (q := 54) rfl (by omega)) (by omega) (by omega) sl22 lf21 rfl rfl (fun _ => ?_)
                      refine S_walk.yes rfl rfl ?_
                      refine W_neq S_w0 rfl rfl rfl (fun h274 => False.elim (by omega)) (fun h274 => ?_)
                      refine S_w0.q (QY_pick_false rfl rfl) rfl ?_
                      refine S_nil (X_next ?_)
                      refine C_false rfl ?_
                      refine C_skip (X_next ?_)
                      refine C_seq ?_
                      refine C_seq ?_
                      refine C_region ?_
                      refine V_w0.q (QY_move rfl) rfl ?_
                      refine V_w0.q (QY_move rfl) rfl ?_
                      refine W_elem V_w0 rfl rfl (hx.gB.rd (q := 36) rfl (by omega)) (by omega) (by omega) sl22 lf21 rfl rfl (fun _ => ?_)
                      refine V_w0.q (QY_assign rfl) rfl ?_
                      refine V_nil (X_next ?_)
                      refine C_block ?_
                      refine C_loops (T := Int × (Int → Bool)) (fun (zz9 : Int × (Int → Bool)) => match zz9 with | (i, mk1) => [(0, .slice aF1 nf nf), (1, .slice aO1 no no), (2, .slice aL1 no no), (3, .int .u8 al), (4, .slice aQ1 nO nO), (11, .int .i32 (n : Int)), (14, .int .i32 re), (17, .slice (some ⟨bC, 0, none⟩) n n), (18, .slice (some ⟨bQ, 0, none⟩) n n), (19, .slice x.aB x.K x.cB), (20, .slice x.aE x.K x.cE), (21, .slice (some ⟨bI, 0, none⟩) n n), (22, .slice (some ⟨bN, 0, none⟩) n n), (23, .slice aS x.r x.cS), (24, .int .i32 ((x.K : Int) - 1)), (25, .slice (some ⟨bc, 0, none⟩) ((x.K : Int) - 1 + 1).toNat ((x.K : Int) - 1 + 1).toNat), (28, .slice (some ⟨bm, 0, none⟩) n n), (29, .int .i32 pos), (30, .int .i32 k), (31, .int .i32 i)]) (fun (zz9 : Int × (Int → Bool)) => match zz9 with | (i, mk1) => [(55, ⟨bo, nO, nO, bools og⟩), (20, ⟨bK0, no, no, ints .u8 cl⟩), (33, ⟨bO, no, no, ints .i32 o⟩), (32, ⟨bF, nf, nf, ints .i32 f⟩), (35, ⟨bC, n, n, ints .i32 x.comp⟩), (36, ⟨x.bB, x.sB, x.K, ints .i32 x.beg⟩), (37, ⟨x.bE, x.sE, x.K, ints .i32 x.en⟩), (42, ⟨bN, n, n, bools x.on⟩), (47, ⟨bI, n, n, ints .i32 (fun _ => 0)⟩), (53, ⟨bQ, n, n, ints .i32 (fun i => if 0 ≤ i ∧ i < (x.m : Int) then x.fo i else i)⟩), (54, ⟨bc, ((x.K : Int) - 1 + 1).toNat, ((x.K : Int) - 1 + 1), ints .i32 ct⟩), (58, ⟨bm, n, n, bools mk1⟩)]) (fun (zz9 : Int × (Int → Bool)) => match zz9 with | (i, mk1) => x.beg k ≤ i ∧ i ≤ x.en k ∧ OnI x.fo i mk1) (fun (zz9 : Int × (Int → Bool)) => match zz9 with | (i, mk1) => (x.en k - i).toNat) (x.beg k, mk) ?_ ?_ ?_ ?_
                      · exact ⟨by omega, by omega, by rw [hbp]; exact hmk⟩
                      · exact ⟨rfl, rfl, rfl, rfl, rfl, rfl, rfl, rfl, rfl, rfl, rfl, rfl, rfl, rfl, rfl, rfl, rfl, rfl, rfl, rfl, trivial⟩
                      · exact ⟨rfl, rfl, rfl, rfl, rfl, rfl, rfl, rfl, rfl, rfl, rfl, rfl, trivial⟩
                      rintro ⟨i, mk1⟩ ⟨hi0, hi1, hmk1⟩
                      show C _ _ _ _ _ _ [(0, .slice aF1 nf nf), (1, .slice aO1 no no), (2, .slice aL1 no no), (3, .int .u8 al), (4, .slice aQ1 nO nO), (11, .int .i32 (n : Int)), (14, .int .i32 re), (17, .slice (some ⟨bC, 0, none⟩) n n), (18, .slice (some ⟨bQ, 0, none⟩) n n), (19, .slice x.aB x.K x.cB), (20, .slice x.aE x.K x.cE), (21, .slice (some ⟨bI, 0, none⟩) n n), (22, .slice (some ⟨bN, 0, none⟩) n n), (23, .slice aS x.r x.cS), (24, .int .i32 ((x.K : Int) - 1)), (25, .slice (some ⟨bc, 0, none⟩) ((x.K : Int) - 1 + 1).toNat ((x.K : Int) - 1 + 1).toNat), (28, .slice (some ⟨bm, 0, none⟩) n n), (29, .int .i32 pos), (30, .int .i32 k), (31, .int .i32 i)] [(55, ⟨bo, nO, nO, bools og⟩), (20, ⟨bK0, no, no, ints .u8 cl⟩), (33, ⟨bO, no, no, ints .i32 o⟩), (32, ⟨bF, nf, nf, ints .i32 f⟩), (35, ⟨bC, n, n, ints .i32 x.comp⟩), (36, ⟨x.bB, x.sB, x.K, ints .i32 x.beg⟩), (37, ⟨x.bE, x.sE, x.K, ints .i32 x.en⟩), (42, ⟨bN, n, n, bools x.on⟩), (47, ⟨bI, n, n, ints .i32 (fun _ => 0)⟩), (53, ⟨bQ, n, n, ints .i32 (fun i => if 0 ≤ i ∧ i < (x.m : Int) then x.fo i else i)⟩), (54, ⟨bc, ((x.K : Int) - 1 + 1).toNat, ((x.K : Int) - 1 + 1), ints .i32 ct⟩), (58, ⟨bm, n, n, bools mk1⟩)]
                      refine C_seq ?_
                      refine C_seq ?_
                      refine C_region ?_
                      refine V_w0.q (QY_move rfl) rfl ?_
                      refine V_w0.q (QY_move rfl) rfl ?_
                      refine V_w0.q (QY_move rfl) rfl ?_
                      refine W_elem V_w0 rfl rfl (hx.gE.rd (q := 37) rfl (by omega)) (by omega) (by omega) sl22 lf21 rfl rfl (fun _ => ?_)
                      refine W_lss V_w0 rfl rfl rfl (fun h285 => ?_) (fun h285 => ?_)
                      ·
                        have hfi := hx.tk.foA i (by omega) (by omega)
                        have hfa := ALn (hx.tk.tA _ hfi).1
                        have hsg := hx.tk.seg k i hk0 (by omega) hi0 (by omega)
                        refine V_nil (X_next ?_)
                        refine C_true rfl ?_
                        refine C_skip (X_next ?_)
                        refine C_seq ?_
                        refine C_block ?_
                        refine C_seq ?_
                        refine C_region ?_
                        refine V_w0.q (QY_move rfl) rfl ?_
                        refine V_w0.q (QY_move rfl) rfl ?_
                        refine W_elem V_w0 rfl rfl (Rd_own (q := 53) rfl (by omega)) (by omega) (by omega) sl22 lf21 rfl rfl (fun _ => ?_)
                        refine W_val V_w0 291 rfl (show Value.int .i32 (if 0 ≤ i ∧ i < (x.m : Int) then x.fo i else i) = .int .i32 (x.fo i) from by rw [if_pos ⟨by omega, by omega⟩]) ?_
                        refine V_w0.q (QY_assign rfl) rfl ?_
                        refine V_nil (X_next ?_)
                        refine C_seq ?_
                        refine C_seq ?_
                        refine C_region ?_
                        refine V_w0.q (QY_move rfl) rfl ?_
                        refine W_lss V_w0 rfl rfl rfl (fun h293 => False.elim (by omega)) (fun h293 => ?_)
                        refine V_w0.q (QY_move rfl) rfl ?_
                        refine V_walk.yes rfl rfl ?_
                        refine V_w0.q (QY_move rfl) rfl ?_
                        refine V_walk.yes rfl rfl ?_
                        refine V_w0.q (QY_move rfl) rfl ?_
                        refine V_walk.yes rfl rfl ?_
                        refine W_geq V_w0 rfl rfl rfl (fun h297 => False.elim (by omega)) (fun h297 => ?_)
                        refine V_w0.q (QY_pick_false rfl rfl) rfl ?_
                        refine V_w0.q (QY_move rfl) rfl ?_
                        refine V_walk.yes rfl rfl ?_
                        refine V_w0.q (QY_move rfl) rfl ?_
                        refine V_walk.yes rfl rfl ?_
                        refine V_w0.q (QY_move rfl) rfl ?_
                        refine V_walk.yes rfl rfl ?_
                        refine W_elem2 V_walk rfl (fun _ => rfl) rfl rfl (Rd_own (q := 58) rfl (by omega)) (by omega) (by omega) sl26 lf4 rfl rfl (fun _ => ?_)
                        refine W_bool V_w0 303 rfl (fun h303 => False.elim (by obtain ⟨j, j0, j1, j2⟩ := (hmk1 _).1 h303; exact hx.tk.inj j i j0 j1 (by omega) j2)) (fun h303 => ?_)
                        refine V_w0.q (QY_pick_false rfl rfl) rfl ?_
                        refine V_w0.q (QY_move rfl) rfl ?_
                        refine V_walk.yes rfl rfl ?_
                        refine V_w0.q (QY_move rfl) rfl ?_
                        refine V_walk.yes rfl rfl ?_
                        refine V_w0.q (QY_move rfl) rfl ?_
                        refine V_walk.yes rfl rfl ?_
                        refine W_elem2 V_walk rfl (fun _ => rfl) rfl rfl (Rd_own (q := 35) rfl (by omega)) (by omega) (by omega) sl22 lf21 rfl rfl (fun _ => ?_)
                        refine V_walk.yes rfl rfl ?_
                        refine V_w0.q (QY_move rfl) rfl ?_
                        refine V_walk.yes rfl rfl ?_
                        refine W_neq V_w0 rfl rfl rfl (fun h311 => False.elim (h311 hsg)) (fun h311 => ?_)
                        refine V_w0.q (QY_pick_false rfl rfl) rfl ?_
                        refine V_nil (X_next ?_)
                        refine C_false rfl ?_
                        refine C_skip (X_next ?_)
                        refine C_region ?_
                        refine V_w0.q (QY_move rfl) rfl ?_
                        refine V_w0.q (QY_move rfl) rfl ?_
                        refine V_set (q := 58) rfl rfl rfl rfl rfl (by omega) (by omega) (by omega) sl26 lf4 rfl rfl (upd_bools _ _ _) (fun _ => ?_)
                        refine V_nil (X_block (X_next ?_))
                        refine C_region ?_
                        refine V_w0.q (QY_move rfl) rfl ?_
                        refine V_w0.q (QY_arith rfl rfl rfl ⟨by omega, by omega⟩) rfl ?_
                        refine V_w0.q (QY_assign rfl) rfl ?_
                        refine V_nil (X_then ?_)
                        refine X_round (i + 1, upd mk1 (x.fo i) true) ?_ ?_ ?_ ?_
                        · exact ⟨by omega, by omega, hmk1.next (by omega)⟩
                        · show (x.en k - (i + 1)).toNat < (x.en k - i).toNat
                          omega
                        · exact ⟨rfl, rfl, rfl, rfl, rfl, rfl, rfl, rfl, rfl, rfl, rfl, rfl, rfl, rfl, rfl, rfl, rfl, rfl, rfl, rfl, trivial⟩
                        · exact ⟨rfl, rfl, rfl, rfl, rfl, rfl, rfl, rfl, rfl, rfl, rfl, rfl, trivial⟩
                      ·
                        have hie : i = x.en k := by omega
                        refine V_nil (X_next ?_)
                        refine C_false rfl ?_
                        refine C_exit (X_then_exit (X_then_exit (X_block_exit (X_next ?_))))
                        refine C_region ?_
                        refine V_w0.q (QY_move rfl) rfl ?_
                        refine V_w0.q (QY_move rfl) rfl ?_
                        refine W_elem V_w0 rfl rfl (hx.gE.rd (q := 37) rfl (by omega)) (by omega) (by omega) sl22 lf21 rfl rfl (fun _ => ?_)
                        refine V_w0.q (QY_assign rfl) rfl ?_
                        refine V_nil (X_block (X_next ?_))
                        refine C_region ?_
                        refine V_w0.q (QY_move rfl) rfl ?_
                        refine V_w0.q (QY_arith rfl rfl rfl ⟨by omega, by omega⟩) rfl ?_
                        refine V_w0.q (QY_assign rfl) rfl ?_
                        refine V_nil (X_then ?_)
                        refine X_round (k + 1, x.en k, mk1) ?_ ?_ ?_ ?_
                        · exact ⟨by omega, by omega, by rw [if_neg (by omega), show k + 1 - 1 = k from by omega], by omega, by omega, by rw [← hie]; exact hmk1⟩
                        · show ((x.K : Int) - (k + 1)).toNat < ((x.K : Int) - k).toNat
                          omega
                        · exact ⟨rfl, rfl, rfl, rfl, rfl, rfl, rfl, rfl, rfl, rfl, rfl, rfl, rfl, rfl, rfl, rfl, rfl, rfl, rfl, trivial⟩
                        · exact ⟨rfl, rfl, rfl, rfl, rfl, rfl, rfl, rfl, rfl, rfl, rfl, rfl, trivial⟩
                    ·
                      have hpe : pos = (x.m : Int) := by
                        obtain rfl : k = (x.K : Int) := by omega
                        rw [hpos, ← hx.tk.last]
                        by_cases e : x.K = 1
                        · rw [if_pos e, if_pos (by omega)]
                        · rw [if_neg e, if_neg (by omega)]
                      refine V_nil (X_next ?_)
                      refine C_false rfl ?_
                      refine C_exit (X_then_exit (X_then_exit (X_block_exit (X_next ?_))))
                      refine C_seq ?_
                      refine C_seq ?_
                      refine C_region ?_
                      refine V_w0.q (QY_move rfl) rfl ?_
                      refine V_w0.q (QY_move rfl) rfl ?_
                      refine W_neq V_w0 rfl rfl rfl (fun h322 => False.elim (h322 (by rw [hpe, hx.cnt, hini.1]; rfl))) (fun h322 => ?_)
                      refine V_nil (X_next ?_)
                      refine C_false rfl ?_
                      refine C_skip (X_next ?_)
                      refine C_seq ?_
                      refine C_region ?_
                      refine V_w0.q (QY_move rfl) rfl ?_
                      refine V_w0.q (QY_conv it21 it3 rfl ⟨by omega, by omega⟩) rfl ?_
                      refine V_w0.q (QY_move rfl) rfl ?_
                      refine V_w0.q (QY_conv it21 it3 rfl ⟨by omega, by omega⟩) rfl ?_
                      refine V_w0.q (QY_arith rfl rfl rfl ⟨by omega, by omega⟩) rfl ?_
                      refine V_make 56 mk26 rfl rfl rfl (by omega) (by omega) (by omega) (by omega) rfl (fun bR => ?_)
                      refine V_w0.q (QY_assign rfl) rfl ?_
                      refine V_nil (X_next ?_)
                      refine C_seq ?_
                      refine C_region ?_
                      refine V_w0.q (QY_assign rfl) rfl ?_
                      refine V_nil (X_next ?_)
                      refine C_seq ?_
                      refine C_seq ?_
                      refine C_mem (fun w hm => hm.none 57 0 (n := ((0 : Nat) : Int)) (Int.le_refl _) (ints .i32 (fun _ => 0))) ?_
                      refine C_region ?_
                      refine V_w0.q (QY_assign rfl) rfl ?_
                      refine V_nil (X_next ?_)
                      refine C_block ?_
                      refine C_loops (T := Int × (Int → Bool) × (Int → Int) × Nat × Nat × Option Addr × Nat) (fun (zz9 : Int × (Int → Bool) × (Int → Int) × Nat × Nat × Option Addr × Nat) => match zz9 with | (s, rm, wk, bW0, sW0, aW0, cW0) => [(0, .slice aF1 nf nf), (1, .slice aO1 no no), (2, .slice aL1 no no), (3, .int .u8 al), (4, .slice aQ1 nO nO), (11, .int .i32 (n : Int)), (17, .slice (some ⟨bC, 0, none⟩) n n), (33, .slice (some ⟨bR, 0, none⟩) ((n : Int) * n).toNat ((n : Int) * n).toNat), (34, .slice aW0 0 cW0), (35, .int .i32 s)]) (fun (zz9 : Int × (Int → Bool) × (Int → Int) × Nat × Nat × Option Addr × Nat) => match zz9 with | (s, rm, wk, bW0, sW0, aW0, cW0) => [(55, ⟨bo, nO, nO, bools og⟩), (20, ⟨bK0, no, no, ints .u8 cl⟩), (33, ⟨bO, no, no, ints .i32 o⟩), (32, ⟨bF, nf, nf, ints .i32 f⟩), (35, ⟨bC, n, n, ints .i32 x.comp⟩), (56, ⟨bR, ((n : Int) * n).toNat, ((n : Int) * n), bools rm⟩), (57, ⟨bW0, sW0, ((0 : Nat) : Int), ints .i32 wk⟩)]) (fun (zz9 : Int × (Int → Bool) × (Int → Int) × Nat × Nat × Option Addr × Nat) => match zz9 with | (s, rm, wk, bW0, sW0, aW0, cW0) => 0 ≤ s ∧ s ≤ n ∧ Rows9 n f o cl al (ouOf nO og) s rm ∧ Gs ⟨bW0, sW0, ((0 : Nat) : Int), ints .i32 wk⟩ 1 0 (.slice aW0 0 cW0)) (fun (zz9 : Int × (Int → Bool) × (Int → Int) × Nat × Nat × Option Addr × Nat) => match zz9 with | (s, rm, wk, bW0, sW0, aW0, cW0) => ((n : Int) - s).toNat) (0, fun _ => false, fun _ => 0, 0, 0, none, 0) ?_ ?_ ?_ ?_
                      · exact ⟨by omega, by omega, ⟨fun s' y a b => by omega, fun s' y _ _ _ _ => rfl⟩, .inl ⟨rfl, rfl, rfl⟩⟩
                      · exact ⟨rfl, rfl, rfl, rfl, rfl, rfl, rfl, rfl, rfl, rfl, trivial⟩
                      · exact ⟨rfl, rfl, rfl, rfl, rfl, rfl, rfl, trivial⟩
                      rintro ⟨s, rm, wk, bW0, sW0, aW0, cW0⟩ ⟨hs0, hs1, hrows, gW0⟩
                      show C _ _ _ _ _ _ [(0, .slice aF1 nf nf), (1, .slice aO1 no no), (2, .slice aL1 no no), (3, .int .u8 al), (4, .slice aQ1 nO nO), (11, .int .i32 (n : Int)), (17, .slice (some ⟨bC, 0, none⟩) n n), (33, .slice (some ⟨bR, 0, none⟩) ((n : Int) * n).toNat ((n : Int) * n).toNat), (34, .slice aW0 0 cW0), (35, .int .i32 s)] [(55, ⟨bo, nO, nO, bools og⟩), (20, ⟨bK0, no, no, ints .u8 cl⟩), (33, ⟨bO, no, no, ints .i32 o⟩), (32, ⟨bF, nf, nf, ints .i32 f⟩), (35, ⟨bC, n, n, ints .i32 x.comp⟩), (56, ⟨bR, ((n : Int) * n).toNat, ((n : Int) * n), bools rm⟩), (57, ⟨bW0, sW0, ((0 : Nat) : Int), ints .i32 wk⟩)]
                      refine C_seq ?_
                      refine C_seq ?_
                      refine C_region ?_
                      refine V_w0.q (QY_move rfl) rfl ?_
                      refine V_w0.q (QY_move rfl) rfl ?_
                      refine W_lss V_w0 rfl rfl rfl (fun h331 => ?_) (fun h331 => ?_)
                      ·
                        have hsq := sq_lt (n := n) hs0 (by omega) hs0 (by omega)
                        refine V_nil (X_next ?_)
                        refine C_true rfl ?_
                        refine C_skip (X_next ?_)
                        refine C_seq ?_
                        refine C_block ?_
                        refine C_seq ?_
                        refine C_seq ?_
                        refine C_region ?_
                        refine V_w0.q (QY_move rfl) rfl ?_
                        refine V_w0.q (QY_move rfl) rfl ?_
                        refine V_call cb17 rfl (T := Bool) (Φ := fun y => y = ouOf nO og s) (val := fun y => .bool y) (H' := fun _ => _) (fun w1 hm => (out17 w1 aQ1 nO nO og s ((Rd_sl (q := 55) rfl h1Q (by omega)).at hm) (by omega) (by omega)).mono fun e w2 ⟨y, h1, he, hM⟩ => ⟨y, h1, he, hm.join0 hM⟩) rfl ?_
                        intro y336 hy336
                        refine W_bool V_w0 336 rfl (fun h336 => ?_) (fun h336 => ?_)
                        ·
                          refine V_nil (X_next ?_)
                          refine C_true rfl ?_
                          refine C_exit (X_then_exit (X_block_exit (X_next ?_)))
                          refine C_region ?_
                          refine V_w0.q (QY_move rfl) rfl ?_
                          refine V_w0.q (QY_arith rfl rfl rfl ⟨by omega, by omega⟩) rfl ?_
                          refine V_w0.q (QY_assign rfl) rfl ?_
                          refine V_nil (X_then ?_)
                          refine X_round (s + 1, rm, wk, bW0, sW0, aW0, cW0) ?_ ?_ ?_ ?_
                          · exact ⟨by omega, by omega, hrows.skip (fun ha => by have h3 := ha.2.2; rw [← hy336, h336] at h3; cases h3), gW0⟩
                          · show ((n : Int) - (s + 1)).toNat < ((n : Int) - s).toNat
                            omega
                          · exact ⟨rfl, rfl, rfl, rfl, rfl, rfl, rfl, rfl, rfl, rfl, trivial⟩
                          · exact ⟨rfl, rfl, rfl, rfl, rfl, rfl, rfl, trivial⟩
                        ·
                          refine V_nil (X_next ?_)
                          refine C_false rfl ?_
                          refine C_skip (X_next ?_)
                          refine C_seq ?_
                          refine C_region ?_
                          refine V_w0.q (QY_move rfl) rfl ?_
                          refine V_w0.q (QY_conv it21 it3 rfl ⟨by omega, by omega⟩) rfl ?_
                          refine V_w0.q (QY_move rfl) rfl ?_
                          refine V_w0.q (QY_conv it21 it3 rfl ⟨by omega, by omega⟩) rfl ?_
                          refine V_w0.q (QY_arith rfl rfl rfl ⟨by omega, by omega⟩) rfl ?_
                          refine V_w0.q (QY_assign rfl) rfl ?_
                          refine V_nil (X_next ?_)
                          refine C_seq ?_
                          refine C_region ?_
                          refine V_w0.q (QY_move rfl) rfl ?_
                          refine V_w0.q (QY_move rfl) rfl ?_
                          refine V_w0.q (QY_move rfl) rfl ?_
                          refine V_w0.q (QY_conv it21 it3 rfl ⟨by omega, by omega⟩) rfl ?_
                          refine V_w0.q (QY_arith rfl rfl rfl ⟨by omega, by omega⟩) rfl ?_
                          refine V_set (q := 56) rfl rfl rfl rfl rfl (by omega) (by omega) (by omega) sl26 lf4 rfl rfl (upd_bools _ _ _) (fun _ => ?_)
                          refine V_nil (X_next ?_)
                          refine C_seq ?_
                          refine C_region ?_
                          refine V_w0.q (QY_move rfl) rfl ?_
                          refine V_w0.q (QY_slice_hi sl22 rfl rfl (by omega) (by omega) (by omega)) rfl ?_
                          refine V_w0.q (QY_move rfl) rfl ?_
                          refine V_app (q := 57) mk22 rfl rfl (fun _ => rfl) gW0 (by omega) rfl rfl (by omega) (by omega) rfl rfl (upd_ints _ _ _ _) ?_
                          intro _ sv2 bW2 sW2 hsW2 gW2
                          obtain ⟨aW2, cW2, rfl⟩ := gW2.slice
                          refine V_w0.q (QY_assign rfl) rfl ?_
                          refine V_nil (X_next ?_)
                          refine C_block ?_
                          refine C_loops (T := (Int → Bool) × (Int → Int) × Nat × Nat × Nat × Option Addr × Nat) (fun (zz9 : (Int → Bool) × (Int → Int) × Nat × Nat × Nat × Option Addr × Nat) => match zz9 with | (rm1, wk1, q, bW1, sW1, aW1, cW1) => [(0, .slice aF1 nf nf), (1, .slice aO1 no no), (2, .slice aL1 no no), (3, .int .u8 al), (4, .slice aQ1 nO nO), (11, .int .i32 (n : Int)), (17, .slice (some ⟨bC, 0, none⟩) n n), (33, .slice (some ⟨bR, 0, none⟩) ((n : Int) * n).toNat ((n : Int) * n).toNat), (34, .slice aW1 q cW1), (35, .int .i32 s), (36, .int .i64 (s * n))]) (fun (zz9 : (Int → Bool) × (Int → Int) × Nat × Nat × Nat × Option Addr × Nat) => match zz9 with | (rm1, wk1, q, bW1, sW1, aW1, cW1) => [(55, ⟨bo, nO, nO, bools og⟩), (20, ⟨bK0, no, no, ints .u8 cl⟩), (33, ⟨bO, no, no, ints .i32 o⟩), (32, ⟨bF, nf, nf, ints .i32 f⟩), (35, ⟨bC, n, n, ints .i32 x.comp⟩), (56, ⟨bR, ((n : Int) * n).toNat, ((n : Int) * n), bools rm1⟩), (57, ⟨bW1, sW1, ((q : Nat) : Int), ints .i32 wk1⟩)]) (fun (zz9 : (Int → Bool) × (Int → Int) × Nat × Nat × Nat × Option Addr × Nat) => match zz9 with | (rm1, wk1, q, bW1, sW1, aW1, cW1) => RowI n f o cl al (ouOf nO og) s rm rm1 wk1 q ∧ 2 * Un n s rm1 + q ≤ 4096 ∧ Gs ⟨bW1, sW1, ((q : Nat) : Int), ints .i32 wk1⟩ 1 q (.slice aW1 q cW1)) (fun (zz9 : (Int → Bool) × (Int → Int) × Nat × Nat × Nat × Option Addr × Nat) => match zz9 with | (rm1, wk1, q, bW1, sW1, aW1, cW1) => (2 * Un n s rm1 + q).toNat) (upd rm (s * n + s) true, upd wk 0 s, 1, bW2, sW2, aW2, cW2) ?_ ?_ ?_ ?_
                          · exact ⟨RowI.start hs0 (by omega) ⟨hs0, by omega, hy336.symm.trans h336⟩ (fun y y0 y1 => hrows.2 s y (Int.le_refl _) (by omega) y0 y1), by have := Un_le n s (upd rm (s * n + s) true); omega, gW2⟩
                          · exact ⟨rfl, rfl, rfl, rfl, rfl, rfl, rfl, rfl, rfl, rfl, rfl, trivial⟩
                          · exact ⟨rfl, rfl, rfl, rfl, rfl, rfl, rfl, trivial⟩
                          rintro ⟨rm1, wk1, q, bW1, sW1, aW1, cW1⟩ ⟨hrow, hub, gW1⟩
                          show C _ _ _ _ _ _ [(0, .slice aF1 nf nf), (1, .slice aO1 no no), (2, .slice aL1 no no), (3, .int .u8 al), (4, .slice aQ1 nO nO), (11, .int .i32 (n : Int)), (17, .slice (some ⟨bC, 0, none⟩) n n), (33, .slice (some ⟨bR, 0, none⟩) ((n : Int) * n).toNat ((n : Int) * n).toNat), (34, .slice aW1 q cW1), (35, .int .i32 s), (36, .int .i64 (s * n))] [(55, ⟨bo, nO, nO, bools og⟩), (20, ⟨bK0, no, no, ints .u8 cl⟩), (33, ⟨bO, no, no, ints .i32 o⟩), (32, ⟨bF, nf, nf, ints .i32 f⟩), (35, ⟨bC, n, n, ints .i32 x.comp⟩), (56, ⟨bR, ((n : Int) * n).toNat, ((n : Int) * n), bools rm1⟩), (57, ⟨bW1, sW1, ((q : Nat) : Int), ints .i32 wk1⟩)]
                          refine C_seq ?_
                          refine C_seq ?_
                          refine C_region ?_
                          refine V_w0.q (QY_move rfl) rfl ?_
                          refine V_w0.q (QY_len sl22 rfl) rfl ?_
                          refine W_gtr V_w0 rfl rfl rfl (fun h355 => ?_) (fun h355 => ?_)
                          ·
                            have hw := hrow.wo ((q : Int) - 1) (by omega) (by omega)
                            obtain ⟨haW, hsW, hcW⟩ := gW1.some (by omega)
                            have hzx : 0 ≤ (wk1 ((q : Int) - 1)) ∧ (wk1 ((q : Int) - 1)) < (n : Int) := ⟨hw.1, hw.2.1⟩
                            have hfb := adj_bounds hadj hzx.1 (by omega)
                            have hfb1 := adj_bounds hadj (show (0 : Int) ≤ (wk1 ((q : Int) - 1)) + 1 by omega) (by omega)
                            have hmono := hadj.2.2.1 (wk1 ((q : Int) - 1)) hzx.1 (by omega)
                            have hub1 := Un_b n s rm1
                            refine V_nil (X_next ?_)
                            refine C_true rfl ?_
                            refine C_skip (X_next ?_)
                            refine C_block ?_
                            refine C_seq ?_
                            refine C_region ?_
                            refine V_w0.q (QY_move rfl) rfl ?_
                            refine V_w0.q (QY_move rfl) rfl ?_
                            refine V_w0.q (QY_len sl22 rfl) rfl ?_
                            refine V_w0.q (QY_arith rfl rfl rfl ⟨by omega, by omega⟩) rfl ?_
                            refine W_elem V_w0 rfl rfl (gW1.rd (q := 57) rfl (by omega)) (by omega) (by omega) sl22 lf21 rfl rfl (fun _ => ?_)
                            refine V_w0.q (QY_assign rfl) rfl ?_
                            refine V_nil (X_next ?_)
                            refine C_seq ?_
                            refine C_region ?_
                            refine V_w0.q (QY_move rfl) rfl ?_
                            refine V_w0.q (QY_move rfl) rfl ?_
                            refine V_w0.q (QY_len sl22 rfl) rfl ?_
                            refine V_w0.q (QY_arith rfl rfl rfl ⟨by omega, by omega⟩) rfl ?_
                            refine V_w0.q (QY_slice_hi sl22 rfl rfl (by omega) (by omega) (by omega)) rfl ?_
                            refine V_w0.q (QY_assign rfl) rfl ?_
                            refine V_nil (X_next ?_)
                            refine C_seq ?_
                            refine C_mem (fun w hm => hm.say (q := 57) rfl (n := ((((q : Int) - 1).toNat : Nat) : Int)) (by show _ ≤ ((q : Nat) : Int); omega) (fun i _ _ => rfl)) ?_
                            refine C_region ?_
                            refine V_w0.q (QY_move rfl) rfl ?_
                            refine V_w0.q (QY_move rfl) rfl ?_
                            refine W_elem V_w0 rfl rfl (Rd_sl (q := 32) rfl h1F (by omega)) (by omega) (by omega) sl22 lf21 rfl rfl (fun _ => ?_)
                            refine V_w0.q (QY_assign rfl) rfl ?_
                            refine V_nil (X_next ?_)
                            refine C_block ?_
                            refine C_loops (T := Int × (Int → Bool) × (Int → Int) × Nat × Nat × Nat × Option Addr × Nat) (fun (zz9 : Int × (Int → Bool) × (Int → Int) × Nat × Nat × Nat × Option Addr × Nat) => match zz9 with | (e, rm2, wk2, q2, bW3, sW3, aW3, cW3) => [(0, .slice aF1 nf nf), (1, .slice aO1 no no), (2, .slice aL1 no no), (3, .int .u8 al), (4, .slice aQ1 nO nO), (11, .int .i32 (n : Int)), (17, .slice (some ⟨bC, 0, none⟩) n n), (33, .slice (some ⟨bR, 0, none⟩) ((n : Int) * n).toNat ((n : Int) * n).toNat), (34, .slice aW3 q2 cW3), (35, .int .i32 s), (36, .int .i64 (s * n)), (37, .int .i32 (wk1 ((q : Int) - 1))), (38, .int .i32 e)]) (fun (zz9 : Int × (Int → Bool) × (Int → Int) × Nat × Nat × Nat × Option Addr × Nat) => match zz9 with | (e, rm2, wk2, q2, bW3, sW3, aW3, cW3) => [(55, ⟨bo, nO, nO, bools og⟩), (20, ⟨bK0, no, no, ints .u8 cl⟩), (33, ⟨bO, no, no, ints .i32 o⟩), (32, ⟨bF, nf, nf, ints .i32 f⟩), (35, ⟨bC, n, n, ints .i32 x.comp⟩), (56, ⟨bR, ((n : Int) * n).toNat, ((n : Int) * n), bools rm2⟩), (57, ⟨bW3, sW3, ((q2 : Nat) : Int), ints .i32 wk2⟩)]) (fun (zz9 : Int × (Int → Bool) × (Int → Int) × Nat × Nat × Nat × Option Addr × Nat) => match zz9 with | (e, rm2, wk2, q2, bW3, sW3, aW3, cW3) => f (wk1 ((q : Int) - 1)) ≤ e ∧ e ≤ f ((wk1 ((q : Int) - 1)) + 1) ∧ RowP n f o cl al (ouOf nO og) s (wk1 ((q : Int) - 1)) e rm rm2 wk2 q2 ∧ rm2 (s * n + (wk1 ((q : Int) - 1))) = true ∧ 2 * Un n s rm2 + q2 ≤ 2 * Un n s rm1 + q - 1 ∧ Gs ⟨bW3, sW3, ((q2 : Nat) : Int), ints .i32 wk2⟩ 1 q2 (.slice aW3 q2 cW3)) (fun (zz9 : Int × (Int → Bool) × (Int → Int) × Nat × Nat × Nat × Option Addr × Nat) => match zz9 with | (e, rm2, wk2, q2, bW3, sW3, aW3, cW3) => (f ((wk1 ((q : Int) - 1)) + 1) - e).toNat) (f (wk1 ((q : Int) - 1)), rm1, wk1, ((q : Int) - 1).toNat, bW1, sW1, aW1, cW1) ?_ ?_ ?_ ?_
                            · exact ⟨Int.le_refl _, hmono, hrow.pop (by omega), hw.2.2, by omega, gW1.shrink (by omega) (by omega)⟩
                            · exact ⟨rfl, rfl, rfl, rfl, rfl, rfl, rfl, rfl, rfl, rfl, rfl, rfl, rfl, trivial⟩
                            · exact ⟨rfl, rfl, rfl, rfl, rfl, rfl, rfl, trivial⟩
                            rintro ⟨e, rm2, wk2, q2, bW3, sW3, aW3, cW3⟩ ⟨he0, he1, hrp, hzm, hun, gW3⟩
                            show C _ _ _ _ _ _ [(0, .slice aF1 nf nf), (1, .slice aO1 no no), (2, .slice aL1 no no), (3, .int .u8 al), (4, .slice aQ1 nO nO), (11, .int .i32 (n : Int)), (17, .slice (some ⟨bC, 0, none⟩) n n), (33, .slice (some ⟨bR, 0, none⟩) ((n : Int) * n).toNat ((n : Int) * n).toNat), (34, .slice aW3 q2 cW3), (35, .int .i32 s), (36, .int .i64 (s * n)), (37, .int .i32 (wk1 ((q : Int) - 1))), (38, .int .i32 e)] [(55, ⟨bo, nO, nO, bools og⟩), (20, ⟨bK0, no, no, ints .u8 cl⟩), (33, ⟨bO, no, no, ints .i32 o⟩), (32, ⟨bF, nf, nf, ints .i32 f⟩), (35, ⟨bC, n, n, ints .i32 x.comp⟩), (56, ⟨bR, ((n : Int) * n).toNat, ((n : Int) * n), bools rm2⟩), (57, ⟨bW3, sW3, ((q2 : Nat) : Int), ints .i32 wk2⟩)]
                            refine C_seq ?_
                            refine C_seq ?_
                            refine C_region ?_
                            refine V_w0.q (QY_move rfl) rfl ?_
                            refine V_w0.q (QY_move rfl) rfl ?_
                            refine V_w0.q (QY_move rfl) rfl ?_
                            refine V_w0.q (QY_arith rfl rfl rfl ⟨by omega, by omega⟩) rfl ?_
                            refine W_elem V_w0 rfl rfl (Rd_sl (q := 32) rfl h1F (by omega)) (by omega) (by omega) sl22 lf21 rfl rfl (fun _ => ?_)
                            refine W_lss V_w0 rfl rfl rfl (fun h377 => ?_) (fun h377 => ?_)
                            ·
                              have hoe := hadj.2.2.2.2.2 e (by omega) (by omega)
                              have hsq2 := sq_lt (n := n) hs0 (by omega) hoe.1 (by omega)
                              have hub2 := Un_b n s rm2
                              refine V_nil (X_next ?_)
                              refine C_true rfl ?_
                              refine C_skip (X_next ?_)
                              refine C_seq ?_
                              refine C_block ?_
                              refine C_seq ?_
                              refine C_seq ?_
                              refine C_region ?_
                              refine V_w0.q (QY_move rfl) rfl ?_
                              refine V_w0.q (QY_move rfl) rfl ?_
                              refine W_elem V_w0 rfl rfl (Rd_sl (q := 20) rfl h1L (by omega)) (by omega) (by omega) sl23 lf5 rfl rfl (fun _ => ?_)
                              refine V_w0.q (QY_move rfl) rfl ?_
                              refine V_w0.q (QY_and rfl rfl) rfl ?_
                              refine W_eql V_w0 rfl rfl rfl (fun h386 => ?_) (fun h386 => ?_)
                              ·
                                refine V_nil (X_next ?_)
                                refine C_true rfl ?_
                                refine C_exit (X_then_exit (X_block_exit (X_next ?_)))
                                refine C_region ?_
                                refine V_w0.q (QY_move rfl) rfl ?_
                                refine V_w0.q (QY_arith rfl rfl rfl ⟨by omega, by omega⟩) rfl ?_
                                refine V_w0.q (QY_assign rfl) rfl ?_
                                refine V_nil (X_then ?_)
                                refine X_round (e + 1, rm2, wk2, q2, bW3, sW3, aW3, cW3) ?_ ?_ ?_ ?_
                                · exact ⟨by omega, by omega, hrp.next (.inl h386), hzm, hun, gW3⟩
                                · show (f ((wk1 ((q : Int) - 1)) + 1) - (e + 1)).toNat < (f ((wk1 ((q : Int) - 1)) + 1) - e).toNat
                                  omega
                                · exact ⟨rfl, rfl, rfl, rfl, rfl, rfl, rfl, rfl, rfl, rfl, rfl, rfl, rfl, trivial⟩
                                · exact ⟨rfl, rfl, rfl, rfl, rfl, rfl, rfl, trivial⟩
                              ·
                                refine V_nil (X_next ?_)
                                refine C_false rfl ?_
                                refine C_skip (X_next ?_)
                                refine C_seq ?_
                                refine C_region ?_
                                refine V_w0.q (QY_move rfl) rfl ?_
                                refine V_w0.q (QY_move rfl) rfl ?_
                                refine W_elem V_w0 rfl rfl (Rd_sl (q := 33) rfl h1O (by omega)) (by omega) (by omega) sl22 lf21 rfl rfl (fun _ => ?_)
                                refine V_w0.q (QY_assign rfl) rfl ?_
                                refine V_nil (X_next ?_)
                                refine C_seq ?_
                                refine C_seq ?_
                                refine C_region ?_
                                refine V_w0.q (QY_move rfl) rfl ?_
                                refine V_w0.q (QY_move rfl) rfl ?_
                                refine V_call cb17 rfl (T := Bool) (Φ := fun y => y = ouOf nO og (o e)) (val := fun y => .bool y) (H' := fun _ => _) (fun w1 hm => (out17 w1 aQ1 nO nO og (o e) ((Rd_sl (q := 55) rfl h1Q (by omega)).at hm) (by omega) (by omega)).mono fun e w2 ⟨y, h1, he, hM⟩ => ⟨y, h1, he, hm.join0 hM⟩) rfl ?_
                                intro y393 hy393
                                refine W_bool V_w0 393 rfl (fun h393 => ?_) (fun h393 => ?_)
                                ·
                                  refine V_w0.q (QY_move rfl) rfl ?_
                                  refine V_walk.no rfl rfl rfl ?_
                                  refine V_walk.no rfl rfl rfl ?_
                                  refine V_walk.no rfl rfl rfl ?_
                                  refine V_walk.no rfl rfl rfl ?_
                                  refine V_walk.no rfl rfl rfl ?_
                                  refine V_walk.no rfl rfl rfl ?_
                                  refine V_walk.no rfl rfl rfl ?_
                                  refine V_w0.q (QY_pick_true rfl rfl) rfl ?_
                                  refine V_nil (X_next ?_)
                                  refine C_true rfl ?_
                                  refine C_exit (X_then_exit (X_block_exit (X_next ?_)))
                                  refine C_region ?_
                                  refine V_w0.q (QY_move rfl) rfl ?_
                                  refine V_w0.q (QY_arith rfl rfl rfl ⟨by omega, by omega⟩) rfl ?_
                                  refine V_w0.q (QY_assign rfl) rfl ?_
                                  refine V_nil (X_then ?_)
                                  refine X_round (e + 1, rm2, wk2, q2, bW3, sW3, aW3, cW3) ?_ ?_ ?_ ?_
                                  · exact ⟨by omega, by omega, hrp.next (.inr (.inl (hy393.symm.trans h393))), hzm, hun, gW3⟩
                                  · show (f ((wk1 ((q : Int) - 1)) + 1) - (e + 1)).toNat < (f ((wk1 ((q : Int) - 1)) + 1) - e).toNat
                                    omega
                                  · exact ⟨rfl, rfl, rfl, rfl, rfl, rfl, rfl, rfl, rfl, rfl, rfl, rfl, rfl, trivial⟩
                                  · exact ⟨rfl, rfl, rfl, rfl, rfl, rfl, rfl, trivial⟩
                                ·
                                  refine V_w0.q (QY_move rfl) rfl ?_
                                  refine V_walk.yes rfl rfl ?_
                                  refine V_w0.q (QY_move rfl) rfl ?_
                                  refine V_walk.yes rfl rfl ?_
                                  refine V_w0.q (QY_move rfl) rfl ?_
                                  refine V_walk.yes rfl rfl ?_
                                  refine V_w0.q (QY_move rfl) rfl ?_
                                  refine V_walk.yes rfl rfl ?_
                                  refine V_w0.q (QY_conv it21 it3 rfl ⟨by omega, by omega⟩) rfl ?_
                                  refine V_walk.yes rfl rfl ?_
                                  refine V_w0.q (QY_arith rfl rfl rfl ⟨by omega, by omega⟩) rfl ?_
                                  refine V_walk.yes rfl rfl ?_
                                  refine W_elem2 V_walk rfl (fun _ => rfl) rfl rfl (Rd_own (q := 56) rfl (by omega)) (by omega) (by omega) sl26 lf4 rfl rfl (fun _ => ?_)
                                  refine W_bool V_w0 401 rfl (fun h401 => ?_) (fun h401 => ?_)
                                  ·
                                    refine V_w0.q (QY_pick_false rfl rfl) rfl ?_
                                    refine V_nil (X_next ?_)
                                    refine C_true rfl ?_
                                    refine C_exit (X_then_exit (X_block_exit (X_next ?_)))
                                    refine C_region ?_
                                    refine V_w0.q (QY_move rfl) rfl ?_
                                    refine V_w0.q (QY_arith rfl rfl rfl ⟨by omega, by omega⟩) rfl ?_
                                    refine V_w0.q (QY_assign rfl) rfl ?_
                                    refine V_nil (X_then ?_)
                                    refine X_round (e + 1, rm2, wk2, q2, bW3, sW3, aW3, cW3) ?_ ?_ ?_ ?_
                                    · exact ⟨by omega, by omega, hrp.next (.inr (.inr h401)), hzm, hun, gW3⟩
                                    · show (f ((wk1 ((q : Int) - 1)) + 1) - (e + 1)).toNat < (f ((wk1 ((q : Int) - 1)) + 1) - e).toNat
                                      omega
                                    · exact ⟨rfl, rfl, rfl, rfl, rfl, rfl, rfl, rfl, rfl, rfl, rfl, rfl, rfl, trivial⟩
                                    · exact ⟨rfl, rfl, rfl, rfl, rfl, rfl, rfl, trivial⟩
                                  ·
                                    refine V_w0.q (QY_pick_false rfl rfl) rfl ?_
                                    refine V_nil (X_next ?_)
                                    refine C_false rfl ?_
                                    refine C_skip (X_next ?_)
                                    refine C_seq ?_
                                    refine C_region ?_
                                    refine V_w0.q (QY_move rfl) rfl ?_
                                    refine V_w0.q (QY_move rfl) rfl ?_
                                    refine V_w0.q (QY_move rfl) rfl ?_
                                    refine V_w0.q (QY_conv it21 it3 rfl ⟨by omega, by omega⟩) rfl ?_
                                    refine V_w0.q (QY_arith rfl rfl rfl ⟨by omega, by omega⟩) rfl ?_
                                    refine V_set (q := 56) rfl rfl rfl rfl rfl (by omega) (by omega) (by omega) sl26 lf4 rfl rfl (upd_bools _ _ _) (fun _ => ?_)
                                    refine V_nil (X_next ?_)
                                    refine C_region ?_
                                    refine V_w0.q (QY_move rfl) rfl ?_
                                    refine V_w0.q (QY_move rfl) rfl ?_
                                    refine V_app (q := 57) mk22 rfl rfl (fun _ => rfl) gW3 (by omega) rfl rfl (by omega) (by omega) rfl rfl (upd_ints _ _ _ _) ?_
                                    intro _ sv4 bW4 sW4 hsW4 gW4
                                    obtain ⟨aW4, cW4, rfl⟩ := gW4.slice
                                    refine V_w0.q (QY_assign rfl) rfl ?_
                                    refine V_nil (X_block (X_next ?_))
                                    refine C_region ?_
                                    refine V_w0.q (QY_move rfl) rfl ?_
                                    refine V_w0.q (QY_arith rfl rfl rfl ⟨by omega, by omega⟩) rfl ?_
                                    refine V_w0.q (QY_assign rfl) rfl ?_
                                    refine V_nil (X_then ?_)
                                    refine X_round (e + 1, upd rm2 (s * n + o e) true, upd wk2 (q2 : Int) (o e), q2 + 1, bW4, sW4, aW4, cW4) ?_ ?_ ?_ ?_
                                    · refine ⟨by omega, by omega, hrp.mark hzx.1 hzx.2 hzm he0 (by omega) h386 hoe.1 (by omega) (hy393.symm.trans h393), ?_, ?_, gW4⟩
                                      · by_cases ej : s * n + (wk1 ((q : Int) - 1)) = s * n + o e
                                        · rw [ej]; exact upd_same _ _ _
                                        · rw [upd_other _ _ _ ej]; exact hzm
                                      · rw [Un_mark hoe.1 (by omega) h401]; omega
                                    · show (f ((wk1 ((q : Int) - 1)) + 1) - (e + 1)).toNat < (f ((wk1 ((q : Int) - 1)) + 1) - e).toNat
                                      omega
                                    · exact ⟨rfl, rfl, rfl, rfl, rfl, rfl, rfl, rfl, rfl, rfl, rfl, rfl, rfl, trivial⟩
                                    · exact ⟨rfl, rfl, rfl, rfl, rfl, rfl, rfl, trivial⟩
                            ·
                              refine V_nil (X_next ?_)
                              refine C_false rfl ?_
                              refine C_exit (X_then_exit (X_then_exit (X_block_exit (X_block (X_then ?_)))))
                              refine X_round (rm2, wk2, q2, bW3, sW3, aW3, cW3) ?_ ?_ ?_ ?_
                              · exact ⟨hrp.shut (by omega), by omega, gW3⟩
                              · show (2 * Un n s rm2 + q2).toNat < (2 * Un n s rm1 + q).toNat
                                have := Un_b n s rm2
                                omega
                              · exact ⟨rfl, rfl, rfl, rfl, rfl, rfl, rfl, rfl, rfl, rfl, rfl, trivial⟩
                              · exact ⟨rfl, rfl, rfl, rfl, rfl, rfl, rfl, trivial⟩
                          ·
                            obtain rfl : q = 0 := by omega
                            refine V_nil (X_next ?_)
                            refine C_false rfl ?_
                            refine C_exit (X_then_exit (X_then_exit (X_block_exit (X_block (X_next ?_)))))
                            refine C_region ?_
                            refine V_w0.q (QY_move rfl) rfl ?_
                            refine V_w0.q (QY_arith rfl rfl rfl ⟨by omega, by omega⟩) rfl ?_
                            refine V_w0.q (QY_assign rfl) rfl ?_
                            refine V_nil (X_then ?_)
                            refine X_round (s + 1, rm1, wk1, bW1, sW1, aW1, cW1) ?_ ?_ ?_ ?_
                            · exact ⟨by omega, by omega, hrow.done rfl hrows hs0 (by omega), gW1⟩
                            · show ((n : Int) - (s + 1)).toNat < ((n : Int) - s).toNat
                              omega
                            · exact ⟨rfl, rfl, rfl, rfl, rfl, rfl, rfl, rfl, rfl, rfl, trivial⟩
                            · exact ⟨rfl, rfl, rfl, rfl, rfl, rfl, rfl, trivial⟩
                      ·
                        have hsn : s = (n : Int) := by omega
                        refine V_nil (X_next ?_)
                        refine C_false rfl ?_
                        refine C_exit (X_then_exit (X_then_exit (X_block_exit (X_next ?_))))
                        refine C_seq ?_
                        refine C_seq ?_
                        refine C_region ?_
                        refine V_w0.q (QY_assign rfl) rfl ?_
                        refine V_nil (X_next ?_)
                        refine C_block ?_
                        refine C_loops (T := Int) (fun (u : Int) => [(0, .slice aF1 nf nf), (1, .slice aO1 no no), (2, .slice aL1 no no), (3, .int .u8 al), (4, .slice aQ1 nO nO), (11, .int .i32 (n : Int)), (17, .slice (some ⟨bC, 0, none⟩) n n), (33, .slice (some ⟨bR, 0, none⟩) ((n : Int) * n).toNat ((n : Int) * n).toNat), (40, .int .i32 u)]) (fun (u : Int) => [(55, ⟨bo, nO, nO, bools og⟩), (20, ⟨bK0, no, no, ints .u8 cl⟩), (33, ⟨bO, no, no, ints .i32 o⟩), (32, ⟨bF, nf, nf, ints .i32 f⟩), (35, ⟨bC, n, n, ints .i32 x.comp⟩), (56, ⟨bR, ((n : Int) * n).toNat, ((n : Int) * n), bools rm⟩)]) (fun (u : Int) => 0 ≤ u ∧ u ≤ n) (fun (u : Int) => ((n : Int) - u).toNat) 0 ?_ ?_ ?_ ?_
                        · exact ⟨by omega, by omega⟩
                        · exact ⟨rfl, rfl, rfl, rfl, rfl, rfl, rfl, rfl, rfl, trivial⟩
                        · exact ⟨rfl, rfl, rfl, rfl, rfl, rfl, trivial⟩
                        rintro u ⟨hu0, hu1⟩
                        show C _ _ _ _ _ _ [(0, .slice aF1 nf nf), (1, .slice aO1 no no), (2, .slice aL1 no no), (3, .int .u8 al), (4, .slice aQ1 nO nO), (11, .int .i32 (n : Int)), (17, .slice (some ⟨bC, 0, none⟩) n n), (33, .slice (some ⟨bR, 0, none⟩) ((n : Int) * n).toNat ((n : Int) * n).toNat), (40, .int .i32 u)] [(55, ⟨bo, nO, nO, bools og⟩), (20, ⟨bK0, no, no, ints .u8 cl⟩), (33, ⟨bO, no, no, ints .i32 o⟩), (32, ⟨bF, nf, nf, ints .i32 f⟩), (35, ⟨bC, n, n, ints .i32 x.comp⟩), (56, ⟨bR, ((n : Int) * n).toNat, ((n : Int) * n), bools rm⟩)]
                        refine C_seq ?_
                        refine C_seq ?_
                        refine C_region ?_
                        refine V_w0.q (QY_move rfl) rfl ?_
                        refine V_w0.q (QY_move rfl) rfl ?_
                        refine W_lss V_w0 rfl rfl rfl (fun h415 => ?_) (fun h415 => ?_)
                        ·
                          have hfb := adj_bounds hadj hu0 (by omega)
                          have hfb1 := adj_bounds hadj (show (0 : Int) ≤ u + 1 by omega) (by omega)
                          have hmono := hadj.2.2.1 u hu0 (by omega)
                          refine V_nil (X_next ?_)
                          refine C_true rfl ?_
                          refine C_skip (X_next ?_)
                          refine C_seq ?_
                          refine C_block ?_
                          refine C_seq ?_
                          refine C_seq ?_
                          refine C_region ?_
                          refine V_w0.q (QY_move rfl) rfl ?_
                          refine V_w0.q (QY_move rfl) rfl ?_
                          refine V_call cb17 rfl (T := Bool) (Φ := fun y => y = ouOf nO og u) (val := fun y => .bool y) (H' := fun _ => _) (fun w1 hm => (out17 w1 aQ1 nO nO og u ((Rd_sl (q := 55) rfl h1Q (by omega)).at hm) (by omega) (by omega)).mono fun e w2 ⟨y, h1, he, hM⟩ => ⟨y, h1, he, hm.join0 hM⟩) rfl ?_
                          intro y420 hy420
                          refine W_bool V_w0 420 rfl (fun h420 => ?_) (fun h420 => ?_)
                          ·
                            refine V_nil (X_next ?_)
                            refine C_true rfl ?_
                            refine C_exit (X_then_exit (X_block_exit (X_next ?_)))
                            refine C_region ?_
                            refine V_w0.q (QY_move rfl) rfl ?_
                            refine V_w0.q (QY_arith rfl rfl rfl ⟨by omega, by omega⟩) rfl ?_
                            refine V_w0.q (QY_assign rfl) rfl ?_
                            refine V_nil (X_then ?_)
                            refine X_round (u + 1) ?_ ?_ ?_ ?_
                            · exact ⟨by omega, by omega⟩
                            · show ((n : Int) - (u + 1)).toNat < ((n : Int) - u).toNat
                              omega
                            · exact ⟨rfl, rfl, rfl, rfl, rfl, rfl, rfl, rfl, rfl, trivial⟩
                            · exact ⟨rfl, rfl, rfl, rfl, rfl, rfl, trivial⟩
                          ·
                            have hua : AL n (ouOf nO og) u := ⟨hu0, by omega, hy420.symm.trans h420⟩
                            refine V_nil (X_next ?_)
                            refine C_false rfl ?_
                            refine C_skip (X_next ?_)
                            refine C_seq ?_
                            refine C_seq ?_
                            refine C_region ?_
                            refine V_w0.q (QY_assign rfl) rfl ?_
                            refine V_nil (X_next ?_)
                            refine C_block ?_
                            refine C_loops (T := Int) (fun (v : Int) => [(0, .slice aF1 nf nf), (1, .slice aO1 no no), (2, .slice aL1 no no), (3, .int .u8 al), (4, .slice aQ1 nO nO), (11, .int .i32 (n : Int)), (17, .slice (some ⟨bC, 0, none⟩) n n), (33, .slice (some ⟨bR, 0, none⟩) ((n : Int) * n).toNat ((n : Int) * n).toNat), (40, .int .i32 u), (41, .int .i32 v)]) (fun (v : Int) => [(55, ⟨bo, nO, nO, bools og⟩), (20, ⟨bK0, no, no, ints .u8 cl⟩), (33, ⟨bO, no, no, ints .i32 o⟩), (32, ⟨bF, nf, nf, ints .i32 f⟩), (35, ⟨bC, n, n, ints .i32 x.comp⟩), (56, ⟨bR, ((n : Int) * n).toNat, ((n : Int) * n), bools rm⟩)]) (fun (v : Int) => 0 ≤ v ∧ v ≤ n) (fun (v : Int) => ((n : Int) - v).toNat) 0 ?_ ?_ ?_ ?_
                            · exact ⟨by omega, by omega⟩
                            · exact ⟨rfl, rfl, rfl, rfl, rfl, rfl, rfl, rfl, rfl, rfl, trivial⟩
                            · exact ⟨rfl, rfl, rfl, rfl, rfl, rfl, trivial⟩
                            rintro v ⟨hv0, hv1⟩
                            show C _ _ _ _ _ _ [(0, .slice aF1 nf nf), (1, .slice aO1 no no), (2, .slice aL1 no no), (3, .int .u8 al), (4, .slice aQ1 nO nO), (11, .int .i32 (n : Int)), (17, .slice (some ⟨bC, 0, none⟩) n n), (33, .slice (some ⟨bR, 0, none⟩) ((n : Int) * n).toNat ((n : Int) * n).toNat), (40, .int .i32 u), (41, .int .i32 v)] [(55, ⟨bo, nO, nO, bools og⟩), (20, ⟨bK0, no, no, ints .u8 cl⟩), (33, ⟨bO, no, no, ints .i32 o⟩), (32, ⟨bF, nf, nf, ints .i32 f⟩), (35, ⟨bC, n, n, ints .i32 x.comp⟩), (56, ⟨bR, ((n : Int) * n).toNat, ((n : Int) * n), bools rm⟩)]
                            refine C_seq ?_
                            refine C_seq ?_
                            refine C_region ?_
                            refine V_w0.q (QY_move rfl) rfl ?_
                            refine V_w0.q (QY_move rfl) rfl ?_
                            refine W_lss V_w0 rfl rfl rfl (fun h423 => ?_) (fun h423 => ?_)
                            ·
                              refine V_nil (X_next ?_)
                              refine C_true rfl ?_
                              refine C_skip (X_next ?_)
                              refine C_seq ?_
                              refine C_block ?_
                              refine C_seq ?_
                              refine C_seq ?_
                              refine C_region ?_
                              refine V_w0.q (QY_move rfl) rfl ?_
                              refine V_w0.q (QY_move rfl) rfl ?_
                              refine V_call cb17 rfl (T := Bool) (Φ := fun y => y = ouOf nO og v) (val := fun y => .bool y) (H' := fun _ => _) (fun w1 hm => (out17 w1 aQ1 nO nO og v ((Rd_sl (q := 55) rfl h1Q (by omega)).at hm) (by omega) (by omega)).mono fun e w2 ⟨y, h1, he, hM⟩ => ⟨y, h1, he, hm.join0 hM⟩) rfl ?_
                              intro y428 hy428
                              refine W_bool V_w0 428 rfl (fun h428 => ?_) (fun h428 => ?_)
                              ·
                                refine V_nil (X_next ?_)
                                refine C_true rfl ?_
                                refine C_exit (X_then_exit (X_block_exit (X_next ?_)))
                                refine C_region ?_
                                refine V_w0.q (QY_move rfl) rfl ?_
                                refine V_w0.q (QY_arith rfl rfl rfl ⟨by omega, by omega⟩) rfl ?_
                                refine V_w0.q (QY_assign rfl) rfl ?_
                                refine V_nil (X_then ?_)
                                refine X_round (v + 1) ?_ ?_ ?_ ?_
                                · exact ⟨by omega, by omega⟩
                                · show ((n : Int) - (v + 1)).toNat < ((n : Int) - v).toNat
                                  omega
                                · exact ⟨rfl, rfl, rfl, rfl, rfl, rfl, rfl, rfl, rfl, rfl, trivial⟩
                                · exact ⟨rfl, rfl, rfl, rfl, rfl, rfl, trivial⟩
                              ·
                                have hva : AL n (ouOf nO og) v := ⟨hv0, by omega, hy428.symm.trans h428⟩
                                have hsame := hx.same hsn hrows hua hva
                                have hq1 := sq_lt (n := n) hu0 (by omega) hv0 (by omega)
                                have hq2 := sq_lt (n := n) hv0 (by omega) hu0 (by omega)
                                refine V_nil (X_next ?_)
                                refine C_false rfl ?_
                                refine C_skip (X_next ?_)
                                refine C_seq ?_
                                refine C_draw mix (by kernel_rfl) ?_
                                refine S_w0.q (QY_move rfl) rfl ?_
                                refine S_w0.q (QY_move rfl) rfl ?_
                                refine W_elem S_w0 rfl rfl (Rd_own (q := 35) rfl (by omega)) (by omega) (by omega) sl22 lf21 rfl rfl (fun _ => ?_)
                                refine S_w0.q (QY_move rfl) rfl ?_
                                refine S_w0.q (QY_move rfl) rfl ?_
                                refine W_elem S_w0 rfl rfl (Rd_own (q := 35) rfl (by omega)) (by omega) (by omega) sl22 lf21 rfl rfl (fun _ => ?_)
                                refine W_eql S_w0 rfl rfl rfl (fun h437 => ?_) (fun h437 => ?_)
                                ·
                                  refine S_w0.q (QY_assign rfl) rfl ?_
                                  refine S_nil (X_next ?_)
                                  refine C_seq ?_
                                  refine C_region ?_
                                  refine V_w0.q (QY_move rfl) rfl ?_
                                  refine V_w0.q (QY_move rfl) rfl ?_
                                  refine V_w0.q (QY_conv it21 it3 rfl ⟨by omega, by omega⟩) rfl ?_
                                  refine V_w0.q (QY_move rfl) rfl ?_
                                  refine V_w0.q (QY_conv it21 it3 rfl ⟨by omega, by omega⟩) rfl ?_
                                  refine V_w0.q (QY_arith rfl rfl rfl ⟨by omega, by omega⟩) rfl ?_
                                  refine V_w0.q (QY_move rfl) rfl ?_
                                  refine V_w0.q (QY_conv it21 it3 rfl ⟨by omega, by omega⟩) rfl ?_
                                  refine V_w0.q (QY_arith rfl rfl rfl ⟨by omega, by omega⟩) rfl ?_
                                  refine W_elem V_w0 rfl rfl (Rd_own (q := 56) rfl (by omega)) (by omega) (by omega) sl26 lf4 rfl rfl (fun _ => ?_)
                                  refine W_bool V_w0 448 rfl (fun h448 => ?_) (fun h448 => ?_)
                                  ·
                                    refine V_w0.q (QY_move rfl) rfl ?_
                                    refine V_walk.yes rfl rfl ?_
                                    refine V_w0.q (QY_move rfl) rfl ?_
                                    refine V_walk.yes rfl rfl ?_
                                    refine V_w0.q (QY_move rfl) rfl ?_
                                    refine V_walk.yes rfl rfl ?_
                                    refine V_w0.q (QY_conv it21 it3 rfl ⟨by omega, by omega⟩) rfl ?_
                                    refine V_walk.yes rfl rfl ?_
                                    refine V_w0.q (QY_move rfl) rfl ?_
                                    refine V_walk.yes rfl rfl ?_
                                    refine V_w0.q (QY_conv it21 it3 rfl ⟨by omega, by omega⟩) rfl ?_
                                    refine V_walk.yes rfl rfl ?_
                                    refine V_w0.q (QY_arith rfl rfl rfl ⟨by omega, by omega⟩) rfl ?_
                                    refine V_walk.yes rfl rfl ?_
                                    refine V_w0.q (QY_move rfl) rfl ?_
                                    refine V_walk.yes rfl rfl ?_
                                    refine V_w0.q (QY_conv it21 it3 rfl ⟨by omega, by omega⟩) rfl ?_
                                    refine V_walk.yes rfl rfl ?_
                                    refine V_w0.q (QY_arith rfl rfl rfl ⟨by omega, by omega⟩) rfl ?_
                                    refine V_walk.yes rfl rfl ?_
                                    refine W_elem2 V_walk rfl (fun _ => rfl) rfl rfl (Rd_own (q := 56) rfl (by omega)) (by omega) (by omega) sl26 lf4 rfl rfl (fun _ => ?_)
                                    refine W_bool V_w0 460 rfl (fun h460 => ?_) (fun h460 => ?_)
                                    ·
                                      refine V_w0.q (QY_pick_true rfl rfl) rfl ?_
                                      refine V_w0.q (QY_assign rfl) rfl ?_
                                      refine V_nil (X_next ?_)
                                      refine C_seq ?_
                                      refine C_region ?_
                                      refine V_w0.q (QY_move rfl) rfl ?_
                                      refine V_w0.q (QY_move rfl) rfl ?_
                                      refine V_w0.q (QY_neqB Try.underlying4 rfl rfl) rfl ?_
                                      refine V_nil (X_next ?_)
                                      refine C_false rfl ?_
                                      refine C_skip (X_block (X_next ?_))
                                      refine C_region ?_
                                      refine V_w0.q (QY_move rfl) rfl ?_
                                      refine V_w0.q (QY_arith rfl rfl rfl ⟨by omega, by omega⟩) rfl ?_
                                      refine V_w0.q (QY_assign rfl) rfl ?_
                                      refine V_nil (X_then ?_)
                                      refine X_round (v + 1) ?_ ?_ ?_ ?_
                                      · exact ⟨by omega, by omega⟩
                                      · show ((n : Int) - (v + 1)).toNat < ((n : Int) - v).toNat
                                        omega
                                      · exact ⟨rfl, rfl, rfl, rfl, rfl, rfl, rfl, rfl, rfl, rfl, trivial⟩
                                      · exact ⟨rfl, rfl, rfl, rfl, rfl, rfl, trivial⟩
                                    ·
                                      refine V_w0.q (QY_pick_true rfl rfl) rfl ?_
                                      refine V_w0.q (QY_assign rfl) rfl ?_
                                      refine V_nil (X_next ?_)
                                      refine C_seq ?_
                                      refine C_region ?_
                                      refine V_w0.q (QY_move rfl) rfl ?_
                                      refine V_w0.q (QY_move rfl) rfl ?_
                                      exact absurd (h460.symm.trans (hsame.1 h437).2) (by decide)
                                  ·
                                    refine V_w0.q (QY_move rfl) rfl ?_
                                    refine V_walk.no rfl rfl rfl ?_
                                    refine V_walk.no rfl rfl rfl ?_
                                    refine V_walk.no rfl rfl rfl ?_
                                    refine V_walk.no rfl rfl rfl ?_
                                    refine V_walk.no rfl rfl rfl ?_
                                    refine V_walk.no rfl rfl rfl ?_
                                    refine V_walk.no rfl rfl rfl ?_
                                    refine V_walk.no rfl rfl rfl ?_
                                    refine V_walk.no rfl rfl rfl ?_
                                    refine V_walk.no rfl rfl rfl ?_
                                    refine V_walk.no rfl rfl rfl ?_
                                    refine V_w0.q (QY_pick_false rfl rfl) rfl ?_
                                    refine V_w0.q (QY_assign rfl) rfl ?_
                                    refine V_nil (X_next ?_)
                                    refine C_seq ?_
                                    refine C_region ?_
                                    refine V_w0.q (QY_move rfl) rfl ?_
                                    refine V_w0.q (QY_move rfl) rfl ?_
                                    exact absurd (h448.symm.trans (hsame.1 h437).1) (by decide)
                                ·
                                  refine S_w0.q (QY_assign rfl) rfl ?_
                                  refine S_nil (X_next ?_)
                                  refine C_seq ?_
                                  refine C_region ?_
                                  refine V_w0.q (QY_move rfl) rfl ?_
                                  refine V_w0.q (QY_move rfl) rfl ?_
                                  refine V_w0.q (QY_conv it21 it3 rfl ⟨by omega, by omega⟩) rfl ?_
                                  refine V_w0.q (QY_move rfl) rfl ?_
                                  refine V_w0.q (QY_conv it21 it3 rfl ⟨by omega, by omega⟩) rfl ?_
                                  refine V_w0.q (QY_arith rfl rfl rfl ⟨by omega, by omega⟩) rfl ?_
                                  refine V_w0.q (QY_move rfl) rfl ?_
                                  refine V_w0.q (QY_conv it21 it3 rfl ⟨by omega, by omega⟩) rfl ?_
                                  refine V_w0.q (QY_arith rfl rfl rfl ⟨by omega, by omega⟩) rfl ?_
                                  refine W_elem V_w0 rfl rfl (Rd_own (q := 56) rfl (by omega)) (by omega) (by omega) sl26 lf4 rfl rfl (fun _ => ?_)
                                  refine W_bool V_w0 448 rfl (fun h448 => ?_) (fun h448 => ?_)
                                  ·
                                    refine V_w0.q (QY_move rfl) rfl ?_
                                    refine V_walk.yes rfl rfl ?_
                                    refine V_w0.q (QY_move rfl) rfl ?_
                                    refine V_walk.yes rfl rfl ?_
                                    refine V_w0.q (QY_move rfl) rfl ?_
                                    refine V_walk.yes rfl rfl ?_
                                    refine V_w0.q (QY_conv it21 it3 rfl ⟨by omega, by omega⟩) rfl ?_
                                    refine V_walk.yes rfl rfl ?_
                                    refine V_w0.q (QY_move rfl) rfl ?_
                                    refine V_walk.yes rfl rfl ?_
                                    refine V_w0.q (QY_conv it21 it3 rfl ⟨by omega, by omega⟩) rfl ?_
                                    refine V_walk.yes rfl rfl ?_
                                    refine V_w0.q (QY_arith rfl rfl rfl ⟨by omega, by omega⟩) rfl ?_
                                    refine V_walk.yes rfl rfl ?_
                                    refine V_w0.q (QY_move rfl) rfl ?_
                                    refine V_walk.yes rfl rfl ?_
                                    refine V_w0.q (QY_conv it21 it3 rfl ⟨by omega, by omega⟩) rfl ?_
                                    refine V_walk.yes rfl rfl ?_
                                    refine V_w0.q (QY_arith rfl rfl rfl ⟨by omega, by omega⟩) rfl ?_
                                    refine V_walk.yes rfl rfl ?_
                                    refine W_elem2 V_walk rfl (fun _ => rfl) rfl rfl (Rd_own (q := 56) rfl (by omega)) (by omega) (by omega) sl26 lf4 rfl rfl (fun _ => ?_)
                                    refine W_bool V_w0 460 rfl (fun h460 => ?_) (fun h460 => ?_)
                                    ·
                                      refine V_w0.q (QY_pick_true rfl rfl) rfl ?_
                                      refine V_w0.q (QY_assign rfl) rfl ?_
                                      refine V_nil (X_next ?_)
                                      refine C_seq ?_
                                      refine C_region ?_
                                      refine V_w0.q (QY_move rfl) rfl ?_
                                      refine V_w0.q (QY_move rfl) rfl ?_
                                      exact absurd (hsame.2 ⟨h448, h460⟩) h437
                                    ·
                                      refine V_w0.q (QY_pick_true rfl rfl) rfl ?_
                                      refine V_w0.q (QY_assign rfl) rfl ?_
                                      refine V_nil (X_next ?_)
                                      refine C_seq ?_
                                      refine C_region ?_
                                      refine V_w0.q (QY_move rfl) rfl ?_
                                      refine V_w0.q (QY_move rfl) rfl ?_
                                      refine V_w0.q (QY_neqB Try.underlying4 rfl rfl) rfl ?_
                                      refine V_nil (X_next ?_)
                                      refine C_false rfl ?_
                                      refine C_skip (X_block (X_next ?_))
                                      refine C_region ?_
                                      refine V_w0.q (QY_move rfl) rfl ?_
                                      refine V_w0.q (QY_arith rfl rfl rfl ⟨by omega, by omega⟩) rfl ?_
                                      refine V_w0.q (QY_assign rfl) rfl ?_
                                      refine V_nil (X_then ?_)
                                      refine X_round (v + 1) ?_ ?_ ?_ ?_
                                      · exact ⟨by omega, by omega⟩
                                      · show ((n : Int) - (v + 1)).toNat < ((n : Int) - v).toNat
                                        omega
                                      · exact ⟨rfl, rfl, rfl, rfl, rfl, rfl, rfl, rfl, rfl, rfl, trivial⟩
                                      · exact ⟨rfl, rfl, rfl, rfl, rfl, rfl, trivial⟩
                                  ·
                                    refine V_w0.q (QY_move rfl) rfl ?_
                                    refine V_walk.no rfl rfl rfl ?_
                                    refine V_walk.no rfl rfl rfl ?_
                                    refine V_walk.no rfl rfl rfl ?_
                                    refine V_walk.no rfl rfl rfl ?_
                                    refine V_walk.no rfl rfl rfl ?_
                                    refine V_walk.no rfl rfl rfl ?_
                                    refine V_walk.no rfl rfl rfl ?_
                                    refine V_walk.no rfl rfl rfl ?_
                                    refine V_walk.no rfl rfl rfl ?_
                                    refine V_walk.no rfl rfl rfl ?_
                                    refine V_walk.no rfl rfl rfl ?_
                                    refine V_w0.q (QY_pick_false rfl rfl) rfl ?_
                                    refine V_w0.q (QY_assign rfl) rfl ?_
                                    refine V_nil (X_next ?_)
                                    refine C_seq ?_
                                    refine C_region ?_
                                    refine V_w0.q (QY_move rfl) rfl ?_
                                    refine V_w0.q (QY_move rfl) rfl ?_
                                    refine V_w0.q (QY_neqB Try.underlying4 rfl rfl) rfl ?_
                                    refine V_nil (X_next ?_)
                                    refine C_false rfl ?_
                                    refine C_skip (X_block (X_next ?_))
                                    refine C_region ?_
                                    refine V_w0.q (QY_move rfl) rfl ?_
                                    refine V_w0.q (QY_arith rfl rfl rfl ⟨by omega, by omega⟩) rfl ?_
                                    refine V_w0.q (QY_assign rfl) rfl ?_
                                    refine V_nil (X_then ?_)
                                    refine X_round (v + 1) ?_ ?_ ?_ ?_
                                    · exact ⟨by omega, by omega⟩
                                    · show ((n : Int) - (v + 1)).toNat < ((n : Int) - v).toNat
                                      omega
                                    · exact ⟨rfl, rfl, rfl, rfl, rfl, rfl, rfl, rfl, rfl, rfl, trivial⟩
                                    · exact ⟨rfl, rfl, rfl, rfl, rfl, rfl, trivial⟩
                            ·
                              refine V_nil (X_next ?_)
                              refine C_false rfl ?_
                              refine C_exit (X_then_exit (X_then_exit (X_block_exit (X_next ?_))))
                              refine C_seq ?_
                              refine C_region ?_
                              refine V_w0.q (QY_move rfl) rfl ?_
                              refine V_w0.q (QY_move rfl) rfl ?_
                              refine W_elem V_w0 rfl rfl (Rd_sl (q := 32) rfl h1F (by omega)) (by omega) (by omega) sl22 lf21 rfl rfl (fun _ => ?_)
                              refine V_w0.q (QY_assign rfl) rfl ?_
                              refine V_nil (X_next ?_)
                              refine C_block ?_
                              refine C_loops (T := Int) (fun (e : Int) => [(0, .slice aF1 nf nf), (1, .slice aO1 no no), (2, .slice aL1 no no), (3, .int .u8 al), (4, .slice aQ1 nO nO), (11, .int .i32 (n : Int)), (17, .slice (some ⟨bC, 0, none⟩) n n), (33, .slice (some ⟨bR, 0, none⟩) ((n : Int) * n).toNat ((n : Int) * n).toNat), (40, .int .i32 u), (44, .int .i32 e)]) (fun (e : Int) => [(55, ⟨bo, nO, nO, bools og⟩), (20, ⟨bK0, no, no, ints .u8 cl⟩), (33, ⟨bO, no, no, ints .i32 o⟩), (32, ⟨bF, nf, nf, ints .i32 f⟩), (35, ⟨bC, n, n, ints .i32 x.comp⟩), (56, ⟨bR, ((n : Int) * n).toNat, ((n : Int) * n), bools rm⟩)]) (fun (e : Int) => f u ≤ e ∧ e ≤ f (u + 1)) (fun (e : Int) => (f (u + 1) - e).toNat) (f u) ?_ ?_ ?_ ?_
                              · exact ⟨Int.le_refl _, hmono⟩
                              · exact ⟨rfl, rfl, rfl, rfl, rfl, rfl, rfl, rfl, rfl, rfl, trivial⟩
                              · exact ⟨rfl, rfl, rfl, rfl, rfl, rfl, trivial⟩
                              rintro e ⟨he0, he1⟩
                              show C _ _ _ _ _ _ [(0, .slice aF1 nf nf), (1, .slice aO1 no no), (2, .slice aL1 no no), (3, .int .u8 al), (4, .slice aQ1 nO nO), (11, .int .i32 (n : Int)), (17, .slice (some ⟨bC, 0, none⟩) n n), (33, .slice (some ⟨bR, 0, none⟩) ((n : Int) * n).toNat ((n : Int) * n).toNat), (40, .int .i32 u), (44, .int .i32 e)] [(55, ⟨bo, nO, nO, bools og⟩), (20, ⟨bK0, no, no, ints .u8 cl⟩), (33, ⟨bO, no, no, ints .i32 o⟩), (32, ⟨bF, nf, nf, ints .i32 f⟩), (35, ⟨bC, n, n, ints .i32 x.comp⟩), (56, ⟨bR, ((n : Int) * n).toNat, ((n : Int) * n), bools rm⟩)]
                              refine C_seq ?_
                              refine C_seq ?_
                              refine C_region ?_
                              refine V_w0.q (QY_move rfl) rfl ?_
                              refine V_w0.q (QY_move rfl) rfl ?_
                              refine V_w0.q (QY_move rfl) rfl ?_
                              refine V_w0.q (QY_arith rfl rfl rfl ⟨by omega, by omega⟩) rfl ?_
                              refine W_elem V_w0 rfl rfl (Rd_sl (q := 32) rfl h1F (by omega)) (by omega) (by omega) sl22 lf21 rfl rfl (fun _ => ?_)
                              refine W_lss V_w0 rfl rfl rfl (fun h475 => ?_) (fun h475 => ?_)
                              ·
                                have hoe := hadj.2.2.2.2.2 e (by omega) (by omega)
                                refine V_nil (X_next ?_)
                                refine C_true rfl ?_
                                refine C_skip (X_next ?_)
                                refine C_seq ?_
                                refine C_block ?_
                                refine C_seq ?_
                                refine C_region ?_
                                refine V_w0.q (QY_move rfl) rfl ?_
                                refine V_w0.q (QY_move rfl) rfl ?_
                                refine W_elem V_w0 rfl rfl (Rd_sl (q := 33) rfl h1O (by omega)) (by omega) (by omega) sl22 lf21 rfl rfl (fun _ => ?_)
                                refine V_w0.q (QY_assign rfl) rfl ?_
                                refine V_nil (X_next ?_)
                                refine C_seq ?_
                                refine C_seq ?_
                                refine C_region ?_
                                refine V_w0.q (QY_move rfl) rfl ?_
                                refine V_w0.q (QY_move rfl) rfl ?_
                                refine W_elem V_w0 rfl rfl (Rd_sl (q := 20) rfl h1L (by omega)) (by omega) (by omega) sl23 lf5 rfl rfl (fun _ => ?_)
                                refine V_w0.q (QY_move rfl) rfl ?_
                                refine V_w0.q (QY_and rfl rfl) rfl ?_
                                refine W_eql V_w0 rfl rfl rfl (fun h488 => ?_) (fun h488 => ?_)
                                ·
                                  refine V_w0.q (QY_move rfl) rfl ?_
                                  refine V_walk.no rfl rfl rfl ?_
                                  refine V_walk.no rfl rfl rfl ?_
                                  refine V_walk.no rfl rfl rfl ?_
                                  refine V_w0.q (QY_pick_true rfl rfl) rfl ?_
                                  refine V_nil (X_next ?_)
                                  refine C_true rfl ?_
                                  refine C_exit (X_then_exit (X_block_exit (X_next ?_)))
                                  refine C_region ?_
                                  refine V_w0.q (QY_move rfl) rfl ?_
                                  refine V_w0.q (QY_arith rfl rfl rfl ⟨by omega, by omega⟩) rfl ?_
                                  refine V_w0.q (QY_assign rfl) rfl ?_
                                  refine V_nil (X_then ?_)
                                  refine X_round (e + 1) ?_ ?_ ?_ ?_
                                  · exact ⟨by omega, by omega⟩
                                  · show (f (u + 1) - (e + 1)).toNat < (f (u + 1) - e).toNat
                                    omega
                                  · exact ⟨rfl, rfl, rfl, rfl, rfl, rfl, rfl, rfl, rfl, rfl, trivial⟩
                                  · exact ⟨rfl, rfl, rfl, rfl, rfl, rfl, trivial⟩
                                ·
                                  refine V_w0.q (QY_move rfl) rfl ?_
                                  refine V_walk.yes rfl rfl ?_
                                  refine V_w0.q (QY_move rfl) rfl ?_
                                  refine V_walk.yes rfl rfl ?_
                                  refine V_w0.q (QY_move rfl) rfl ?_
                                  refine V_walk.yes rfl rfl ?_
                                  refine V_call cb17 rfl (T := Bool) (Φ := fun y => y = ouOf nO og (o e)) (val := fun y => .bool y) (H' := fun _ => _) (fun w1 hm => (out17 w1 aQ1 nO nO og (o e) ((Rd_sl (q := 55) rfl h1Q (by omega)).at hm) (by omega) (by omega)).mono fun e w2 ⟨y, h1, he, hM⟩ => ⟨y, h1, he, hm.join0 hM⟩) rfl ?_
                                  intro y492 hy492
                                  refine W_bool V_w0 492 rfl (fun h492 => ?_) (fun h492 => ?_)
                                  ·
                                    refine V_w0.q (QY_pick_false rfl rfl) rfl ?_
                                    refine V_nil (X_next ?_)
                                    refine C_true rfl ?_
                                    refine C_exit (X_then_exit (X_block_exit (X_next ?_)))
                                    refine C_region ?_
                                    refine V_w0.q (QY_move rfl) rfl ?_
                                    refine V_w0.q (QY_arith rfl rfl rfl ⟨by omega, by omega⟩) rfl ?_
                                    refine V_w0.q (QY_assign rfl) rfl ?_
                                    refine V_nil (X_then ?_)
                                    refine X_round (e + 1) ?_ ?_ ?_ ?_
                                    · exact ⟨by omega, by omega⟩
                                    · show (f (u + 1) - (e + 1)).toNat < (f (u + 1) - e).toNat
                                      omega
                                    · exact ⟨rfl, rfl, rfl, rfl, rfl, rfl, rfl, rfl, rfl, rfl, trivial⟩
                                    · exact ⟨rfl, rfl, rfl, rfl, rfl, rfl, trivial⟩
                                  ·
                                    refine V_w0.q (QY_pick_false rfl rfl) rfl ?_
                                    refine V_nil (X_next ?_)
                                    refine C_false rfl ?_
                                    refine C_skip (X_next ?_)
                                    refine C_seq ?_
                                    refine C_draw mix (by kernel_rfl) ?_
                                    refine S_w0.q (QY_move rfl) rfl ?_
                                    refine S_w0.q (QY_move rfl) rfl ?_
                                    refine W_elem S_w0 rfl rfl (Rd_own (q := 35) rfl (by omega)) (by omega) (by omega) sl22 lf21 rfl rfl (fun _ => ?_)
                                    refine S_w0.q (QY_move rfl) rfl ?_
                                    refine S_w0.q (QY_move rfl) rfl ?_
                                    refine W_elem S_w0 rfl rfl (Rd_own (q := 35) rfl (by omega)) (by omega) (by omega) sl22 lf21 rfl rfl (fun _ => ?_)
                                    refine W_gtr S_w0 rfl rfl rfl (fun h502 => False.elim (by have h9 := (hx.tk.eF u e (hx.all u hua) he0 (by omega) h488 ⟨hoe.1, by omega, hy492.symm.trans h492⟩).2; omega)) (fun h502 => ?_)
                                    refine S_nil (X_next ?_)
                                    refine C_false rfl ?_
                                    refine C_skip (X_block (X_next ?_))
                                    refine C_region ?_
                                    refine V_w0.q (QY_move rfl) rfl ?_
                                    refine V_w0.q (QY_arith rfl rfl rfl ⟨by omega, by omega⟩) rfl ?_
                                    refine V_w0.q (QY_assign rfl) rfl ?_
                                    refine V_nil (X_then ?_)
                                    refine X_round (e + 1) ?_ ?_ ?_ ?_
                                    · exact ⟨by omega, by omega⟩
                                    · show (f (u + 1) - (e + 1)).toNat < (f (u + 1) - e).toNat
                                      omega
                                    · exact ⟨rfl, rfl, rfl, rfl, rfl, rfl, rfl, rfl, rfl, rfl, trivial⟩
                                    · exact ⟨rfl, rfl, rfl, rfl, rfl, rfl, trivial⟩
                              ·
                                refine V_nil (X_next ?_)
                                refine C_false rfl ?_
                                refine C_exit (X_then_exit (X_then_exit (X_block_exit (X_block (X_next ?_)))))
                                refine C_region ?_
                                refine V_w0.q (QY_move rfl) rfl ?_
                                refine V_w0.q (QY_arith rfl rfl rfl ⟨by omega, by omega⟩) rfl ?_
                                refine V_w0.q (QY_assign rfl) rfl ?_
                                refine V_nil (X_then ?_)
                                refine X_round (u + 1) ?_ ?_ ?_ ?_
                                · exact ⟨by omega, by omega⟩
                                · show ((n : Int) - (u + 1)).toNat < ((n : Int) - u).toNat
                                  omega
                                · exact ⟨rfl, rfl, rfl, rfl, rfl, rfl, rfl, rfl, rfl, trivial⟩
                                · exact ⟨rfl, rfl, rfl, rfl, rfl, rfl, trivial⟩
                        ·
                          refine V_nil (X_next ?_)
                          refine C_false rfl ?_
                          refine C_exit (X_then_exit (X_then_exit (X_block_exit (X_next ?_))))
                          refine C_seq ?_
                          refine C_region ?_
                          refine V_w0.q (QY_assign rfl) rfl ?_
                          refine V_nil (X_next ?_)
                          refine C_ret (?_)
                          refine X_ret1 rfl rfl (fun w hm => ?_)
                          exact ⟨rfl, hm.below⟩
  ·
    refine V_w0.q (QY_not rfl) rfl ?_
    refine V_nil (X_next ?_)
    refine C_true rfl ?_
    refine C_seq ?_
    refine C_region ?_
    refine V_w0.q (QY_assign rfl) rfl ?_
    refine V_nil (X_next ?_)
    refine C_ret (X_then_ret (?_))
    refine X_ret1 rfl rfl (fun w hm => ?_)
    exact ⟨rfl, hm.below⟩

end Go.Proofs.Qxb6001307a
