/-
  OWN WORK (the rule applications laid by a program of our own, wip/gen). (*rangeSet).relayed.
-/
import Derived.Test.Qxb6001307aRelG
import Derived.Test.Qxb6001307aKitO
import Derived.Test.Qxb6001307aBuild3
import Derived.Test.Qxb6001307aClone37
namespace Go.Proofs.Qxb6001307a
open Go.RowKit
set_option linter.unusedSimpArgs false
set_option linter.unusedVariables false

structure RelOut where
  (b bf bo bc m M M2 : Nat) (fr to rf ro rc : Int → Int)
structure RelRes (nl ns nt n T : Nat) (f o cl re sr sl ss : Int → Int) (hb : Int → Bool) (L2 : Int → Nat) (Z1 Z2 : Int → Int → Int) (tx : Int) (y : RelOut) : Prop where
  csr : CSR n f o cl y.M y.fr y.to T y.rf y.ro y.rc
  len : y.rf T = y.m
  lk : Lk3 nl ns (n : Int) tx hb L2 Z1 Z2 re sr sl ss nt y.M2 (re nl) y.M y.fr y.to
  frr : ∀ a, 0 ≤ a → a < (y.M : Int) → 0 ≤ y.fr a ∧ y.fr a < (T : Int)
  mb : (y.m : Int) ≤ 1048576

set_option maxHeartbeats 4000000 in
theorem relayed35 (B : Nat → Prop) (w0 : World) (bR bA bl bs bv bt bL nl ns nt nf no n hc T cF cO cV cH : Nat) (aF aO aV aH : Option Addr) (cA cS cW cT : Int → Value) (A1 A2 : Int → Option Addr) (L1 L2 C1 C2 : Int → Nat) (f o cl sr sl ss lf lt : Int → Int) (Z1 Z2 : Int → Int → Int) (hb ow : Int → Bool) (tx : Int)
    (hcA : ∀ l, 0 ≤ l → l < (nl : Int) → cA (2 * l) = .int .i32 0 ∧ cA (2 * l + 1) = .slice (A1 l) (L1 l) (C1 l)) (hcS : ∀ i, 0 ≤ i → i < (ns : Int) → cS (3 * i) = .int .i32 (sr i) ∧ cS (3 * i + 1) = .int .i32 (sl i) ∧ cS (3 * i + 2) = .int .i32 (ss i)) (hcW : ∀ l, 0 ≤ l → l < (nl : Int) → cW (2 * l) = .int .i32 (lt l)) (hcT : ∀ t, 0 ≤ t → t < (nt : Int) → cT (2 * t) = .slice (A2 t) (L2 t) (C2 t) ∧ cT (2 * t + 1) = .int .i32 (thF hb L2 t))
    (hF : RdB B w0 (.slice aF nf cF) nf (ints .i32 f)) (hO : RdB B w0 (.slice aO no cO) no (ints .i32 o)) (hV : RdB B w0 (.slice aV (nl + 1) cV) (nl + 1) (ints .i32 lf)) (hN2 : ∀ l, 0 ≤ l → l < (nl : Int) → RdB B w0 (.slice (A1 l) (L1 l) (C1 l)) (L1 l) (ints .i32 (Z1 l))) (hT2 : ∀ t, 0 ≤ t → t < (nt : Int) → RdB B w0 (.slice (A2 t) (L2 t) (C2 t)) (L2 t) (ints .i32 (Z2 t)))
    (hadj : AdjOK nf no no f o) (hn : (n : Int) = (nf : Int) - 1) (hlv : LvI nl L1 L2 Z2 (thF hb L2) nt 0 ow lt) (hsp : SpI nl tx L1 sr sl ss ns) (hhu : hu hb L2 nt = hc) (htx : tx = (n : Int) - hc) (htx0 : 0 ≤ tx) (hT : (T : Int) = (n : Int) + rel lf lt L1 nl) (hcO : no ≤ cO)
    (hnf : (nf : Int) ≤ 4097) (hno : (no : Int) ≤ 262144) (hnl : (nl : Int) ≤ 65536) (hns : (ns : Int) ≤ 4096) (hnt : (nt : Int) ≤ 65536) (htL1 : tot L1 nl ≤ 4096) (htL2 : tot L2 nt ≤ 4096)
    (hsome : 0 < ns ∨ 0 < hc) :
    ∀ w, Mem B w0 [(70, ⟨bR, 15, 15, fl [.slice (some ⟨bl, 0, none⟩) nl nl, .slice (some ⟨bs, 0, none⟩) ns ns, .slice aV (nl + 1) cV, .slice none 0 0, .slice none 0 0, .slice none 0 0, .slice none 0 0, .slice (some ⟨bt, 0, none⟩) nt nt, .slice (some ⟨bv, 0, none⟩) nl nl, .slice aH hc cH, .slice none 0 0, .slice none 0 0, .slice none 0 0, .slice none 0 0, .slice none 0 0]⟩), (71, ⟨bA, 3, 3, fl [.slice aF nf cF, .slice aO no cO, .slice (some ⟨bL, 0, none⟩) no no]⟩), (34, ⟨bL, no, no, ints .u8 cl⟩), (72, ⟨bl, nl * 2, ((nl * 2 : Nat) : Int), cA⟩), (73, ⟨bs, ns * 3, ((ns * 3 : Nat) : Int), cS⟩), (74, ⟨bv, nl * 2, ((nl * 2 : Nat) : Int), cW⟩), (75, ⟨bt, nt * 2, ((nt * 2 : Nat) : Int), cT⟩)] w → Calls Try.prog 35 #[.pointer (some ⟨bR, 0, none⟩), .pointer (some ⟨bA, 0, none⟩)] w fun e w' => ∃ y : RelOut, RelRes nl ns nt n T f o cl (rel lf lt L1) sr sl ss hb L2 Z1 Z2 tx y ∧ e = .returned (.pointer (some ⟨y.b, 0, none⟩)) ∧ Mem B w0 [(76, ⟨y.b, 3, 3, fl [.slice (some ⟨y.bf, 0, none⟩) (T + 1) (T + 1), .slice (some ⟨y.bo, 0, none⟩) y.m y.m, .slice (some ⟨y.bc, 0, none⟩) y.m y.m]⟩), (77, ⟨y.bf, T + 1, (T : Int) + 1, ints .i32 y.rf⟩), (78, ⟨y.bo, y.m, y.m, ints .i32 y.ro⟩), (79, ⟨y.bc, y.m, y.m, ints .u8 y.rc⟩)] w' := by
  have hmx := rel_b lf lt L1 (k := (nl : Int)) (by omega)
  have hnT : n ≤ T := by omega
  have hnn : 0 < n := by
    rcases hsome with h | h
    · have := hsp.1 0 (by omega) (by omega); omega
    · omega
  refine enter (N := 498) (vs := [.pointer (some ⟨bR, 0, none⟩), .pointer (some ⟨bA, 0, none⟩)]) Try.func35 rfl Try.ntmps35 rfl ?_
  refine C_seq ?_
  refine C_region ?_
  refine V_w0.q (QY_assign rfl) rfl ?_
  refine V_nil (X_next ?_)
  refine C_cut (T := Unit) (fun (zz : Unit) => [(0, .pointer (some ⟨bR, 0, none⟩)), (1, .pointer (some ⟨bA, 0, none⟩)), (48, .bool false)]) (fun (zz : Unit) => [(70, ⟨bR, 15, 15, fl [.slice (some ⟨bl, 0, none⟩) nl nl, .slice (some ⟨bs, 0, none⟩) ns ns, .slice aV (nl + 1) cV, .slice none 0 0, .slice none 0 0, .slice none 0 0, .slice none 0 0, .slice (some ⟨bt, 0, none⟩) nt nt, .slice (some ⟨bv, 0, none⟩) nl nl, .slice aH hc cH, .slice none 0 0, .slice none 0 0, .slice none 0 0, .slice none 0 0, .slice none 0 0]⟩), (71, ⟨bA, 3, 3, fl [.slice aF nf cF, .slice aO no cO, .slice (some ⟨bL, 0, none⟩) no no]⟩), (34, ⟨bL, no, no, ints .u8 cl⟩), (72, ⟨bl, nl * 2, ((nl * 2 : Nat) : Int), cA⟩), (73, ⟨bs, ns * 3, ((ns * 3 : Nat) : Int), cS⟩), (74, ⟨bv, nl * 2, ((nl * 2 : Nat) : Int), cW⟩), (75, ⟨bt, nt * 2, ((nt * 2 : Nat) : Int), cT⟩)]) (fun (zz : Unit) => True) ?_ ?_
  ·
    refine C_seq ?_
    refine C_region ?_
    refine V_w0.q (QY_move rfl) rfl ?_
    refine V_w0.q (QY_ptrnil Try.underlying64 rfl) rfl ?_
    refine V_w0.q (QY_move rfl) rfl ?_
    refine V_walk.yes rfl rfl ?_
    refine V_w0.q (QY_move rfl) rfl ?_
    refine V_walk.yes rfl rfl ?_
    refine W_fld2 V_walk (q := 70) rfl (fun _ => rfl) (fun _ _ => rfl) rfl rfl fa72_1 lf66 (by decide) rfl rfl rfl rfl ?_
    refine V_walk.yes rfl rfl ?_
    refine V_w0.q (QY_len sl66 rfl) rfl ?_
    refine V_walk.yes rfl rfl ?_
    refine W_eql V_w0 rfl rfl rfl (fun h39 => ?_) (fun h39 => ?_)
    ·
      refine V_walk.yes rfl rfl ?_
      refine V_w0.q (QY_move rfl) rfl ?_
      refine V_walk.yes rfl rfl ?_
      refine V_w0.q (QY_move rfl) rfl ?_
      refine V_walk.yes rfl rfl ?_
      refine W_fld2 V_walk (q := 70) rfl (fun _ => rfl) (fun _ _ => rfl) rfl rfl fa72_9 lf22 (by decide) rfl rfl rfl rfl ?_
      refine V_walk.yes rfl rfl ?_
      refine V_w0.q (QY_len sl22 rfl) rfl ?_
      refine V_walk.yes rfl rfl ?_
      refine W_eql V_w0 rfl rfl rfl (fun h46 => False.elim (by omega)) (fun h46 => ?_)
      refine V_walk.yes rfl rfl ?_
      refine V_w0.q (QY_pick_true rfl rfl) rfl ?_
      refine V_w0.q (QY_pick_false rfl rfl) rfl ?_
      refine V_nil (X_next ?_)
      refine C_false rfl ?_
      refine C_skip (X_then ?_)
      refine X_cut () ?_ ?_ ?_
      · trivial
      · exact ⟨rfl, rfl, rfl, trivial⟩
      · exact ⟨rfl, rfl, rfl, rfl, rfl, rfl, rfl, trivial⟩
    ·
      refine V_walk.yes rfl rfl ?_
      refine V_w0.q (QY_move rfl) rfl ?_
      refine V_walk.no rfl rfl rfl ?_
      refine V_walk.no rfl rfl rfl ?_
      refine V_walk.no rfl rfl rfl ?_
      refine V_walk.no rfl rfl rfl ?_
      refine V_walk.no rfl rfl rfl ?_
      refine V_walk.no rfl rfl rfl ?_
      refine V_walk.yes rfl rfl ?_
      refine V_w0.q (QY_pick_false rfl rfl) rfl ?_
      refine V_w0.q (QY_pick_false rfl rfl) rfl ?_
      refine V_nil (X_next ?_)
      refine C_false rfl ?_
      refine C_skip (X_then ?_)
      refine X_cut () ?_ ?_ ?_
      · trivial
      · exact ⟨rfl, rfl, rfl, trivial⟩
      · exact ⟨rfl, rfl, rfl, rfl, rfl, rfl, rfl, trivial⟩
  rintro zz _
  show C _ _ _ _ _ _ [(0, .pointer (some ⟨bR, 0, none⟩)), (1, .pointer (some ⟨bA, 0, none⟩)), (48, .bool false)] [(70, ⟨bR, 15, 15, fl [.slice (some ⟨bl, 0, none⟩) nl nl, .slice (some ⟨bs, 0, none⟩) ns ns, .slice aV (nl + 1) cV, .slice none 0 0, .slice none 0 0, .slice none 0 0, .slice none 0 0, .slice (some ⟨bt, 0, none⟩) nt nt, .slice (some ⟨bv, 0, none⟩) nl nl, .slice aH hc cH, .slice none 0 0, .slice none 0 0, .slice none 0 0, .slice none 0 0, .slice none 0 0]⟩), (71, ⟨bA, 3, 3, fl [.slice aF nf cF, .slice aO no cO, .slice (some ⟨bL, 0, none⟩) no no]⟩), (34, ⟨bL, no, no, ints .u8 cl⟩), (72, ⟨bl, nl * 2, ((nl * 2 : Nat) : Int), cA⟩), (73, ⟨bs, ns * 3, ((ns * 3 : Nat) : Int), cS⟩), (74, ⟨bv, nl * 2, ((nl * 2 : Nat) : Int), cW⟩), (75, ⟨bt, nt * 2, ((nt * 2 : Nat) : Int), cT⟩)]
  refine C_seq ?_
  refine C_region ?_
  refine V_w0.q (QY_move rfl) rfl ?_
  refine W_fld V_w0 (q := 71) rfl rfl fa57_0 lf22 (by decide) rfl rfl rfl rfl ?_
  refine V_w0.q (QY_len sl22 rfl) rfl ?_
  refine V_w0.q (QY_arith rfl rfl rfl ⟨by omega, by omega⟩) rfl ?_
  refine V_w0.q (QY_conv it3 it21 rfl ⟨by omega, by omega⟩) rfl ?_
  refine V_w0.q (QY_assign rfl) rfl ?_
  refine V_nil (X_next ?_)
  refine C_seq ?_
  refine C_region ?_
  refine V_w0.q (QY_move rfl) rfl ?_
  refine V_w0.q (QY_move rfl) rfl ?_
  refine W_fld V_w0 (q := 70) rfl rfl fa72_9 lf22 (by decide) rfl rfl rfl rfl ?_
  refine V_w0.q (QY_len sl22 rfl) rfl ?_
  refine V_w0.q (QY_conv it3 it21 rfl ⟨by omega, by omega⟩) rfl ?_
  refine V_w0.q (QY_arith rfl rfl rfl ⟨by omega, by omega⟩) rfl ?_
  refine V_w0.q (QY_assign rfl) rfl ?_
  refine V_nil (X_next ?_)
  refine C_cut (T := Int × Int × Nat × Int × Nat) (fun (zz9 : Int × Int × Nat × Int × Nat) => match zz9 with | (n5, tx5, e5, k5, bE) => [(0, .pointer (some ⟨bR, 0, none⟩)), (1, .pointer (some ⟨bA, 0, none⟩)), (5, .int .i32 n5), (6, .int .i32 tx5), (7, .slice (some ⟨bE, 0, none⟩) e5 e5)]) (fun (zz9 : Int × Int × Nat × Int × Nat) => match zz9 with | (n5, tx5, e5, k5, bE) => [(70, ⟨bR, 15, 15, fl [.slice (some ⟨bl, 0, none⟩) nl nl, .slice (some ⟨bs, 0, none⟩) ns ns, .slice aV (nl + 1) cV, .slice none 0 0, .slice none 0 0, .slice none 0 0, .slice none 0 0, .slice (some ⟨bt, 0, none⟩) nt nt, .slice (some ⟨bv, 0, none⟩) nl nl, .slice aH hc cH, .slice none 0 0, .slice none 0 0, .slice none 0 0, .slice none 0 0, .slice none 0 0]⟩), (71, ⟨bA, 3, 3, fl [.slice aF nf cF, .slice aO no cO, .slice (some ⟨bL, 0, none⟩) no no]⟩), (34, ⟨bL, no, no, ints .u8 cl⟩), (72, ⟨bl, nl * 2, ((nl * 2 : Nat) : Int), cA⟩), (73, ⟨bs, ns * 3, ((ns * 3 : Nat) : Int), cS⟩), (74, ⟨bv, nl * 2, ((nl * 2 : Nat) : Int), cW⟩), (75, ⟨bt, nt * 2, ((nt * 2 : Nat) : Int), cT⟩), (80, ⟨bE, e5, k5, ints .i32 (fun _ => 0)⟩)]) (fun (zz9 : Int × Int × Nat × Int × Nat) => match zz9 with | (n5, tx5, e5, k5, bE) => (n : Int) = n5 ∧ tx = tx5 ∧ nl + 1 = e5 ∧ (nl : Int) + 1 = k5) ?_ ?_
  ·
    refine C_region ?_
    refine V_w0.q (QY_move rfl) rfl ?_
    refine W_fld V_w0 (q := 70) rfl rfl fa72_0 lf65 (by decide) rfl rfl rfl rfl ?_
    refine V_w0.q (QY_len sl65 rfl) rfl ?_
    refine V_w0.q (QY_arith rfl rfl rfl ⟨by omega, by omega⟩) rfl ?_
    refine V_make 80 mk22 rfl rfl rfl (by omega) (by omega) (by omega) (by omega) rfl (fun bE => ?_)
    refine V_w0.q (QY_assign rfl) rfl ?_
    refine V_nil (X_then ?_)
    refine X_cut ((nf : Int) - 1, (nf : Int) - 1 - hc, ((nl : Int) + 1).toNat, (nl : Int) + 1, bE) ?_ ?_ ?_
    · exact ⟨by omega, by omega, by omega, by omega⟩
    · exact ⟨rfl, rfl, rfl, rfl, rfl, trivial⟩
    · exact ⟨rfl, rfl, rfl, rfl, rfl, rfl, rfl, rfl, trivial⟩
  rintro ⟨n5, tx5, e5, k5, bE⟩ ⟨hs1, hs2, hs3, hs4⟩
  show C _ _ _ _ _ _ [(0, .pointer (some ⟨bR, 0, none⟩)), (1, .pointer (some ⟨bA, 0, none⟩)), (5, .int .i32 n5), (6, .int .i32 tx5), (7, .slice (some ⟨bE, 0, none⟩) e5 e5)] [(70, ⟨bR, 15, 15, fl [.slice (some ⟨bl, 0, none⟩) nl nl, .slice (some ⟨bs, 0, none⟩) ns ns, .slice aV (nl + 1) cV, .slice none 0 0, .slice none 0 0, .slice none 0 0, .slice none 0 0, .slice (some ⟨bt, 0, none⟩) nt nt, .slice (some ⟨bv, 0, none⟩) nl nl, .slice aH hc cH, .slice none 0 0, .slice none 0 0, .slice none 0 0, .slice none 0 0, .slice none 0 0]⟩), (71, ⟨bA, 3, 3, fl [.slice aF nf cF, .slice aO no cO, .slice (some ⟨bL, 0, none⟩) no no]⟩), (34, ⟨bL, no, no, ints .u8 cl⟩), (72, ⟨bl, nl * 2, ((nl * 2 : Nat) : Int), cA⟩), (73, ⟨bs, ns * 3, ((ns * 3 : Nat) : Int), cS⟩), (74, ⟨bv, nl * 2, ((nl * 2 : Nat) : Int), cW⟩), (75, ⟨bt, nt * 2, ((nt * 2 : Nat) : Int), cT⟩), (80, ⟨bE, e5, k5, ints .i32 (fun _ => 0)⟩)]
  subst hs1 hs2 hs3 hs4
  refine C_seq ?_
  refine C_seq ?_
  refine C_region ?_
  refine V_w0.q (QY_move rfl) rfl ?_
  refine W_fld V_w0 (q := 70) rfl rfl fa72_0 lf65 (by decide) rfl rfl rfl rfl ?_
  refine V_w0.q (QY_len sl65 rfl) rfl ?_
  refine V_w0.q (QY_move rfl) rfl ?_
  refine V_nil (X_next ?_)
  refine C_block ?_
  refine C_loops (T := Int × (Int → Int)) (fun (zz9 : Int × (Int → Int)) => match zz9 with | (l, rr) => [(0, .pointer (some ⟨bR, 0, none⟩)), (1, .pointer (some ⟨bA, 0, none⟩)), (5, .int .i32 (n : Int)), (6, .int .i32 tx), (7, .slice (some ⟨bE, 0, none⟩) (nl + 1) (nl + 1)), (75, .slice (some ⟨bl, 0, none⟩) nl nl), (76, .int .i64 (nl : Int)), (77, .int .i64 l)]) (fun (zz9 : Int × (Int → Int)) => match zz9 with | (l, rr) => [(70, ⟨bR, 15, 15, fl [.slice (some ⟨bl, 0, none⟩) nl nl, .slice (some ⟨bs, 0, none⟩) ns ns, .slice aV (nl + 1) cV, .slice none 0 0, .slice none 0 0, .slice none 0 0, .slice none 0 0, .slice (some ⟨bt, 0, none⟩) nt nt, .slice (some ⟨bv, 0, none⟩) nl nl, .slice aH hc cH, .slice none 0 0, .slice none 0 0, .slice none 0 0, .slice none 0 0, .slice none 0 0]⟩), (71, ⟨bA, 3, 3, fl [.slice aF nf cF, .slice aO no cO, .slice (some ⟨bL, 0, none⟩) no no]⟩), (34, ⟨bL, no, no, ints .u8 cl⟩), (72, ⟨bl, nl * 2, ((nl * 2 : Nat) : Int), cA⟩), (73, ⟨bs, ns * 3, ((ns * 3 : Nat) : Int), cS⟩), (74, ⟨bv, nl * 2, ((nl * 2 : Nat) : Int), cW⟩), (75, ⟨bt, nt * 2, ((nt * 2 : Nat) : Int), cT⟩), (80, ⟨bE, nl + 1, (nl : Int) + 1, ints .i32 rr⟩)]) (fun (zz9 : Int × (Int → Int)) => match zz9 with | (l, rr) => 0 ≤ l ∧ l ≤ nl ∧ ∀ k, 0 ≤ k → k ≤ l → rr k = (rel lf lt L1) k) (fun (zz9 : Int × (Int → Int)) => match zz9 with | (l, rr) => ((nl : Int) - l).toNat) (0, fun _ => 0) ?_ ?_ ?_ ?_
  · refine ⟨by omega, by omega, fun k a b => ?_⟩
    obtain rfl : k = 0 := by omega
    rfl
  · exact ⟨rfl, rfl, rfl, rfl, rfl, rfl, rfl, rfl, trivial⟩
  · exact ⟨rfl, rfl, rfl, rfl, rfl, rfl, rfl, rfl, trivial⟩
  rintro ⟨l, rr⟩ ⟨hl0, hl1, hrr⟩
  show C _ _ _ _ _ _ [(0, .pointer (some ⟨bR, 0, none⟩)), (1, .pointer (some ⟨bA, 0, none⟩)), (5, .int .i32 (n : Int)), (6, .int .i32 tx), (7, .slice (some ⟨bE, 0, none⟩) (nl + 1) (nl + 1)), (75, .slice (some ⟨bl, 0, none⟩) nl nl), (76, .int .i64 (nl : Int)), (77, .int .i64 l)] [(70, ⟨bR, 15, 15, fl [.slice (some ⟨bl, 0, none⟩) nl nl, .slice (some ⟨bs, 0, none⟩) ns ns, .slice aV (nl + 1) cV, .slice none 0 0, .slice none 0 0, .slice none 0 0, .slice none 0 0, .slice (some ⟨bt, 0, none⟩) nt nt, .slice (some ⟨bv, 0, none⟩) nl nl, .slice aH hc cH, .slice none 0 0, .slice none 0 0, .slice none 0 0, .slice none 0 0, .slice none 0 0]⟩), (71, ⟨bA, 3, 3, fl [.slice aF nf cF, .slice aO no cO, .slice (some ⟨bL, 0, none⟩) no no]⟩), (34, ⟨bL, no, no, ints .u8 cl⟩), (72, ⟨bl, nl * 2, ((nl * 2 : Nat) : Int), cA⟩), (73, ⟨bs, ns * 3, ((ns * 3 : Nat) : Int), cS⟩), (74, ⟨bv, nl * 2, ((nl * 2 : Nat) : Int), cW⟩), (75, ⟨bt, nt * 2, ((nt * 2 : Nat) : Int), cT⟩), (80, ⟨bE, nl + 1, (nl : Int) + 1, ints .i32 rr⟩)]
  refine C_seq ?_
  refine C_region ?_
  refine W_lss V_w0 rfl rfl rfl (fun h78 => ?_) (fun h78 => ?_)
  ·
    have hrl := hrr l hl0 (Int.le_refl _)
    have hrb := rel_b lf lt L1 hl0
    have htm := tot_mono L1 (j := l + 1) (k := nl) (by omega) (by omega)
    have hts := tot_succ L1 hl0
    refine V_nil (X_next ?_)
    refine C_seq ?_
    refine C_true rfl ?_
    refine C_skip (X_next ?_)
    refine C_seq ?_
    refine C_block ?_
    refine C_seq ?_
    refine C_region ?_
    refine V_w0.q (QY_move rfl) rfl ?_
    refine V_w0.q (QY_index2 (o' := (l : Int).toNat * 2) sl65 rfl rfl (by omega) (by omega) (by omega)) rfl ?_
    refine V_w0.q (QY_loadA ag74 (q := 72) (vs := [.int .i32 0, .slice (A1 l) (L1 l) (C1 l)]) rfl rfl (by omega) rfl (two_cells hl0 (hcA l hl0 (by omega)).1 (hcA l hl0 (by omega)).2)) rfl ?_
    refine V_allocA 81 ag74 rfl rfl (fun bq1 => ?_)
    refine V_w0.q (QY_assign rfl) rfl ?_
    refine V_storeV (q := 81) ag74 rfl rfl rfl rfl (by intro v hv; simp at hv; rcases hv with rfl | rfl <;> rfl) (by decide) ?_
    refine V_nil (X_next ?_)
    refine C_seq ?_
    refine C_region ?_
    refine V_w0.q (QY_move rfl) rfl ?_
    refine V_w0.q (QY_move rfl) rfl ?_
    refine V_w0.q (QY_arith rfl rfl rfl ⟨by omega, by omega⟩) rfl ?_
    refine V_w0.q (QY_move rfl) rfl ?_
    refine V_w0.q (QY_move rfl) rfl ?_
    refine W_elem V_w0 rfl rfl (Rd_own (q := 80) rfl (by omega)) (by omega) (by omega) sl22 lf21 rfl rfl (fun _ => ?_)
    refine V_set (q := 80) rfl rfl rfl rfl rfl (by omega) (by omega) (by omega) sl22 lf21 rfl rfl (upd_ints _ _ _ _) (fun _ => ?_)
    refine V_nil (X_next ?_)
    refine C_seq ?_
    refine C_draw mix (by kernel_rfl) ?_
    refine S_w0.q (QY_move rfl) rfl ?_
    refine W_fld S_w0 (q := 70) rfl rfl fa72_2 lf22 (by decide) rfl rfl rfl rfl ?_
    refine S_w0.q (QY_move rfl) rfl ?_
    refine W_elem S_w0 rfl rfl (hV.rd) (by omega) (by omega) sl22 lf21 rfl rfl (fun _ => ?_)
    refine S_w0.q (QY_move rfl) rfl ?_
    refine W_fld S_w0 (q := 70) rfl rfl fa72_2 lf22 (by decide) rfl rfl rfl rfl ?_
    refine S_w0.q (QY_move rfl) rfl ?_
    refine S_w0.q (QY_arith rfl rfl rfl ⟨by omega, by omega⟩) rfl ?_
    refine W_elem S_w0 rfl rfl (hV.rd) (by omega) (by omega) sl22 lf21 rfl rfl (fun _ => ?_)
    refine W_lss S_w0 rfl rfl rfl (fun h105 => ?_) (fun h105 => ?_)
    ·
      refine S_w0.q (QY_move rfl) rfl ?_
      refine S_walk.no rfl rfl rfl ?_
      refine S_walk.no rfl rfl rfl ?_
      refine S_walk.no rfl rfl rfl ?_
      refine S_walk.no rfl rfl rfl ?_
      refine S_walk.no rfl rfl rfl ?_
      refine S_walk.no rfl rfl rfl ?_
      refine S_walk.no rfl rfl rfl ?_
      refine S_walk.no rfl rfl rfl ?_
      refine S_walk.no rfl rfl rfl ?_
      refine S_w0.q (QY_pick_true rfl rfl) rfl ?_
      refine S_nil (X_next ?_)
      refine C_true rfl ?_
      refine C_draws 10 10 mix (by kernel_rfl) ?_
      refine T_w0.q (QY_move rfl) rfl ?_
      refine T_w0.q (QY_move rfl) rfl ?_
      refine T_w0.q (QY_arith rfl rfl rfl ⟨by omega, by omega⟩) rfl ?_
      refine W_elem T_w0 rfl rfl (Rd_own (q := 80) rfl (by omega)) (by omega) (by omega) sl22 lf21 rfl rfl (fun _ => ?_)
      refine T_w0.q (QY_fieldP (o' := 1) fa74_1 rfl rfl) rfl ?_
      refine T_w0.q (QY_cell lf22 (q := 81) rfl rfl (by decide) rfl) rfl ?_
      refine T_w0.q (QY_len sl22 rfl) rfl ?_
      refine T_w0.q (QY_conv it3 it21 rfl ⟨by omega, by omega⟩) rfl ?_
      have hup : upd rr (l + 1) (rr l) (l + 1) = rr l := upd_same _ _ _
      refine T_w0.q (QY_arith rfl rfl rfl ⟨by omega, by omega⟩) rfl ?_
      refine T_tail rfl rfl ?_
      refine V_set (q := 80) rfl rfl rfl rfl rfl (by omega) (by omega) (by omega) sl22 lf21 rfl rfl (upd_ints _ _ _ _) (fun _ => ?_)
      refine V_nil (X_Qn (X_block (X_next ?_)))
      refine C_region ?_
      refine V_w0.q (QY_arith rfl rfl rfl ⟨by omega, by omega⟩) rfl ?_
      refine V_w0.q (QY_move rfl) rfl ?_
      refine V_nil (X_then ?_)
      refine X_round (l + 1, upd (upd rr (l + 1) (rr l)) (l + 1) (upd rr (l + 1) (rr l) (l + 1) + ((L1 l : Nat) : Int))) ?_ ?_ ?_ ?_
      · refine ⟨by omega, by omega, fun k a b => ?_⟩
        by_cases e : k = l + 1
        · subst e; rw [upd_same, hup, rel_yes hl0 (.inl h105)]; omega
        · rw [upd_other _ _ _ e, upd_other _ _ _ e]; exact hrr k a (by omega)
      · show ((nl : Int) - (l + 1)).toNat < ((nl : Int) - l).toNat
        omega
      · exact ⟨rfl, rfl, rfl, rfl, rfl, rfl, rfl, rfl, trivial⟩
      · exact ⟨rfl, rfl, rfl, rfl, rfl, rfl, rfl, rfl, trivial⟩
    ·
      refine S_w0.q (QY_move rfl) rfl ?_
      refine S_walk.yes rfl rfl ?_
      refine S_w0.q (QY_move rfl) rfl ?_
      refine S_walk.yes rfl rfl ?_
      refine W_fld2 S_walk (q := 70) rfl (fun _ => rfl) (fun _ _ => rfl) rfl rfl fa72_8 lf69 (by decide) rfl rfl rfl rfl ?_
      refine S_walk.yes rfl rfl ?_
      refine S_w0.q (QY_move rfl) rfl ?_
      refine S_walk.yes rfl rfl ?_
      refine S_w0.q (QY_index2 (o' := (l : Int).toNat * 2) sl69 rfl rfl (by omega) (by omega) (by omega)) rfl ?_
      refine S_walk.yes rfl rfl ?_
      refine S_w0.q (QY_fieldP (o' := (l : Int).toNat * 2) fa78_0 rfl rfl) rfl ?_
      refine S_walk.yes rfl rfl ?_
      refine S_w0.q (QY_cell lf21 (q := 74) (v := .int .i32 (lt l)) rfl rfl (by omega) (by rw [show (((l : Int).toNat * 2 : Nat) : Int) = 2 * l from by omega]; exact hcW l hl0 (by omega))) rfl ?_
      refine S_walk.yes rfl rfl ?_
      refine W_geq S_w0 rfl rfl rfl (fun h115 => ?_) (fun h115 => ?_)
      ·
        refine S_w0.q (QY_pick_false rfl rfl) rfl ?_
        refine S_nil (X_next ?_)
        refine C_true rfl ?_
        refine C_draws 10 10 mix (by kernel_rfl) ?_
        refine T_w0.q (QY_move rfl) rfl ?_
        refine T_w0.q (QY_move rfl) rfl ?_
        refine T_w0.q (QY_arith rfl rfl rfl ⟨by omega, by omega⟩) rfl ?_
        refine W_elem T_w0 rfl rfl (Rd_own (q := 80) rfl (by omega)) (by omega) (by omega) sl22 lf21 rfl rfl (fun _ => ?_)
        refine T_w0.q (QY_fieldP (o' := 1) fa74_1 rfl rfl) rfl ?_
        refine T_w0.q (QY_cell lf22 (q := 81) rfl rfl (by decide) rfl) rfl ?_
        refine T_w0.q (QY_len sl22 rfl) rfl ?_
        refine T_w0.q (QY_conv it3 it21 rfl ⟨by omega, by omega⟩) rfl ?_
        have hup : upd rr (l + 1) (rr l) (l + 1) = rr l := upd_same _ _ _
        refine T_w0.q (QY_arith rfl rfl rfl ⟨by omega, by omega⟩) rfl ?_
        refine T_tail rfl rfl ?_
        refine V_set (q := 80) rfl rfl rfl rfl rfl (by omega) (by omega) (by omega) sl22 lf21 rfl rfl (upd_ints _ _ _ _) (fun _ => ?_)
        refine V_nil (X_Qn (X_block (X_next ?_)))
        refine C_region ?_
        refine V_w0.q (QY_arith rfl rfl rfl ⟨by omega, by omega⟩) rfl ?_
        refine V_w0.q (QY_move rfl) rfl ?_
        refine V_nil (X_then ?_)
        refine X_round (l + 1, upd (upd rr (l + 1) (rr l)) (l + 1) (upd rr (l + 1) (rr l) (l + 1) + ((L1 l : Nat) : Int))) ?_ ?_ ?_ ?_
        · refine ⟨by omega, by omega, fun k a b => ?_⟩
          by_cases e : k = l + 1
          · subst e; rw [upd_same, hup, rel_yes hl0 (.inr h115)]; omega
          · rw [upd_other _ _ _ e, upd_other _ _ _ e]; exact hrr k a (by omega)
        · show ((nl : Int) - (l + 1)).toNat < ((nl : Int) - l).toNat
          omega
        · exact ⟨rfl, rfl, rfl, rfl, rfl, rfl, rfl, rfl, trivial⟩
        · exact ⟨rfl, rfl, rfl, rfl, rfl, rfl, rfl, rfl, trivial⟩
      ·
        refine S_w0.q (QY_pick_false rfl rfl) rfl ?_
        refine S_nil (X_next ?_)
        refine C_false rfl ?_
        refine C_skip (X_block (X_next ?_))
        refine C_region ?_
        refine V_w0.q (QY_arith rfl rfl rfl ⟨by omega, by omega⟩) rfl ?_
        refine V_w0.q (QY_move rfl) rfl ?_
        refine V_nil (X_then ?_)
        refine X_round (l + 1, upd rr (l + 1) (rr l)) ?_ ?_ ?_ ?_
        · refine ⟨by omega, by omega, fun k a b => ?_⟩
          by_cases e : k = l + 1
          · subst e; rw [upd_same, rel_no hl0 (by omega)]; omega
          · rw [upd_other _ _ _ e]; exact hrr k a (by omega)
        · show ((nl : Int) - (l + 1)).toNat < ((nl : Int) - l).toNat
          omega
        · exact ⟨rfl, rfl, rfl, rfl, rfl, rfl, rfl, rfl, trivial⟩
        · exact ⟨rfl, rfl, rfl, rfl, rfl, rfl, rfl, rfl, trivial⟩
  ·
    obtain rfl : l = (nl : Int) := by omega
    refine V_nil (X_next ?_)
    refine C_seq ?_
    refine C_false rfl ?_
    refine C_exit (X_then_exit (X_then_exit (X_block_exit (X_next ?_))))
    refine C_seq ?_
    refine C_mem (fun w hm => hm.none 82 0 (n := ((0 * 2 : Nat) : Int)) (by omega) (prs (fun _ => 0) (fun _ => 0))) ?_
    refine C_region ?_
    refine V_w0.q (QY_assign rfl) rfl ?_
    refine V_nil (X_next ?_)
    refine C_seq ?_
    refine C_seq ?_
    refine C_region ?_
    refine V_w0.q (QY_move rfl) rfl ?_
    refine W_fld V_w0 (q := 70) rfl rfl fa72_1 lf66 (by decide) rfl rfl rfl rfl ?_
    refine V_w0.q (QY_len sl66 rfl) rfl ?_
    refine V_w0.q (QY_move rfl) rfl ?_
    refine V_nil (X_next ?_)
    refine C_block ?_
    refine C_loops (T := Int × Nat × Nat × Nat × Option Addr × Nat × (Int → Int) × (Int → Int)) (fun (zz9 : Int × Nat × Nat × Nat × Option Addr × Nat × (Int → Int) × (Int → Int)) => match zz9 with | (i, M1, bK1, sK1, aK1, cK1, fr1, to1) => [(0, .pointer (some ⟨bR, 0, none⟩)), (1, .pointer (some ⟨bA, 0, none⟩)), (5, .int .i32 (n : Int)), (6, .int .i32 tx), (7, .slice (some ⟨bE, 0, none⟩) (nl + 1) (nl + 1)), (10, .slice aK1 M1 cK1), (132, .slice (some ⟨bs, 0, none⟩) ns ns), (133, .int .i64 (ns : Int)), (134, .int .i64 i)]) (fun (zz9 : Int × Nat × Nat × Nat × Option Addr × Nat × (Int → Int) × (Int → Int)) => match zz9 with | (i, M1, bK1, sK1, aK1, cK1, fr1, to1) => [(70, ⟨bR, 15, 15, fl [.slice (some ⟨bl, 0, none⟩) nl nl, .slice (some ⟨bs, 0, none⟩) ns ns, .slice aV (nl + 1) cV, .slice none 0 0, .slice none 0 0, .slice none 0 0, .slice none 0 0, .slice (some ⟨bt, 0, none⟩) nt nt, .slice (some ⟨bv, 0, none⟩) nl nl, .slice aH hc cH, .slice none 0 0, .slice none 0 0, .slice none 0 0, .slice none 0 0, .slice none 0 0]⟩), (71, ⟨bA, 3, 3, fl [.slice aF nf cF, .slice aO no cO, .slice (some ⟨bL, 0, none⟩) no no]⟩), (34, ⟨bL, no, no, ints .u8 cl⟩), (72, ⟨bl, nl * 2, ((nl * 2 : Nat) : Int), cA⟩), (73, ⟨bs, ns * 3, ((ns * 3 : Nat) : Int), cS⟩), (74, ⟨bv, nl * 2, ((nl * 2 : Nat) : Int), cW⟩), (75, ⟨bt, nt * 2, ((nt * 2 : Nat) : Int), cT⟩), (80, ⟨bE, nl + 1, (nl : Int) + 1, ints .i32 rr⟩), (82, ⟨bK1, sK1, ((M1 * 2 : Nat) : Int), prs fr1 to1⟩)]) (fun (zz9 : Int × Nat × Nat × Nat × Option Addr × Nat × (Int → Int) × (Int → Int)) => match zz9 with | (i, M1, bK1, sK1, aK1, cK1, fr1, to1) => 0 ≤ i ∧ i = (M1 : Int) ∧ i ≤ ns ∧ Gs ⟨bK1, sK1, ((M1 * 2 : Nat) : Int), prs fr1 to1⟩ 2 M1 (.slice aK1 M1 cK1) ∧ ∀ i, 0 ≤ i → i < (M1 : Int) → fr1 i = sr i ∧ to1 i = (n : Int) + (rel lf lt L1) (sl i) + ss i) (fun (zz9 : Int × Nat × Nat × Nat × Option Addr × Nat × (Int → Int) × (Int → Int)) => match zz9 with | (i, M1, bK1, sK1, aK1, cK1, fr1, to1) => ((ns : Int) - i).toNat) (0, 0, 0, 0, none, 0, fun _ => 0, fun _ => 0) ?_ ?_ ?_ ?_
    · exact ⟨by omega, by omega, by omega, .inl ⟨rfl, rfl, rfl⟩, fun i a b => by omega⟩
    · exact ⟨rfl, rfl, rfl, rfl, rfl, rfl, rfl, rfl, rfl, trivial⟩
    · exact ⟨rfl, rfl, rfl, rfl, rfl, rfl, rfl, rfl, rfl, trivial⟩
    rintro ⟨i, M1, bK1, sK1, aK1, cK1, fr1, to1⟩ ⟨hi0, hiM, hi1, gK1, hk1⟩
    show C _ _ _ _ _ _ [(0, .pointer (some ⟨bR, 0, none⟩)), (1, .pointer (some ⟨bA, 0, none⟩)), (5, .int .i32 (n : Int)), (6, .int .i32 tx), (7, .slice (some ⟨bE, 0, none⟩) (nl + 1) (nl + 1)), (10, .slice aK1 M1 cK1), (132, .slice (some ⟨bs, 0, none⟩) ns ns), (133, .int .i64 (ns : Int)), (134, .int .i64 i)] [(70, ⟨bR, 15, 15, fl [.slice (some ⟨bl, 0, none⟩) nl nl, .slice (some ⟨bs, 0, none⟩) ns ns, .slice aV (nl + 1) cV, .slice none 0 0, .slice none 0 0, .slice none 0 0, .slice none 0 0, .slice (some ⟨bt, 0, none⟩) nt nt, .slice (some ⟨bv, 0, none⟩) nl nl, .slice aH hc cH, .slice none 0 0, .slice none 0 0, .slice none 0 0, .slice none 0 0, .slice none 0 0]⟩), (71, ⟨bA, 3, 3, fl [.slice aF nf cF, .slice aO no cO, .slice (some ⟨bL, 0, none⟩) no no]⟩), (34, ⟨bL, no, no, ints .u8 cl⟩), (72, ⟨bl, nl * 2, ((nl * 2 : Nat) : Int), cA⟩), (73, ⟨bs, ns * 3, ((ns * 3 : Nat) : Int), cS⟩), (74, ⟨bv, nl * 2, ((nl * 2 : Nat) : Int), cW⟩), (75, ⟨bt, nt * 2, ((nt * 2 : Nat) : Int), cT⟩), (80, ⟨bE, nl + 1, (nl : Int) + 1, ints .i32 rr⟩), (82, ⟨bK1, sK1, ((M1 * 2 : Nat) : Int), prs fr1 to1⟩)]
    refine C_seq ?_
    refine C_region ?_
    refine W_lss V_w0 rfl rfl rfl (fun h135 => ?_) (fun h135 => ?_)
    ·
      have hspi := hsp.1 i hi0 (by omega)
      have hre := hrr (sl i) (by omega) (by omega)
      have hrb := rel_b lf lt L1 (k := sl i) (by omega)
      have htm := tot_mono L1 (j := sl i + 1) (k := nl) (by omega) (by omega)
      have hts := tot_succ L1 (k := sl i) (by omega)
      refine V_nil (X_next ?_)
      refine C_seq ?_
      refine C_true rfl ?_
      refine C_skip (X_next ?_)
      refine C_seq ?_
      refine C_block ?_
      refine C_seq ?_
      refine C_region ?_
      refine V_w0.q (QY_index2 (o' := (i : Int).toNat * 3) sl66 rfl rfl (by omega) (by omega) (by omega)) rfl ?_
      refine V_w0.q (QY_loadA ag76 (q := 73) (vs := [.int .i32 (sr i), .int .i32 (sl i), .int .i32 (ss i)]) rfl rfl (by omega) rfl (three_cells hi0 (hcS i hi0 (by omega)).1 (hcS i hi0 (by omega)).2.1 (hcS i hi0 (by omega)).2.2)) rfl ?_
      refine V_allocA 83 ag76 rfl rfl (fun bq2 => ?_)
      refine V_storeV (q := 83) ag76 rfl rfl rfl rfl (by intro v hv; simp at hv; rcases hv with rfl | rfl | rfl <;> rfl) (by decide) ?_
      refine V_nil (X_next ?_)
      refine C_draws 16 14 mix (by kernel_rfl) ?_
      refine T_w0.q (QY_move rfl) rfl ?_
      refine T_w0.q (QY_fieldP (o' := 0) fa76_0 rfl rfl) rfl ?_
      refine T_w0.q (QY_cell lf21 (q := 83) rfl rfl (by decide) rfl) rfl ?_
      refine T_w0.q (QY_move rfl) rfl ?_
      refine T_w0.q (QY_move rfl) rfl ?_
      refine T_w0.q (QY_fieldP (o' := 1) fa76_1 rfl rfl) rfl ?_
      refine T_w0.q (QY_cell lf21 (q := 83) rfl rfl (by decide) rfl) rfl ?_
      refine W_elem T_w0 rfl rfl (Rd_own (q := 80) rfl (by omega)) (by omega) (by omega) sl22 lf21 rfl rfl (fun _ => ?_)
      refine T_w0.q (QY_arith rfl rfl rfl ⟨by omega, by omega⟩) rfl ?_
      refine T_w0.q (QY_fieldP (o' := 2) fa76_2 rfl rfl) rfl ?_
      refine T_w0.q (QY_cell lf21 (q := 83) rfl rfl (by decide) rfl) rfl ?_
      refine T_w0.q (QY_arith rfl rfl rfl ⟨by omega, by omega⟩) rfl ?_
      refine T_w0.q (v := .agg #[.int .i32 (sr i), .int .i32 ((n : Int) + rr (sl i) + ss i)]) (QY_build (parts := [(0, .tmp 140), (1, .tmp 150)]) (vs := [(0, .int .i32 (sr i)), (1, .int .i32 ((n : Int) + rr (sl i) + ss i))]) (fun a hf => by
        simp only [List.map_cons, List.map_nil]
        rw [hf.eval (x := .tmp 140) rfl, hf.eval (x := .tmp 150) rfl] <;> rfl) (fun w => build87 w _ _ rfl rfl)) rfl ?_
      refine T_app2 (q := 82) rfl rfl mk85 rfl (fun _ => rfl) gK1 rfl rfl (kn2 := (((M1 + 1) * 2 : Nat) : Int)) (by omega) rfl rfl (by omega) (by omega) rfl rfl (prs_upd2 (x' := sr i) (y' := (n : Int) + (rel lf lt L1) (sl i) + ss i) rfl (by omega) (by omega)) ?_
      intro _ svKa bKa sKa hsKa gKa
      obtain ⟨aKa, cKa, rfl⟩ := gKa.slice
      refine T_tail rfl rfl ?_
      refine V_w0.q (QY_assign rfl) rfl ?_
      refine V_nil (X_Qn (X_block (X_next ?_)))
      refine C_region ?_
      refine V_w0.q (QY_arith rfl rfl rfl ⟨by omega, by omega⟩) rfl ?_
      refine V_w0.q (QY_move rfl) rfl ?_
      refine V_nil (X_then ?_)
      refine X_round (i + 1, M1 + 1, bKa, sKa, aKa, cKa, upd fr1 (M1 : Int) (sr i), upd to1 (M1 : Int) ((n : Int) + (rel lf lt L1) (sl i) + ss i)) ?_ ?_ ?_ ?_
      · refine ⟨by omega, by omega, by omega, gKa, fun i9 a b => ?_⟩
        by_cases e : i9 = (M1 : Int)
        · subst e; rw [upd_same, upd_same, hiM]; exact ⟨rfl, rfl⟩
        · rw [upd_other _ _ _ e, upd_other _ _ _ e]; exact hk1 i9 a (by omega)
      · show ((ns : Int) - (i + 1)).toNat < ((ns : Int) - i).toNat
        omega
      · exact ⟨rfl, rfl, rfl, rfl, rfl, rfl, rfl, rfl, rfl, trivial⟩
      · exact ⟨rfl, rfl, rfl, rfl, rfl, rfl, rfl, rfl, rfl, trivial⟩
    ·
      obtain rfl : ns = M1 := by omega
      refine V_nil (X_next ?_)
      refine C_seq ?_
      refine C_false rfl ?_
      refine C_exit (X_then_exit (X_then_exit (X_block_exit (X_next ?_))))
      refine C_seq ?_
      refine C_seq ?_
      refine C_region ?_
      refine V_w0.q (QY_move rfl) rfl ?_
      refine W_fld V_w0 (q := 70) rfl rfl fa72_7 lf68 (by decide) rfl rfl rfl rfl ?_
      refine V_w0.q (QY_len sl68 rfl) rfl ?_
      refine V_w0.q (QY_move rfl) rfl ?_
      refine V_nil (X_next ?_)
      refine C_block ?_
      refine C_loops (T := Int × Nat × Nat × Nat × Option Addr × Nat × (Int → Int) × (Int → Int)) (fun (zz9 : Int × Nat × Nat × Nat × Option Addr × Nat × (Int → Int) × (Int → Int)) => match zz9 with | (t, M2, bK2, sK2, aK2, cK2, fr2, to2) => [(0, .pointer (some ⟨bR, 0, none⟩)), (1, .pointer (some ⟨bA, 0, none⟩)), (5, .int .i32 (n : Int)), (6, .int .i32 tx), (7, .slice (some ⟨bE, 0, none⟩) (nl + 1) (nl + 1)), (10, .slice aK2 M2 cK2), (158, .slice (some ⟨bt, 0, none⟩) nt nt), (159, .int .i64 (nt : Int)), (160, .int .i64 t)]) (fun (zz9 : Int × Nat × Nat × Nat × Option Addr × Nat × (Int → Int) × (Int → Int)) => match zz9 with | (t, M2, bK2, sK2, aK2, cK2, fr2, to2) => [(70, ⟨bR, 15, 15, fl [.slice (some ⟨bl, 0, none⟩) nl nl, .slice (some ⟨bs, 0, none⟩) ns ns, .slice aV (nl + 1) cV, .slice none 0 0, .slice none 0 0, .slice none 0 0, .slice none 0 0, .slice (some ⟨bt, 0, none⟩) nt nt, .slice (some ⟨bv, 0, none⟩) nl nl, .slice aH hc cH, .slice none 0 0, .slice none 0 0, .slice none 0 0, .slice none 0 0, .slice none 0 0]⟩), (71, ⟨bA, 3, 3, fl [.slice aF nf cF, .slice aO no cO, .slice (some ⟨bL, 0, none⟩) no no]⟩), (34, ⟨bL, no, no, ints .u8 cl⟩), (72, ⟨bl, nl * 2, ((nl * 2 : Nat) : Int), cA⟩), (73, ⟨bs, ns * 3, ((ns * 3 : Nat) : Int), cS⟩), (74, ⟨bv, nl * 2, ((nl * 2 : Nat) : Int), cW⟩), (75, ⟨bt, nt * 2, ((nt * 2 : Nat) : Int), cT⟩), (80, ⟨bE, nl + 1, (nl : Int) + 1, ints .i32 rr⟩), (82, ⟨bK2, sK2, ((M2 * 2 : Nat) : Int), prs fr2 to2⟩)]) (fun (zz9 : Int × Nat × Nat × Nat × Option Addr × Nat × (Int → Int) × (Int → Int)) => match zz9 with | (t, M2, bK2, sK2, aK2, cK2, fr2, to2) => 0 ≤ t ∧ t ≤ nt ∧ Gs ⟨bK2, sK2, ((M2 * 2 : Nat) : Int), prs fr2 to2⟩ 2 M2 (.slice aK2 M2 cK2) ∧ Lk2 ns (n : Int) tx hb L2 Z2 (rel lf lt L1) sr sl ss t 0 M2 fr2 to2 ∧ (M2 : Int) ≤ ns + tot L2 t) (fun (zz9 : Int × Nat × Nat × Nat × Option Addr × Nat × (Int → Int) × (Int → Int)) => match zz9 with | (t, M2, bK2, sK2, aK2, cK2, fr2, to2) => ((nt : Int) - t).toNat) (0, ns, bK1, sK1, aK1, cK1, fr1, to1) ?_ ?_ ?_ ?_
      · exact ⟨by omega, by omega, gK1, Lk2.start hk1, by rw [tot_zero]; omega⟩
      · exact ⟨rfl, rfl, rfl, rfl, rfl, rfl, rfl, rfl, rfl, trivial⟩
      · exact ⟨rfl, rfl, rfl, rfl, rfl, rfl, rfl, rfl, rfl, trivial⟩
      rintro ⟨t, M2, bK2, sK2, aK2, cK2, fr2, to2⟩ ⟨ht0, ht1, gK2, hk2, hM2⟩
      show C _ _ _ _ _ _ [(0, .pointer (some ⟨bR, 0, none⟩)), (1, .pointer (some ⟨bA, 0, none⟩)), (5, .int .i32 (n : Int)), (6, .int .i32 tx), (7, .slice (some ⟨bE, 0, none⟩) (nl + 1) (nl + 1)), (10, .slice aK2 M2 cK2), (158, .slice (some ⟨bt, 0, none⟩) nt nt), (159, .int .i64 (nt : Int)), (160, .int .i64 t)] [(70, ⟨bR, 15, 15, fl [.slice (some ⟨bl, 0, none⟩) nl nl, .slice (some ⟨bs, 0, none⟩) ns ns, .slice aV (nl + 1) cV, .slice none 0 0, .slice none 0 0, .slice none 0 0, .slice none 0 0, .slice (some ⟨bt, 0, none⟩) nt nt, .slice (some ⟨bv, 0, none⟩) nl nl, .slice aH hc cH, .slice none 0 0, .slice none 0 0, .slice none 0 0, .slice none 0 0, .slice none 0 0]⟩), (71, ⟨bA, 3, 3, fl [.slice aF nf cF, .slice aO no cO, .slice (some ⟨bL, 0, none⟩) no no]⟩), (34, ⟨bL, no, no, ints .u8 cl⟩), (72, ⟨bl, nl * 2, ((nl * 2 : Nat) : Int), cA⟩), (73, ⟨bs, ns * 3, ((ns * 3 : Nat) : Int), cS⟩), (74, ⟨bv, nl * 2, ((nl * 2 : Nat) : Int), cW⟩), (75, ⟨bt, nt * 2, ((nt * 2 : Nat) : Int), cT⟩), (80, ⟨bE, nl + 1, (nl : Int) + 1, ints .i32 rr⟩), (82, ⟨bK2, sK2, ((M2 * 2 : Nat) : Int), prs fr2 to2⟩)]
      refine C_seq ?_
      refine C_region ?_
      refine W_lss V_w0 rfl rfl rfl (fun h161 => ?_) (fun h161 => ?_)
      ·
        have htm2 := tot_mono L2 (j := t + 1) (k := nt) (by omega) (by omega)
        have hts2 := tot_succ L2 ht0
        have htn2 := tot_nonneg L2 t
        refine V_nil (X_next ?_)
        refine C_seq ?_
        refine C_true rfl ?_
        refine C_skip (X_next ?_)
        refine C_seq ?_
        refine C_block ?_
        refine C_seq ?_
        refine C_region ?_
        refine V_w0.q (QY_index2 (o' := (t : Int).toNat * 2) sl68 rfl rfl (by omega) (by omega) (by omega)) rfl ?_
        refine V_w0.q (QY_loadA ag80 (q := 75) (vs := [.slice (A2 t) (L2 t) (C2 t), .int .i32 (thF hb L2 t)]) rfl rfl (by omega) rfl (two_cells ht0 (hcT t ht0 (by omega)).1 (hcT t ht0 (by omega)).2)) rfl ?_
        refine V_allocA 84 ag80 rfl rfl (fun bq3 => ?_)
        refine V_storeV (q := 84) ag80 rfl rfl rfl rfl (by intro v hv; simp at hv; rcases hv with rfl | rfl <;> rfl) (by decide) ?_
        refine V_nil (X_next ?_)
        refine C_seq ?_
        refine C_seq ?_
        refine C_region ?_
        refine V_w0.q (QY_fieldP (o' := 1) fa80_1 rfl rfl) rfl ?_
        refine V_w0.q (QY_cell lf21 (q := 84) rfl rfl (by decide) rfl) rfl ?_
        refine W_lss V_w0 rfl rfl rfl (fun h166 => ?_) (fun h166 => ?_)
        ·
          refine V_nil (X_next ?_)
          refine C_true rfl ?_
          refine C_exit (X_then_exit (X_block_exit (X_next ?_)))
          refine C_region ?_
          refine V_w0.q (QY_arith rfl rfl rfl ⟨by omega, by omega⟩) rfl ?_
          refine V_w0.q (QY_move rfl) rfl ?_
          refine V_nil (X_then ?_)
          refine X_round (t + 1, M2, bK2, sK2, aK2, cK2, fr2, to2) ?_ ?_ ?_ ?_
          · exact ⟨by omega, by omega, gK2, hk2.tree (.inr ⟨by omega, rfl⟩), by omega⟩
          · show ((nt : Int) - (t + 1)).toNat < ((nt : Int) - t).toNat
            omega
          · exact ⟨rfl, rfl, rfl, rfl, rfl, rfl, rfl, rfl, rfl, trivial⟩
          · exact ⟨rfl, rfl, rfl, rfl, rfl, rfl, rfl, rfl, rfl, trivial⟩
        ·
          have hth := thF_pos (hb := hb) (L := L2) ht0 (by omega)
          have hhm := hu_mono hb L2 (j := t + 1) (k := nt) (by omega) (by omega)
          have hub9 := hu_b hb L2 ht0
          refine V_nil (X_next ?_)
          refine C_false rfl ?_
          refine C_skip (X_next ?_)
          refine C_seq ?_
          refine C_region ?_
          refine V_w0.q (QY_fieldP (o' := 0) fa80_0 rfl rfl) rfl ?_
          refine V_w0.q (QY_cell lf22 (q := 84) rfl rfl (by decide) rfl) rfl ?_
          refine V_w0.q (QY_len sl22 rfl) rfl ?_
          refine V_w0.q (QY_conv it3 it21 rfl ⟨by omega, by omega⟩) rfl ?_
          refine V_w0.q (QY_assign rfl) rfl ?_
          refine V_nil (X_next ?_)
          refine C_seq ?_
          refine C_region ?_
          refine V_w0.q (QY_fieldP (o' := 0) fa80_0 rfl rfl) rfl ?_
          refine V_w0.q (QY_cell lf22 (q := 84) rfl rfl (by decide) rfl) rfl ?_
          refine V_w0.q (QY_len sl22 rfl) rfl ?_
          refine V_w0.q (QY_move rfl) rfl ?_
          refine V_nil (X_next ?_)
          refine C_block ?_
          refine C_loops (T := Int × Nat × Nat × Nat × Option Addr × Nat × (Int → Int) × (Int → Int)) (fun (zz9 : Int × Nat × Nat × Nat × Option Addr × Nat × (Int → Int) × (Int → Int)) => match zz9 with | (j, M3, bK3, sK3, aK3, cK3, fr3, to3) => [(0, .pointer (some ⟨bR, 0, none⟩)), (1, .pointer (some ⟨bA, 0, none⟩)), (5, .int .i32 (n : Int)), (6, .int .i32 tx), (7, .slice (some ⟨bE, 0, none⟩) (nl + 1) (nl + 1)), (10, .slice aK3 M3 cK3), (14, .pointer (some ⟨bq3, 0, none⟩)), (15, .int .i32 ((L2 t : Nat) : Int)), (158, .slice (some ⟨bt, 0, none⟩) nt nt), (159, .int .i64 (nt : Int)), (160, .int .i64 t), (172, .slice (A2 t) (L2 t) (C2 t)), (173, .int .i64 ((L2 t : Nat) : Int)), (174, .int .i64 j)]) (fun (zz9 : Int × Nat × Nat × Nat × Option Addr × Nat × (Int → Int) × (Int → Int)) => match zz9 with | (j, M3, bK3, sK3, aK3, cK3, fr3, to3) => [(70, ⟨bR, 15, 15, fl [.slice (some ⟨bl, 0, none⟩) nl nl, .slice (some ⟨bs, 0, none⟩) ns ns, .slice aV (nl + 1) cV, .slice none 0 0, .slice none 0 0, .slice none 0 0, .slice none 0 0, .slice (some ⟨bt, 0, none⟩) nt nt, .slice (some ⟨bv, 0, none⟩) nl nl, .slice aH hc cH, .slice none 0 0, .slice none 0 0, .slice none 0 0, .slice none 0 0, .slice none 0 0]⟩), (71, ⟨bA, 3, 3, fl [.slice aF nf cF, .slice aO no cO, .slice (some ⟨bL, 0, none⟩) no no]⟩), (34, ⟨bL, no, no, ints .u8 cl⟩), (72, ⟨bl, nl * 2, ((nl * 2 : Nat) : Int), cA⟩), (73, ⟨bs, ns * 3, ((ns * 3 : Nat) : Int), cS⟩), (74, ⟨bv, nl * 2, ((nl * 2 : Nat) : Int), cW⟩), (75, ⟨bt, nt * 2, ((nt * 2 : Nat) : Int), cT⟩), (80, ⟨bE, nl + 1, (nl : Int) + 1, ints .i32 rr⟩), (82, ⟨bK3, sK3, ((M3 * 2 : Nat) : Int), prs fr3 to3⟩), (84, ⟨bq3, 2, 2, fl [.slice (A2 t) (L2 t) (C2 t), .int .i32 (thF hb L2 t)]⟩)]) (fun (zz9 : Int × Nat × Nat × Nat × Option Addr × Nat × (Int → Int) × (Int → Int)) => match zz9 with | (j, M3, bK3, sK3, aK3, cK3, fr3, to3) => 0 ≤ j ∧ j ≤ ((L2 t : Nat) : Int) ∧ Gs ⟨bK3, sK3, ((M3 * 2 : Nat) : Int), prs fr3 to3⟩ 2 M3 (.slice aK3 M3 cK3) ∧ Lk2 ns (n : Int) tx hb L2 Z2 (rel lf lt L1) sr sl ss t j M3 fr3 to3 ∧ (M3 : Int) ≤ ns + tot L2 t + j) (fun (zz9 : Int × Nat × Nat × Nat × Option Addr × Nat × (Int → Int) × (Int → Int)) => match zz9 with | (j, M3, bK3, sK3, aK3, cK3, fr3, to3) => (((L2 t : Nat) : Int) - j).toNat) (0, M2, bK2, sK2, aK2, cK2, fr2, to2) ?_ ?_ ?_ ?_
          · exact ⟨by omega, by omega, gK2, hk2, by omega⟩
          · exact ⟨rfl, rfl, rfl, rfl, rfl, rfl, rfl, rfl, rfl, rfl, rfl, rfl, rfl, rfl, trivial⟩
          · exact ⟨rfl, rfl, rfl, rfl, rfl, rfl, rfl, rfl, rfl, rfl, trivial⟩
          rintro ⟨j, M3, bK3, sK3, aK3, cK3, fr3, to3⟩ ⟨hj0, hj1, gK3, hk3, hM3⟩
          show C _ _ _ _ _ _ [(0, .pointer (some ⟨bR, 0, none⟩)), (1, .pointer (some ⟨bA, 0, none⟩)), (5, .int .i32 (n : Int)), (6, .int .i32 tx), (7, .slice (some ⟨bE, 0, none⟩) (nl + 1) (nl + 1)), (10, .slice aK3 M3 cK3), (14, .pointer (some ⟨bq3, 0, none⟩)), (15, .int .i32 ((L2 t : Nat) : Int)), (158, .slice (some ⟨bt, 0, none⟩) nt nt), (159, .int .i64 (nt : Int)), (160, .int .i64 t), (172, .slice (A2 t) (L2 t) (C2 t)), (173, .int .i64 ((L2 t : Nat) : Int)), (174, .int .i64 j)] [(70, ⟨bR, 15, 15, fl [.slice (some ⟨bl, 0, none⟩) nl nl, .slice (some ⟨bs, 0, none⟩) ns ns, .slice aV (nl + 1) cV, .slice none 0 0, .slice none 0 0, .slice none 0 0, .slice none 0 0, .slice (some ⟨bt, 0, none⟩) nt nt, .slice (some ⟨bv, 0, none⟩) nl nl, .slice aH hc cH, .slice none 0 0, .slice none 0 0, .slice none 0 0, .slice none 0 0, .slice none 0 0]⟩), (71, ⟨bA, 3, 3, fl [.slice aF nf cF, .slice aO no cO, .slice (some ⟨bL, 0, none⟩) no no]⟩), (34, ⟨bL, no, no, ints .u8 cl⟩), (72, ⟨bl, nl * 2, ((nl * 2 : Nat) : Int), cA⟩), (73, ⟨bs, ns * 3, ((ns * 3 : Nat) : Int), cS⟩), (74, ⟨bv, nl * 2, ((nl * 2 : Nat) : Int), cW⟩), (75, ⟨bt, nt * 2, ((nt * 2 : Nat) : Int), cT⟩), (80, ⟨bE, nl + 1, (nl : Int) + 1, ints .i32 rr⟩), (82, ⟨bK3, sK3, ((M3 * 2 : Nat) : Int), prs fr3 to3⟩), (84, ⟨bq3, 2, 2, fl [.slice (A2 t) (L2 t) (C2 t), .int .i32 (thF hb L2 t)]⟩)]
          refine C_seq ?_
          refine C_region ?_
          refine W_lss V_w0 rfl rfl rfl (fun h175 => ?_) (fun h175 => ?_)
          ·
            have hzb := hlv.rng t j ⟨ht0, hj0, .inl ⟨by omega, by omega⟩⟩
            have hre := hrr (Z2 t j) (by omega) (by omega)
            have hrb := rel_b lf lt L1 (k := Z2 t j) (by omega)
            have htm := tot_mono L1 (j := Z2 t j) (k := nl) (by omega) (by omega)
            refine V_nil (X_next ?_)
            refine C_seq ?_
            refine C_true rfl ?_
            refine C_skip (X_next ?_)
            refine C_seq ?_
            refine C_block ?_
            refine C_seq ?_
            refine C_region ?_
            refine V_w0.q (QY_move rfl) rfl ?_
            refine W_elem V_w0 rfl rfl ((hT2 t ht0 (by omega)).rd) (by omega) (by omega) sl22 lf21 rfl rfl (fun _ => ?_)
            refine V_w0.q (QY_assign rfl) rfl ?_
            refine V_w0.q (QY_assign rfl) rfl ?_
            refine V_nil (X_next ?_)
            refine C_draws 20 18 mix (by kernel_rfl) ?_
            refine T_w0.q (QY_move rfl) rfl ?_
            refine T_w0.q (QY_move rfl) rfl ?_
            refine T_w0.q (QY_fieldP (o' := 1) fa80_1 rfl rfl) rfl ?_
            refine T_w0.q (QY_cell lf21 (q := 84) rfl rfl (by decide) rfl) rfl ?_
            refine T_w0.q (QY_arith rfl rfl rfl ⟨by omega, by omega⟩) rfl ?_
            refine T_w0.q (QY_move rfl) rfl ?_
            refine T_w0.q (QY_arith rfl rfl rfl ⟨by omega, by omega⟩) rfl ?_
            refine T_w0.q (QY_move rfl) rfl ?_
            refine T_w0.q (QY_conv it3 it21 rfl ⟨by omega, by omega⟩) rfl ?_
            refine T_w0.q (QY_arith rfl rfl rfl ⟨by omega, by omega⟩) rfl ?_
            refine T_w0.q (QY_arith rfl rfl rfl ⟨by omega, by omega⟩) rfl ?_
            refine T_w0.q (QY_move rfl) rfl ?_
            refine T_w0.q (QY_move rfl) rfl ?_
            refine T_w0.q (QY_move rfl) rfl ?_
            refine W_elem T_w0 rfl rfl (Rd_own (q := 80) rfl (by omega)) (by omega) (by omega) sl22 lf21 rfl rfl (fun _ => ?_)
            refine T_w0.q (QY_arith rfl rfl rfl ⟨by omega, by omega⟩) rfl ?_
            refine T_w0.q (v := .agg #[.int .i32 (tx + thF hb L2 t + ((L2 t : Nat) : Int) + j - 1), .int .i32 ((n : Int) + rr (Z2 t j))]) (QY_build (parts := [(0, .tmp 189), (1, .tmp 195)]) (vs := [(0, .int .i32 (tx + thF hb L2 t + ((L2 t : Nat) : Int) + j - 1)), (1, .int .i32 ((n : Int) + rr (Z2 t j)))]) (fun a hf => by
              simp only [List.map_cons, List.map_nil]
              rw [hf.eval (x := .tmp 189) rfl, hf.eval (x := .tmp 195) rfl] <;> rfl) (fun w => build87 w _ _ rfl rfl)) rfl ?_
            refine T_app2 (q := 82) rfl rfl mk85 rfl (fun _ => rfl) gK3 rfl rfl (kn2 := (((M3 + 1) * 2 : Nat) : Int)) (by omega) rfl rfl (by omega) (by omega) rfl rfl (prs_upd2 (x' := tx + thF hb L2 t + ((L2 t : Nat) : Int) + j - 1) (y' := (n : Int) + (rel lf lt L1) (Z2 t j)) rfl (by omega) (by omega)) ?_
            intro _ svKb bKb sKb hsKb gKb
            obtain ⟨aKb, cKb, rfl⟩ := gKb.slice
            refine T_tail rfl rfl ?_
            refine V_w0.q (QY_assign rfl) rfl ?_
            refine V_nil (X_Qn (X_block (X_next ?_)))
            refine C_region ?_
            refine V_w0.q (QY_arith rfl rfl rfl ⟨by omega, by omega⟩) rfl ?_
            refine V_w0.q (QY_move rfl) rfl ?_
            refine V_nil (X_then ?_)
            refine X_round (j + 1, M3 + 1, bKb, sKb, aKb, cKb, upd fr3 (M3 : Int) (tx + thF hb L2 t + ((L2 t : Nat) : Int) + j - 1), upd to3 (M3 : Int) ((n : Int) + (rel lf lt L1) (Z2 t j))) ?_ ?_ ?_ ?_
            · exact ⟨by omega, by omega, gKb, hk3.next ht0 hj0 (by omega) (by omega), by omega⟩
            · show (((L2 t : Nat) : Int) - (j + 1)).toNat < (((L2 t : Nat) : Int) - j).toNat
              omega
            · exact ⟨rfl, rfl, rfl, rfl, rfl, rfl, rfl, rfl, rfl, rfl, rfl, rfl, rfl, rfl, trivial⟩
            · exact ⟨rfl, rfl, rfl, rfl, rfl, rfl, rfl, rfl, rfl, rfl, trivial⟩
          ·
            refine V_nil (X_next ?_)
            refine C_seq ?_
            refine C_false rfl ?_
            refine C_exit (X_then_exit (X_then_exit (X_block_exit (X_block (X_next ?_)))))
            refine C_region ?_
            refine V_w0.q (QY_arith rfl rfl rfl ⟨by omega, by omega⟩) rfl ?_
            refine V_w0.q (QY_move rfl) rfl ?_
            refine V_nil (X_then ?_)
            refine X_round (t + 1, M3, bK3, sK3, aK3, cK3, fr3, to3) ?_ ?_ ?_ ?_
            · exact ⟨by omega, by omega, gK3, hk3.tree (.inl (by omega)), by omega⟩
            · show ((nt : Int) - (t + 1)).toNat < ((nt : Int) - t).toNat
              omega
            · exact ⟨rfl, rfl, rfl, rfl, rfl, rfl, rfl, rfl, rfl, trivial⟩
            · exact ⟨rfl, rfl, rfl, rfl, rfl, rfl, rfl, rfl, rfl, trivial⟩
      ·
        obtain rfl : t = (nt : Int) := by omega
        refine V_nil (X_next ?_)
        refine C_seq ?_
        refine C_false rfl ?_
        refine C_exit (X_then_exit (X_then_exit (X_block_exit (X_next ?_))))
        refine C_seq ?_
        refine C_seq ?_
        refine C_region ?_
        refine V_w0.q (QY_move rfl) rfl ?_
        refine W_fld V_w0 (q := 70) rfl rfl fa72_0 lf65 (by decide) rfl rfl rfl rfl ?_
        refine V_w0.q (QY_len sl65 rfl) rfl ?_
        refine V_w0.q (QY_move rfl) rfl ?_
        refine V_nil (X_next ?_)
        refine C_block ?_
        refine C_loops (T := Int × Nat × Nat × Nat × Option Addr × Nat × (Int → Int) × (Int → Int)) (fun (zz9 : Int × Nat × Nat × Nat × Option Addr × Nat × (Int → Int) × (Int → Int)) => match zz9 with | (l, M4, bK4, sK4, aK4, cK4, fr4, to4) => [(0, .pointer (some ⟨bR, 0, none⟩)), (1, .pointer (some ⟨bA, 0, none⟩)), (5, .int .i32 (n : Int)), (6, .int .i32 tx), (7, .slice (some ⟨bE, 0, none⟩) (nl + 1) (nl + 1)), (10, .slice aK4 M4 cK4), (204, .slice (some ⟨bl, 0, none⟩) nl nl), (205, .int .i64 (nl : Int)), (206, .int .i64 l)]) (fun (zz9 : Int × Nat × Nat × Nat × Option Addr × Nat × (Int → Int) × (Int → Int)) => match zz9 with | (l, M4, bK4, sK4, aK4, cK4, fr4, to4) => [(70, ⟨bR, 15, 15, fl [.slice (some ⟨bl, 0, none⟩) nl nl, .slice (some ⟨bs, 0, none⟩) ns ns, .slice aV (nl + 1) cV, .slice none 0 0, .slice none 0 0, .slice none 0 0, .slice none 0 0, .slice (some ⟨bt, 0, none⟩) nt nt, .slice (some ⟨bv, 0, none⟩) nl nl, .slice aH hc cH, .slice none 0 0, .slice none 0 0, .slice none 0 0, .slice none 0 0, .slice none 0 0]⟩), (71, ⟨bA, 3, 3, fl [.slice aF nf cF, .slice aO no cO, .slice (some ⟨bL, 0, none⟩) no no]⟩), (34, ⟨bL, no, no, ints .u8 cl⟩), (72, ⟨bl, nl * 2, ((nl * 2 : Nat) : Int), cA⟩), (73, ⟨bs, ns * 3, ((ns * 3 : Nat) : Int), cS⟩), (74, ⟨bv, nl * 2, ((nl * 2 : Nat) : Int), cW⟩), (75, ⟨bt, nt * 2, ((nt * 2 : Nat) : Int), cT⟩), (80, ⟨bE, nl + 1, (nl : Int) + 1, ints .i32 rr⟩), (82, ⟨bK4, sK4, ((M4 * 2 : Nat) : Int), prs fr4 to4⟩)]) (fun (zz9 : Int × Nat × Nat × Nat × Option Addr × Nat × (Int → Int) × (Int → Int)) => match zz9 with | (l, M4, bK4, sK4, aK4, cK4, fr4, to4) => 0 ≤ l ∧ l ≤ nl ∧ Gs ⟨bK4, sK4, ((M4 * 2 : Nat) : Int), prs fr4 to4⟩ 2 M4 (.slice aK4 M4 cK4) ∧ Lk3 nl ns (n : Int) tx hb L2 Z1 Z2 (rel lf lt L1) sr sl ss nt M2 ((rel lf lt L1) l) M4 fr4 to4 ∧ (M4 : Int) ≤ M2 + 2 * (rel lf lt L1) l) (fun (zz9 : Int × Nat × Nat × Nat × Option Addr × Nat × (Int → Int) × (Int → Int)) => match zz9 with | (l, M4, bK4, sK4, aK4, cK4, fr4, to4) => ((nl : Int) - l).toNat) (0, M2, bK2, sK2, aK2, cK2, fr2, to2) ?_ ?_ ?_ ?_
        · exact ⟨by omega, by omega, gK2, Lk3.start hk2 (fun a a0 a1 => (hk2.rng htx0 (by omega) (fun i i0 i1 => ⟨(hsp.1 i i0 i1).1, (hsp.1 i i0 i1).2.1⟩) a a0 a1).2) (fun l h => (rel_b lf lt L1 h).1), by rw [rel_zero]; omega⟩
        · exact ⟨rfl, rfl, rfl, rfl, rfl, rfl, rfl, rfl, rfl, trivial⟩
        · exact ⟨rfl, rfl, rfl, rfl, rfl, rfl, rfl, rfl, rfl, trivial⟩
        rintro ⟨l, M4, bK4, sK4, aK4, cK4, fr4, to4⟩ ⟨hl0, hl1, gK4, hk4, hM4⟩
        show C _ _ _ _ _ _ [(0, .pointer (some ⟨bR, 0, none⟩)), (1, .pointer (some ⟨bA, 0, none⟩)), (5, .int .i32 (n : Int)), (6, .int .i32 tx), (7, .slice (some ⟨bE, 0, none⟩) (nl + 1) (nl + 1)), (10, .slice aK4 M4 cK4), (204, .slice (some ⟨bl, 0, none⟩) nl nl), (205, .int .i64 (nl : Int)), (206, .int .i64 l)] [(70, ⟨bR, 15, 15, fl [.slice (some ⟨bl, 0, none⟩) nl nl, .slice (some ⟨bs, 0, none⟩) ns ns, .slice aV (nl + 1) cV, .slice none 0 0, .slice none 0 0, .slice none 0 0, .slice none 0 0, .slice (some ⟨bt, 0, none⟩) nt nt, .slice (some ⟨bv, 0, none⟩) nl nl, .slice aH hc cH, .slice none 0 0, .slice none 0 0, .slice none 0 0, .slice none 0 0, .slice none 0 0]⟩), (71, ⟨bA, 3, 3, fl [.slice aF nf cF, .slice aO no cO, .slice (some ⟨bL, 0, none⟩) no no]⟩), (34, ⟨bL, no, no, ints .u8 cl⟩), (72, ⟨bl, nl * 2, ((nl * 2 : Nat) : Int), cA⟩), (73, ⟨bs, ns * 3, ((ns * 3 : Nat) : Int), cS⟩), (74, ⟨bv, nl * 2, ((nl * 2 : Nat) : Int), cW⟩), (75, ⟨bt, nt * 2, ((nt * 2 : Nat) : Int), cT⟩), (80, ⟨bE, nl + 1, (nl : Int) + 1, ints .i32 rr⟩), (82, ⟨bK4, sK4, ((M4 * 2 : Nat) : Int), prs fr4 to4⟩)]
        refine C_seq ?_
        refine C_region ?_
        refine W_lss V_w0 rfl rfl rfl (fun h207 => ?_) (fun h207 => ?_)
        ·
          have hrl := hrr l hl0 (by omega)
          have hrl1 := hrr (l + 1) (by omega) (by omega)
          have hrb := rel_b lf lt L1 hl0
          have hrb1 := rel_b lf lt L1 (k := l + 1) (by omega)
          have htm := tot_mono L1 (j := l + 1) (k := nl) (by omega) (by omega)
          have hst := rel_step lf lt L1 hl0
          have hmo1 := rel_mono lf lt L1 (j := l) (k := l + 1) hl0 (by omega)
          refine V_nil (X_next ?_)
          refine C_seq ?_
          refine C_true rfl ?_
          refine C_skip (X_next ?_)
          refine C_seq ?_
          refine C_block ?_
          refine C_seq ?_
          refine C_region ?_
          refine V_w0.q (QY_move rfl) rfl ?_
          refine V_w0.q (QY_index2 (o' := (l : Int).toNat * 2) sl65 rfl rfl (by omega) (by omega) (by omega)) rfl ?_
          refine V_w0.q (QY_loadA ag74 (q := 72) (vs := [.int .i32 0, .slice (A1 l) (L1 l) (C1 l)]) rfl rfl (by omega) rfl (two_cells hl0 (hcA l hl0 (by omega)).1 (hcA l hl0 (by omega)).2)) rfl ?_
          refine V_allocA 85 ag74 rfl rfl (fun bq4 => ?_)
          refine V_w0.q (QY_assign rfl) rfl ?_
          refine V_storeV (q := 85) ag74 rfl rfl rfl rfl (by intro v hv; simp at hv; rcases hv with rfl | rfl <;> rfl) (by decide) ?_
          refine V_nil (X_next ?_)
          refine C_seq ?_
          refine C_region ?_
          refine V_w0.q (QY_move rfl) rfl ?_
          refine V_w0.q (QY_move rfl) rfl ?_
          refine W_elem V_w0 rfl rfl (Rd_own (q := 80) rfl (by omega)) (by omega) (by omega) sl22 lf21 rfl rfl (fun _ => ?_)
          refine V_w0.q (QY_assign rfl) rfl ?_
          refine V_nil (X_next ?_)
          refine C_block ?_
          refine C_loops (T := Int × Nat × Nat × Nat × Option Addr × Nat × (Int → Int) × (Int → Int)) (fun (zz9 : Int × Nat × Nat × Nat × Option Addr × Nat × (Int → Int) × (Int → Int)) => match zz9 with | (x, M5, bK5, sK5, aK5, cK5, fr5, to5) => [(0, .pointer (some ⟨bR, 0, none⟩)), (1, .pointer (some ⟨bA, 0, none⟩)), (5, .int .i32 (n : Int)), (6, .int .i32 tx), (7, .slice (some ⟨bE, 0, none⟩) (nl + 1) (nl + 1)), (10, .slice aK5 M5 cK5), (18, .int .i64 l), (19, .pointer (some ⟨bq4, 0, none⟩)), (20, .int .i32 x), (204, .slice (some ⟨bl, 0, none⟩) nl nl), (205, .int .i64 (nl : Int)), (206, .int .i64 l)]) (fun (zz9 : Int × Nat × Nat × Nat × Option Addr × Nat × (Int → Int) × (Int → Int)) => match zz9 with | (x, M5, bK5, sK5, aK5, cK5, fr5, to5) => [(70, ⟨bR, 15, 15, fl [.slice (some ⟨bl, 0, none⟩) nl nl, .slice (some ⟨bs, 0, none⟩) ns ns, .slice aV (nl + 1) cV, .slice none 0 0, .slice none 0 0, .slice none 0 0, .slice none 0 0, .slice (some ⟨bt, 0, none⟩) nt nt, .slice (some ⟨bv, 0, none⟩) nl nl, .slice aH hc cH, .slice none 0 0, .slice none 0 0, .slice none 0 0, .slice none 0 0, .slice none 0 0]⟩), (71, ⟨bA, 3, 3, fl [.slice aF nf cF, .slice aO no cO, .slice (some ⟨bL, 0, none⟩) no no]⟩), (34, ⟨bL, no, no, ints .u8 cl⟩), (72, ⟨bl, nl * 2, ((nl * 2 : Nat) : Int), cA⟩), (73, ⟨bs, ns * 3, ((ns * 3 : Nat) : Int), cS⟩), (74, ⟨bv, nl * 2, ((nl * 2 : Nat) : Int), cW⟩), (75, ⟨bt, nt * 2, ((nt * 2 : Nat) : Int), cT⟩), (80, ⟨bE, nl + 1, (nl : Int) + 1, ints .i32 rr⟩), (82, ⟨bK5, sK5, ((M5 * 2 : Nat) : Int), prs fr5 to5⟩), (85, ⟨bq4, 2, 2, fl [.int .i32 0, .slice (A1 l) (L1 l) (C1 l)]⟩)]) (fun (zz9 : Int × Nat × Nat × Nat × Option Addr × Nat × (Int → Int) × (Int → Int)) => match zz9 with | (x, M5, bK5, sK5, aK5, cK5, fr5, to5) => (rel lf lt L1) l ≤ x ∧ x ≤ (rel lf lt L1) (l + 1) ∧ Gs ⟨bK5, sK5, ((M5 * 2 : Nat) : Int), prs fr5 to5⟩ 2 M5 (.slice aK5 M5 cK5) ∧ Lk3 nl ns (n : Int) tx hb L2 Z1 Z2 (rel lf lt L1) sr sl ss nt M2 (x) M5 fr5 to5 ∧ (M5 : Int) ≤ M2 + 2 * x) (fun (zz9 : Int × Nat × Nat × Nat × Option Addr × Nat × (Int → Int) × (Int → Int)) => match zz9 with | (x, M5, bK5, sK5, aK5, cK5, fr5, to5) => ((rel lf lt L1) (l + 1) - x).toNat) (rr l, M4, bK4, sK4, aK4, cK4, fr4, to4) ?_ ?_ ?_ ?_
          · exact ⟨by omega, by omega, gK4, by rw [hrl]; exact hk4, by omega⟩
          · exact ⟨rfl, rfl, rfl, rfl, rfl, rfl, rfl, rfl, rfl, rfl, rfl, rfl, trivial⟩
          · exact ⟨rfl, rfl, rfl, rfl, rfl, rfl, rfl, rfl, rfl, rfl, trivial⟩
          rintro ⟨x, M5, bK5, sK5, aK5, cK5, fr5, to5⟩ ⟨hx0, hx1, gK5, hk5, hM5⟩
          show C _ _ _ _ _ _ [(0, .pointer (some ⟨bR, 0, none⟩)), (1, .pointer (some ⟨bA, 0, none⟩)), (5, .int .i32 (n : Int)), (6, .int .i32 tx), (7, .slice (some ⟨bE, 0, none⟩) (nl + 1) (nl + 1)), (10, .slice aK5 M5 cK5), (18, .int .i64 l), (19, .pointer (some ⟨bq4, 0, none⟩)), (20, .int .i32 x), (204, .slice (some ⟨bl, 0, none⟩) nl nl), (205, .int .i64 (nl : Int)), (206, .int .i64 l)] [(70, ⟨bR, 15, 15, fl [.slice (some ⟨bl, 0, none⟩) nl nl, .slice (some ⟨bs, 0, none⟩) ns ns, .slice aV (nl + 1) cV, .slice none 0 0, .slice none 0 0, .slice none 0 0, .slice none 0 0, .slice (some ⟨bt, 0, none⟩) nt nt, .slice (some ⟨bv, 0, none⟩) nl nl, .slice aH hc cH, .slice none 0 0, .slice none 0 0, .slice none 0 0, .slice none 0 0, .slice none 0 0]⟩), (71, ⟨bA, 3, 3, fl [.slice aF nf cF, .slice aO no cO, .slice (some ⟨bL, 0, none⟩) no no]⟩), (34, ⟨bL, no, no, ints .u8 cl⟩), (72, ⟨bl, nl * 2, ((nl * 2 : Nat) : Int), cA⟩), (73, ⟨bs, ns * 3, ((ns * 3 : Nat) : Int), cS⟩), (74, ⟨bv, nl * 2, ((nl * 2 : Nat) : Int), cW⟩), (75, ⟨bt, nt * 2, ((nt * 2 : Nat) : Int), cT⟩), (80, ⟨bE, nl + 1, (nl : Int) + 1, ints .i32 rr⟩), (82, ⟨bK5, sK5, ((M5 * 2 : Nat) : Int), prs fr5 to5⟩), (85, ⟨bq4, 2, 2, fl [.int .i32 0, .slice (A1 l) (L1 l) (C1 l)]⟩)]
          refine C_seq ?_
          refine C_seq ?_
          refine C_region ?_
          refine V_w0.q (QY_move rfl) rfl ?_
          refine V_w0.q (QY_move rfl) rfl ?_
          refine V_w0.q (QY_move rfl) rfl ?_
          refine V_w0.q (QY_arith rfl rfl rfl ⟨by omega, by omega⟩) rfl ?_
          refine W_elem V_w0 rfl rfl (Rd_own (q := 80) rfl (by omega)) (by omega) (by omega) sl22 lf21 rfl rfl (fun _ => ?_)
          refine W_lss V_w0 rfl rfl rfl (fun h221 => ?_) (fun h221 => ?_)
          ·
            refine V_nil (X_next ?_)
            refine C_true rfl ?_
            refine C_skip (X_next ?_)
            refine C_seq ?_
            refine C_block ?_
            refine C_seq ?_
            refine C_draws 17 15 mix (by kernel_rfl) ?_
            refine T_w0.q (QY_move rfl) rfl ?_
            refine T_w0.q (QY_move rfl) rfl ?_
            refine T_w0.q (QY_move rfl) rfl ?_
            refine T_w0.q (QY_arith rfl rfl rfl ⟨by omega, by omega⟩) rfl ?_
            refine T_w0.q (QY_fieldP (o' := 1) fa74_1 rfl rfl) rfl ?_
            refine T_w0.q (QY_cell lf22 (q := 85) rfl rfl (by decide) rfl) rfl ?_
            refine T_w0.q (QY_move rfl) rfl ?_
            refine T_w0.q (QY_move rfl) rfl ?_
            refine T_w0.q (QY_move rfl) rfl ?_
            refine W_elem T_w0 rfl rfl (Rd_own (q := 80) rfl (by omega)) (by omega) (by omega) sl22 lf21 rfl rfl (fun _ => ?_)
            refine T_w0.q (QY_arith rfl rfl rfl ⟨by omega, by omega⟩) rfl ?_
            refine W_elem T_w0 rfl rfl ((hN2 l hl0 (by omega)).rd) (by omega) (by omega) sl22 lf21 rfl rfl (fun _ => ?_)
            have hzz : Z1 l (x - rr l) = Z1 l (x - (rel lf lt L1) l) := by rw [hrl]
            refine T_w0.q (v := .agg #[.int .i32 ((n : Int) + x), .int .i32 (Z1 l (x - rr l))]) (QY_build (parts := [(0, .tmp 227), (1, .tmp 237)]) (vs := [(0, .int .i32 ((n : Int) + x)), (1, .int .i32 (Z1 l (x - rr l)))]) (fun a hf => by
              simp only [List.map_cons, List.map_nil]
              rw [hf.eval (x := .tmp 227) rfl, hf.eval (x := .tmp 237) rfl] <;> rfl) (fun w => build87 w _ _ rfl rfl)) rfl ?_
            refine T_app2 (q := 82) rfl rfl mk85 rfl (fun _ => rfl) gK5 rfl rfl (kn2 := (((M5 + 1) * 2 : Nat) : Int)) (by omega) rfl rfl (by omega) (by omega) rfl rfl (prs_upd2 (x' := (n : Int) + x) (y' := Z1 l (x - (rel lf lt L1) l)) rfl (by omega) (by omega)) ?_
            intro _ svKc bKc sKc hsKc gKc
            obtain ⟨aKc, cKc, rfl⟩ := gKc.slice
            refine T_tail rfl rfl ?_
            refine V_w0.q (QY_assign rfl) rfl ?_
            refine V_nil (X_Qn (X_next ?_))
            refine C_seq ?_
            refine C_region ?_
            refine V_w0.q (QY_move rfl) rfl ?_
            refine V_w0.q (QY_arith rfl rfl rfl ⟨by omega, by omega⟩) rfl ?_
            refine V_w0.q (QY_move rfl) rfl ?_
            refine V_w0.q (QY_move rfl) rfl ?_
            refine V_w0.q (QY_arith rfl rfl rfl ⟨by omega, by omega⟩) rfl ?_
            refine W_elem V_w0 rfl rfl (Rd_own (q := 80) rfl (by omega)) (by omega) (by omega) sl22 lf21 rfl rfl (fun _ => ?_)
            refine W_lss V_w0 rfl rfl rfl (fun h248 => ?_) (fun h248 => ?_)
            ·
              refine V_nil (X_next ?_)
              refine C_true rfl ?_
              refine C_region ?_
              refine V_w0.q (QY_move rfl) rfl ?_
              refine V_w0.q (QY_move rfl) rfl ?_
              refine V_w0.q (QY_move rfl) rfl ?_
              refine V_w0.q (QY_arith rfl rfl rfl ⟨by omega, by omega⟩) rfl ?_
              refine V_w0.q (QY_move rfl) rfl ?_
              refine V_w0.q (QY_move rfl) rfl ?_
              refine V_w0.q (QY_arith rfl rfl rfl ⟨by omega, by omega⟩) rfl ?_
              refine V_w0.q (QY_arith rfl rfl rfl ⟨by omega, by omega⟩) rfl ?_
              refine V_w0.q (v := .agg #[.int .i32 ((n : Int) + x), .int .i32 ((n : Int) + x + 1)]) (QY_build (parts := [(0, .tmp 252), (1, .tmp 256)]) (vs := [(0, .int .i32 ((n : Int) + x)), (1, .int .i32 ((n : Int) + x + 1))]) (fun a hf => by
                simp only [List.map_cons, List.map_nil]
                rw [hf.eval (x := .tmp 252) rfl, hf.eval (x := .tmp 256) rfl] <;> rfl) (fun w => build87 w _ _ rfl rfl)) rfl ?_
              refine V_app2 (q := 82) mk85 rfl (fun _ => rfl) gKc rfl rfl (kn2 := (((M5 + 1 + 1) * 2 : Nat) : Int)) (by omega) rfl rfl (by omega) (by omega) rfl rfl (prs_upd2 (x' := (n : Int) + x) (y' := (n : Int) + x + 1) rfl rfl rfl) ?_
              intro _ svKd bKd sKd hsKd gKd
              obtain ⟨aKd, cKd, rfl⟩ := gKd.slice
              refine V_w0.q (QY_assign rfl) rfl ?_
              refine V_nil (X_block (X_next ?_))
              refine C_region ?_
              refine V_w0.q (QY_move rfl) rfl ?_
              refine V_w0.q (QY_arith rfl rfl rfl ⟨by omega, by omega⟩) rfl ?_
              refine V_w0.q (QY_assign rfl) rfl ?_
              refine V_nil (X_then ?_)
              refine X_round (x + 1, M5 + 1 + 1, bKd, sKd, aKd, cKd, upd (upd fr5 (M5 : Int) ((n : Int) + x)) ((M5 + 1 : Nat) : Int) ((n : Int) + x), upd (upd to5 (M5 : Int) (Z1 l (x - (rel lf lt L1) l))) ((M5 + 1 : Nat) : Int) ((n : Int) + x + 1)) ?_ ?_ ?_ ?_
              · exact ⟨by omega, by omega, gKd, hk5.both (fun i k a b => rel_mono lf lt L1 a b) (by omega) hl0 (by omega) (by omega) (by omega), by omega⟩
              · show ((rel lf lt L1) (l + 1) - (x + 1)).toNat < ((rel lf lt L1) (l + 1) - x).toNat
                omega
              · exact ⟨rfl, rfl, rfl, rfl, rfl, rfl, rfl, rfl, rfl, rfl, rfl, rfl, trivial⟩
              · exact ⟨rfl, rfl, rfl, rfl, rfl, rfl, rfl, rfl, rfl, rfl, trivial⟩
            ·
              refine V_nil (X_next ?_)
              refine C_false rfl ?_
              refine C_skip (X_block (X_next ?_))
              refine C_region ?_
              refine V_w0.q (QY_move rfl) rfl ?_
              refine V_w0.q (QY_arith rfl rfl rfl ⟨by omega, by omega⟩) rfl ?_
              refine V_w0.q (QY_assign rfl) rfl ?_
              refine V_nil (X_then ?_)
              refine X_round (x + 1, M5 + 1, bKc, sKc, aKc, cKc, upd fr5 (M5 : Int) ((n : Int) + x), upd to5 (M5 : Int) (Z1 l (x - (rel lf lt L1) l))) ?_ ?_ ?_ ?_
              · exact ⟨by omega, by omega, gKc, hk5.node (fun i k a b => rel_mono lf lt L1 a b) (by omega) hl0 (by omega) (by omega) (by omega), by omega⟩
              · show ((rel lf lt L1) (l + 1) - (x + 1)).toNat < ((rel lf lt L1) (l + 1) - x).toNat
                omega
              · exact ⟨rfl, rfl, rfl, rfl, rfl, rfl, rfl, rfl, rfl, rfl, rfl, rfl, trivial⟩
              · exact ⟨rfl, rfl, rfl, rfl, rfl, rfl, rfl, rfl, rfl, rfl, trivial⟩
          ·
            refine V_nil (X_next ?_)
            refine C_false rfl ?_
            refine C_exit (X_then_exit (X_then_exit (X_block_exit (X_block (X_next ?_)))))
            refine C_region ?_
            refine V_w0.q (QY_arith rfl rfl rfl ⟨by omega, by omega⟩) rfl ?_
            refine V_w0.q (QY_move rfl) rfl ?_
            refine V_nil (X_then ?_)
            refine X_round (l + 1, M5, bK5, sK5, aK5, cK5, fr5, to5) ?_ ?_ ?_ ?_
            · have hx : x = (rel lf lt L1) (l + 1) := by omega
              rw [hx] at hk5 hM5
              exact ⟨by omega, by omega, gK5, hk5, hM5⟩
            · show ((nl : Int) - (l + 1)).toNat < ((nl : Int) - l).toNat
              omega
            · exact ⟨rfl, rfl, rfl, rfl, rfl, rfl, rfl, rfl, rfl, trivial⟩
            · exact ⟨rfl, rfl, rfl, rfl, rfl, rfl, rfl, rfl, rfl, trivial⟩
        ·
          obtain rfl : l = (nl : Int) := by omega
          have hrnl := hrr nl (by omega) (Int.le_refl _)
          have hrbn := rel_b lf lt L1 (k := (nl : Int)) (by omega)
          have hfr4 : ∀ a, 0 ≤ a → a < (M4 : Int) → 0 ≤ fr4 a ∧ fr4 a < (T : Int) := fun a a0 a1 => by
            have := hk4.rng (by omega) (by omega) htx0 (by omega) (fun i i0 i1 => ⟨(hsp.1 i i0 i1).1, (hsp.1 i i0 i1).2.1⟩) a a0 a1
            omega
          refine V_nil (X_next ?_)
          refine C_seq ?_
          refine C_false rfl ?_
          refine C_exit (X_then_exit (X_then_exit (X_block_exit (X_next ?_))))
          refine C_cut (T := Int) (fun (tt : Int) => [(0, .pointer (some ⟨bR, 0, none⟩)), (1, .pointer (some ⟨bA, 0, none⟩)), (5, .int .i32 (n : Int)), (6, .int .i32 tx), (7, .slice (some ⟨bE, 0, none⟩) (nl + 1) (nl + 1)), (10, .slice aK4 M4 cK4), (21, .int .i64 tt)]) (fun (tt : Int) => [(70, ⟨bR, 15, 15, fl [.slice (some ⟨bl, 0, none⟩) nl nl, .slice (some ⟨bs, 0, none⟩) ns ns, .slice aV (nl + 1) cV, .slice none 0 0, .slice none 0 0, .slice none 0 0, .slice none 0 0, .slice (some ⟨bt, 0, none⟩) nt nt, .slice (some ⟨bv, 0, none⟩) nl nl, .slice aH hc cH, .slice none 0 0, .slice none 0 0, .slice none 0 0, .slice none 0 0, .slice none 0 0]⟩), (71, ⟨bA, 3, 3, fl [.slice aF nf cF, .slice aO no cO, .slice (some ⟨bL, 0, none⟩) no no]⟩), (34, ⟨bL, no, no, ints .u8 cl⟩), (72, ⟨bl, nl * 2, ((nl * 2 : Nat) : Int), cA⟩), (73, ⟨bs, ns * 3, ((ns * 3 : Nat) : Int), cS⟩), (74, ⟨bv, nl * 2, ((nl * 2 : Nat) : Int), cW⟩), (75, ⟨bt, nt * 2, ((nt * 2 : Nat) : Int), cT⟩), (80, ⟨bE, nl + 1, (nl : Int) + 1, ints .i32 rr⟩), (82, ⟨bK4, sK4, ((M4 * 2 : Nat) : Int), prs fr4 to4⟩)]) (fun (tt : Int) => (T : Int) = tt) ?_ ?_
          ·
            refine C_region ?_
            refine V_w0.q (QY_move rfl) rfl ?_
            refine V_w0.q (QY_move rfl) rfl ?_
            refine V_w0.q (QY_move rfl) rfl ?_
            refine W_fld V_w0 (q := 70) rfl rfl fa72_0 lf65 (by decide) rfl rfl rfl rfl ?_
            refine V_w0.q (QY_len sl65 rfl) rfl ?_
            refine W_elem V_w0 rfl rfl (Rd_own (q := 80) rfl (by omega)) (by omega) (by omega) sl22 lf21 rfl rfl (fun _ => ?_)
            refine V_w0.q (QY_arith rfl rfl rfl ⟨by omega, by omega⟩) rfl ?_
            refine V_w0.q (QY_conv it21 it3 rfl ⟨by omega, by omega⟩) rfl ?_
            refine V_w0.q (QY_assign rfl) rfl ?_
            refine V_nil (X_then ?_)
            refine X_cut ((n : Int) + rr (nl : Int)) ?_ ?_ ?_
            · show (T : Int) = _
              omega
            · exact ⟨rfl, rfl, rfl, rfl, rfl, rfl, rfl, trivial⟩
            · exact ⟨rfl, rfl, rfl, rfl, rfl, rfl, rfl, rfl, rfl, trivial⟩
          rintro tt hs1
          show C _ _ _ _ _ _ [(0, .pointer (some ⟨bR, 0, none⟩)), (1, .pointer (some ⟨bA, 0, none⟩)), (5, .int .i32 (n : Int)), (6, .int .i32 tx), (7, .slice (some ⟨bE, 0, none⟩) (nl + 1) (nl + 1)), (10, .slice aK4 M4 cK4), (21, .int .i64 tt)] [(70, ⟨bR, 15, 15, fl [.slice (some ⟨bl, 0, none⟩) nl nl, .slice (some ⟨bs, 0, none⟩) ns ns, .slice aV (nl + 1) cV, .slice none 0 0, .slice none 0 0, .slice none 0 0, .slice none 0 0, .slice (some ⟨bt, 0, none⟩) nt nt, .slice (some ⟨bv, 0, none⟩) nl nl, .slice aH hc cH, .slice none 0 0, .slice none 0 0, .slice none 0 0, .slice none 0 0, .slice none 0 0]⟩), (71, ⟨bA, 3, 3, fl [.slice aF nf cF, .slice aO no cO, .slice (some ⟨bL, 0, none⟩) no no]⟩), (34, ⟨bL, no, no, ints .u8 cl⟩), (72, ⟨bl, nl * 2, ((nl * 2 : Nat) : Int), cA⟩), (73, ⟨bs, ns * 3, ((ns * 3 : Nat) : Int), cS⟩), (74, ⟨bv, nl * 2, ((nl * 2 : Nat) : Int), cW⟩), (75, ⟨bt, nt * 2, ((nt * 2 : Nat) : Int), cT⟩), (80, ⟨bE, nl + 1, (nl : Int) + 1, ints .i32 rr⟩), (82, ⟨bK4, sK4, ((M4 * 2 : Nat) : Int), prs fr4 to4⟩)]
          subst hs1
          refine C_cut (T := Nat × Nat × Nat × Int) (fun (zz9 : Nat × Nat × Nat × Int) => match zz9 with | (bZ, bf, e6, k6) => [(0, .pointer (some ⟨bR, 0, none⟩)), (1, .pointer (some ⟨bA, 0, none⟩)), (5, .int .i32 (n : Int)), (6, .int .i32 tx), (7, .slice (some ⟨bE, 0, none⟩) (nl + 1) (nl + 1)), (10, .slice aK4 M4 cK4), (21, .int .i64 (T : Int)), (22, .pointer (some ⟨bZ, 0, none⟩))]) (fun (zz9 : Nat × Nat × Nat × Int) => match zz9 with | (bZ, bf, e6, k6) => [(70, ⟨bR, 15, 15, fl [.slice (some ⟨bl, 0, none⟩) nl nl, .slice (some ⟨bs, 0, none⟩) ns ns, .slice aV (nl + 1) cV, .slice none 0 0, .slice none 0 0, .slice none 0 0, .slice none 0 0, .slice (some ⟨bt, 0, none⟩) nt nt, .slice (some ⟨bv, 0, none⟩) nl nl, .slice aH hc cH, .slice none 0 0, .slice none 0 0, .slice none 0 0, .slice none 0 0, .slice none 0 0]⟩), (71, ⟨bA, 3, 3, fl [.slice aF nf cF, .slice aO no cO, .slice (some ⟨bL, 0, none⟩) no no]⟩), (34, ⟨bL, no, no, ints .u8 cl⟩), (72, ⟨bl, nl * 2, ((nl * 2 : Nat) : Int), cA⟩), (73, ⟨bs, ns * 3, ((ns * 3 : Nat) : Int), cS⟩), (74, ⟨bv, nl * 2, ((nl * 2 : Nat) : Int), cW⟩), (75, ⟨bt, nt * 2, ((nt * 2 : Nat) : Int), cT⟩), (80, ⟨bE, nl + 1, (nl : Int) + 1, ints .i32 rr⟩), (82, ⟨bK4, sK4, ((M4 * 2 : Nat) : Int), prs fr4 to4⟩), (76, ⟨bZ, 3, 3, fl [.slice (some ⟨bf, 0, none⟩) e6 e6, .slice none 0 0, .slice none 0 0]⟩), (77, ⟨bf, e6, k6, ints .i32 (fun _ => 0)⟩)]) (fun (zz9 : Nat × Nat × Nat × Int) => match zz9 with | (bZ, bf, e6, k6) => T + 1 = e6 ∧ (T : Int) + 1 = k6) ?_ ?_
          ·
            refine C_region ?_
            refine V_w0.q (QY_move rfl) rfl ?_
            refine V_w0.q (QY_arith rfl rfl rfl ⟨by omega, by omega⟩) rfl ?_
            refine V_make 77 mk22 rfl rfl rfl (by omega) (by omega) (by omega) (by omega) rfl (fun bf => ?_)
            refine V_w0.q (v := .agg [.slice (some ⟨bf, 0, none⟩) ((T : Int) + 1).toNat ((T : Int) + 1).toNat, .slice none 0 0, .slice none 0 0].toArray) (QY_build (parts := [(0, .tmp 274)]) (vs := [(0, .slice (some ⟨bf, 0, none⟩) ((T : Int) + 1).toNat ((T : Int) + 1).toNat)]) (fun a hf => by
              simp only [List.map_cons, List.map_nil]
              rw [hf.eval (x := .tmp 274) rfl]) (fun w => build57f w _ rfl)) rfl ?_
            refine V_box 76 (cs := [.slice (some ⟨bf, 0, none⟩) ((T : Int) + 1).toNat ((T : Int) + 1).toNat, .slice none 0 0, .slice none 0 0]) rfl (m := 3) rfl (mi := 3) rfl rfl (fun bZ => ?_)
            refine V_w0.q (QY_assign rfl) rfl ?_
            refine V_nil (X_then ?_)
            refine X_cut (bZ, bf, ((T : Int) + 1).toNat, (T : Int) + 1) ?_ ?_ ?_
            · exact ⟨by omega, by omega⟩
            · exact ⟨rfl, rfl, rfl, rfl, rfl, rfl, rfl, rfl, trivial⟩
            · exact ⟨rfl, rfl, rfl, rfl, rfl, rfl, rfl, rfl, rfl, rfl, rfl, trivial⟩
          rintro ⟨bZ, bf, e6, k6⟩ ⟨hs1, hs2⟩
          show C _ _ _ _ _ _ [(0, .pointer (some ⟨bR, 0, none⟩)), (1, .pointer (some ⟨bA, 0, none⟩)), (5, .int .i32 (n : Int)), (6, .int .i32 tx), (7, .slice (some ⟨bE, 0, none⟩) (nl + 1) (nl + 1)), (10, .slice aK4 M4 cK4), (21, .int .i64 (T : Int)), (22, .pointer (some ⟨bZ, 0, none⟩))] [(70, ⟨bR, 15, 15, fl [.slice (some ⟨bl, 0, none⟩) nl nl, .slice (some ⟨bs, 0, none⟩) ns ns, .slice aV (nl + 1) cV, .slice none 0 0, .slice none 0 0, .slice none 0 0, .slice none 0 0, .slice (some ⟨bt, 0, none⟩) nt nt, .slice (some ⟨bv, 0, none⟩) nl nl, .slice aH hc cH, .slice none 0 0, .slice none 0 0, .slice none 0 0, .slice none 0 0, .slice none 0 0]⟩), (71, ⟨bA, 3, 3, fl [.slice aF nf cF, .slice aO no cO, .slice (some ⟨bL, 0, none⟩) no no]⟩), (34, ⟨bL, no, no, ints .u8 cl⟩), (72, ⟨bl, nl * 2, ((nl * 2 : Nat) : Int), cA⟩), (73, ⟨bs, ns * 3, ((ns * 3 : Nat) : Int), cS⟩), (74, ⟨bv, nl * 2, ((nl * 2 : Nat) : Int), cW⟩), (75, ⟨bt, nt * 2, ((nt * 2 : Nat) : Int), cT⟩), (80, ⟨bE, nl + 1, (nl : Int) + 1, ints .i32 rr⟩), (82, ⟨bK4, sK4, ((M4 * 2 : Nat) : Int), prs fr4 to4⟩), (76, ⟨bZ, 3, 3, fl [.slice (some ⟨bf, 0, none⟩) e6 e6, .slice none 0 0, .slice none 0 0]⟩), (77, ⟨bf, e6, k6, ints .i32 (fun _ => 0)⟩)]
          subst hs1 hs2
          refine C_seq ?_
          refine C_seq ?_
          refine C_region ?_
          refine V_w0.q (QY_move rfl) rfl ?_
          refine V_w0.q (QY_move rfl) rfl ?_
          refine V_nil (X_next ?_)
          refine C_block ?_
          refine C_loops (T := Int × (Int → Int)) (fun (zz9 : Int × (Int → Int)) => match zz9 with | (u, rf) => [(0, .pointer (some ⟨bR, 0, none⟩)), (1, .pointer (some ⟨bA, 0, none⟩)), (5, .int .i32 (n : Int)), (6, .int .i32 tx), (7, .slice (some ⟨bE, 0, none⟩) (nl + 1) (nl + 1)), (10, .slice aK4 M4 cK4), (21, .int .i64 (T : Int)), (22, .pointer (some ⟨bZ, 0, none⟩)), (277, .int .i32 (n : Int)), (278, .int .i32 u)]) (fun (zz9 : Int × (Int → Int)) => match zz9 with | (u, rf) => [(70, ⟨bR, 15, 15, fl [.slice (some ⟨bl, 0, none⟩) nl nl, .slice (some ⟨bs, 0, none⟩) ns ns, .slice aV (nl + 1) cV, .slice none 0 0, .slice none 0 0, .slice none 0 0, .slice none 0 0, .slice (some ⟨bt, 0, none⟩) nt nt, .slice (some ⟨bv, 0, none⟩) nl nl, .slice aH hc cH, .slice none 0 0, .slice none 0 0, .slice none 0 0, .slice none 0 0, .slice none 0 0]⟩), (71, ⟨bA, 3, 3, fl [.slice aF nf cF, .slice aO no cO, .slice (some ⟨bL, 0, none⟩) no no]⟩), (34, ⟨bL, no, no, ints .u8 cl⟩), (72, ⟨bl, nl * 2, ((nl * 2 : Nat) : Int), cA⟩), (73, ⟨bs, ns * 3, ((ns * 3 : Nat) : Int), cS⟩), (74, ⟨bv, nl * 2, ((nl * 2 : Nat) : Int), cW⟩), (75, ⟨bt, nt * 2, ((nt * 2 : Nat) : Int), cT⟩), (80, ⟨bE, nl + 1, (nl : Int) + 1, ints .i32 rr⟩), (82, ⟨bK4, sK4, ((M4 * 2 : Nat) : Int), prs fr4 to4⟩), (76, ⟨bZ, 3, 3, fl [.slice (some ⟨bf, 0, none⟩) (T + 1) (T + 1), .slice none 0 0, .slice none 0 0]⟩), (77, ⟨bf, T + 1, (T : Int) + 1, ints .i32 rf⟩)]) (fun (zz9 : Int × (Int → Int)) => match zz9 with | (u, rf) => 0 ≤ u ∧ u ≤ n ∧ rf 0 = 0 ∧ ∀ v, 0 ≤ v → v < (T : Int) → rf (v + 1) = if v < u then f (v + 1) - f v else 0) (fun (zz9 : Int × (Int → Int)) => match zz9 with | (u, rf) => ((n : Int) - u).toNat) (0, fun _ => 0) ?_ ?_ ?_ ?_
          · exact ⟨by omega, by omega, rfl, fun v a b => by rw [if_neg (by omega)]⟩
          · exact ⟨rfl, rfl, rfl, rfl, rfl, rfl, rfl, rfl, rfl, rfl, trivial⟩
          · exact ⟨rfl, rfl, rfl, rfl, rfl, rfl, rfl, rfl, rfl, rfl, rfl, trivial⟩
          rintro ⟨u, rf⟩ ⟨hu0, hu1, hrf00, hrf⟩
          show C _ _ _ _ _ _ [(0, .pointer (some ⟨bR, 0, none⟩)), (1, .pointer (some ⟨bA, 0, none⟩)), (5, .int .i32 (n : Int)), (6, .int .i32 tx), (7, .slice (some ⟨bE, 0, none⟩) (nl + 1) (nl + 1)), (10, .slice aK4 M4 cK4), (21, .int .i64 (T : Int)), (22, .pointer (some ⟨bZ, 0, none⟩)), (277, .int .i32 (n : Int)), (278, .int .i32 u)] [(70, ⟨bR, 15, 15, fl [.slice (some ⟨bl, 0, none⟩) nl nl, .slice (some ⟨bs, 0, none⟩) ns ns, .slice aV (nl + 1) cV, .slice none 0 0, .slice none 0 0, .slice none 0 0, .slice none 0 0, .slice (some ⟨bt, 0, none⟩) nt nt, .slice (some ⟨bv, 0, none⟩) nl nl, .slice aH hc cH, .slice none 0 0, .slice none 0 0, .slice none 0 0, .slice none 0 0, .slice none 0 0]⟩), (71, ⟨bA, 3, 3, fl [.slice aF nf cF, .slice aO no cO, .slice (some ⟨bL, 0, none⟩) no no]⟩), (34, ⟨bL, no, no, ints .u8 cl⟩), (72, ⟨bl, nl * 2, ((nl * 2 : Nat) : Int), cA⟩), (73, ⟨bs, ns * 3, ((ns * 3 : Nat) : Int), cS⟩), (74, ⟨bv, nl * 2, ((nl * 2 : Nat) : Int), cW⟩), (75, ⟨bt, nt * 2, ((nt * 2 : Nat) : Int), cT⟩), (80, ⟨bE, nl + 1, (nl : Int) + 1, ints .i32 rr⟩), (82, ⟨bK4, sK4, ((M4 * 2 : Nat) : Int), prs fr4 to4⟩), (76, ⟨bZ, 3, 3, fl [.slice (some ⟨bf, 0, none⟩) (T + 1) (T + 1), .slice none 0 0, .slice none 0 0]⟩), (77, ⟨bf, T + 1, (T : Int) + 1, ints .i32 rf⟩)]
          refine C_seq ?_
          refine C_region ?_
          refine W_lss V_w0 rfl rfl rfl (fun h279 => ?_) (fun h279 => ?_)
          ·
            have hfb := adj_bounds hadj hu0 (by omega)
            have hfb1 := adj_bounds hadj (show (0 : Int) ≤ u + 1 by omega) (by omega)
            have hmo := hadj.2.2.1 u hu0 (by omega)
            refine V_nil (X_next ?_)
            refine C_seq ?_
            refine C_true rfl ?_
            refine C_skip (X_next ?_)
            refine C_seq ?_
            refine C_block ?_
            refine C_seq ?_
            refine C_region ?_
            refine V_w0.q (QY_move rfl) rfl ?_
            refine V_w0.q (QY_assign rfl) rfl ?_
            refine V_nil (X_next ?_)
            refine C_draws 22 22 mix (by kernel_rfl) ?_
            refine T_w0.q (QY_move rfl) rfl ?_
            refine W_fld T_w0 (q := 76) rfl rfl fa57_0 lf22 (by decide) rfl rfl rfl rfl ?_
            refine T_w0.q (QY_move rfl) rfl ?_
            refine T_w0.q (QY_arith rfl rfl rfl ⟨by omega, by omega⟩) rfl ?_
            refine T_w0.q (QY_move rfl) rfl ?_
            refine W_fld T_w0 (q := 71) rfl rfl fa57_0 lf22 (by decide) rfl rfl rfl rfl ?_
            refine T_w0.q (QY_move rfl) rfl ?_
            refine T_w0.q (QY_arith rfl rfl rfl ⟨by omega, by omega⟩) rfl ?_
            refine W_elem T_w0 rfl rfl (hF.rd) (by omega) (by omega) sl22 lf21 rfl rfl (fun _ => ?_)
            refine T_w0.q (QY_move rfl) rfl ?_
            refine W_fld T_w0 (q := 71) rfl rfl fa57_0 lf22 (by decide) rfl rfl rfl rfl ?_
            refine T_w0.q (QY_move rfl) rfl ?_
            refine W_elem T_w0 rfl rfl (hF.rd) (by omega) (by omega) sl22 lf21 rfl rfl (fun _ => ?_)
            refine T_w0.q (QY_arith rfl rfl rfl ⟨by omega, by omega⟩) rfl ?_
            refine T_tail rfl rfl ?_
            refine V_set (q := 77) rfl rfl rfl rfl rfl (by omega) (by omega) (by omega) sl22 lf21 rfl rfl (upd_ints _ _ _ _) (fun _ => ?_)
            refine V_nil (X_Qn (X_block (X_next ?_)))
            refine C_region ?_
            refine V_w0.q (QY_arith rfl rfl rfl ⟨by omega, by omega⟩) rfl ?_
            refine V_w0.q (QY_move rfl) rfl ?_
            refine V_nil (X_then ?_)
            refine X_round (u + 1, upd rf (u + 1) (f (u + 1) - f u)) ?_ ?_ ?_ ?_
            · refine ⟨by omega, by omega, by rw [upd_other _ _ _ (by omega)]; exact hrf00, fun v a b => ?_⟩
              by_cases e : v = u
              · subst e; rw [upd_same, if_pos (by omega)]
              · rw [upd_other _ _ _ (by omega), hrf v a b]
                by_cases c : v < u
                · rw [if_pos c, if_pos (by omega)]
                · rw [if_neg c, if_neg (by omega)]
            · show ((n : Int) - (u + 1)).toNat < ((n : Int) - u).toNat
              omega
            · exact ⟨rfl, rfl, rfl, rfl, rfl, rfl, rfl, rfl, rfl, rfl, trivial⟩
            · exact ⟨rfl, rfl, rfl, rfl, rfl, rfl, rfl, rfl, rfl, rfl, rfl, trivial⟩
          ·
            obtain rfl : u = (n : Int) := by omega
            refine V_nil (X_next ?_)
            refine C_seq ?_
            refine C_false rfl ?_
            refine C_exit (X_then_exit (X_then_exit (X_block_exit (X_next ?_))))
            refine C_seq ?_
            refine C_seq ?_
            refine C_region ?_
            refine V_w0.q (QY_move rfl) rfl ?_
            refine V_w0.q (QY_len sl85 rfl) rfl ?_
            refine V_w0.q (QY_move rfl) rfl ?_
            refine V_nil (X_next ?_)
            refine C_block ?_
            refine C_loops (T := Int × (Int → Int)) (fun (zz9 : Int × (Int → Int)) => match zz9 with | (k, rf1) => [(0, .pointer (some ⟨bR, 0, none⟩)), (1, .pointer (some ⟨bA, 0, none⟩)), (5, .int .i32 (n : Int)), (6, .int .i32 tx), (7, .slice (some ⟨bE, 0, none⟩) (nl + 1) (nl + 1)), (10, .slice aK4 M4 cK4), (21, .int .i64 (T : Int)), (22, .pointer (some ⟨bZ, 0, none⟩)), (305, .slice aK4 M4 cK4), (306, .int .i64 (M4 : Int)), (307, .int .i64 k)]) (fun (zz9 : Int × (Int → Int)) => match zz9 with | (k, rf1) => [(70, ⟨bR, 15, 15, fl [.slice (some ⟨bl, 0, none⟩) nl nl, .slice (some ⟨bs, 0, none⟩) ns ns, .slice aV (nl + 1) cV, .slice none 0 0, .slice none 0 0, .slice none 0 0, .slice none 0 0, .slice (some ⟨bt, 0, none⟩) nt nt, .slice (some ⟨bv, 0, none⟩) nl nl, .slice aH hc cH, .slice none 0 0, .slice none 0 0, .slice none 0 0, .slice none 0 0, .slice none 0 0]⟩), (71, ⟨bA, 3, 3, fl [.slice aF nf cF, .slice aO no cO, .slice (some ⟨bL, 0, none⟩) no no]⟩), (34, ⟨bL, no, no, ints .u8 cl⟩), (72, ⟨bl, nl * 2, ((nl * 2 : Nat) : Int), cA⟩), (73, ⟨bs, ns * 3, ((ns * 3 : Nat) : Int), cS⟩), (74, ⟨bv, nl * 2, ((nl * 2 : Nat) : Int), cW⟩), (75, ⟨bt, nt * 2, ((nt * 2 : Nat) : Int), cT⟩), (80, ⟨bE, nl + 1, (nl : Int) + 1, ints .i32 rr⟩), (82, ⟨bK4, sK4, ((M4 * 2 : Nat) : Int), prs fr4 to4⟩), (76, ⟨bZ, 3, 3, fl [.slice (some ⟨bf, 0, none⟩) (T + 1) (T + 1), .slice none 0 0, .slice none 0 0]⟩), (77, ⟨bf, T + 1, (T : Int) + 1, ints .i32 rf1⟩)]) (fun (zz9 : Int × (Int → Int)) => match zz9 with | (k, rf1) => 0 ≤ k ∧ k ≤ M4 ∧ rf1 0 = 0 ∧ ∀ v, 0 ≤ v → v < (T : Int) → rf1 (v + 1) = dgU n f v + cntU fr4 v k) (fun (zz9 : Int × (Int → Int)) => match zz9 with | (k, rf1) => ((M4 : Int) - k).toNat) (0, rf) ?_ ?_ ?_ ?_
            · exact ⟨by omega, by omega, hrf00, fun v a b => by rw [hrf v a b, cntU_zero]; exact (Int.add_zero _).symm⟩
            · exact ⟨rfl, rfl, rfl, rfl, rfl, rfl, rfl, rfl, rfl, rfl, rfl, trivial⟩
            · exact ⟨rfl, rfl, rfl, rfl, rfl, rfl, rfl, rfl, rfl, rfl, rfl, trivial⟩
            rintro ⟨k, rf1⟩ ⟨hk0, hk1, hrf10, hrf1⟩
            show C _ _ _ _ _ _ [(0, .pointer (some ⟨bR, 0, none⟩)), (1, .pointer (some ⟨bA, 0, none⟩)), (5, .int .i32 (n : Int)), (6, .int .i32 tx), (7, .slice (some ⟨bE, 0, none⟩) (nl + 1) (nl + 1)), (10, .slice aK4 M4 cK4), (21, .int .i64 (T : Int)), (22, .pointer (some ⟨bZ, 0, none⟩)), (305, .slice aK4 M4 cK4), (306, .int .i64 (M4 : Int)), (307, .int .i64 k)] [(70, ⟨bR, 15, 15, fl [.slice (some ⟨bl, 0, none⟩) nl nl, .slice (some ⟨bs, 0, none⟩) ns ns, .slice aV (nl + 1) cV, .slice none 0 0, .slice none 0 0, .slice none 0 0, .slice none 0 0, .slice (some ⟨bt, 0, none⟩) nt nt, .slice (some ⟨bv, 0, none⟩) nl nl, .slice aH hc cH, .slice none 0 0, .slice none 0 0, .slice none 0 0, .slice none 0 0, .slice none 0 0]⟩), (71, ⟨bA, 3, 3, fl [.slice aF nf cF, .slice aO no cO, .slice (some ⟨bL, 0, none⟩) no no]⟩), (34, ⟨bL, no, no, ints .u8 cl⟩), (72, ⟨bl, nl * 2, ((nl * 2 : Nat) : Int), cA⟩), (73, ⟨bs, ns * 3, ((ns * 3 : Nat) : Int), cS⟩), (74, ⟨bv, nl * 2, ((nl * 2 : Nat) : Int), cW⟩), (75, ⟨bt, nt * 2, ((nt * 2 : Nat) : Int), cT⟩), (80, ⟨bE, nl + 1, (nl : Int) + 1, ints .i32 rr⟩), (82, ⟨bK4, sK4, ((M4 * 2 : Nat) : Int), prs fr4 to4⟩), (76, ⟨bZ, 3, 3, fl [.slice (some ⟨bf, 0, none⟩) (T + 1) (T + 1), .slice none 0 0, .slice none 0 0]⟩), (77, ⟨bf, T + 1, (T : Int) + 1, ints .i32 rf1⟩)]
            refine C_seq ?_
            refine C_region ?_
            refine W_lss V_w0 rfl rfl rfl (fun h308 => ?_) (fun h308 => ?_)
            ·
              obtain rfl : aK4 = some ⟨bK4, 0, none⟩ := (gK4.some (by omega)).1
              have hfk := hfr4 k hk0 (by omega)
              have hv := hrf1 (fr4 k) (by omega) (by omega)
              have hdg := dgU_b hadj hn hfk.1
              have hcu := cntU_b fr4 (fr4 k) hk0
              refine V_nil (X_next ?_)
              refine C_seq ?_
              refine C_true rfl ?_
              refine C_skip (X_next ?_)
              refine C_seq ?_
              refine C_block ?_
              refine C_seq ?_
              refine C_region ?_
              refine V_w0.q (QY_index2 (o' := (k : Int).toNat * 2) sl85 rfl rfl (by omega) (by omega) (by omega)) rfl ?_
              refine V_w0.q (QY_loadA ag87 (q := 82) (vs := [.int .i32 (fr4 k), .int .i32 (to4 k)]) rfl rfl (by omega) rfl (two_cells hk0 (prs_0 _ _ _) (prs_1 _ _ _))) rfl ?_
              refine V_allocA 86 ag87 rfl rfl (fun bq5 => ?_)
              refine V_storeV (q := 86) ag87 rfl rfl rfl rfl (by intro v hv; simp at hv; rcases hv with rfl | rfl <;> rfl) (by decide) ?_
              refine V_nil (X_next ?_)
              refine C_draws 10 10 mix (by kernel_rfl) ?_
              refine T_w0.q (QY_move rfl) rfl ?_
              refine W_fld T_w0 (q := 76) rfl rfl fa57_0 lf22 (by decide) rfl rfl rfl rfl ?_
              refine T_w0.q (QY_fieldP (o' := 0) fa87_0 rfl rfl) rfl ?_
              refine T_w0.q (QY_cell lf21 (q := 86) rfl rfl (by decide) rfl) rfl ?_
              refine T_w0.q (QY_arith rfl rfl rfl ⟨by omega, by omega⟩) rfl ?_
              refine W_elem T_w0 rfl rfl (Rd_own (q := 77) rfl (by omega)) (by omega) (by omega) sl22 lf21 rfl rfl (fun _ => ?_)
              refine T_w0.q (QY_arith rfl rfl rfl ⟨by omega, by omega⟩) rfl ?_
              refine T_tail rfl rfl ?_
              refine V_set (q := 77) rfl rfl rfl rfl rfl (by omega) (by omega) (by omega) sl22 lf21 rfl rfl (upd_ints _ _ _ _) (fun _ => ?_)
              refine V_nil (X_Qn (X_block (X_next ?_)))
              refine C_region ?_
              refine V_w0.q (QY_arith rfl rfl rfl ⟨by omega, by omega⟩) rfl ?_
              refine V_w0.q (QY_move rfl) rfl ?_
              refine V_nil (X_then ?_)
              refine X_round (k + 1, upd rf1 (fr4 k + 1) (rf1 (fr4 k + 1) + 1)) ?_ ?_ ?_ ?_
              · refine ⟨by omega, by omega, by rw [upd_other _ _ _ (by omega)]; exact hrf10, fun v a b => ?_⟩
                by_cases e : fr4 k = v
                · rw [cntU_yes hk0 e, ← e, upd_same]; omega
                · rw [cntU_no hk0 e, upd_other _ _ _ (by omega)]; exact hrf1 v a b
              · show ((M4 : Int) - (k + 1)).toNat < ((M4 : Int) - k).toNat
                omega
              · exact ⟨rfl, rfl, rfl, rfl, rfl, rfl, rfl, rfl, rfl, rfl, rfl, trivial⟩
              · exact ⟨rfl, rfl, rfl, rfl, rfl, rfl, rfl, rfl, rfl, rfl, rfl, trivial⟩
            ·
              obtain rfl : k = (M4 : Int) := by omega
              refine V_nil (X_next ?_)
              refine C_seq ?_
              refine C_false rfl ?_
              refine C_exit (X_then_exit (X_then_exit (X_block_exit (X_next ?_))))
              refine C_seq ?_
              refine C_seq ?_
              refine C_region ?_
              refine V_w0.q (QY_assign rfl) rfl ?_
              refine V_nil (X_next ?_)
              refine C_block ?_
              refine C_loops (T := Int × (Int → Int)) (fun (zz9 : Int × (Int → Int)) => match zz9 with | (u, rf2) => [(0, .pointer (some ⟨bR, 0, none⟩)), (1, .pointer (some ⟨bA, 0, none⟩)), (5, .int .i32 (n : Int)), (6, .int .i32 tx), (7, .slice (some ⟨bE, 0, none⟩) (nl + 1) (nl + 1)), (10, .slice aK4 M4 cK4), (21, .int .i64 (T : Int)), (22, .pointer (some ⟨bZ, 0, none⟩)), (26, .int .i64 u)]) (fun (zz9 : Int × (Int → Int)) => match zz9 with | (u, rf2) => [(70, ⟨bR, 15, 15, fl [.slice (some ⟨bl, 0, none⟩) nl nl, .slice (some ⟨bs, 0, none⟩) ns ns, .slice aV (nl + 1) cV, .slice none 0 0, .slice none 0 0, .slice none 0 0, .slice none 0 0, .slice (some ⟨bt, 0, none⟩) nt nt, .slice (some ⟨bv, 0, none⟩) nl nl, .slice aH hc cH, .slice none 0 0, .slice none 0 0, .slice none 0 0, .slice none 0 0, .slice none 0 0]⟩), (71, ⟨bA, 3, 3, fl [.slice aF nf cF, .slice aO no cO, .slice (some ⟨bL, 0, none⟩) no no]⟩), (34, ⟨bL, no, no, ints .u8 cl⟩), (72, ⟨bl, nl * 2, ((nl * 2 : Nat) : Int), cA⟩), (73, ⟨bs, ns * 3, ((ns * 3 : Nat) : Int), cS⟩), (74, ⟨bv, nl * 2, ((nl * 2 : Nat) : Int), cW⟩), (75, ⟨bt, nt * 2, ((nt * 2 : Nat) : Int), cT⟩), (80, ⟨bE, nl + 1, (nl : Int) + 1, ints .i32 rr⟩), (82, ⟨bK4, sK4, ((M4 * 2 : Nat) : Int), prs fr4 to4⟩), (76, ⟨bZ, 3, 3, fl [.slice (some ⟨bf, 0, none⟩) (T + 1) (T + 1), .slice none 0 0, .slice none 0 0]⟩), (77, ⟨bf, T + 1, (T : Int) + 1, ints .i32 rf2⟩)]) (fun (zz9 : Int × (Int → Int)) => match zz9 with | (u, rf2) => 1 ≤ u ∧ u ≤ (T : Int) + 1 ∧ (∀ v, 0 ≤ v → v < u → rf2 v = pfx n f fr4 M4 v) ∧ ∀ v, u ≤ v + 1 → v < (T : Int) → rf2 (v + 1) = dgU n f v + cntU fr4 v M4) (fun (zz9 : Int × (Int → Int)) => match zz9 with | (u, rf2) => (((T : Int) + 1) - u).toNat) (1, rf1) ?_ ?_ ?_ ?_
              · refine ⟨by omega, by omega, fun v a b => ?_, fun v a b => hrf1 v (by omega) b⟩
                obtain rfl : v = 0 := by omega
                rw [hrf10, pfx_zero hadj.2.1 (fun a a0 a1 => (hfr4 a a0 a1).1)]
              · exact ⟨rfl, rfl, rfl, rfl, rfl, rfl, rfl, rfl, rfl, trivial⟩
              · exact ⟨rfl, rfl, rfl, rfl, rfl, rfl, rfl, rfl, rfl, rfl, rfl, trivial⟩
              rintro ⟨u, rf2⟩ ⟨hu0, hu1, hrfa, hrfb⟩
              show C _ _ _ _ _ _ [(0, .pointer (some ⟨bR, 0, none⟩)), (1, .pointer (some ⟨bA, 0, none⟩)), (5, .int .i32 (n : Int)), (6, .int .i32 tx), (7, .slice (some ⟨bE, 0, none⟩) (nl + 1) (nl + 1)), (10, .slice aK4 M4 cK4), (21, .int .i64 (T : Int)), (22, .pointer (some ⟨bZ, 0, none⟩)), (26, .int .i64 u)] [(70, ⟨bR, 15, 15, fl [.slice (some ⟨bl, 0, none⟩) nl nl, .slice (some ⟨bs, 0, none⟩) ns ns, .slice aV (nl + 1) cV, .slice none 0 0, .slice none 0 0, .slice none 0 0, .slice none 0 0, .slice (some ⟨bt, 0, none⟩) nt nt, .slice (some ⟨bv, 0, none⟩) nl nl, .slice aH hc cH, .slice none 0 0, .slice none 0 0, .slice none 0 0, .slice none 0 0, .slice none 0 0]⟩), (71, ⟨bA, 3, 3, fl [.slice aF nf cF, .slice aO no cO, .slice (some ⟨bL, 0, none⟩) no no]⟩), (34, ⟨bL, no, no, ints .u8 cl⟩), (72, ⟨bl, nl * 2, ((nl * 2 : Nat) : Int), cA⟩), (73, ⟨bs, ns * 3, ((ns * 3 : Nat) : Int), cS⟩), (74, ⟨bv, nl * 2, ((nl * 2 : Nat) : Int), cW⟩), (75, ⟨bt, nt * 2, ((nt * 2 : Nat) : Int), cT⟩), (80, ⟨bE, nl + 1, (nl : Int) + 1, ints .i32 rr⟩), (82, ⟨bK4, sK4, ((M4 * 2 : Nat) : Int), prs fr4 to4⟩), (76, ⟨bZ, 3, 3, fl [.slice (some ⟨bf, 0, none⟩) (T + 1) (T + 1), .slice none 0 0, .slice none 0 0]⟩), (77, ⟨bf, T + 1, (T : Int) + 1, ints .i32 rf2⟩)]
              refine C_seq ?_
              refine C_seq ?_
              refine C_region ?_
              refine V_w0.q (QY_move rfl) rfl ?_
              refine V_w0.q (QY_move rfl) rfl ?_
              refine W_leq V_w0 rfl rfl rfl (fun h325 => ?_) (fun h325 => ?_)
              ·
                have hu1 := hrfb (u - 1) (by omega) (by omega)
                rw [show u - 1 + 1 = u from by omega] at hu1
                have hp := hrfa (u - 1) (by omega) (by omega)
                have hpb := pfx_b fr4 M4 hadj hn (v := u - 1) (by omega)
                have hdg := dgU_b hadj hn (v := u - 1) (by omega)
                have hcu := cntU_b fr4 (u - 1) (k := (M4 : Int)) (by omega)
                refine V_nil (X_next ?_)
                refine C_true rfl ?_
                refine C_skip (X_next ?_)
                refine C_seq ?_
                refine C_block ?_
                refine C_draws 16 16 mix (by kernel_rfl) ?_
                refine T_w0.q (QY_move rfl) rfl ?_
                refine W_fld T_w0 (q := 76) rfl rfl fa57_0 lf22 (by decide) rfl rfl rfl rfl ?_
                refine T_w0.q (QY_move rfl) rfl ?_
                refine W_elem T_w0 rfl rfl (Rd_own (q := 77) rfl (by omega)) (by omega) (by omega) sl22 lf21 rfl rfl (fun _ => ?_)
                refine T_w0.q (QY_move rfl) rfl ?_
                refine W_fld T_w0 (q := 76) rfl rfl fa57_0 lf22 (by decide) rfl rfl rfl rfl ?_
                refine T_w0.q (QY_move rfl) rfl ?_
                refine T_w0.q (QY_arith rfl rfl rfl ⟨by omega, by omega⟩) rfl ?_
                refine W_elem T_w0 rfl rfl (Rd_own (q := 77) rfl (by omega)) (by omega) (by omega) sl22 lf21 rfl rfl (fun _ => ?_)
                refine T_w0.q (QY_arith rfl rfl rfl ⟨by omega, by omega⟩) rfl ?_
                refine T_tail rfl rfl ?_
                refine V_set (q := 77) rfl rfl rfl rfl rfl (by omega) (by omega) (by omega) sl22 lf21 rfl rfl (upd_ints _ _ _ _) (fun _ => ?_)
                refine V_nil (X_Qn (X_block (X_next ?_)))
                refine C_region ?_
                refine V_w0.q (QY_move rfl) rfl ?_
                refine V_w0.q (QY_arith rfl rfl rfl ⟨by omega, by omega⟩) rfl ?_
                refine V_w0.q (QY_assign rfl) rfl ?_
                refine V_nil (X_then ?_)
                refine X_round (u + 1, upd rf2 u (rf2 u + rf2 (u - 1))) ?_ ?_ ?_ ?_
                · refine ⟨by omega, by omega, fun v a b => ?_, fun v a b => ?_⟩
                  · by_cases e : v = u
                    · subst e
                      have hs := pfx_succ n f fr4 M4 (v := v - 1)
                      rw [show v - 1 + 1 = v from by omega] at hs
                      rw [upd_same, hs]; omega
                    · rw [upd_other _ _ _ e]; exact hrfa v a (by omega)
                  · rw [upd_other _ _ _ (by omega)]; exact hrfb v (by omega) b
                · show (((T : Int) + 1) - (u + 1)).toNat < (((T : Int) + 1) - u).toNat
                  omega
                · exact ⟨rfl, rfl, rfl, rfl, rfl, rfl, rfl, rfl, rfl, trivial⟩
                · exact ⟨rfl, rfl, rfl, rfl, rfl, rfl, rfl, rfl, rfl, rfl, rfl, trivial⟩
              ·
                obtain rfl : u = (T : Int) + 1 := by omega
                have hrf : ∀ v, 0 ≤ v → v ≤ (T : Int) → rf2 v = pfx n f fr4 M4 v := fun v a b => hrfa v a (by omega)
                refine V_nil (X_next ?_)
                refine C_false rfl ?_
                refine C_exit (X_then_exit (X_then_exit (X_block_exit (X_next ?_))))
                refine C_seq ?_
                have hrT := hrf T (by omega) (Int.le_refl _)
                have hpb := pfx_b fr4 M4 hadj hn (v := (T : Int)) (by omega)
                obtain ⟨m, hm9⟩ : ∃ m : Nat, rf2 T = (m : Int) := ⟨(rf2 T).toNat, by omega⟩
                have hm8 : ints .i32 rf2 (T : Int) = .int .i32 (m : Int) := by unfold ints; rw [hm9]
                refine C_region ?_
                refine V_w0.q (QY_move rfl) rfl ?_
                refine V_w0.q (QY_move rfl) rfl ?_
                refine W_fld V_w0 (q := 76) rfl rfl fa57_0 lf22 (by decide) rfl rfl rfl rfl ?_
                refine V_w0.q (QY_move rfl) rfl ?_
                refine W_elem V_w0 rfl rfl (Rd_own (q := 77) rfl (by omega)) (by omega) (by omega) sl22 lf21 rfl rfl (fun _ => ?_)
                first | rw [hm8] | rw [hm9]
                refine V_make 78 mk22 rfl rfl rfl (by omega) (by omega) (by omega) (by omega) rfl (fun bo => ?_)
                refine V_fset (q := 76) rfl rfl fa57_1 lf22 (by decide) rfl rfl rfl rfl rfl ?_
                refine V_nil (X_next ?_)
                refine C_cut (T := Nat × Nat) (fun (zz9 : Nat × Nat) => match zz9 with | (bo, bc) => [(0, .pointer (some ⟨bR, 0, none⟩)), (1, .pointer (some ⟨bA, 0, none⟩)), (5, .int .i32 (n : Int)), (6, .int .i32 tx), (7, .slice (some ⟨bE, 0, none⟩) (nl + 1) (nl + 1)), (10, .slice aK4 M4 cK4), (21, .int .i64 (T : Int)), (22, .pointer (some ⟨bZ, 0, none⟩))]) (fun (zz9 : Nat × Nat) => match zz9 with | (bo, bc) => [(70, ⟨bR, 15, 15, fl [.slice (some ⟨bl, 0, none⟩) nl nl, .slice (some ⟨bs, 0, none⟩) ns ns, .slice aV (nl + 1) cV, .slice none 0 0, .slice none 0 0, .slice none 0 0, .slice none 0 0, .slice (some ⟨bt, 0, none⟩) nt nt, .slice (some ⟨bv, 0, none⟩) nl nl, .slice aH hc cH, .slice none 0 0, .slice none 0 0, .slice none 0 0, .slice none 0 0, .slice none 0 0]⟩), (71, ⟨bA, 3, 3, fl [.slice aF nf cF, .slice aO no cO, .slice (some ⟨bL, 0, none⟩) no no]⟩), (34, ⟨bL, no, no, ints .u8 cl⟩), (72, ⟨bl, nl * 2, ((nl * 2 : Nat) : Int), cA⟩), (73, ⟨bs, ns * 3, ((ns * 3 : Nat) : Int), cS⟩), (74, ⟨bv, nl * 2, ((nl * 2 : Nat) : Int), cW⟩), (75, ⟨bt, nt * 2, ((nt * 2 : Nat) : Int), cT⟩), (80, ⟨bE, nl + 1, (nl : Int) + 1, ints .i32 rr⟩), (82, ⟨bK4, sK4, ((M4 * 2 : Nat) : Int), prs fr4 to4⟩), (76, ⟨bZ, 3, 3, fl [.slice (some ⟨bf, 0, none⟩) (T + 1) (T + 1), .slice (some ⟨bo, 0, none⟩) m m, .slice (some ⟨bc, 0, none⟩) m m]⟩), (77, ⟨bf, T + 1, (T : Int) + 1, ints .i32 rf2⟩), (78, ⟨bo, m, m, ints .i32 (fun _ => 0)⟩), (79, ⟨bc, m, m, ints .u8 (fun _ => 0)⟩)]) (fun (zz9 : Nat × Nat) => match zz9 with | (bo, bc) => True) ?_ ?_
                ·
                  refine C_region ?_
                  refine V_w0.q (QY_move rfl) rfl ?_
                  refine V_w0.q (QY_move rfl) rfl ?_
                  refine W_fld V_w0 (q := 76) rfl rfl fa57_0 lf22 (by decide) rfl rfl rfl rfl ?_
                  refine V_w0.q (QY_move rfl) rfl ?_
                  refine W_elem V_w0 rfl rfl (Rd_own (q := 77) rfl (by omega)) (by omega) (by omega) sl22 lf21 rfl rfl (fun _ => ?_)
                  first | rw [hm8] | rw [hm9]
                  refine V_make 79 mk54 rfl rfl rfl (by omega) (by omega) (by omega) (by omega) rfl (fun bc => ?_)
                  refine V_fset (q := 76) rfl rfl fa57_2 lf54 (by decide) rfl rfl rfl rfl rfl ?_
                  refine V_nil (X_then ?_)
                  refine X_cut (bo, bc) ?_ ?_ ?_
                  · trivial
                  · exact ⟨rfl, rfl, rfl, rfl, rfl, rfl, rfl, rfl, trivial⟩
                  · exact ⟨rfl, rfl, rfl, rfl, rfl, rfl, rfl, rfl, rfl, rfl, rfl, rfl, rfl, trivial⟩
                rintro ⟨bo, bc⟩ _
                show C _ _ _ _ _ _ [(0, .pointer (some ⟨bR, 0, none⟩)), (1, .pointer (some ⟨bA, 0, none⟩)), (5, .int .i32 (n : Int)), (6, .int .i32 tx), (7, .slice (some ⟨bE, 0, none⟩) (nl + 1) (nl + 1)), (10, .slice aK4 M4 cK4), (21, .int .i64 (T : Int)), (22, .pointer (some ⟨bZ, 0, none⟩))] [(70, ⟨bR, 15, 15, fl [.slice (some ⟨bl, 0, none⟩) nl nl, .slice (some ⟨bs, 0, none⟩) ns ns, .slice aV (nl + 1) cV, .slice none 0 0, .slice none 0 0, .slice none 0 0, .slice none 0 0, .slice (some ⟨bt, 0, none⟩) nt nt, .slice (some ⟨bv, 0, none⟩) nl nl, .slice aH hc cH, .slice none 0 0, .slice none 0 0, .slice none 0 0, .slice none 0 0, .slice none 0 0]⟩), (71, ⟨bA, 3, 3, fl [.slice aF nf cF, .slice aO no cO, .slice (some ⟨bL, 0, none⟩) no no]⟩), (34, ⟨bL, no, no, ints .u8 cl⟩), (72, ⟨bl, nl * 2, ((nl * 2 : Nat) : Int), cA⟩), (73, ⟨bs, ns * 3, ((ns * 3 : Nat) : Int), cS⟩), (74, ⟨bv, nl * 2, ((nl * 2 : Nat) : Int), cW⟩), (75, ⟨bt, nt * 2, ((nt * 2 : Nat) : Int), cT⟩), (80, ⟨bE, nl + 1, (nl : Int) + 1, ints .i32 rr⟩), (82, ⟨bK4, sK4, ((M4 * 2 : Nat) : Int), prs fr4 to4⟩), (76, ⟨bZ, 3, 3, fl [.slice (some ⟨bf, 0, none⟩) (T + 1) (T + 1), .slice (some ⟨bo, 0, none⟩) m m, .slice (some ⟨bc, 0, none⟩) m m]⟩), (77, ⟨bf, T + 1, (T : Int) + 1, ints .i32 rf2⟩), (78, ⟨bo, m, m, ints .i32 (fun _ => 0)⟩), (79, ⟨bc, m, m, ints .u8 (fun _ => 0)⟩)]
                refine C_seq ?_
                refine C_region ?_
                refine V_w0.q (QY_move rfl) rfl ?_
                refine W_fld V_w0 (q := 76) rfl rfl fa57_0 lf22 (by decide) rfl rfl rfl rfl ?_
                refine V_w0.q (QY_move rfl) rfl ?_
                refine V_w0.q (QY_slice_hi sl22 rfl rfl (by omega) (by omega) (by omega)) rfl ?_
                refine V_call cb37 rfl (T := Nat × Nat) (Φ := fun y => T ≤ y.2) (val := fun y => .slice (some ⟨y.1, 0, none⟩) T y.2) (H' := fun y => (88, ⟨y.1, y.2, (T : Int), ints .i32 rf2⟩) :: [(70, ⟨bR, 15, 15, fl [.slice (some ⟨bl, 0, none⟩) nl nl, .slice (some ⟨bs, 0, none⟩) ns ns, .slice aV (nl + 1) cV, .slice none 0 0, .slice none 0 0, .slice none 0 0, .slice none 0 0, .slice (some ⟨bt, 0, none⟩) nt nt, .slice (some ⟨bv, 0, none⟩) nl nl, .slice aH hc cH, .slice none 0 0, .slice none 0 0, .slice none 0 0, .slice none 0 0, .slice none 0 0]⟩), (71, ⟨bA, 3, 3, fl [.slice aF nf cF, .slice aO no cO, .slice (some ⟨bL, 0, none⟩) no no]⟩), (34, ⟨bL, no, no, ints .u8 cl⟩), (72, ⟨bl, nl * 2, ((nl * 2 : Nat) : Int), cA⟩), (73, ⟨bs, ns * 3, ((ns * 3 : Nat) : Int), cS⟩), (74, ⟨bv, nl * 2, ((nl * 2 : Nat) : Int), cW⟩), (75, ⟨bt, nt * 2, ((nt * 2 : Nat) : Int), cT⟩), (80, ⟨bE, nl + 1, (nl : Int) + 1, ints .i32 rr⟩), (82, ⟨bK4, sK4, ((M4 * 2 : Nat) : Int), prs fr4 to4⟩), (76, ⟨bZ, 3, 3, fl [.slice (some ⟨bf, 0, none⟩) (T + 1) (T + 1), .slice (some ⟨bo, 0, none⟩) m m, .slice (some ⟨bc, 0, none⟩) m m]⟩), (77, ⟨bf, T + 1, (T : Int) + 1, ints .i32 rf2⟩), (78, ⟨bo, m, m, ints .i32 (fun _ => 0)⟩), (79, ⟨bc, m, m, ints .u8 (fun _ => 0)⟩)]) (fun w1 hm => (clone37 w1 _ T _ rf2 ((Rd_own (q := 77) (n := T) rfl (by omega)).at hm) (by omega) (by omega)).mono fun e w2 ⟨y, h1, he, hM⟩ => ⟨y, h1, he, hm.join1 88 hM⟩) rfl ?_
                rintro ⟨bi, ci⟩ hci
                refine V_w0.q (QY_assign rfl) rfl ?_
                refine V_nil (X_next ?_)
                refine C_seq ?_
                refine C_seq ?_
                refine C_region ?_
                refine V_w0.q (QY_move rfl) rfl ?_
                refine V_w0.q (QY_move rfl) rfl ?_
                refine V_nil (X_next ?_)
                refine C_block ?_
                refine C_loops (T := Int × (Int → Int) × (Int → Int) × (Int → Int)) (fun (zz9 : Int × (Int → Int) × (Int → Int) × (Int → Int)) => match zz9 with | (u, ro, rc, fi) => [(0, .pointer (some ⟨bR, 0, none⟩)), (1, .pointer (some ⟨bA, 0, none⟩)), (5, .int .i32 (n : Int)), (6, .int .i32 tx), (7, .slice (some ⟨bE, 0, none⟩) (nl + 1) (nl + 1)), (10, .slice aK4 M4 cK4), (21, .int .i64 (T : Int)), (22, .pointer (some ⟨bZ, 0, none⟩)), (27, .slice (some ⟨bi, 0, none⟩) T ci), (374, .int .i32 (n : Int)), (375, .int .i32 u)]) (fun (zz9 : Int × (Int → Int) × (Int → Int) × (Int → Int)) => match zz9 with | (u, ro, rc, fi) => [(70, ⟨bR, 15, 15, fl [.slice (some ⟨bl, 0, none⟩) nl nl, .slice (some ⟨bs, 0, none⟩) ns ns, .slice aV (nl + 1) cV, .slice none 0 0, .slice none 0 0, .slice none 0 0, .slice none 0 0, .slice (some ⟨bt, 0, none⟩) nt nt, .slice (some ⟨bv, 0, none⟩) nl nl, .slice aH hc cH, .slice none 0 0, .slice none 0 0, .slice none 0 0, .slice none 0 0, .slice none 0 0]⟩), (71, ⟨bA, 3, 3, fl [.slice aF nf cF, .slice aO no cO, .slice (some ⟨bL, 0, none⟩) no no]⟩), (34, ⟨bL, no, no, ints .u8 cl⟩), (72, ⟨bl, nl * 2, ((nl * 2 : Nat) : Int), cA⟩), (73, ⟨bs, ns * 3, ((ns * 3 : Nat) : Int), cS⟩), (74, ⟨bv, nl * 2, ((nl * 2 : Nat) : Int), cW⟩), (75, ⟨bt, nt * 2, ((nt * 2 : Nat) : Int), cT⟩), (80, ⟨bE, nl + 1, (nl : Int) + 1, ints .i32 rr⟩), (82, ⟨bK4, sK4, ((M4 * 2 : Nat) : Int), prs fr4 to4⟩), (76, ⟨bZ, 3, 3, fl [.slice (some ⟨bf, 0, none⟩) (T + 1) (T + 1), .slice (some ⟨bo, 0, none⟩) m m, .slice (some ⟨bc, 0, none⟩) m m]⟩), (77, ⟨bf, T + 1, (T : Int) + 1, ints .i32 rf2⟩), (78, ⟨bo, m, m, ints .i32 ro⟩), (79, ⟨bc, m, m, ints .u8 rc⟩), (88, ⟨bi, ci, (T : Int), ints .i32 fi⟩)]) (fun (zz9 : Int × (Int → Int) × (Int → Int) × (Int → Int)) => match zz9 with | (u, ro, rc, fi) => 0 ≤ u ∧ u ≤ n ∧ (∀ v, 0 ≤ v → v < (T : Int) → fi v = rf2 v + if v < u then dgU n f v else 0) ∧ ∀ v k, 0 ≤ v → v < u → 0 ≤ k → k < f (v + 1) - f v → ro (rf2 v + k) = o (f v + k) ∧ rc (rf2 v + k) = cl (f v + k)) (fun (zz9 : Int × (Int → Int) × (Int → Int) × (Int → Int)) => match zz9 with | (u, ro, rc, fi) => ((n : Int) - u).toNat) (0, fun _ => 0, fun _ => 0, rf2) ?_ ?_ ?_ ?_
                · exact ⟨by omega, by omega, fun v a b => by rw [if_neg (by omega), Int.add_zero], fun v k a b => by omega⟩
                · exact ⟨rfl, rfl, rfl, rfl, rfl, rfl, rfl, rfl, rfl, rfl, rfl, trivial⟩
                · exact ⟨rfl, rfl, rfl, rfl, rfl, rfl, rfl, rfl, rfl, rfl, rfl, rfl, rfl, rfl, trivial⟩
                rintro ⟨u, ro, rc, fi⟩ ⟨hu0, hu1, hfi, hold⟩
                show C _ _ _ _ _ _ [(0, .pointer (some ⟨bR, 0, none⟩)), (1, .pointer (some ⟨bA, 0, none⟩)), (5, .int .i32 (n : Int)), (6, .int .i32 tx), (7, .slice (some ⟨bE, 0, none⟩) (nl + 1) (nl + 1)), (10, .slice aK4 M4 cK4), (21, .int .i64 (T : Int)), (22, .pointer (some ⟨bZ, 0, none⟩)), (27, .slice (some ⟨bi, 0, none⟩) T ci), (374, .int .i32 (n : Int)), (375, .int .i32 u)] [(70, ⟨bR, 15, 15, fl [.slice (some ⟨bl, 0, none⟩) nl nl, .slice (some ⟨bs, 0, none⟩) ns ns, .slice aV (nl + 1) cV, .slice none 0 0, .slice none 0 0, .slice none 0 0, .slice none 0 0, .slice (some ⟨bt, 0, none⟩) nt nt, .slice (some ⟨bv, 0, none⟩) nl nl, .slice aH hc cH, .slice none 0 0, .slice none 0 0, .slice none 0 0, .slice none 0 0, .slice none 0 0]⟩), (71, ⟨bA, 3, 3, fl [.slice aF nf cF, .slice aO no cO, .slice (some ⟨bL, 0, none⟩) no no]⟩), (34, ⟨bL, no, no, ints .u8 cl⟩), (72, ⟨bl, nl * 2, ((nl * 2 : Nat) : Int), cA⟩), (73, ⟨bs, ns * 3, ((ns * 3 : Nat) : Int), cS⟩), (74, ⟨bv, nl * 2, ((nl * 2 : Nat) : Int), cW⟩), (75, ⟨bt, nt * 2, ((nt * 2 : Nat) : Int), cT⟩), (80, ⟨bE, nl + 1, (nl : Int) + 1, ints .i32 rr⟩), (82, ⟨bK4, sK4, ((M4 * 2 : Nat) : Int), prs fr4 to4⟩), (76, ⟨bZ, 3, 3, fl [.slice (some ⟨bf, 0, none⟩) (T + 1) (T + 1), .slice (some ⟨bo, 0, none⟩) m m, .slice (some ⟨bc, 0, none⟩) m m]⟩), (77, ⟨bf, T + 1, (T : Int) + 1, ints .i32 rf2⟩), (78, ⟨bo, m, m, ints .i32 ro⟩), (79, ⟨bc, m, m, ints .u8 rc⟩), (88, ⟨bi, ci, (T : Int), ints .i32 fi⟩)]
                refine C_seq ?_
                refine C_region ?_
                refine W_lss V_w0 rfl rfl rfl (fun h376 => ?_) (fun h376 => ?_)
                ·
                  have hfb := adj_bounds hadj hu0 (by omega)
                  have hfb1 := adj_bounds hadj (show (0 : Int) ≤ u + 1 by omega) (by omega)
                  have hmo := hadj.2.2.1 u hu0 (by omega)
                  have hfu := hfi u hu0 (by omega)
                  rw [if_neg (by omega)] at hfu
                  have hle := rf_le hadj hn hrf hu0 (show u < (T : Int) by omega) (Int.le_refl _)
                  have hdg : dgU n f u = f (u + 1) - f u := by unfold dgU; rw [if_pos (by omega)]
                  have hcu := cntU_b fr4 u (k := (M4 : Int)) (by omega)
                  have hp0 := pfx_b fr4 M4 hadj hn hu0
                  have hru := hrf u hu0 (by omega)
                  refine V_nil (X_next ?_)
                  refine C_seq ?_
                  refine C_true rfl ?_
                  refine C_skip (X_next ?_)
                  refine C_seq ?_
                  refine C_block ?_
                  refine C_seq ?_
                  refine C_region ?_
                  refine V_w0.q (QY_move rfl) rfl ?_
                  refine V_w0.q (QY_assign rfl) rfl ?_
                  refine V_nil (X_next ?_)
                  refine C_seq ?_
                  refine C_draws2 30 29 [(70, ⟨bR, 15, 15, fl [.slice (some ⟨bl, 0, none⟩) nl nl, .slice (some ⟨bs, 0, none⟩) ns ns, .slice aV (nl + 1) cV, .slice none 0 0, .slice none 0 0, .slice none 0 0, .slice none 0 0, .slice (some ⟨bt, 0, none⟩) nt nt, .slice (some ⟨bv, 0, none⟩) nl nl, .slice aH hc cH, .slice none 0 0, .slice none 0 0, .slice none 0 0, .slice none 0 0, .slice none 0 0]⟩), (71, ⟨bA, 3, 3, fl [.slice aF nf cF, .slice aO no cO, .slice (some ⟨bL, 0, none⟩) no no]⟩), (34, ⟨bL, no, no, ints .u8 cl⟩), (72, ⟨bl, nl * 2, ((nl * 2 : Nat) : Int), cA⟩), (73, ⟨bs, ns * 3, ((ns * 3 : Nat) : Int), cS⟩), (74, ⟨bv, nl * 2, ((nl * 2 : Nat) : Int), cW⟩), (75, ⟨bt, nt * 2, ((nt * 2 : Nat) : Int), cT⟩), (80, ⟨bE, nl + 1, (nl : Int) + 1, ints .i32 rr⟩), (82, ⟨bK4, sK4, ((M4 * 2 : Nat) : Int), prs fr4 to4⟩), (76, ⟨bZ, 3, 3, fl [.slice (some ⟨bf, 0, none⟩) (T + 1) (T + 1), .slice (some ⟨bo, 0, none⟩) m m, .slice (some ⟨bc, 0, none⟩) m m]⟩), (77, ⟨bf, T + 1, (T : Int) + 1, ints .i32 rf2⟩), (79, ⟨bc, m, m, ints .u8 rc⟩), (88, ⟨bi, ci, (T : Int), ints .i32 fi⟩)] ⟨rfl, rfl, rfl, rfl, rfl, rfl, rfl, rfl, rfl, rfl, rfl, rfl, rfl, trivial⟩ mix (by kernel_rfl) ?_
                  refine T2_w0.q (QY_move rfl) rfl ?_
                  refine W_fld T2_w0 (q := 76) rfl rfl fa57_1 lf22 (by decide) rfl rfl rfl rfl ?_
                  refine T2_w0.q (QY_move rfl) rfl ?_
                  refine T2_w0.q (QY_move rfl) rfl ?_
                  refine W_elem T2_w0 rfl rfl (Rd_own (q := 88) rfl (by omega)) (by omega) (by omega) sl22 lf21 rfl rfl (fun _ => ?_)
                  refine T2_w0.q (QY_slice_from sl22 rfl rfl (by omega) (by omega) (by omega)) rfl ?_
                  refine T2_w0.q (QY_move rfl) rfl ?_
                  refine W_fld T2_w0 (q := 71) rfl rfl fa57_1 lf22 (by decide) rfl rfl rfl rfl ?_
                  refine T2_w0.q (QY_move rfl) rfl ?_
                  refine W_fld T2_w0 (q := 71) rfl rfl fa57_0 lf22 (by decide) rfl rfl rfl rfl ?_
                  refine T2_w0.q (QY_move rfl) rfl ?_
                  refine W_elem T2_w0 rfl rfl (hF.rd) (by omega) (by omega) sl22 lf21 rfl rfl (fun _ => ?_)
                  refine T2_w0.q (QY_move rfl) rfl ?_
                  refine W_fld T2_w0 (q := 71) rfl rfl fa57_0 lf22 (by decide) rfl rfl rfl rfl ?_
                  refine T2_w0.q (QY_move rfl) rfl ?_
                  refine T2_w0.q (QY_arith rfl rfl rfl ⟨by omega, by omega⟩) rfl ?_
                  refine W_elem T2_w0 rfl rfl (hF.rd) (by omega) (by omega) sl22 lf21 rfl rfl (fun _ => ?_)
                  refine T2_w0.q (QY_slice_lohi sl22 rfl rfl rfl (by omega) (by omega) (by omega) (by omega)) rfl ?_
                  refine T2_switch rfl rfl ?_
                  refine T_copyI (q := 78) (p := fi u) (lo := f u) (m := f (u + 1) - f u) (l := (f u).toNat) (r := (f (u + 1)).toNat) rfl rfl mk22 rfl rfl rfl (Rd_sub hO.rd (by omega) (by omega) hcO) (by omega) (by omega) (by omega) (by omega) (fun h9 => subA_own (n := 0) (by omega)) (by omega) rfl ⟨rfl, rfl, rfl, rfl, rfl, rfl, rfl, rfl, rfl, rfl, rfl, rfl, rfl, trivial⟩ rfl ?_
                  refine T_tail rfl rfl ?_
                  refine V_nil (X_Qn (X_next ?_))
                  refine C_seq ?_
                  refine C_draws2 30 29 [(70, ⟨bR, 15, 15, fl [.slice (some ⟨bl, 0, none⟩) nl nl, .slice (some ⟨bs, 0, none⟩) ns ns, .slice aV (nl + 1) cV, .slice none 0 0, .slice none 0 0, .slice none 0 0, .slice none 0 0, .slice (some ⟨bt, 0, none⟩) nt nt, .slice (some ⟨bv, 0, none⟩) nl nl, .slice aH hc cH, .slice none 0 0, .slice none 0 0, .slice none 0 0, .slice none 0 0, .slice none 0 0]⟩), (71, ⟨bA, 3, 3, fl [.slice aF nf cF, .slice aO no cO, .slice (some ⟨bL, 0, none⟩) no no]⟩), (34, ⟨bL, no, no, ints .u8 cl⟩), (72, ⟨bl, nl * 2, ((nl * 2 : Nat) : Int), cA⟩), (73, ⟨bs, ns * 3, ((ns * 3 : Nat) : Int), cS⟩), (74, ⟨bv, nl * 2, ((nl * 2 : Nat) : Int), cW⟩), (75, ⟨bt, nt * 2, ((nt * 2 : Nat) : Int), cT⟩), (80, ⟨bE, nl + 1, (nl : Int) + 1, ints .i32 rr⟩), (82, ⟨bK4, sK4, ((M4 * 2 : Nat) : Int), prs fr4 to4⟩), (76, ⟨bZ, 3, 3, fl [.slice (some ⟨bf, 0, none⟩) (T + 1) (T + 1), .slice (some ⟨bo, 0, none⟩) m m, .slice (some ⟨bc, 0, none⟩) m m]⟩), (77, ⟨bf, T + 1, (T : Int) + 1, ints .i32 rf2⟩), (88, ⟨bi, ci, (T : Int), ints .i32 fi⟩)] ⟨rfl, rfl, rfl, rfl, rfl, rfl, rfl, rfl, rfl, rfl, rfl, rfl, trivial⟩ mix (by kernel_rfl) ?_
                  refine T2_w0.q (QY_move rfl) rfl ?_
                  refine W_fld T2_w0 (q := 76) rfl rfl fa57_2 lf54 (by decide) rfl rfl rfl rfl ?_
                  refine T2_w0.q (QY_move rfl) rfl ?_
                  refine T2_w0.q (QY_move rfl) rfl ?_
                  refine W_elem T2_w0 rfl rfl (Rd_own (q := 88) rfl (by omega)) (by omega) (by omega) sl22 lf21 rfl rfl (fun _ => ?_)
                  refine T2_w0.q (QY_slice_from sl54 rfl rfl (by omega) (by omega) (by omega)) rfl ?_
                  refine T2_w0.q (QY_move rfl) rfl ?_
                  refine W_fld T2_w0 (q := 71) rfl rfl fa57_2 lf54 (by decide) rfl rfl rfl rfl ?_
                  refine T2_w0.q (QY_move rfl) rfl ?_
                  refine W_fld T2_w0 (q := 71) rfl rfl fa57_0 lf22 (by decide) rfl rfl rfl rfl ?_
                  refine T2_w0.q (QY_move rfl) rfl ?_
                  refine W_elem T2_w0 rfl rfl (hF.rd) (by omega) (by omega) sl22 lf21 rfl rfl (fun _ => ?_)
                  refine T2_w0.q (QY_move rfl) rfl ?_
                  refine W_fld T2_w0 (q := 71) rfl rfl fa57_0 lf22 (by decide) rfl rfl rfl rfl ?_
                  refine T2_w0.q (QY_move rfl) rfl ?_
                  refine T2_w0.q (QY_arith rfl rfl rfl ⟨by omega, by omega⟩) rfl ?_
                  refine W_elem T2_w0 rfl rfl (hF.rd) (by omega) (by omega) sl22 lf21 rfl rfl (fun _ => ?_)
                  refine T2_w0.q (QY_slice_lohi sl54 rfl rfl rfl (by omega) (by omega) (by omega) (by omega)) rfl ?_
                  refine T2_switch rfl rfl ?_
                  refine T_copyI (q := 79) (p := fi u) (lo := f u) (m := f (u + 1) - f u) (l := (f u).toNat) (r := (f (u + 1)).toNat) rfl rfl mk54 rfl rfl rfl (Rd_sub (Rd_own (q := 34) (n := no) (cap := no) rfl (by omega)) (by omega) (by omega) (Nat.le_refl _)) (by omega) (by omega) (by omega) (by omega) (fun h9 => subA_own (n := 0) (by omega)) (by omega) rfl ⟨rfl, rfl, rfl, rfl, rfl, rfl, rfl, rfl, rfl, rfl, rfl, rfl, trivial⟩ rfl ?_
                  refine T_tail rfl rfl ?_
                  refine V_nil (X_Qn (X_next ?_))
                  refine C_draws 21 21 mix (by kernel_rfl) ?_
                  refine T_w0.q (QY_move rfl) rfl ?_
                  refine T_w0.q (QY_move rfl) rfl ?_
                  refine W_elem T_w0 rfl rfl (Rd_own (q := 88) rfl (by omega)) (by omega) (by omega) sl22 lf21 rfl rfl (fun _ => ?_)
                  refine T_w0.q (QY_move rfl) rfl ?_
                  refine W_fld T_w0 (q := 71) rfl rfl fa57_0 lf22 (by decide) rfl rfl rfl rfl ?_
                  refine T_w0.q (QY_move rfl) rfl ?_
                  refine T_w0.q (QY_arith rfl rfl rfl ⟨by omega, by omega⟩) rfl ?_
                  refine W_elem T_w0 rfl rfl (hF.rd) (by omega) (by omega) sl22 lf21 rfl rfl (fun _ => ?_)
                  refine T_w0.q (QY_move rfl) rfl ?_
                  refine W_fld T_w0 (q := 71) rfl rfl fa57_0 lf22 (by decide) rfl rfl rfl rfl ?_
                  refine T_w0.q (QY_move rfl) rfl ?_
                  refine W_elem T_w0 rfl rfl (hF.rd) (by omega) (by omega) sl22 lf21 rfl rfl (fun _ => ?_)
                  refine T_w0.q (QY_arith rfl rfl rfl ⟨by omega, by omega⟩) rfl ?_
                  refine T_w0.q (QY_arith rfl rfl rfl ⟨by omega, by omega⟩) rfl ?_
                  refine T_tail rfl rfl ?_
                  refine V_set (q := 88) rfl rfl rfl rfl rfl (by omega) (by omega) (by omega) sl22 lf21 rfl rfl (upd_ints _ _ _ _) (fun _ => ?_)
                  refine V_nil (X_Qn (X_block (X_next ?_)))
                  refine C_region ?_
                  refine V_w0.q (QY_arith rfl rfl rfl ⟨by omega, by omega⟩) rfl ?_
                  refine V_w0.q (QY_move rfl) rfl ?_
                  refine V_nil (X_then ?_)
                  refine X_round (u + 1, cpy ro o (fi u) (f u) (f (u + 1) - f u), cpy rc cl (fi u) (f u) (f (u + 1) - f u), upd fi u (fi u + (f (u + 1) - f u))) ?_ ?_ ?_ ?_
                  · refine ⟨by omega, by omega, fun v a b => ?_, fun v k a b c d => ?_⟩
                    · by_cases e : v = u
                      · subst e; rw [upd_same, if_pos (by omega), hfu, hdg]; omega
                      · rw [upd_other _ _ _ e, hfi v a b]
                        by_cases c : v < u
                        · rw [if_pos c, if_pos (by omega)]
                        · rw [if_neg c, if_neg (by omega)]
                    · by_cases e : v = u
                      · subst e
                        rw [cpy_in (by omega) (by omega), cpy_in (by omega) (by omega), show f v + (rf2 v + k - fi v) = f v + k from by omega]
                        exact ⟨rfl, rfl⟩
                      · have hlt := old_ne hadj hn hnT hrf a (show v < u by omega) (by omega) d
                        rw [cpy_out (.inl (by omega)), cpy_out (.inl (by omega))]
                        exact hold v k a (by omega) c d
                  · show ((n : Int) - (u + 1)).toNat < ((n : Int) - u).toNat
                    omega
                  · exact ⟨rfl, rfl, rfl, rfl, rfl, rfl, rfl, rfl, rfl, rfl, rfl, trivial⟩
                  · exact ⟨rfl, rfl, rfl, rfl, rfl, rfl, rfl, rfl, rfl, rfl, rfl, rfl, rfl, rfl, trivial⟩
                ·
                  obtain rfl : u = (n : Int) := by omega
                  refine V_nil (X_next ?_)
                  refine C_seq ?_
                  refine C_false rfl ?_
                  refine C_exit (X_then_exit (X_then_exit (X_block_exit (X_next ?_))))
                  refine C_seq ?_
                  refine C_seq ?_
                  refine C_region ?_
                  refine V_w0.q (QY_move rfl) rfl ?_
                  refine V_w0.q (QY_len sl85 rfl) rfl ?_
                  refine V_w0.q (QY_move rfl) rfl ?_
                  refine V_nil (X_next ?_)
                  refine C_block ?_
                  refine C_loops (T := Int × (Int → Int) × (Int → Int) × (Int → Int)) (fun (zz9 : Int × (Int → Int) × (Int → Int) × (Int → Int)) => match zz9 with | (k, ro1, rc1, fi1) => [(0, .pointer (some ⟨bR, 0, none⟩)), (1, .pointer (some ⟨bA, 0, none⟩)), (5, .int .i32 (n : Int)), (6, .int .i32 tx), (7, .slice (some ⟨bE, 0, none⟩) (nl + 1) (nl + 1)), (10, .slice aK4 M4 cK4), (21, .int .i64 (T : Int)), (22, .pointer (some ⟨bZ, 0, none⟩)), (27, .slice (some ⟨bi, 0, none⟩) T ci), (461, .slice aK4 M4 cK4), (462, .int .i64 (M4 : Int)), (463, .int .i64 k)]) (fun (zz9 : Int × (Int → Int) × (Int → Int) × (Int → Int)) => match zz9 with | (k, ro1, rc1, fi1) => [(70, ⟨bR, 15, 15, fl [.slice (some ⟨bl, 0, none⟩) nl nl, .slice (some ⟨bs, 0, none⟩) ns ns, .slice aV (nl + 1) cV, .slice none 0 0, .slice none 0 0, .slice none 0 0, .slice none 0 0, .slice (some ⟨bt, 0, none⟩) nt nt, .slice (some ⟨bv, 0, none⟩) nl nl, .slice aH hc cH, .slice none 0 0, .slice none 0 0, .slice none 0 0, .slice none 0 0, .slice none 0 0]⟩), (71, ⟨bA, 3, 3, fl [.slice aF nf cF, .slice aO no cO, .slice (some ⟨bL, 0, none⟩) no no]⟩), (34, ⟨bL, no, no, ints .u8 cl⟩), (72, ⟨bl, nl * 2, ((nl * 2 : Nat) : Int), cA⟩), (73, ⟨bs, ns * 3, ((ns * 3 : Nat) : Int), cS⟩), (74, ⟨bv, nl * 2, ((nl * 2 : Nat) : Int), cW⟩), (75, ⟨bt, nt * 2, ((nt * 2 : Nat) : Int), cT⟩), (80, ⟨bE, nl + 1, (nl : Int) + 1, ints .i32 rr⟩), (82, ⟨bK4, sK4, ((M4 * 2 : Nat) : Int), prs fr4 to4⟩), (76, ⟨bZ, 3, 3, fl [.slice (some ⟨bf, 0, none⟩) (T + 1) (T + 1), .slice (some ⟨bo, 0, none⟩) m m, .slice (some ⟨bc, 0, none⟩) m m]⟩), (77, ⟨bf, T + 1, (T : Int) + 1, ints .i32 rf2⟩), (78, ⟨bo, m, m, ints .i32 ro1⟩), (79, ⟨bc, m, m, ints .u8 rc1⟩), (88, ⟨bi, ci, (T : Int), ints .i32 fi1⟩)]) (fun (zz9 : Int × (Int → Int) × (Int → Int) × (Int → Int)) => match zz9 with | (k, ro1, rc1, fi1) => 0 ≤ k ∧ k ≤ M4 ∧ (∀ v, 0 ≤ v → v < (T : Int) → fi1 v = rf2 v + dgU n f v + cntU fr4 v k) ∧ (∀ v k, 0 ≤ v → v < (n : Int) → 0 ≤ k → k < f (v + 1) - f v → ro1 (rf2 v + k) = o (f v + k) ∧ rc1 (rf2 v + k) = cl (f v + k)) ∧ ∀ i, 0 ≤ i → i < k → ro1 (posL n f fr4 rf2 i) = to4 i ∧ rc1 (posL n f fr4 rf2 i) = 8) (fun (zz9 : Int × (Int → Int) × (Int → Int) × (Int → Int)) => match zz9 with | (k, ro1, rc1, fi1) => ((M4 : Int) - k).toNat) (0, ro, rc, fi) ?_ ?_ ?_ ?_
                  · exact ⟨by omega, by omega, fun v a b => by
                      rw [hfi v a b, cntU_zero, Int.add_zero]
                      by_cases c : v < (n : Int)
                      · rw [if_pos c]
                      · rw [if_neg c]; unfold dgU; rw [if_neg c], hold, fun i a b => by omega⟩
                  · exact ⟨rfl, rfl, rfl, rfl, rfl, rfl, rfl, rfl, rfl, rfl, rfl, rfl, trivial⟩
                  · exact ⟨rfl, rfl, rfl, rfl, rfl, rfl, rfl, rfl, rfl, rfl, rfl, rfl, rfl, rfl, trivial⟩
                  rintro ⟨k, ro1, rc1, fi1⟩ ⟨hk0, hk1, hfi1, hold1, hnew1⟩
                  show C _ _ _ _ _ _ [(0, .pointer (some ⟨bR, 0, none⟩)), (1, .pointer (some ⟨bA, 0, none⟩)), (5, .int .i32 (n : Int)), (6, .int .i32 tx), (7, .slice (some ⟨bE, 0, none⟩) (nl + 1) (nl + 1)), (10, .slice aK4 M4 cK4), (21, .int .i64 (T : Int)), (22, .pointer (some ⟨bZ, 0, none⟩)), (27, .slice (some ⟨bi, 0, none⟩) T ci), (461, .slice aK4 M4 cK4), (462, .int .i64 (M4 : Int)), (463, .int .i64 k)] [(70, ⟨bR, 15, 15, fl [.slice (some ⟨bl, 0, none⟩) nl nl, .slice (some ⟨bs, 0, none⟩) ns ns, .slice aV (nl + 1) cV, .slice none 0 0, .slice none 0 0, .slice none 0 0, .slice none 0 0, .slice (some ⟨bt, 0, none⟩) nt nt, .slice (some ⟨bv, 0, none⟩) nl nl, .slice aH hc cH, .slice none 0 0, .slice none 0 0, .slice none 0 0, .slice none 0 0, .slice none 0 0]⟩), (71, ⟨bA, 3, 3, fl [.slice aF nf cF, .slice aO no cO, .slice (some ⟨bL, 0, none⟩) no no]⟩), (34, ⟨bL, no, no, ints .u8 cl⟩), (72, ⟨bl, nl * 2, ((nl * 2 : Nat) : Int), cA⟩), (73, ⟨bs, ns * 3, ((ns * 3 : Nat) : Int), cS⟩), (74, ⟨bv, nl * 2, ((nl * 2 : Nat) : Int), cW⟩), (75, ⟨bt, nt * 2, ((nt * 2 : Nat) : Int), cT⟩), (80, ⟨bE, nl + 1, (nl : Int) + 1, ints .i32 rr⟩), (82, ⟨bK4, sK4, ((M4 * 2 : Nat) : Int), prs fr4 to4⟩), (76, ⟨bZ, 3, 3, fl [.slice (some ⟨bf, 0, none⟩) (T + 1) (T + 1), .slice (some ⟨bo, 0, none⟩) m m, .slice (some ⟨bc, 0, none⟩) m m]⟩), (77, ⟨bf, T + 1, (T : Int) + 1, ints .i32 rf2⟩), (78, ⟨bo, m, m, ints .i32 ro1⟩), (79, ⟨bc, m, m, ints .u8 rc1⟩), (88, ⟨bi, ci, (T : Int), ints .i32 fi1⟩)]
                  refine C_seq ?_
                  refine C_region ?_
                  refine W_lss V_w0 rfl rfl rfl (fun h464 => ?_) (fun h464 => ?_)
                  ·
                    obtain rfl : aK4 = some ⟨bK4, 0, none⟩ := (gK4.some (by omega)).1
                    have hfk := hfr4 k hk0 (by omega)
                    have hv := hfi1 (fr4 k) hfk.1 hfk.2
                    have hps := posL_b hadj hn hrf hfr4 hk0 (show k < (M4 : Int) by omega)
                    have hpe : fi1 (fr4 k) = posL n f fr4 rf2 k := hv
                    refine V_nil (X_next ?_)
                    refine C_seq ?_
                    refine C_true rfl ?_
                    refine C_skip (X_next ?_)
                    refine C_seq ?_
                    refine C_block ?_
                    refine C_seq ?_
                    refine C_region ?_
                    refine V_w0.q (QY_index2 (o' := (k : Int).toNat * 2) sl85 rfl rfl (by omega) (by omega) (by omega)) rfl ?_
                    refine V_w0.q (QY_loadA ag87 (q := 82) (vs := [.int .i32 (fr4 k), .int .i32 (to4 k)]) rfl rfl (by omega) rfl (two_cells hk0 (prs_0 _ _ _) (prs_1 _ _ _))) rfl ?_
                    refine V_allocA 87 ag87 rfl rfl (fun bq6 => ?_)
                    refine V_storeV (q := 87) ag87 rfl rfl rfl rfl (by intro v hv; simp at hv; rcases hv with rfl | rfl <;> rfl) (by decide) ?_
                    refine V_nil (X_next ?_)
                    refine C_seq ?_
                    refine C_draws 11 11 mix (by kernel_rfl) ?_
                    refine T_w0.q (QY_move rfl) rfl ?_
                    refine W_fld T_w0 (q := 76) rfl rfl fa57_1 lf22 (by decide) rfl rfl rfl rfl ?_
                    refine T_w0.q (QY_move rfl) rfl ?_
                    refine T_w0.q (QY_fieldP (o' := 0) fa87_0 rfl rfl) rfl ?_
                    refine T_w0.q (QY_cell lf21 (q := 87) rfl rfl (by decide) rfl) rfl ?_
                    refine W_elem T_w0 rfl rfl (Rd_own (q := 88) rfl (by omega)) (by omega) (by omega) sl22 lf21 rfl rfl (fun _ => ?_)
                    refine T_w0.q (QY_fieldP (o' := 1) fa87_1 rfl rfl) rfl ?_
                    refine T_w0.q (QY_cell lf21 (q := 87) rfl rfl (by decide) rfl) rfl ?_
                    refine T_tail rfl rfl ?_
                    refine V_set (q := 78) rfl rfl rfl rfl rfl (by omega) (by omega) (by omega) sl22 lf21 rfl rfl (upd_ints _ _ _ _) (fun _ => ?_)
                    refine V_nil (X_Qn (X_next ?_))
                    refine C_seq ?_
                    refine C_draws 9 9 mix (by kernel_rfl) ?_
                    refine T_w0.q (QY_move rfl) rfl ?_
                    refine W_fld T_w0 (q := 76) rfl rfl fa57_2 lf54 (by decide) rfl rfl rfl rfl ?_
                    refine T_w0.q (QY_move rfl) rfl ?_
                    refine T_w0.q (QY_fieldP (o' := 0) fa87_0 rfl rfl) rfl ?_
                    refine T_w0.q (QY_cell lf21 (q := 87) rfl rfl (by decide) rfl) rfl ?_
                    refine W_elem T_w0 rfl rfl (Rd_own (q := 88) rfl (by omega)) (by omega) (by omega) sl22 lf21 rfl rfl (fun _ => ?_)
                    refine T_tail rfl rfl ?_
                    refine V_set (q := 79) rfl rfl rfl rfl rfl (by omega) (by omega) (by omega) sl54 lf58 rfl rfl (upd_ints _ _ _ _) (fun _ => ?_)
                    refine V_nil (X_Qn (X_next ?_))
                    refine C_region ?_
                    refine V_w0.q (QY_move rfl) rfl ?_
                    refine V_w0.q (QY_fieldP (o' := 0) fa87_0 rfl rfl) rfl ?_
                    refine V_w0.q (QY_cell lf21 (q := 87) rfl rfl (by decide) rfl) rfl ?_
                    refine W_elem V_w0 rfl rfl (Rd_own (q := 88) rfl (by omega)) (by omega) (by omega) sl22 lf21 rfl rfl (fun _ => ?_)
                    refine V_w0.q (QY_arith rfl rfl rfl ⟨by omega, by omega⟩) rfl ?_
                    refine V_set (q := 88) rfl rfl rfl rfl rfl (by omega) (by omega) (by omega) sl22 lf21 rfl rfl (upd_ints _ _ _ _) (fun _ => ?_)
                    refine V_nil (X_block (X_next ?_))
                    refine C_region ?_
                    refine V_w0.q (QY_arith rfl rfl rfl ⟨by omega, by omega⟩) rfl ?_
                    refine V_w0.q (QY_move rfl) rfl ?_
                    refine V_nil (X_then ?_)
                    refine X_round (k + 1, upd ro1 (fi1 (fr4 k)) (to4 k), upd rc1 (fi1 (fr4 k)) 8, upd fi1 (fr4 k) (fi1 (fr4 k) + 1)) ?_ ?_ ?_ ?_
                    · refine ⟨by omega, by omega, fun v a b => ?_, fun v k9 a b c d => ?_, fun i a b => ?_⟩
                      · by_cases e : fr4 k = v
                        · rw [cntU_yes hk0 e, ← e, upd_same]; omega
                        · rw [cntU_no hk0 e, upd_other _ _ _ (fun h => e h.symm)]; exact hfi1 v a b
                      · have hne := posL_old hadj hn hnT hrf hfr4 hk0 (show k < (M4 : Int) by omega) a b c d
                        rw [hpe, upd_other _ _ _ (fun h => hne h.symm), upd_other _ _ _ (fun h => hne h.symm)]
                        exact hold1 v k9 a b c d
                      · rw [hpe]
                        by_cases e : i = k
                        · subst e; rw [upd_same, upd_same]; exact ⟨rfl, rfl⟩
                        · have hne := posL_ne hadj hn hrf hfr4 a (show i < k by omega) (by omega)
                          rw [upd_other _ _ _ hne, upd_other _ _ _ hne]
                          exact hnew1 i a (by omega)
                    · show ((M4 : Int) - (k + 1)).toNat < ((M4 : Int) - k).toNat
                      omega
                    · exact ⟨rfl, rfl, rfl, rfl, rfl, rfl, rfl, rfl, rfl, rfl, rfl, rfl, trivial⟩
                    · exact ⟨rfl, rfl, rfl, rfl, rfl, rfl, rfl, rfl, rfl, rfl, rfl, rfl, rfl, rfl, trivial⟩
                  ·
                    obtain rfl : k = (M4 : Int) := by omega
                    refine V_nil (X_next ?_)
                    refine C_seq ?_
                    refine C_false rfl ?_
                    refine C_exit (X_then_exit (X_then_exit (X_block_exit (X_next ?_))))
                    refine C_seq ?_
                    refine C_region ?_
                    refine V_w0.q (QY_move rfl) rfl ?_
                    refine V_w0.q (QY_assign rfl) rfl ?_
                    refine V_nil (X_next ?_)
                    refine C_ret (?_)
                    refine X_ret1 rfl rfl (fun w hm => ?_)
                    refine ⟨⟨bZ, bf, bo, bc, m, M4, M2, fr4, to4, rf2, ro1, rc1⟩, ⟨⟨?_, ?_, hold1, hnew1⟩, hm9, hk4, hfr4, ?_⟩, rfl, hm.sub ⟨rfl, rfl, rfl, rfl, trivial⟩⟩
                    · show rf2 0 = 0
                      rw [hrf 0 (by omega) (by omega), pfx_zero hadj.2.1 (fun a a0 a1 => (hfr4 a a0 a1).1)]
                    · intro u u0 u1
                      show rf2 (u + 1) = rf2 u + _
                      rw [hrf (u + 1) (by omega) (by omega), hrf u u0 (by omega), pfx_succ]
                    · show (m : Int) ≤ 1048576
                      omega

end Go.Proofs.Qxb6001307a
