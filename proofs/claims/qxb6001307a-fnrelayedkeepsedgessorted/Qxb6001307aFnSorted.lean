/-
  OWN WORK (the rule applications laid by a program of our own, wip/gen). FnRelayedKeepsEdgesSorted.
-/
import Derived.Test.Qxb6001307aKitQ
import Derived.Test.Qxb6001307aPlainZ
namespace Go.Proofs.Qxb6001307a
open Go.RowKit
set_option linter.unusedSimpArgs false
set_option linter.unusedVariables false

set_option maxHeartbeats 4000000 in
theorem fnSorted (w : World) (aF aO aL aN aR aP aQ aT aH : Option Addr) (nf no nc nl ns np nq nt nh cF cO cL cN cR cP cQ cT cH : Nat) (A1 A2 : Int → Option Addr) (L1 C1 L2 C2 : Int → Nat) (f o cl : Int → Int) (Z1 Z2 : Int → Int → Int) (sr sl ss : Int → Int) (hb : Int → Bool)
    (hF : RdW w (.slice aF nf cF) nf (ints .i32 f)) (hO : RdW w (.slice aO no cO) no (ints .i32 o)) (hL : RdW w (.slice aL nc cL) nc (ints .u8 cl)) (hN : RdR w aN nl cN A1 L1 C1 Z1) (hR : RdW w (.slice aR ns cR) ns (ints .i32 sr)) (hP : RdW w (.slice aP np cP) np (ints .i32 sl)) (hQ : RdW w (.slice aQ nq cQ) nq (ints .i32 ss)) (hT : RdR w aT nt cT A2 L2 C2 Z2) (hH : RdW w (.slice aH nh cH) nh (bools hb))
    (hFw : ∀ i, 0 ≤ i → i < (nf : Int) → -2147483648 ≤ f i ∧ f i ≤ 2147483647) (hOw : ∀ i, 0 ≤ i → i < (no : Int) → -2147483648 ≤ o i ∧ o i ≤ 2147483647) (hQw : ∀ i, 0 ≤ i → i < (nq : Int) → -2147483648 ≤ ss i ∧ ss i ≤ 2147483647) :
    Calls Try.prog 7 #[.slice aF nf cF, .slice aO no cO, .slice aL nc cL, .slice aN nl cN, .slice aR ns cR, .slice aP np cP, .slice aQ nq cQ, .slice aT nt cT, .slice aH nh cH] w fun e w' => e = .returned (.bool true) ∧ Below w.heap.size w w' := by
  have hmw : Mem (Old w) w [] w := Mem.start w
  refine enter (N := 131) (vs := [.slice aF nf cF, .slice aO no cO, .slice aL nc cL, .slice aN nl cN, .slice aR ns cR, .slice aP np cP, .slice aQ nq cQ, .slice aT nt cT, .slice aH nh cH]) Try.func7 rfl Try.ntmps7 rfl ?_ w (Mem.start w)
  refine C_seq ?_
  refine C_region ?_
  refine V_w0.q (QY_assign rfl) rfl ?_
  refine V_nil (X_next ?_)
  refine C_seq ?_
  refine C_seq ?_
  refine C_region ?_
  refine V_w0.q (QY_move rfl) rfl ?_
  refine V_w0.q (QY_move rfl) rfl ?_
  refine V_w0.q (QY_move rfl) rfl ?_
  refine V_w0.q (QY_move rfl) rfl ?_
  refine V_w0.q (QY_move rfl) rfl ?_
  refine V_w0.q (QY_move rfl) rfl ?_
  refine V_w0.q (QY_move rfl) rfl ?_
  refine V_w0.q (QY_move rfl) rfl ?_
  refine V_w0.q (QY_move rfl) rfl ?_
  refine V_call cb30 rfl (T := Bool) (Φ := fun _ => True) (val := fun y => .bool y) (H' := fun _ => []) (fun w9 hm => (bytes30 w9 aF aO aL aN aR aP aQ aT aH nf no nc nl ns np nq nt nh cF cO cL cN cR cP cQ cT cH A1 A2 L1 C1 L2 C2 (hN.1.mv hm) (hT.1.mv hm)).mono fun e w2 ⟨y, h1, he, hM⟩ => ⟨y, h1, he, hm.join0 hM⟩) rfl ?_
  intro y40 _
  refine W_bool V_w0 40 rfl (fun h40 => ?_) (fun h40 => ?_)
  ·
    refine V_w0.q (QY_not rfl) rfl ?_
    refine V_nil (X_next ?_)
    refine C_false rfl ?_
    refine C_skip (X_next ?_)
    refine C_seq ?_
    refine C_seq ?_
    refine C_region ?_
    refine V_w0.q (QY_move rfl) rfl ?_
    refine V_w0.q (QY_move rfl) rfl ?_
    refine V_w0.q (QY_move rfl) rfl ?_
    refine V_w0.q (QY_move rfl) rfl ?_
    refine V_w0.q (QY_move rfl) rfl ?_
    refine V_w0.q (QY_move rfl) rfl ?_
    refine V_w0.q (QY_move rfl) rfl ?_
    refine V_w0.q (QY_move rfl) rfl ?_
    refine V_w0.q (QY_move rfl) rfl ?_
    refine V_call cb22 rfl (T := Bool) (Φ := fun y => y = true → (nf : Int) ≤ 4097 ∧ (no : Int) ≤ 262144 ∧ (nc : Int) ≤ 1048576 ∧ (nl : Int) ≤ 65536 ∧ (ns : Int) ≤ 4096 ∧ (np : Int) ≤ 4096 ∧ (nq : Int) ≤ 4096 ∧ (nt : Int) ≤ 65536 ∧ (nh : Int) ≤ 65536 ∧ tot L1 nl ≤ 4096 ∧ tot L2 nt ≤ 4096) (val := fun y => .bool y) (H' := fun _ => []) (fun w9 hm => (lens22 w9 aF aO aL aN aR aP aQ aT aH nf no nc nl ns np nq nt nh cF cO cL cN cR cP cQ cT cH A1 A2 L1 C1 L2 C2 (hN.1.mv hm) (hT.1.mv hm)).mono fun e w2 ⟨y, h1, he, hM⟩ => ⟨y, h1, he, hm.join0 hM⟩) rfl ?_
    intro y51 hy51
    refine W_bool V_w0 51 rfl (fun h51 => ?_) (fun h51 => ?_)
    ·
      obtain ⟨hnf, hno, hnc, hnl, hns, hnp, hnq, hnt, hnh, htL1, htL2⟩ := hy51 h51
      refine V_w0.q (QY_not rfl) rfl ?_
      refine V_nil (X_next ?_)
      refine C_false rfl ?_
      refine C_skip (X_next ?_)
      refine C_seq ?_
      refine C_region ?_
      refine V_w0.q (QY_move rfl) rfl ?_
      refine V_w0.q (QY_move rfl) rfl ?_
      refine V_w0.q (QY_move rfl) rfl ?_
      refine V_w0.q (QY_move rfl) rfl ?_
      refine V_w0.q (QY_move rfl) rfl ?_
      refine V_w0.q (QY_move rfl) rfl ?_
      refine V_w0.q (QY_move rfl) rfl ?_
      refine V_w0.q (QY_move rfl) rfl ?_
      refine V_w0.q (QY_move rfl) rfl ?_
      refine V_callO cb23 rfl (T := PrepOut) (Φ := fun y w' => y.ok = true → ∃ (n hc : Nat) (tx : Int) (aV aW aX aU aHt : Option Addr) (lf lt ln th ht : Int → Int), y.v1 = .int .i32 (n : Int) ∧ y.v2 = .int .i32 tx ∧ y.v3 = .slice aV (nl + 1) (nl + 1) ∧ y.v4 = .slice aW nl nl ∧ y.v5 = .slice aX nl nl ∧ y.v6 = .slice aU nt nt ∧ y.v7 = .slice aHt hc hc ∧
            RdW w' (.slice aV (nl + 1) (nl + 1)) (nl + 1) (ints .i32 lf) ∧ RdW w' (.slice aW nl nl) nl (ints .i32 lt) ∧ RdW w' (.slice aX nl nl) nl (ints .i32 ln) ∧ RdW w' (.slice aU nt nt) nt (ints .i32 th) ∧ RdW w' (.slice aHt hc hc) hc (ints .i32 ht) ∧
            (∀ t, 0 ≤ t → t < (nt : Int) → th t = thF hb L2 t) ∧ hu hb L2 nt = hc ∧ PrepOK nf no nc nl ns np nq nt nh f o L1 L2 Z1 Z2 sr sl ss hb n tx lf lt ht) (val := fun y => .tuple [.bool y.ok, y.v1, y.v2, y.v3, y.v4, y.v5, y.v6, y.v7].toArray) (fun w9 hm => prep23 w9 aF aO aL aN aR aP aQ aT aH nf no nc nl ns np nq nt nh cF cO cL cN cR cP cQ cT cH A1 A2 L1 C1 L2 C2 f o Z1 Z2 sr sl ss hb (hF.mv hm) (hO.mv hm) (hN.mv hm) (hR.mv hm) (hP.mv hm) (hQ.mv hm) (hT.mv hm) (hH.mv hm) hFw hOw hQw hnf hno hnc hnl hns hnt htL1 htL2) rfl ?_
      intro yp w1 hm1 hyp
      have hF := hF.mv hm1
      have hO := hO.mv hm1
      have hL := hL.mv hm1
      have hN := hN.mv hm1
      have hR := hR.mv hm1
      have hP := hP.mv hm1
      have hQ := hQ.mv hm1
      have hT := hT.mv hm1
      have hH := hH.mv hm1
      have hmw := hmw.join0 hm1
      obtain ⟨ok, v1, v2, v3, v4, v5, v6, v7⟩ := yp
      cases ok
      ·
        refine V_w0.q (QY_move rfl) rfl ?_
        refine V_w0.q (QY_extract rfl rfl) rfl ?_
        refine V_w0.q (QY_extract rfl rfl) rfl ?_
        refine V_w0.q (QY_extract rfl rfl) rfl ?_
        refine V_w0.q (QY_extract rfl rfl) rfl ?_
        refine V_w0.q (QY_extract rfl rfl) rfl ?_
        refine V_w0.q (QY_extract rfl rfl) rfl ?_
        refine V_w0.q (QY_extract rfl rfl) rfl ?_
        refine V_w0.q (QY_extract rfl rfl) rfl ?_
        refine V_w0.q (QY_assign rfl) rfl ?_
        refine V_w0.q (QY_assign rfl) rfl ?_
        refine V_w0.q (QY_assign rfl) rfl ?_
        refine V_w0.q (QY_assign rfl) rfl ?_
        refine V_w0.q (QY_assign rfl) rfl ?_
        refine V_w0.q (QY_assign rfl) rfl ?_
        refine V_w0.q (QY_assign rfl) rfl ?_
        refine V_w0.q (QY_assign rfl) rfl ?_
        refine V_nil (X_next ?_)
        refine C_seq ?_
        refine C_seq ?_
        refine C_region ?_
        refine V_w0.q (QY_move rfl) rfl ?_
        refine V_w0.q (QY_not rfl) rfl ?_
        refine V_nil (X_next ?_)
        refine C_true rfl ?_
        refine C_seq ?_
        refine C_region ?_
        refine V_w0.q (QY_assign rfl) rfl ?_
        refine V_nil (X_next ?_)
        refine C_ret (X_then_ret (?_))
        refine X_ret1 rfl rfl (fun w hm => ?_)
        exact ⟨rfl, (hmw.join0 (hm.sub trivial)).below⟩
      have hyp := hyp rfl
      dsimp only at hyp
      obtain ⟨n, hc, tx, aV, aW, aX, aU, aHt, lf, lt, ln, th, ht, rfl, rfl, rfl, rfl, rfl, rfl, rfl, hV, hW, hX, hU, hHt, hth, hhu, hp⟩ := hyp
      obtain rfl : ns = np := hp.enp.symm
      obtain rfl : ns = nq := hp.enq.symm
      obtain rfl : nt = nh := hp.enh.symm
      obtain rfl : no = nc := by have := hp.adj.2.2.2.2.1; omega
      obtain ⟨ow, hlv⟩ := hp.lv
      have hn := hp.hn
      have htx : tx = (n : Int) - hc := by rw [← hhu]; exact hp.etx
      have htx0 := hp.tx0
      have hrb := rel_b lf lt L1 (k := (nl : Int)) (by omega)
      obtain ⟨T, hT9⟩ : ∃ T : Nat, (T : Int) = (n : Int) + rel lf lt L1 nl := ⟨((n : Int) + rel lf lt L1 nl).toNat, by omega⟩
      refine V_w0.q (QY_move rfl) rfl ?_
      refine V_w0.q (QY_extract rfl rfl) rfl ?_
      refine V_w0.q (QY_extract rfl rfl) rfl ?_
      refine V_w0.q (QY_extract rfl rfl) rfl ?_
      refine V_w0.q (QY_extract rfl rfl) rfl ?_
      refine V_w0.q (QY_extract rfl rfl) rfl ?_
      refine V_w0.q (QY_extract rfl rfl) rfl ?_
      refine V_w0.q (QY_extract rfl rfl) rfl ?_
      refine V_w0.q (QY_extract rfl rfl) rfl ?_
      refine V_w0.q (QY_assign rfl) rfl ?_
      refine V_w0.q (QY_assign rfl) rfl ?_
      refine V_w0.q (QY_assign rfl) rfl ?_
      refine V_w0.q (QY_assign rfl) rfl ?_
      refine V_w0.q (QY_assign rfl) rfl ?_
      refine V_w0.q (QY_assign rfl) rfl ?_
      refine V_w0.q (QY_assign rfl) rfl ?_
      refine V_w0.q (QY_assign rfl) rfl ?_
      refine V_nil (X_next ?_)
      refine C_seq ?_
      refine C_seq ?_
      refine C_region ?_
      refine V_w0.q (QY_move rfl) rfl ?_
      refine V_w0.q (QY_not rfl) rfl ?_
      refine V_nil (X_next ?_)
      refine C_false rfl ?_
      refine C_skip (X_next ?_)
      refine C_seq ?_
      refine C_seq ?_
      refine C_region ?_
      refine V_w0.q (QY_move rfl) rfl ?_
      refine V_w0.q (QY_move rfl) rfl ?_
      refine V_w0.q (QY_move rfl) rfl ?_
      refine V_call cb31 rfl (T := Bool) (Φ := fun y => y = true ↔ Srt f o n) (val := fun y => .bool y) (H' := fun _ => []) (fun w9 hm => (sorted31 w9 aF aO nf no cF cO n f o (hF.mv hm) (hO.mv hm) (by omega) (fun u a b => adj_bounds hp.adj a (by omega)) (fun u a b => hp.adj.2.2.1 u a (by omega)) (by omega) (by omega)).mono fun e w2 ⟨y, h1, he, hM⟩ => ⟨y, h1, he, hm.join0 hM⟩) rfl ?_
      intro y77 hy77
      refine W_bool V_w0 77 rfl (fun h77 => ?_) (fun h77 => ?_)
      ·
        refine V_w0.q (QY_not rfl) rfl ?_
        refine V_nil (X_next ?_)
        refine C_false rfl ?_
        refine C_skip (X_next ?_)
        refine C_seq ?_
        refine C_region ?_
        refine V_w0.q (QY_move rfl) rfl ?_
        refine V_callO cb10 rfl (T := Option Addr) (Φ := fun y w' => RdW w' (.slice y nf nf) nf (ints .i32 f)) (val := fun y => .slice y nf nf) (fun w9 hm => clone10R w9 _ _ _ f (hF.mv hm) (by omega)) rfl ?_
        intro aF w2 hm2 hF
        have hO := hO.mv hm2
        have hL := hL.mv hm2
        have hN := hN.mv hm2
        have hR := hR.mv hm2
        have hP := hP.mv hm2
        have hQ := hQ.mv hm2
        have hT := hT.mv hm2
        have hH := hH.mv hm2
        have hV := hV.mv hm2
        have hW := hW.mv hm2
        have hX := hX.mv hm2
        have hU := hU.mv hm2
        have hHt := hHt.mv hm2
        have hmw := hmw.join0 hm2
        refine V_w0.q (QY_assign rfl) rfl ?_
        refine V_nil (X_next ?_)
        refine C_seq ?_
        refine C_region ?_
        refine V_w0.q (QY_move rfl) rfl ?_
        refine V_callO cb10 rfl (T := Option Addr) (Φ := fun y w' => RdW w' (.slice y no no) no (ints .i32 o)) (val := fun y => .slice y no no) (fun w9 hm => clone10R w9 _ _ _ o (hO.mv hm) (by omega)) rfl ?_
        intro aO w3 hm3 hO
        have hF := hF.mv hm3
        have hL := hL.mv hm3
        have hN := hN.mv hm3
        have hR := hR.mv hm3
        have hP := hP.mv hm3
        have hQ := hQ.mv hm3
        have hT := hT.mv hm3
        have hH := hH.mv hm3
        have hV := hV.mv hm3
        have hW := hW.mv hm3
        have hX := hX.mv hm3
        have hU := hU.mv hm3
        have hHt := hHt.mv hm3
        have hmw := hmw.join0 hm3
        refine V_w0.q (QY_assign rfl) rfl ?_
        refine V_nil (X_next ?_)
        refine C_seq ?_
        refine C_region ?_
        refine V_w0.q (QY_move rfl) rfl ?_
        refine V_callO cb11 rfl (T := Option Addr) (Φ := fun y w' => RdW w' (.slice y no no) no (ints .u8 cl)) (val := fun y => .slice y no no) (fun w9 hm => clone11R w9 _ _ _ cl (hL.mv hm) (by omega)) rfl ?_
        intro aL w4 hm4 hL
        have hF := hF.mv hm4
        have hO := hO.mv hm4
        have hN := hN.mv hm4
        have hR := hR.mv hm4
        have hP := hP.mv hm4
        have hQ := hQ.mv hm4
        have hT := hT.mv hm4
        have hH := hH.mv hm4
        have hV := hV.mv hm4
        have hW := hW.mv hm4
        have hX := hX.mv hm4
        have hU := hU.mv hm4
        have hHt := hHt.mv hm4
        have hmw := hmw.join0 hm4
        refine V_w0.q (QY_assign rfl) rfl ?_
        refine V_nil (X_next ?_)
        refine C_seq ?_
        refine C_region ?_
        refine V_w0.q (QY_move rfl) rfl ?_
        refine V_callO cb24 rfl (T := Option Addr × (Int → Option Addr)) (Φ := fun y w' => RdR w' y.1 nl nl y.2 L1 L1 Z1) (val := fun y => .slice y.1 nl nl) (fun w9 hm => nested24 w9 _ _ _ A1 L1 C1 Z1 (hN.mv hm) (by omega) (fun i a b => by have := tot_le L1 nl a b; omega)) rfl ?_
        rintro ⟨aN, A1⟩ w5 hm5 hN
        have hF := hF.mv hm5
        have hO := hO.mv hm5
        have hL := hL.mv hm5
        have hR := hR.mv hm5
        have hP := hP.mv hm5
        have hQ := hQ.mv hm5
        have hT := hT.mv hm5
        have hH := hH.mv hm5
        have hV := hV.mv hm5
        have hW := hW.mv hm5
        have hX := hX.mv hm5
        have hU := hU.mv hm5
        have hHt := hHt.mv hm5
        have hmw := hmw.join0 hm5
        have hN : RdR w5 aN nl nl A1 L1 L1 Z1 := hN
        refine V_w0.q (QY_assign rfl) rfl ?_
        refine V_nil (X_next ?_)
        refine C_seq ?_
        refine C_region ?_
        refine V_w0.q (QY_move rfl) rfl ?_
        refine V_callO cb10 rfl (T := Option Addr) (Φ := fun y w' => RdW w' (.slice y ns ns) ns (ints .i32 sr)) (val := fun y => .slice y ns ns) (fun w9 hm => clone10R w9 _ _ _ sr (hR.mv hm) (by omega)) rfl ?_
        intro aR w6 hm6 hR
        have hF := hF.mv hm6
        have hO := hO.mv hm6
        have hL := hL.mv hm6
        have hN := hN.mv hm6
        have hP := hP.mv hm6
        have hQ := hQ.mv hm6
        have hT := hT.mv hm6
        have hH := hH.mv hm6
        have hV := hV.mv hm6
        have hW := hW.mv hm6
        have hX := hX.mv hm6
        have hU := hU.mv hm6
        have hHt := hHt.mv hm6
        have hmw := hmw.join0 hm6
        refine V_w0.q (QY_assign rfl) rfl ?_
        refine V_nil (X_next ?_)
        refine C_seq ?_
        refine C_region ?_
        refine V_w0.q (QY_move rfl) rfl ?_
        refine V_callO cb10 rfl (T := Option Addr) (Φ := fun y w' => RdW w' (.slice y ns ns) ns (ints .i32 sl)) (val := fun y => .slice y ns ns) (fun w9 hm => clone10R w9 _ _ _ sl (hP.mv hm) (by omega)) rfl ?_
        intro aP w7 hm7 hP
        have hF := hF.mv hm7
        have hO := hO.mv hm7
        have hL := hL.mv hm7
        have hN := hN.mv hm7
        have hR := hR.mv hm7
        have hQ := hQ.mv hm7
        have hT := hT.mv hm7
        have hH := hH.mv hm7
        have hV := hV.mv hm7
        have hW := hW.mv hm7
        have hX := hX.mv hm7
        have hU := hU.mv hm7
        have hHt := hHt.mv hm7
        have hmw := hmw.join0 hm7
        refine V_w0.q (QY_assign rfl) rfl ?_
        refine V_nil (X_next ?_)
        refine C_seq ?_
        refine C_region ?_
        refine V_w0.q (QY_move rfl) rfl ?_
        refine V_callO cb10 rfl (T := Option Addr) (Φ := fun y w' => RdW w' (.slice y ns ns) ns (ints .i32 ss)) (val := fun y => .slice y ns ns) (fun w9 hm => clone10R w9 _ _ _ ss (hQ.mv hm) (by omega)) rfl ?_
        intro aQ w8 hm8 hQ
        have hF := hF.mv hm8
        have hO := hO.mv hm8
        have hL := hL.mv hm8
        have hN := hN.mv hm8
        have hR := hR.mv hm8
        have hP := hP.mv hm8
        have hT := hT.mv hm8
        have hH := hH.mv hm8
        have hV := hV.mv hm8
        have hW := hW.mv hm8
        have hX := hX.mv hm8
        have hU := hU.mv hm8
        have hHt := hHt.mv hm8
        have hmw := hmw.join0 hm8
        refine V_w0.q (QY_assign rfl) rfl ?_
        refine V_nil (X_next ?_)
        refine C_seq ?_
        refine C_region ?_
        refine V_w0.q (QY_move rfl) rfl ?_
        refine V_callO cb24 rfl (T := Option Addr × (Int → Option Addr)) (Φ := fun y w' => RdR w' y.1 nt nt y.2 L2 L2 Z2) (val := fun y => .slice y.1 nt nt) (fun w9 hm => nested24 w9 _ _ _ A2 L2 C2 Z2 (hT.mv hm) (by omega) (fun i a b => by have := tot_le L2 nt a b; omega)) rfl ?_
        rintro ⟨aT, A2⟩ w9 hm9 hT
        have hF := hF.mv hm9
        have hO := hO.mv hm9
        have hL := hL.mv hm9
        have hN := hN.mv hm9
        have hR := hR.mv hm9
        have hP := hP.mv hm9
        have hQ := hQ.mv hm9
        have hH := hH.mv hm9
        have hV := hV.mv hm9
        have hW := hW.mv hm9
        have hX := hX.mv hm9
        have hU := hU.mv hm9
        have hHt := hHt.mv hm9
        have hmw := hmw.join0 hm9
        have hT : RdR w9 aT nt nt A2 L2 L2 Z2 := hT
        refine V_w0.q (QY_assign rfl) rfl ?_
        refine V_nil (X_next ?_)
        refine C_seq ?_
        refine C_region ?_
        refine V_w0.q (QY_move rfl) rfl ?_
        refine V_callO cb16 rfl (T := Option Addr) (Φ := fun y w' => RdW w' (.slice y nt nt) nt (bools hb)) (val := fun y => .slice y nt nt) (fun w9 hm => clone16R w9 _ _ _ hb (hH.mv hm) (by omega)) rfl ?_
        intro aH w10 hm10 hH
        have hF := hF.mv hm10
        have hO := hO.mv hm10
        have hL := hL.mv hm10
        have hN := hN.mv hm10
        have hR := hR.mv hm10
        have hP := hP.mv hm10
        have hQ := hQ.mv hm10
        have hT := hT.mv hm10
        have hV := hV.mv hm10
        have hW := hW.mv hm10
        have hX := hX.mv hm10
        have hU := hU.mv hm10
        have hHt := hHt.mv hm10
        have hmw := hmw.join0 hm10
        refine V_w0.q (QY_assign rfl) rfl ?_
        refine V_nil (X_next ?_)
        refine C_seq ?_
        refine C_region ?_
        refine V_w0.q (QY_move rfl) rfl ?_
        refine V_w0.q (QY_move rfl) rfl ?_
        refine V_w0.q (QY_move rfl) rfl ?_
        refine V_w0.q (QY_move rfl) rfl ?_
        refine V_w0.q (QY_move rfl) rfl ?_
        refine V_w0.q (QY_move rfl) rfl ?_
        refine V_w0.q (QY_move rfl) rfl ?_
        refine V_w0.q (QY_move rfl) rfl ?_
        refine V_w0.q (QY_move rfl) rfl ?_
        refine V_w0.q (QY_move rfl) rfl ?_
        refine V_w0.q (QY_move rfl) rfl ?_
        refine V_w0.q (QY_move rfl) rfl ?_
        refine V_w0.q (QY_move rfl) rfl ?_
        refine V_callO cb25 rfl (T := ZOut) (Φ := fun z w' => RelRes nl ns nt n T f o cl (rel lf lt L1) sr sl ss hb L2 Z1 Z2 tx z.r ∧ RdW w' (.slice z.a1 (T + 1) z.c1) (T + 1) (ints .i32 z.r.rf) ∧ RdW w' (.slice z.a2 z.r.m z.c2) z.r.m (ints .i32 z.r.ro) ∧ RdW w' (.slice z.a3 z.r.m z.c3) z.r.m (ints .u8 z.r.rc)) (val := fun z => .tuple [.slice z.a1 (T + 1) z.c1, .slice z.a2 z.r.m z.c2, .slice z.a3 z.r.m z.c3].toArray) (fun w9 hm => zz25 w9 nl ns nt nf no n hc T nf no no nl ns ns ns (nl + 1) nl nl nt nt hc aF aO aL aN aR aP aQ aV aW aX aT aU aHt A1 A2 L1 L2 L1 L2 f o cl sr sl ss lf lt ln th Z1 Z2 hb ow tx (hF.mv hm) (hO.mv hm) (hL.mv hm) (hN.mv hm) (hR.mv hm) (hP.mv hm) (hQ.mv hm) (hV.mv hm) (hW.mv hm) (hX.mv hm) (hT.mv hm) (hU.mv hm) hth hp.adj hn hlv hp.sp hp.lfi hhu htx htx0 hT9 (Nat.le_refl _) hnf hno hnl hns hnt htL1 htL2) rfl ?_
        rintro ⟨⟨yb, ybf, ybo, ybc, m, M, M2, fr, to, rf, ro, rc⟩, a1, a2, a3, c1, c2, c3⟩ w11 hm11 hz
        have hF := hF.mv hm11
        have hO := hO.mv hm11
        have hL := hL.mv hm11
        have hN := hN.mv hm11
        have hR := hR.mv hm11
        have hP := hP.mv hm11
        have hQ := hQ.mv hm11
        have hT := hT.mv hm11
        have hH := hH.mv hm11
        have hV := hV.mv hm11
        have hW := hW.mv hm11
        have hX := hX.mv hm11
        have hU := hU.mv hm11
        have hHt := hHt.mv hm11
        have hmw := hmw.join0 hm11
        obtain ⟨hres, hrf, hro, hrc⟩ := hz
        dsimp only at hrf hro hrc
        have hra : RA nl ns nt nf no n T m M M2 f o cl lf lt sr sl ss fr to rf ro rc L1 L2 Z1 Z2 hb ow tx := ⟨hp.adj, hn, hlv, hp.sp, hp.lfi, hp.etx, htx0, hT9, hp.nodes, hres.csr, hres.len, hres.lk, hres.frr⟩
        have hmb : (m : Int) ≤ 1048576 := hres.mb
        refine V_w0.q (QY_move rfl) rfl ?_
        refine V_w0.q (QY_extract rfl rfl) rfl ?_
        refine V_w0.q (QY_extract rfl rfl) rfl ?_
        refine V_w0.q (QY_extract rfl rfl) rfl ?_
        refine V_w0.q (QY_assign rfl) rfl ?_
        refine V_w0.q (QY_assign rfl) rfl ?_
        refine V_w0.q (QY_assign rfl) rfl ?_
        refine V_nil (X_next ?_)
        refine C_seq ?_
        refine C_region ?_
        refine V_w0.q (QY_move rfl) rfl ?_
        refine V_w0.q (QY_move rfl) rfl ?_
        refine V_w0.q (QY_move rfl) rfl ?_
        refine V_w0.q (QY_move rfl) rfl ?_
        refine V_call cb26 rfl (T := Int) (Φ := fun y => y = rel lf lt L1 nl) (val := fun y => .int .i32 y) (H' := fun _ => []) (fun w9 hm => (count26 w9 aN aV aW nl (nl + 1) nl nl (nl + 1) nl A1 L1 L1 lf lt (hN.1.mv hm) (hV.mv hm) (hW.mv hm) (by omega) rfl htL1 hnl).mono fun e w2 ⟨y, h1, he, hM⟩ => ⟨y, h1, he, hm.join0 hM⟩) rfl ?_
        intro cn hcn
        have hcT : (T : Int) = (n : Int) + cn := by omega
        refine V_w0.q (QY_arith rfl rfl rfl ⟨by omega, by omega⟩) rfl ?_
        refine V_w0.q (QY_assign (v := .int .i32 (T : Int)) (by rw [hcT]; rfl)) rfl ?_
        refine V_nil (X_next ?_)
        refine C_seq ?_
        refine C_seq ?_
        refine C_region ?_
        refine V_w0.q (QY_move rfl) rfl ?_
        refine V_w0.q (QY_move rfl) rfl ?_
        refine V_w0.q (QY_move rfl) rfl ?_
        refine V_w0.q (QY_move rfl) rfl ?_
        refine V_call cb27 rfl (T := Unit) (Φ := fun _ => True) (val := fun _ => .bool true) (H' := fun _ => []) (fun w9 hm => (adjT27 w9 a1 a2 a3 (T + 1) m m c1 c2 c3 T rf ro (hrf.mv hm) (hro.mv hm) (by omega) hra.csr.r0 (fun u a b => hra.rfm a (by omega) (by omega)) hra.len rfl (fun e a b => hra.range a b) (by omega) (by omega)).mono fun e w2 ⟨y, h1, he, hM⟩ => ⟨y, h1, he, hm.join0 hM⟩) rfl ?_
        intro _ _
        refine V_w0.q (QY_not rfl) rfl ?_
        refine V_nil (X_next ?_)
        refine C_false rfl ?_
        refine C_skip (X_next ?_)
        refine C_seq ?_
        refine C_region ?_
        refine V_w0.q (QY_move rfl) rfl ?_
        refine V_w0.q (QY_move rfl) rfl ?_
        refine V_w0.q (QY_move rfl) rfl ?_
        refine V_call cb31 rfl (T := Bool) (Φ := fun y => y = true ↔ Srt rf ro T) (val := fun y => .bool y) (H' := fun _ => []) (fun w9 hm => (sorted31 w9 a1 a2 (T + 1) m c1 c2 T rf ro (hrf.mv hm) (hro.mv hm) (by omega) (fun u a b => hra.rfb a b) (fun u a b => hra.rfm a (by omega) (by omega)) (by omega) (by omega)).mono fun e w2 ⟨y, h1, he, hM⟩ => ⟨y, h1, he, hm.join0 hM⟩) rfl ?_
        intro y130 hy130
        obtain rfl : y130 = true := hy130.2 (hra.sorted (hy77.1 h77))
        refine V_w0.q (QY_assign rfl) rfl ?_
        refine V_nil (X_next ?_)
        refine C_ret (?_)
        refine X_ret1 rfl rfl (fun w hm => ?_)
        exact ⟨rfl, (hmw.join0 (hm.sub trivial)).below⟩
      ·
        refine V_w0.q (QY_not rfl) rfl ?_
        refine V_nil (X_next ?_)
        refine C_true rfl ?_
        refine C_seq ?_
        refine C_region ?_
        refine V_w0.q (QY_assign rfl) rfl ?_
        refine V_nil (X_next ?_)
        refine C_ret (X_then_ret (?_))
        refine X_ret1 rfl rfl (fun w hm => ?_)
        exact ⟨rfl, (hmw.join0 (hm.sub trivial)).below⟩
    ·
      refine V_w0.q (QY_not rfl) rfl ?_
      refine V_nil (X_next ?_)
      refine C_true rfl ?_
      refine C_seq ?_
      refine C_region ?_
      refine V_w0.q (QY_assign rfl) rfl ?_
      refine V_nil (X_next ?_)
      refine C_ret (X_then_ret (?_))
      refine X_ret1 rfl rfl (fun w hm => ?_)
      exact ⟨rfl, (hmw.join0 (hm.sub trivial)).below⟩
  ·
    refine V_w0.q (QY_not rfl) rfl ?_
    refine V_nil (X_next ?_)
    refine C_true rfl ?_
    refine C_seq ?_
    refine C_region ?_
    refine V_w0.q (QY_assign rfl) rfl ?_
    refine V_nil (X_next ?_)
    refine C_ret (X_then_ret (?_))
    refine X_ret1 rfl rfl (fun w hm => ?_)
    exact ⟨rfl, (hmw.join0 (hm.sub trivial)).below⟩

end Go.Proofs.Qxb6001307a
