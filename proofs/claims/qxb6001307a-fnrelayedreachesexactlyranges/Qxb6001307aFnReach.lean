/-
  OWN WORK (the rule applications laid by a program of our own, wip/gen). FnRelayedReachesExactlyRanges.
-/
import Derived.Test.Qxb6001307aKitQ
import Derived.Test.Qxb6001307aRelL
import Derived.Test.Qxb6001307aPlainZ
namespace Go.Proofs.Qxb6001307a
open Go.RowKit
set_option linter.unusedSimpArgs false
set_option linter.unusedVariables false

set_option maxHeartbeats 4000000 in
theorem fnReach (w : World) (aF aO aL aN aR aP aQ aT aH : Option Addr) (nf no nc nl ns np nq nt nh cF cO cL cN cR cP cQ cT cH : Nat) (A1 A2 : Int → Option Addr) (L1 C1 L2 C2 : Int → Nat) (f o cl : Int → Int) (Z1 Z2 : Int → Int → Int) (sr sl ss : Int → Int) (hb : Int → Bool)
    (hF : RdW w (.slice aF nf cF) nf (ints .i32 f)) (hO : RdW w (.slice aO no cO) no (ints .i32 o)) (hL : RdW w (.slice aL nc cL) nc (ints .u8 cl)) (hN : RdR w aN nl cN A1 L1 C1 Z1) (hR : RdW w (.slice aR ns cR) ns (ints .i32 sr)) (hP : RdW w (.slice aP np cP) np (ints .i32 sl)) (hQ : RdW w (.slice aQ nq cQ) nq (ints .i32 ss)) (hT : RdR w aT nt cT A2 L2 C2 Z2) (hH : RdW w (.slice aH nh cH) nh (bools hb))
    (hFw : ∀ i, 0 ≤ i → i < (nf : Int) → -2147483648 ≤ f i ∧ f i ≤ 2147483647) (hOw : ∀ i, 0 ≤ i → i < (no : Int) → -2147483648 ≤ o i ∧ o i ≤ 2147483647) (hQw : ∀ i, 0 ≤ i → i < (nq : Int) → -2147483648 ≤ ss i ∧ ss i ≤ 2147483647) :
    Calls Try.prog 5 #[.slice aF nf cF, .slice aO no cO, .slice aL nc cL, .slice aN nl cN, .slice aR ns cR, .slice aP np cP, .slice aQ nq cQ, .slice aT nt cT, .slice aH nh cH] w fun e w' => e = .returned (.bool true) ∧ Below w.heap.size w w' := by
  have hmw : Mem (Old w) w [] w := Mem.start w
  refine enter (N := 352) (vs := [.slice aF nf cF, .slice aO no cO, .slice aL nc cL, .slice aN nl cN, .slice aR ns cR, .slice aP np cP, .slice aQ nq cQ, .slice aT nt cT, .slice aH nh cH]) Try.func5 rfl Try.ntmps5 rfl ?_ w (Mem.start w)
  refine C_seq ?_
  refine C_region ?_
  refine V_w0.q (QY_assign rfl) rfl ?_
  refine V_nil (X_next ?_)
  refine C_seq ?_
  refine C_seq ?_
  refine C_region ?_
  refine V_w0.q (QY_move rfl) rfl ?_
  refine V_w0.q (QY_move rfl) rfl ?_
  refine V_w0.q (QY_move rfl) rfl ?_
  refine V_w0.q (QY_move rfl) rfl ?_
  refine V_w0.q (QY_move rfl) rfl ?_
  refine V_w0.q (QY_move rfl) rfl ?_
  refine V_w0.q (QY_move rfl) rfl ?_
  refine V_w0.q (QY_move rfl) rfl ?_
  refine V_w0.q (QY_move rfl) rfl ?_
  refine V_call cb21 rfl (T := Bool) (Φ := fun _ => True) (val := fun y => .bool y) (H' := fun _ => []) (fun w9 hm => (bytes21 w9 aF aO aL aN aR aP aQ aT aH nf no nc nl ns np nq nt nh cF cO cL cN cR cP cQ cT cH A1 A2 L1 C1 L2 C2 (hN.1.mv hm) (hT.1.mv hm)).mono fun e w2 ⟨y, h1, he, hM⟩ => ⟨y, h1, he, hm.join0 hM⟩) rfl ?_
  intro y60 _
  refine W_bool V_w0 60 rfl (fun h60 => ?_) (fun h60 => ?_)
  ·
    refine V_w0.q (QY_not rfl) rfl ?_
    refine V_nil (X_next ?_)
    refine C_false rfl ?_
    refine C_skip (X_next ?_)
    refine C_seq ?_
    refine C_seq ?_
    refine C_region ?_
    refine V_w0.q (QY_move rfl) rfl ?_
    refine V_w0.q (QY_move rfl) rfl ?_
    refine V_w0.q (QY_move rfl) rfl ?_
    refine V_w0.q (QY_move rfl) rfl ?_
    refine V_w0.q (QY_move rfl) rfl ?_
    refine V_w0.q (QY_move rfl) rfl ?_
    refine V_w0.q (QY_move rfl) rfl ?_
    refine V_w0.q (QY_move rfl) rfl ?_
    refine V_w0.q (QY_move rfl) rfl ?_
    refine V_call cb22 rfl (T := Bool) (Φ := fun y => y = true → (nf : Int) ≤ 4097 ∧ (no : Int) ≤ 262144 ∧ (nc : Int) ≤ 1048576 ∧ (nl : Int) ≤ 65536 ∧ (ns : Int) ≤ 4096 ∧ (np : Int) ≤ 4096 ∧ (nq : Int) ≤ 4096 ∧ (nt : Int) ≤ 65536 ∧ (nh : Int) ≤ 65536 ∧ tot L1 nl ≤ 4096 ∧ tot L2 nt ≤ 4096) (val := fun y => .bool y) (H' := fun _ => []) (fun w9 hm => (lens22 w9 aF aO aL aN aR aP aQ aT aH nf no nc nl ns np nq nt nh cF cO cL cN cR cP cQ cT cH A1 A2 L1 C1 L2 C2 (hN.1.mv hm) (hT.1.mv hm)).mono fun e w2 ⟨y, h1, he, hM⟩ => ⟨y, h1, he, hm.join0 hM⟩) rfl ?_
    intro y71 hy71
    refine W_bool V_w0 71 rfl (fun h71 => ?_) (fun h71 => ?_)
    ·
      obtain ⟨hnf, hno, hnc, hnl, hns, hnp, hnq, hnt, hnh, htL1, htL2⟩ := hy71 h71
      refine V_w0.q (QY_not rfl) rfl ?_
      refine V_nil (X_next ?_)
      refine C_false rfl ?_
      refine C_skip (X_next ?_)
      refine C_seq ?_
      refine C_region ?_
      refine V_w0.q (QY_move rfl) rfl ?_
      refine V_w0.q (QY_move rfl) rfl ?_
      refine V_w0.q (QY_move rfl) rfl ?_
      refine V_w0.q (QY_move rfl) rfl ?_
      refine V_w0.q (QY_move rfl) rfl ?_
      refine V_w0.q (QY_move rfl) rfl ?_
      refine V_w0.q (QY_move rfl) rfl ?_
      refine V_w0.q (QY_move rfl) rfl ?_
      refine V_w0.q (QY_move rfl) rfl ?_
      refine V_callO cb23 rfl (T := PrepOut) (Φ := fun y w' => y.ok = true → ∃ (n hc : Nat) (tx : Int) (aV aW aX aU aHt : Option Addr) (lf lt ln th ht : Int → Int), y.v1 = .int .i32 (n : Int) ∧ y.v2 = .int .i32 tx ∧ y.v3 = .slice aV (nl + 1) (nl + 1) ∧ y.v4 = .slice aW nl nl ∧ y.v5 = .slice aX nl nl ∧ y.v6 = .slice aU nt nt ∧ y.v7 = .slice aHt hc hc ∧
            RdW w' (.slice aV (nl + 1) (nl + 1)) (nl + 1) (ints .i32 lf) ∧ RdW w' (.slice aW nl nl) nl (ints .i32 lt) ∧ RdW w' (.slice aX nl nl) nl (ints .i32 ln) ∧ RdW w' (.slice aU nt nt) nt (ints .i32 th) ∧ RdW w' (.slice aHt hc hc) hc (ints .i32 ht) ∧
            (∀ t, 0 ≤ t → t < (nt : Int) → th t = thF hb L2 t) ∧ hu hb L2 nt = hc ∧ PrepOK nf no nc nl ns np nq nt nh f o L1 L2 Z1 Z2 sr sl ss hb n tx lf lt ht) (val := fun y => .tuple [.bool y.ok, y.v1, y.v2, y.v3, y.v4, y.v5, y.v6, y.v7].toArray) (fun w9 hm => prep23 w9 aF aO aL aN aR aP aQ aT aH nf no nc nl ns np nq nt nh cF cO cL cN cR cP cQ cT cH A1 A2 L1 C1 L2 C2 f o Z1 Z2 sr sl ss hb (hF.mv hm) (hO.mv hm) (hN.mv hm) (hR.mv hm) (hP.mv hm) (hQ.mv hm) (hT.mv hm) (hH.mv hm) hFw hOw hQw hnf hno hnc hnl hns hnt htL1 htL2) rfl ?_
      intro yp w1 hm1 hyp
      have hF := hF.mv hm1
      have hO := hO.mv hm1
      have hL := hL.mv hm1
      have hN := hN.mv hm1
      have hR := hR.mv hm1
      have hP := hP.mv hm1
      have hQ := hQ.mv hm1
      have hT := hT.mv hm1
      have hH := hH.mv hm1
      have hmw := hmw.join0 hm1
      obtain ⟨ok, v1, v2, v3, v4, v5, v6, v7⟩ := yp
      cases ok
      ·
        refine V_w0.q (QY_move rfl) rfl ?_
        refine V_w0.q (QY_extract rfl rfl) rfl ?_
        refine V_w0.q (QY_extract rfl rfl) rfl ?_
        refine V_w0.q (QY_extract rfl rfl) rfl ?_
        refine V_w0.q (QY_extract rfl rfl) rfl ?_
        refine V_w0.q (QY_extract rfl rfl) rfl ?_
        refine V_w0.q (QY_extract rfl rfl) rfl ?_
        refine V_w0.q (QY_extract rfl rfl) rfl ?_
        refine V_w0.q (QY_extract rfl rfl) rfl ?_
        refine V_w0.q (QY_assign rfl) rfl ?_
        refine V_w0.q (QY_assign rfl) rfl ?_
        refine V_w0.q (QY_assign rfl) rfl ?_
        refine V_w0.q (QY_assign rfl) rfl ?_
        refine V_w0.q (QY_assign rfl) rfl ?_
        refine V_w0.q (QY_assign rfl) rfl ?_
        refine V_w0.q (QY_assign rfl) rfl ?_
        refine V_w0.q (QY_assign rfl) rfl ?_
        refine V_nil (X_next ?_)
        refine C_seq ?_
        refine C_seq ?_
        refine C_region ?_
        refine V_w0.q (QY_move rfl) rfl ?_
        refine V_w0.q (QY_not rfl) rfl ?_
        refine V_nil (X_next ?_)
        refine C_true rfl ?_
        refine C_seq ?_
        refine C_region ?_
        refine V_w0.q (QY_assign rfl) rfl ?_
        refine V_nil (X_next ?_)
        refine C_ret (X_then_ret (?_))
        refine X_ret1 rfl rfl (fun w hm => ?_)
        exact ⟨rfl, (hmw.join0 (hm.sub trivial)).below⟩
      have hyp := hyp rfl
      dsimp only at hyp
      obtain ⟨n, hc, tx, aV, aW, aX, aU, aHt, lf, lt, ln, th, ht, rfl, rfl, rfl, rfl, rfl, rfl, rfl, hV, hW, hX, hU, hHt, hth, hhu, hp⟩ := hyp
      obtain rfl : ns = np := hp.enp.symm
      obtain rfl : ns = nq := hp.enq.symm
      obtain rfl : nt = nh := hp.enh.symm
      obtain rfl : no = nc := by have := hp.adj.2.2.2.2.1; omega
      obtain ⟨ow, hlv⟩ := hp.lv
      have hn := hp.hn
      have htx : tx = (n : Int) - hc := by rw [← hhu]; exact hp.etx
      have htx0 := hp.tx0
      have hrb := rel_b lf lt L1 (k := (nl : Int)) (by omega)
      obtain ⟨T, hT9⟩ : ∃ T : Nat, (T : Int) = (n : Int) + rel lf lt L1 nl := ⟨((n : Int) + rel lf lt L1 nl).toNat, by omega⟩
      refine V_w0.q (QY_move rfl) rfl ?_
      refine V_w0.q (QY_extract rfl rfl) rfl ?_
      refine V_w0.q (QY_extract rfl rfl) rfl ?_
      refine V_w0.q (QY_extract rfl rfl) rfl ?_
      refine V_w0.q (QY_extract rfl rfl) rfl ?_
      refine V_w0.q (QY_extract rfl rfl) rfl ?_
      refine V_w0.q (QY_extract rfl rfl) rfl ?_
      refine V_w0.q (QY_extract rfl rfl) rfl ?_
      refine V_w0.q (QY_extract rfl rfl) rfl ?_
      refine V_w0.q (QY_assign rfl) rfl ?_
      refine V_w0.q (QY_assign rfl) rfl ?_
      refine V_w0.q (QY_assign rfl) rfl ?_
      refine V_w0.q (QY_assign rfl) rfl ?_
      refine V_w0.q (QY_assign rfl) rfl ?_
      refine V_w0.q (QY_assign rfl) rfl ?_
      refine V_w0.q (QY_assign rfl) rfl ?_
      refine V_w0.q (QY_assign rfl) rfl ?_
      refine V_nil (X_next ?_)
      refine C_seq ?_
      refine C_seq ?_
      refine C_region ?_
      refine V_w0.q (QY_move rfl) rfl ?_
      refine V_w0.q (QY_not rfl) rfl ?_
      refine V_nil (X_next ?_)
      refine C_false rfl ?_
      refine C_skip (X_next ?_)
      refine C_seq ?_
      refine C_region ?_
      refine V_w0.q (QY_move rfl) rfl ?_
      refine V_callO cb10 rfl (T := Option Addr) (Φ := fun y w' => RdW w' (.slice y nf nf) nf (ints .i32 f)) (val := fun y => .slice y nf nf) (fun w9 hm => clone10R w9 _ _ _ f (hF.mv hm) (by omega)) rfl ?_
      intro aF w2 hm2 hF
      have hO := hO.mv hm2
      have hL := hL.mv hm2
      have hN := hN.mv hm2
      have hR := hR.mv hm2
      have hP := hP.mv hm2
      have hQ := hQ.mv hm2
      have hT := hT.mv hm2
      have hH := hH.mv hm2
      have hV := hV.mv hm2
      have hW := hW.mv hm2
      have hX := hX.mv hm2
      have hU := hU.mv hm2
      have hHt := hHt.mv hm2
      have hmw := hmw.join0 hm2
      refine V_w0.q (QY_assign rfl) rfl ?_
      refine V_nil (X_next ?_)
      refine C_seq ?_
      refine C_region ?_
      refine V_w0.q (QY_move rfl) rfl ?_
      refine V_callO cb10 rfl (T := Option Addr) (Φ := fun y w' => RdW w' (.slice y no no) no (ints .i32 o)) (val := fun y => .slice y no no) (fun w9 hm => clone10R w9 _ _ _ o (hO.mv hm) (by omega)) rfl ?_
      intro aO w3 hm3 hO
      have hF := hF.mv hm3
      have hL := hL.mv hm3
      have hN := hN.mv hm3
      have hR := hR.mv hm3
      have hP := hP.mv hm3
      have hQ := hQ.mv hm3
      have hT := hT.mv hm3
      have hH := hH.mv hm3
      have hV := hV.mv hm3
      have hW := hW.mv hm3
      have hX := hX.mv hm3
      have hU := hU.mv hm3
      have hHt := hHt.mv hm3
      have hmw := hmw.join0 hm3
      refine V_w0.q (QY_assign rfl) rfl ?_
      refine V_nil (X_next ?_)
      refine C_seq ?_
      refine C_region ?_
      refine V_w0.q (QY_move rfl) rfl ?_
      refine V_callO cb11 rfl (T := Option Addr) (Φ := fun y w' => RdW w' (.slice y no no) no (ints .u8 cl)) (val := fun y => .slice y no no) (fun w9 hm => clone11R w9 _ _ _ cl (hL.mv hm) (by omega)) rfl ?_
      intro aL w4 hm4 hL
      have hF := hF.mv hm4
      have hO := hO.mv hm4
      have hN := hN.mv hm4
      have hR := hR.mv hm4
      have hP := hP.mv hm4
      have hQ := hQ.mv hm4
      have hT := hT.mv hm4
      have hH := hH.mv hm4
      have hV := hV.mv hm4
      have hW := hW.mv hm4
      have hX := hX.mv hm4
      have hU := hU.mv hm4
      have hHt := hHt.mv hm4
      have hmw := hmw.join0 hm4
      refine V_w0.q (QY_assign rfl) rfl ?_
      refine V_nil (X_next ?_)
      refine C_seq ?_
      refine C_region ?_
      refine V_w0.q (QY_move rfl) rfl ?_
      refine V_callO cb24 rfl (T := Option Addr × (Int → Option Addr)) (Φ := fun y w' => RdR w' y.1 nl nl y.2 L1 L1 Z1) (val := fun y => .slice y.1 nl nl) (fun w9 hm => nested24 w9 _ _ _ A1 L1 C1 Z1 (hN.mv hm) (by omega) (fun i a b => by have := tot_le L1 nl a b; omega)) rfl ?_
      rintro ⟨aN, A1⟩ w5 hm5 hN
      have hF := hF.mv hm5
      have hO := hO.mv hm5
      have hL := hL.mv hm5
      have hR := hR.mv hm5
      have hP := hP.mv hm5
      have hQ := hQ.mv hm5
      have hT := hT.mv hm5
      have hH := hH.mv hm5
      have hV := hV.mv hm5
      have hW := hW.mv hm5
      have hX := hX.mv hm5
      have hU := hU.mv hm5
      have hHt := hHt.mv hm5
      have hmw := hmw.join0 hm5
      have hN : RdR w5 aN nl nl A1 L1 L1 Z1 := hN
      refine V_w0.q (QY_assign rfl) rfl ?_
      refine V_nil (X_next ?_)
      refine C_seq ?_
      refine C_region ?_
      refine V_w0.q (QY_move rfl) rfl ?_
      refine V_callO cb10 rfl (T := Option Addr) (Φ := fun y w' => RdW w' (.slice y ns ns) ns (ints .i32 sr)) (val := fun y => .slice y ns ns) (fun w9 hm => clone10R w9 _ _ _ sr (hR.mv hm) (by omega)) rfl ?_
      intro aR w6 hm6 hR
      have hF := hF.mv hm6
      have hO := hO.mv hm6
      have hL := hL.mv hm6
      have hN := hN.mv hm6
      have hP := hP.mv hm6
      have hQ := hQ.mv hm6
      have hT := hT.mv hm6
      have hH := hH.mv hm6
      have hV := hV.mv hm6
      have hW := hW.mv hm6
      have hX := hX.mv hm6
      have hU := hU.mv hm6
      have hHt := hHt.mv hm6
      have hmw := hmw.join0 hm6
      refine V_w0.q (QY_assign rfl) rfl ?_
      refine V_nil (X_next ?_)
      refine C_seq ?_
      refine C_region ?_
      refine V_w0.q (QY_move rfl) rfl ?_
      refine V_callO cb10 rfl (T := Option Addr) (Φ := fun y w' => RdW w' (.slice y ns ns) ns (ints .i32 sl)) (val := fun y => .slice y ns ns) (fun w9 hm => clone10R w9 _ _ _ sl (hP.mv hm) (by omega)) rfl ?_
      intro aP w7 hm7 hP
      have hF := hF.mv hm7
      have hO := hO.mv hm7
      have hL := hL.mv hm7
      have hN := hN.mv hm7
      have hR := hR.mv hm7
      have hQ := hQ.mv hm7
      have hT := hT.mv hm7
      have hH := hH.mv hm7
      have hV := hV.mv hm7
      have hW := hW.mv hm7
      have hX := hX.mv hm7
      have hU := hU.mv hm7
      have hHt := hHt.mv hm7
      have hmw := hmw.join0 hm7
      refine V_w0.q (QY_assign rfl) rfl ?_
      refine V_nil (X_next ?_)
      refine C_seq ?_
      refine C_region ?_
      refine V_w0.q (QY_move rfl) rfl ?_
      refine V_callO cb10 rfl (T := Option Addr) (Φ := fun y w' => RdW w' (.slice y ns ns) ns (ints .i32 ss)) (val := fun y => .slice y ns ns) (fun w9 hm => clone10R w9 _ _ _ ss (hQ.mv hm) (by omega)) rfl ?_
      intro aQ w8 hm8 hQ
      have hF := hF.mv hm8
      have hO := hO.mv hm8
      have hL := hL.mv hm8
      have hN := hN.mv hm8
      have hR := hR.mv hm8
      have hP := hP.mv hm8
      have hT := hT.mv hm8
      have hH := hH.mv hm8
      have hV := hV.mv hm8
      have hW := hW.mv hm8
      have hX := hX.mv hm8
      have hU := hU.mv hm8
      have hHt := hHt.mv hm8
      have hmw := hmw.join0 hm8
      refine V_w0.q (QY_assign rfl) rfl ?_
      refine V_nil (X_next ?_)
      refine C_seq ?_
      refine C_region ?_
      refine V_w0.q (QY_move rfl) rfl ?_
      refine V_callO cb24 rfl (T := Option Addr × (Int → Option Addr)) (Φ := fun y w' => RdR w' y.1 nt nt y.2 L2 L2 Z2) (val := fun y => .slice y.1 nt nt) (fun w9 hm => nested24 w9 _ _ _ A2 L2 C2 Z2 (hT.mv hm) (by omega) (fun i a b => by have := tot_le L2 nt a b; omega)) rfl ?_
      rintro ⟨aT, A2⟩ w9 hm9 hT
      have hF := hF.mv hm9
      have hO := hO.mv hm9
      have hL := hL.mv hm9
      have hN := hN.mv hm9
      have hR := hR.mv hm9
      have hP := hP.mv hm9
      have hQ := hQ.mv hm9
      have hH := hH.mv hm9
      have hV := hV.mv hm9
      have hW := hW.mv hm9
      have hX := hX.mv hm9
      have hU := hU.mv hm9
      have hHt := hHt.mv hm9
      have hmw := hmw.join0 hm9
      have hT : RdR w9 aT nt nt A2 L2 L2 Z2 := hT
      refine V_w0.q (QY_assign rfl) rfl ?_
      refine V_nil (X_next ?_)
      refine C_seq ?_
      refine C_region ?_
      refine V_w0.q (QY_move rfl) rfl ?_
      refine V_callO cb16 rfl (T := Option Addr) (Φ := fun y w' => RdW w' (.slice y nt nt) nt (bools hb)) (val := fun y => .slice y nt nt) (fun w9 hm => clone16R w9 _ _ _ hb (hH.mv hm) (by omega)) rfl ?_
      intro aH w10 hm10 hH
      have hF := hF.mv hm10
      have hO := hO.mv hm10
      have hL := hL.mv hm10
      have hN := hN.mv hm10
      have hR := hR.mv hm10
      have hP := hP.mv hm10
      have hQ := hQ.mv hm10
      have hT := hT.mv hm10
      have hV := hV.mv hm10
      have hW := hW.mv hm10
      have hX := hX.mv hm10
      have hU := hU.mv hm10
      have hHt := hHt.mv hm10
      have hmw := hmw.join0 hm10
      refine V_w0.q (QY_assign rfl) rfl ?_
      refine V_nil (X_next ?_)
      refine C_seq ?_
      refine C_region ?_
      refine V_w0.q (QY_move rfl) rfl ?_
      refine V_w0.q (QY_move rfl) rfl ?_
      refine V_w0.q (QY_move rfl) rfl ?_
      refine V_w0.q (QY_move rfl) rfl ?_
      refine V_w0.q (QY_move rfl) rfl ?_
      refine V_w0.q (QY_move rfl) rfl ?_
      refine V_w0.q (QY_move rfl) rfl ?_
      refine V_w0.q (QY_move rfl) rfl ?_
      refine V_w0.q (QY_move rfl) rfl ?_
      refine V_w0.q (QY_move rfl) rfl ?_
      refine V_w0.q (QY_move rfl) rfl ?_
      refine V_w0.q (QY_move rfl) rfl ?_
      refine V_w0.q (QY_move rfl) rfl ?_
      refine V_callO cb25 rfl (T := ZOut) (Φ := fun z w' => RelRes nl ns nt n T f o cl (rel lf lt L1) sr sl ss hb L2 Z1 Z2 tx z.r ∧ RdW w' (.slice z.a1 (T + 1) z.c1) (T + 1) (ints .i32 z.r.rf) ∧ RdW w' (.slice z.a2 z.r.m z.c2) z.r.m (ints .i32 z.r.ro) ∧ RdW w' (.slice z.a3 z.r.m z.c3) z.r.m (ints .u8 z.r.rc)) (val := fun z => .tuple [.slice z.a1 (T + 1) z.c1, .slice z.a2 z.r.m z.c2, .slice z.a3 z.r.m z.c3].toArray) (fun w9 hm => zz25 w9 nl ns nt nf no n hc T nf no no nl ns ns ns (nl + 1) nl nl nt nt hc aF aO aL aN aR aP aQ aV aW aX aT aU aHt A1 A2 L1 L2 L1 L2 f o cl sr sl ss lf lt ln th Z1 Z2 hb ow tx (hF.mv hm) (hO.mv hm) (hL.mv hm) (hN.mv hm) (hR.mv hm) (hP.mv hm) (hQ.mv hm) (hV.mv hm) (hW.mv hm) (hX.mv hm) (hT.mv hm) (hU.mv hm) hth hp.adj hn hlv hp.sp hp.lfi hhu htx htx0 hT9 (Nat.le_refl _) hnf hno hnl hns hnt htL1 htL2) rfl ?_
      rintro ⟨⟨yb, ybf, ybo, ybc, m, M, M2, fr, to, rf, ro, rc⟩, a1, a2, a3, c1, c2, c3⟩ w11 hm11 hz
      have hF := hF.mv hm11
      have hO := hO.mv hm11
      have hL := hL.mv hm11
      have hN := hN.mv hm11
      have hR := hR.mv hm11
      have hP := hP.mv hm11
      have hQ := hQ.mv hm11
      have hT := hT.mv hm11
      have hH := hH.mv hm11
      have hV := hV.mv hm11
      have hW := hW.mv hm11
      have hX := hX.mv hm11
      have hU := hU.mv hm11
      have hHt := hHt.mv hm11
      have hmw := hmw.join0 hm11
      obtain ⟨hres, hrf, hro, hrc⟩ := hz
      dsimp only at hrf hro hrc
      have hra : RA nl ns nt nf no n T m M M2 f o cl lf lt sr sl ss fr to rf ro rc L1 L2 Z1 Z2 hb ow tx := ⟨hp.adj, hn, hlv, hp.sp, hp.lfi, hp.etx, htx0, hT9, hp.nodes, hres.csr, hres.len, hres.lk, hres.frr⟩
      have hmb : (m : Int) ≤ 1048576 := hres.mb
      refine V_w0.q (QY_move rfl) rfl ?_
      refine V_w0.q (QY_extract rfl rfl) rfl ?_
      refine V_w0.q (QY_extract rfl rfl) rfl ?_
      refine V_w0.q (QY_extract rfl rfl) rfl ?_
      refine V_w0.q (QY_assign rfl) rfl ?_
      refine V_w0.q (QY_assign rfl) rfl ?_
      refine V_w0.q (QY_assign rfl) rfl ?_
      refine V_nil (X_next ?_)
      refine C_seq ?_
      refine C_region ?_
      refine V_w0.q (QY_move rfl) rfl ?_
      refine V_w0.q (QY_move rfl) rfl ?_
      refine V_w0.q (QY_move rfl) rfl ?_
      refine V_w0.q (QY_move rfl) rfl ?_
      refine V_call cb26 rfl (T := Int) (Φ := fun y => y = rel lf lt L1 nl) (val := fun y => .int .i32 y) (H' := fun _ => []) (fun w9 hm => (count26 w9 aN aV aW nl (nl + 1) nl nl (nl + 1) nl A1 L1 L1 lf lt (hN.1.mv hm) (hV.mv hm) (hW.mv hm) (by omega) rfl htL1 hnl).mono fun e w2 ⟨y, h1, he, hM⟩ => ⟨y, h1, he, hm.join0 hM⟩) rfl ?_
      intro cn hcn
      have hcT : (T : Int) = (n : Int) + cn := by omega
      refine V_w0.q (QY_arith rfl rfl rfl ⟨by omega, by omega⟩) rfl ?_
      refine V_w0.q (QY_assign (v := .int .i32 (T : Int)) (by rw [hcT]; rfl)) rfl ?_
      refine V_nil (X_next ?_)
      refine C_seq ?_
      refine C_seq ?_
      refine C_region ?_
      refine V_w0.q (QY_move rfl) rfl ?_
      refine V_w0.q (QY_move rfl) rfl ?_
      refine V_w0.q (QY_move rfl) rfl ?_
      refine V_w0.q (QY_move rfl) rfl ?_
      refine V_call cb27 rfl (T := Unit) (Φ := fun _ => True) (val := fun _ => .bool true) (H' := fun _ => []) (fun w9 hm => (adjT27 w9 a1 a2 a3 (T + 1) m m c1 c2 c3 T rf ro (hrf.mv hm) (hro.mv hm) (by omega) hra.csr.r0 (fun u a b => hra.rfm a (by omega) (by omega)) hra.len rfl (fun e a b => hra.range a b) (by omega) (by omega)).mono fun e w2 ⟨y, h1, he, hM⟩ => ⟨y, h1, he, hm.join0 hM⟩) rfl ?_
      intro _ _
      refine V_w0.q (QY_not rfl) rfl ?_
      refine V_nil (X_next ?_)
      refine C_false rfl ?_
      refine C_skip (X_next ?_)
      refine C_seq ?_
      refine C_region ?_
      refine V_w0.q (QY_move rfl) rfl ?_
      refine V_make 91 mk22 rfl rfl rfl (by omega) (by omega) (by omega) (by omega) rfl (fun bE => ?_)
      refine V_w0.q (QY_assign rfl) rfl ?_
      refine V_nil (X_next ?_)
      refine C_seq ?_
      refine C_region ?_
      refine V_w0.q (QY_move rfl) rfl ?_
      refine V_make 92 mk22 rfl rfl rfl (by omega) (by omega) (by omega) (by omega) rfl (fun bQ => ?_)
      refine V_w0.q (QY_assign rfl) rfl ?_
      refine V_nil (X_next ?_)
      obtain ⟨K, hK⟩ : ∃ K : Nat, (K : Int) = (T : Int) - n := ⟨((T : Int) - n).toNat, by have := hra.nT; omega⟩
      refine C_cut (T := Nat × Nat × Int) (fun (zz9 : Nat × Nat × Int) => match zz9 with | (bP, e3, k3) => [(3, .slice aN nl nl), (4, .slice aR ns ns), (5, .slice aP ns ns), (6, .slice aQ ns ns), (7, .slice aT nt nt), (20, .int .i32 (n : Int)), (21, .int .i32 tx), (25, .slice aU nt nt), (26, .slice aHt hc hc), (27, .slice a1 (T + 1) c1), (28, .slice a2 m c2), (31, .slice (some ⟨bE, 0, none⟩) n n), (32, .slice (some ⟨bQ, 0, none⟩) n n), (33, .slice (some ⟨bP, 0, none⟩) e3 e3)]) (fun (zz9 : Nat × Nat × Int) => match zz9 with | (bP, e3, k3) => [(91, ⟨bE, n, n, ints .i32 (fun _ => 0)⟩), (92, ⟨bQ, n, n, ints .i32 (fun _ => 0)⟩), (93, ⟨bP, e3, k3, ints .i32 (fun _ => 0)⟩)]) (fun (zz9 : Nat × Nat × Int) => match zz9 with | (bP, e3, k3) => K = e3 ∧ (K : Int) = k3) ?_ ?_
      ·
        refine C_region ?_
        refine V_w0.q (QY_move rfl) rfl ?_
        refine V_w0.q (QY_move rfl) rfl ?_
        refine V_w0.q (QY_arith rfl rfl rfl ⟨by omega, by omega⟩) rfl ?_
        refine V_make 93 mk22 rfl rfl rfl (by omega) (by omega) (by omega) (by omega) rfl (fun bP => ?_)
        refine V_w0.q (QY_assign rfl) rfl ?_
        refine V_nil (X_then ?_)
        refine X_cut (bP, ((T : Int) - n).toNat, (T : Int) - n) ?_ ?_ ?_
        · exact ⟨by omega, by omega⟩
        · exact ⟨rfl, rfl, rfl, rfl, rfl, rfl, rfl, rfl, rfl, rfl, rfl, rfl, rfl, rfl, trivial⟩
        · exact ⟨rfl, rfl, rfl, trivial⟩
      rintro ⟨bP, e3, k3⟩ ⟨hs1, hs2⟩
      show C _ _ _ _ _ _ [(3, .slice aN nl nl), (4, .slice aR ns ns), (5, .slice aP ns ns), (6, .slice aQ ns ns), (7, .slice aT nt nt), (20, .int .i32 (n : Int)), (21, .int .i32 tx), (25, .slice aU nt nt), (26, .slice aHt hc hc), (27, .slice a1 (T + 1) c1), (28, .slice a2 m c2), (31, .slice (some ⟨bE, 0, none⟩) n n), (32, .slice (some ⟨bQ, 0, none⟩) n n), (33, .slice (some ⟨bP, 0, none⟩) e3 e3)] [(91, ⟨bE, n, n, ints .i32 (fun _ => 0)⟩), (92, ⟨bQ, n, n, ints .i32 (fun _ => 0)⟩), (93, ⟨bP, e3, k3, ints .i32 (fun _ => 0)⟩)]
      subst hs1 hs2
      refine C_seq ?_
      refine C_mem (fun w hm => hm.none 94 0 (n := ((0 : Nat) : Int)) (Int.le_refl _) (ints .i32 (fun _ => 0))) ?_
      refine C_region ?_
      refine V_w0.q (QY_assign rfl) rfl ?_
      refine V_nil (X_next ?_)
      refine C_seq ?_
      refine C_seq ?_
      refine C_region ?_
      refine V_w0.q (QY_assign rfl) rfl ?_
      refine V_nil (X_next ?_)
      refine C_block ?_
      refine C_loops (T := Int × (Int → Int) × (Int → Int) × (Int → Int) × (Int → Int) × Nat × Nat × Option Addr × Nat) (fun (zz9 : Int × (Int → Int) × (Int → Int) × (Int → Int) × (Int → Int) × Nat × Nat × Option Addr × Nat) => match zz9 with | (u, es, rs, ps, wk, bW0, sW0, aW0, cW0) => [(3, .slice aN nl nl), (4, .slice aR ns ns), (5, .slice aP ns ns), (6, .slice aQ ns ns), (7, .slice aT nt nt), (20, .int .i32 (n : Int)), (21, .int .i32 tx), (25, .slice aU nt nt), (26, .slice aHt hc hc), (27, .slice a1 (T + 1) c1), (28, .slice a2 m c2), (31, .slice (some ⟨bE, 0, none⟩) n n), (32, .slice (some ⟨bQ, 0, none⟩) n n), (33, .slice (some ⟨bP, 0, none⟩) K K), (34, .slice aW0 0 cW0), (35, .int .i32 u)]) (fun (zz9 : Int × (Int → Int) × (Int → Int) × (Int → Int) × (Int → Int) × Nat × Nat × Option Addr × Nat) => match zz9 with | (u, es, rs, ps, wk, bW0, sW0, aW0, cW0) => [(91, ⟨bE, n, n, ints .i32 es⟩), (92, ⟨bQ, n, n, ints .i32 rs⟩), (93, ⟨bP, K, K, ints .i32 ps⟩), (94, ⟨bW0, sW0, ((0 : Nat) : Int), ints .i32 wk⟩)]) (fun (zz9 : Int × (Int → Int) × (Int → Int) × (Int → Int) × (Int → Int) × Nat × Nat × Option Addr × Nat) => match zz9 with | (u, es, rs, ps, wk, bW0, sW0, aW0, cW0) => 0 ≤ u ∧ u ≤ n ∧ (∀ v, 0 ≤ v → v < (n : Int) → es v ≤ u) ∧ (∀ v, 0 ≤ v → v < (n : Int) → rs v ≤ u) ∧ (∀ x, 0 ≤ x → x < (K : Int) → ps x ≤ u) ∧ Gs ⟨bW0, sW0, ((0 : Nat) : Int), ints .i32 wk⟩ 1 0 (.slice aW0 0 cW0)) (fun (zz9 : Int × (Int → Int) × (Int → Int) × (Int → Int) × (Int → Int) × Nat × Nat × Option Addr × Nat) => match zz9 with | (u, es, rs, ps, wk, bW0, sW0, aW0, cW0) => ((n : Int) - u).toNat) (0, fun _ => 0, fun _ => 0, fun _ => 0, fun _ => 0, 0, 0, none, 0) ?_ ?_ ?_ ?_
      · exact ⟨by omega, by omega, fun v a b => Int.le_refl _, fun v a b => Int.le_refl _, fun v a b => Int.le_refl _, .inl ⟨rfl, rfl, rfl⟩⟩
      · exact ⟨rfl, rfl, rfl, rfl, rfl, rfl, rfl, rfl, rfl, rfl, rfl, rfl, rfl, rfl, rfl, rfl, trivial⟩
      · exact ⟨rfl, rfl, rfl, rfl, trivial⟩
      rintro ⟨u, es, rs, ps, wk, bW0, sW0, aW0, cW0⟩ ⟨hu0, hu1, hes, hrs, hps, gW0⟩
      show C _ _ _ _ _ _ [(3, .slice aN nl nl), (4, .slice aR ns ns), (5, .slice aP ns ns), (6, .slice aQ ns ns), (7, .slice aT nt nt), (20, .int .i32 (n : Int)), (21, .int .i32 tx), (25, .slice aU nt nt), (26, .slice aHt hc hc), (27, .slice a1 (T + 1) c1), (28, .slice a2 m c2), (31, .slice (some ⟨bE, 0, none⟩) n n), (32, .slice (some ⟨bQ, 0, none⟩) n n), (33, .slice (some ⟨bP, 0, none⟩) K K), (34, .slice aW0 0 cW0), (35, .int .i32 u)] [(91, ⟨bE, n, n, ints .i32 es⟩), (92, ⟨bQ, n, n, ints .i32 rs⟩), (93, ⟨bP, K, K, ints .i32 ps⟩), (94, ⟨bW0, sW0, ((0 : Nat) : Int), ints .i32 wk⟩)]
      refine C_seq ?_
      refine C_seq ?_
      refine C_region ?_
      refine V_w0.q (QY_move rfl) rfl ?_
      refine V_w0.q (QY_move rfl) rfl ?_
      refine W_lss V_w0 rfl rfl rfl (fun h152 => ?_) (fun h152 => ?_)
      ·
        have hnT := hra.nT
        have htn := hra.txn
        have hrb0 := hra.rfb (u := u) hu0 (by omega)
        have hrb1 := hra.rfb (u := u + 1) (by omega) (by omega)
        have hru := hra.rfm (u := u) (v := u + 1) hu0 (by omega) (by omega)
        refine V_nil (X_next ?_)
        refine C_true rfl ?_
        refine C_skip (X_next ?_)
        refine C_seq ?_
        refine C_block ?_
        refine C_seq ?_
        refine C_region ?_
        refine V_w0.q (QY_move rfl) rfl ?_
        refine V_w0.q (QY_arith rfl rfl rfl ⟨by omega, by omega⟩) rfl ?_
        refine V_w0.q (QY_assign rfl) rfl ?_
        refine V_nil (X_next ?_)
        refine C_seq ?_
        refine C_region ?_
        refine V_w0.q (QY_assign rfl) rfl ?_
        refine V_nil (X_next ?_)
        refine C_seq ?_
        refine C_seq ?_
        refine C_region ?_
        refine V_w0.q (QY_assign rfl) rfl ?_
        refine V_nil (X_next ?_)
        refine C_block ?_
        refine C_loops (T := Int × (Int → Int) × Int) (fun (zz9 : Int × (Int → Int) × Int) => match zz9 with | (i, es1, ce) => [(3, .slice aN nl nl), (4, .slice aR ns ns), (5, .slice aP ns ns), (6, .slice aQ ns ns), (7, .slice aT nt nt), (20, .int .i32 (n : Int)), (21, .int .i32 tx), (25, .slice aU nt nt), (26, .slice aHt hc hc), (27, .slice a1 (T + 1) c1), (28, .slice a2 m c2), (31, .slice (some ⟨bE, 0, none⟩) n n), (32, .slice (some ⟨bQ, 0, none⟩) n n), (33, .slice (some ⟨bP, 0, none⟩) K K), (34, .slice aW0 0 cW0), (35, .int .i32 u), (36, .int .i32 (u + 1)), (37, .int .i64 ce), (38, .int .i64 i)]) (fun (zz9 : Int × (Int → Int) × Int) => match zz9 with | (i, es1, ce) => [(91, ⟨bE, n, n, ints .i32 es1⟩), (92, ⟨bQ, n, n, ints .i32 rs⟩), (93, ⟨bP, K, K, ints .i32 ps⟩), (94, ⟨bW0, sW0, ((0 : Nat) : Int), ints .i32 wk⟩)]) (fun (zz9 : Int × (Int → Int) × Int) => match zz9 with | (i, es1, ce) => 0 ≤ i ∧ i ≤ ns ∧ Mk n u es1 (PSp L1 Z1 sr sl ss u i) ce) (fun (zz9 : Int × (Int → Int) × Int) => match zz9 with | (i, es1, ce) => ((ns : Int) - i).toNat) (0, es, 0) ?_ ?_ ?_ ?_
        · exact ⟨by omega, by omega, Mk.start hes (fun v ⟨j, k, h0, h1, _⟩ => by omega)⟩
        · exact ⟨rfl, rfl, rfl, rfl, rfl, rfl, rfl, rfl, rfl, rfl, rfl, rfl, rfl, rfl, rfl, rfl, rfl, rfl, rfl, trivial⟩
        · exact ⟨rfl, rfl, rfl, rfl, trivial⟩
        rintro ⟨i, es1, ce⟩ ⟨hi0, hi1, hmk1⟩
        show C _ _ _ _ _ _ [(3, .slice aN nl nl), (4, .slice aR ns ns), (5, .slice aP ns ns), (6, .slice aQ ns ns), (7, .slice aT nt nt), (20, .int .i32 (n : Int)), (21, .int .i32 tx), (25, .slice aU nt nt), (26, .slice aHt hc hc), (27, .slice a1 (T + 1) c1), (28, .slice a2 m c2), (31, .slice (some ⟨bE, 0, none⟩) n n), (32, .slice (some ⟨bQ, 0, none⟩) n n), (33, .slice (some ⟨bP, 0, none⟩) K K), (34, .slice aW0 0 cW0), (35, .int .i32 u), (36, .int .i32 (u + 1)), (37, .int .i64 ce), (38, .int .i64 i)] [(91, ⟨bE, n, n, ints .i32 es1⟩), (92, ⟨bQ, n, n, ints .i32 rs⟩), (93, ⟨bP, K, K, ints .i32 ps⟩), (94, ⟨bW0, sW0, ((0 : Nat) : Int), ints .i32 wk⟩)]
        refine C_seq ?_
        refine C_seq ?_
        refine C_region ?_
        refine V_w0.q (QY_move rfl) rfl ?_
        refine V_w0.q (QY_move rfl) rfl ?_
        refine V_w0.q (QY_len sl22 rfl) rfl ?_
        refine W_lss V_w0 rfl rfl rfl (fun h160 => ?_) (fun h160 => ?_)
        ·
          have hs := hra.sp.1 i hi0 (by omega)
          have htl1 := tot_le L1 nl (i := sl i) (by omega) (by omega)
          refine V_nil (X_next ?_)
          refine C_true rfl ?_
          refine C_skip (X_next ?_)
          refine C_seq ?_
          refine C_block ?_
          refine C_seq ?_
          refine C_seq ?_
          refine C_region ?_
          refine V_w0.q (QY_move rfl) rfl ?_
          refine V_w0.q (QY_move rfl) rfl ?_
          refine W_elem V_w0 rfl rfl (hR.rd) (by omega) (by omega) sl22 lf21 rfl rfl (fun _ => ?_)
          refine V_w0.q (QY_move rfl) rfl ?_
          refine W_neq V_w0 rfl rfl rfl (fun h168 => ?_) (fun h168 => ?_)
          ·
            refine V_nil (X_next ?_)
            refine C_true rfl ?_
            refine C_exit (X_then_exit (X_block_exit (X_next ?_)))
            refine C_region ?_
            refine V_w0.q (QY_move rfl) rfl ?_
            refine V_w0.q (QY_arith rfl rfl rfl ⟨by omega, by omega⟩) rfl ?_
            refine V_w0.q (QY_assign rfl) rfl ?_
            refine V_nil (X_then ?_)
            refine X_round (i + 1, es1, ce) ?_ ?_ ?_ ?_
            · exact ⟨by omega, by omega, hmk1.as (fun x => PSp_skip (by omega) x)⟩
            · show ((ns : Int) - (i + 1)).toNat < ((ns : Int) - i).toNat
              omega
            · exact ⟨rfl, rfl, rfl, rfl, rfl, rfl, rfl, rfl, rfl, rfl, rfl, rfl, rfl, rfl, rfl, rfl, rfl, rfl, rfl, trivial⟩
            · exact ⟨rfl, rfl, rfl, rfl, trivial⟩
          ·
            refine V_nil (X_next ?_)
            refine C_false rfl ?_
            refine C_skip (X_next ?_)
            refine C_seq ?_
            refine C_region ?_
            refine V_w0.q (QY_move rfl) rfl ?_
            refine V_w0.q (QY_move rfl) rfl ?_
            refine V_w0.q (QY_move rfl) rfl ?_
            refine W_elem V_w0 rfl rfl (hP.rd) (by omega) (by omega) sl22 lf21 rfl rfl (fun _ => ?_)
            refine W_elem V_w0 rfl rfl (hN.1.rd) (by omega) (by omega) sl42 lf22 rfl rfl (fun _ => ?_)
            refine V_w0.q (QY_assign rfl) rfl ?_
            refine V_nil (X_next ?_)
            refine C_seq ?_
            refine C_region ?_
            refine V_w0.q (QY_move rfl) rfl ?_
            refine V_w0.q (QY_move rfl) rfl ?_
            refine W_elem V_w0 rfl rfl (hQ.rd) (by omega) (by omega) sl22 lf21 rfl rfl (fun _ => ?_)
            refine V_w0.q (QY_conv it21 it3 rfl ⟨by omega, by omega⟩) rfl ?_
            refine V_w0.q (QY_assign rfl) rfl ?_
            refine V_nil (X_next ?_)
            refine C_block ?_
            refine C_loops (T := Int × (Int → Int) × Int) (fun (zz9 : Int × (Int → Int) × Int) => match zz9 with | (k, es2, ce2) => [(3, .slice aN nl nl), (4, .slice aR ns ns), (5, .slice aP ns ns), (6, .slice aQ ns ns), (7, .slice aT nt nt), (20, .int .i32 (n : Int)), (21, .int .i32 tx), (25, .slice aU nt nt), (26, .slice aHt hc hc), (27, .slice a1 (T + 1) c1), (28, .slice a2 m c2), (31, .slice (some ⟨bE, 0, none⟩) n n), (32, .slice (some ⟨bQ, 0, none⟩) n n), (33, .slice (some ⟨bP, 0, none⟩) K K), (34, .slice aW0 0 cW0), (35, .int .i32 u), (36, .int .i32 (u + 1)), (37, .int .i64 ce2), (38, .int .i64 i), (39, .slice (A1 (sl i)) (L1 (sl i)) (L1 (sl i))), (40, .int .i64 k)]) (fun (zz9 : Int × (Int → Int) × Int) => match zz9 with | (k, es2, ce2) => [(91, ⟨bE, n, n, ints .i32 es2⟩), (92, ⟨bQ, n, n, ints .i32 rs⟩), (93, ⟨bP, K, K, ints .i32 ps⟩), (94, ⟨bW0, sW0, ((0 : Nat) : Int), ints .i32 wk⟩)]) (fun (zz9 : Int × (Int → Int) × Int) => match zz9 with | (k, es2, ce2) => ss i ≤ k ∧ k ≤ ((L1 (sl i) : Nat) : Int) ∧ Mk n u es2 (fun v => PSp L1 Z1 sr sl ss u i v ∨ PLs Z1 (sl i) (ss i) k v) ce2) (fun (zz9 : Int × (Int → Int) × Int) => match zz9 with | (k, es2, ce2) => (((L1 (sl i) : Nat) : Int) - k).toNat) (ss i, es1, ce) ?_ ?_ ?_ ?_
            · exact ⟨by omega, by omega, hmk1.as fun x => ⟨fun h => h.resolve_right (fun ⟨i9, a, b, _⟩ => by omega), .inl⟩⟩
            · exact ⟨rfl, rfl, rfl, rfl, rfl, rfl, rfl, rfl, rfl, rfl, rfl, rfl, rfl, rfl, rfl, rfl, rfl, rfl, rfl, rfl, rfl, trivial⟩
            · exact ⟨rfl, rfl, rfl, rfl, trivial⟩
            rintro ⟨k, es2, ce2⟩ ⟨hk0, hk1, hmk2⟩
            show C _ _ _ _ _ _ [(3, .slice aN nl nl), (4, .slice aR ns ns), (5, .slice aP ns ns), (6, .slice aQ ns ns), (7, .slice aT nt nt), (20, .int .i32 (n : Int)), (21, .int .i32 tx), (25, .slice aU nt nt), (26, .slice aHt hc hc), (27, .slice a1 (T + 1) c1), (28, .slice a2 m c2), (31, .slice (some ⟨bE, 0, none⟩) n n), (32, .slice (some ⟨bQ, 0, none⟩) n n), (33, .slice (some ⟨bP, 0, none⟩) K K), (34, .slice aW0 0 cW0), (35, .int .i32 u), (36, .int .i32 (u + 1)), (37, .int .i64 ce2), (38, .int .i64 i), (39, .slice (A1 (sl i)) (L1 (sl i)) (L1 (sl i))), (40, .int .i64 k)] [(91, ⟨bE, n, n, ints .i32 es2⟩), (92, ⟨bQ, n, n, ints .i32 rs⟩), (93, ⟨bP, K, K, ints .i32 ps⟩), (94, ⟨bW0, sW0, ((0 : Nat) : Int), ints .i32 wk⟩)]
            refine C_seq ?_
            refine C_seq ?_
            refine C_region ?_
            refine V_w0.q (QY_move rfl) rfl ?_
            refine V_w0.q (QY_move rfl) rfl ?_
            refine V_w0.q (QY_len sl22 rfl) rfl ?_
            refine W_lss V_w0 rfl rfl rfl (fun h184 => ?_) (fun h184 => ?_)
            ·
              have hnd9 := hra.nodes (sl i) k (by omega) (by omega) (by omega) (by omega)
              have hcb := cntU_b es2 (u + 1) (k := (n : Int)) (by omega)
              have hcc := hmk2.c
              refine V_nil (X_next ?_)
              refine C_true rfl ?_
              refine C_skip (X_next ?_)
              refine C_seq ?_
              refine C_block ?_
              refine C_seq ?_
              refine C_region ?_
              refine V_w0.q (QY_move rfl) rfl ?_
              refine V_w0.q (QY_move rfl) rfl ?_
              refine W_elem V_w0 rfl rfl ((hN.2 (sl i) (by omega) (by omega)).rd) (by omega) (by omega) sl22 lf21 rfl rfl (fun _ => ?_)
              refine V_w0.q (QY_assign rfl) rfl ?_
              refine V_nil (X_next ?_)
              refine C_seq ?_
              refine C_region ?_
              refine V_w0.q (QY_move rfl) rfl ?_
              refine V_w0.q (QY_move rfl) rfl ?_
              refine W_elem V_w0 rfl rfl (Rd_own (q := 91) rfl (by omega)) (by omega) (by omega) sl22 lf21 rfl rfl (fun _ => ?_)
              refine V_w0.q (QY_move rfl) rfl ?_
              refine W_neq V_w0 rfl rfl rfl (fun h196 => ?_) (fun h196 => ?_)
              ·
                refine V_nil (X_next ?_)
                refine C_true rfl ?_
                refine C_seq ?_
                refine C_region ?_
                refine V_w0.q (QY_move rfl) rfl ?_
                refine V_w0.q (QY_move rfl) rfl ?_
                refine V_w0.q (QY_move rfl) rfl ?_
                refine V_set (q := 91) rfl rfl rfl rfl rfl (by omega) (by omega) (by omega) sl22 lf21 rfl rfl (upd_ints _ _ _ _) (fun _ => ?_)
                refine V_nil (X_next ?_)
                refine C_region ?_
                refine V_w0.q (QY_move rfl) rfl ?_
                refine V_w0.q (QY_arith rfl rfl rfl ⟨by omega, by omega⟩) rfl ?_
                refine V_w0.q (QY_assign rfl) rfl ?_
                refine V_nil (X_block (X_next ?_))
                refine C_region ?_
                refine V_w0.q (QY_move rfl) rfl ?_
                refine V_w0.q (QY_arith rfl rfl rfl ⟨by omega, by omega⟩) rfl ?_
                refine V_w0.q (QY_assign rfl) rfl ?_
                refine V_nil (X_then ?_)
                refine X_round (k + 1, upd es2 (Z1 (sl i) k) (u + 1), ce2 + 1) ?_ ?_ ?_ ?_
                · exact ⟨by omega, by omega, hmk2.add (by omega) (by omega) (by omega) (fun x => by rw [PLs_succ (by omega), or_assoc])⟩
                · show (((L1 (sl i) : Nat) : Int) - (k + 1)).toNat < (((L1 (sl i) : Nat) : Int) - k).toNat
                  omega
                · exact ⟨rfl, rfl, rfl, rfl, rfl, rfl, rfl, rfl, rfl, rfl, rfl, rfl, rfl, rfl, rfl, rfl, rfl, rfl, rfl, rfl, rfl, trivial⟩
                · exact ⟨rfl, rfl, rfl, rfl, trivial⟩
              ·
                refine V_nil (X_next ?_)
                refine C_false rfl ?_
                refine C_skip (X_block (X_next ?_))
                refine C_region ?_
                refine V_w0.q (QY_move rfl) rfl ?_
                refine V_w0.q (QY_arith rfl rfl rfl ⟨by omega, by omega⟩) rfl ?_
                refine V_w0.q (QY_assign rfl) rfl ?_
                refine V_nil (X_then ?_)
                refine X_round (k + 1, es2, ce2) ?_ ?_ ?_ ?_
                · exact ⟨by omega, by omega, hmk2.got (v := Z1 (sl i) k) (by omega) (by omega) (by omega) (fun x => by rw [PLs_succ (by omega), or_assoc])⟩
                · show (((L1 (sl i) : Nat) : Int) - (k + 1)).toNat < (((L1 (sl i) : Nat) : Int) - k).toNat
                  omega
                · exact ⟨rfl, rfl, rfl, rfl, rfl, rfl, rfl, rfl, rfl, rfl, rfl, rfl, rfl, rfl, rfl, rfl, rfl, rfl, rfl, rfl, rfl, trivial⟩
                · exact ⟨rfl, rfl, rfl, rfl, trivial⟩
            ·
              obtain rfl : k = ((L1 (sl i) : Nat) : Int) := by omega
              refine V_nil (X_next ?_)
              refine C_false rfl ?_
              refine C_exit (X_then_exit (X_then_exit (X_block_exit (X_block (X_next ?_)))))
              refine C_region ?_
              refine V_w0.q (QY_move rfl) rfl ?_
              refine V_w0.q (QY_arith rfl rfl rfl ⟨by omega, by omega⟩) rfl ?_
              refine V_w0.q (QY_assign rfl) rfl ?_
              refine V_nil (X_then ?_)
              refine X_round (i + 1, es2, ce2) ?_ ?_ ?_ ?_
              · exact ⟨by omega, by omega, hmk2.as (fun x => PSp_succ hi0 (by omega) x)⟩
              · show ((ns : Int) - (i + 1)).toNat < ((ns : Int) - i).toNat
                omega
              · exact ⟨rfl, rfl, rfl, rfl, rfl, rfl, rfl, rfl, rfl, rfl, rfl, rfl, rfl, rfl, rfl, rfl, rfl, rfl, rfl, trivial⟩
              · exact ⟨rfl, rfl, rfl, rfl, trivial⟩
        ·
          obtain rfl : i = (ns : Int) := by omega
          refine V_nil (X_next ?_)
          refine C_false rfl ?_
          refine C_exit (X_then_exit (X_then_exit (X_block_exit (X_next ?_))))
          refine C_cut (T := (Int → Int) × Int) (fun (zz9 : (Int → Int) × Int) => match zz9 with | (es3, ce3) => [(3, .slice aN nl nl), (4, .slice aR ns ns), (5, .slice aP ns ns), (6, .slice aQ ns ns), (7, .slice aT nt nt), (20, .int .i32 (n : Int)), (21, .int .i32 tx), (25, .slice aU nt nt), (26, .slice aHt hc hc), (27, .slice a1 (T + 1) c1), (28, .slice a2 m c2), (31, .slice (some ⟨bE, 0, none⟩) n n), (32, .slice (some ⟨bQ, 0, none⟩) n n), (33, .slice (some ⟨bP, 0, none⟩) K K), (34, .slice aW0 0 cW0), (35, .int .i32 u), (36, .int .i32 (u + 1)), (37, .int .i64 ce3)]) (fun (zz9 : (Int → Int) × Int) => match zz9 with | (es3, ce3) => [(91, ⟨bE, n, n, ints .i32 es3⟩), (92, ⟨bQ, n, n, ints .i32 rs⟩), (93, ⟨bP, K, K, ints .i32 ps⟩), (94, ⟨bW0, sW0, ((0 : Nat) : Int), ints .i32 wk⟩)]) (fun (zz9 : (Int → Int) × Int) => match zz9 with | (es3, ce3) => Mk n u es3 (PEx ns tx L1 Z1 sr sl ss (lfL hb L2 Z2 ht) u) ce3) ?_ ?_
          ·
            refine C_seq ?_
            refine C_region ?_
            refine V_w0.q (QY_move rfl) rfl ?_
            refine V_w0.q (QY_move rfl) rfl ?_
            refine W_geq V_w0 rfl rfl rfl (fun h205 => ?_) (fun h205 => ?_)
            ·
              obtain ⟨q1, q2, q3, q4, q5⟩ := hub_at hp.hti (h := u - tx) (by omega) (by omega)
              have hthh := hth (ht (u - tx)) q1 q2
              have htl := tot_le L2 nt q1 q2
              refine V_nil (X_next ?_)
              refine C_true rfl ?_
              refine C_seq ?_
              refine C_region ?_
              refine V_w0.q (QY_move rfl) rfl ?_
              refine V_w0.q (QY_move rfl) rfl ?_
              refine V_w0.q (QY_arith rfl rfl rfl ⟨by omega, by omega⟩) rfl ?_
              refine V_w0.q (QY_move rfl) rfl ?_
              refine V_w0.q (QY_move rfl) rfl ?_
              refine V_w0.q (QY_move rfl) rfl ?_
              refine V_call cb28 rfl (T := Int) (Φ := fun y => y = (lfL hb L2 Z2 ht (u - tx))) (val := fun y => .int .i32 y) (H' := fun _ => [(91, ⟨bE, n, n, ints .i32 es1⟩), (92, ⟨bQ, n, n, ints .i32 rs⟩), (93, ⟨bP, K, K, ints .i32 ps⟩), (94, ⟨bW0, sW0, ((0 : Nat) : Int), ints .i32 wk⟩)]) (fun w9 hm => (leaf28 w9 aHt aU aT hc nt nt hc nt nt A2 L2 L2 Z2 ht th (u - tx) ((hHt.rd).at hm) ((hU.rd).at hm) ⟨(hT.1.rd).at hm, fun i a b => ((hT.2 i a b).rd).at hm⟩ (by omega) (by omega) rfl q1 q2 (by omega) (by omega) (by omega) (by omega) (by omega)).mono fun e w2 ⟨y, h1, he, hM⟩ => ⟨y, by rw [h1, hthh]; rfl, he, hm.join0 hM⟩) rfl ?_
              intro y212 hy212
              subst hy212
              refine V_w0.q (QY_assign rfl) rfl ?_
              refine V_nil (X_next ?_)
              refine C_seq ?_
              refine C_region ?_
              refine V_w0.q (QY_move rfl) rfl ?_
              refine W_geq V_w0 rfl rfl rfl (fun h214 => ?_) (fun h214 => ?_)
              ·
                obtain ⟨hb1, hb2, hb3, _⟩ := hra.lfLr hp.hti (u := u) (by omega) (by omega) (by omega)
                have htl1 := tot_le L1 nl (i := (lfL hb L2 Z2 ht (u - tx))) (by omega) hb1
                refine V_nil (X_next ?_)
                refine C_true rfl ?_
                refine C_seq ?_
                refine C_region ?_
                refine V_w0.q (QY_move rfl) rfl ?_
                refine V_w0.q (QY_move rfl) rfl ?_
                refine W_elem V_w0 rfl rfl (hN.1.rd) (by omega) (by omega) sl42 lf22 rfl rfl (fun _ => ?_)
                refine V_w0.q (QY_len sl22 rfl) rfl ?_
                refine V_w0.q (QY_move rfl) rfl ?_
                refine V_nil (X_next ?_)
                refine C_block ?_
                refine C_loops (T := Int × (Int → Int) × Int) (fun (zz9 : Int × (Int → Int) × Int) => match zz9 with | (k, es4, ce4) => [(3, .slice aN nl nl), (4, .slice aR ns ns), (5, .slice aP ns ns), (6, .slice aQ ns ns), (7, .slice aT nt nt), (20, .int .i32 (n : Int)), (21, .int .i32 tx), (25, .slice aU nt nt), (26, .slice aHt hc hc), (27, .slice a1 (T + 1) c1), (28, .slice a2 m c2), (31, .slice (some ⟨bE, 0, none⟩) n n), (32, .slice (some ⟨bQ, 0, none⟩) n n), (33, .slice (some ⟨bP, 0, none⟩) K K), (34, .slice aW0 0 cW0), (35, .int .i32 u), (36, .int .i32 (u + 1)), (37, .int .i64 ce4), (218, .slice (A1 (lfL hb L2 Z2 ht (u - tx))) (L1 (lfL hb L2 Z2 ht (u - tx))) (L1 (lfL hb L2 Z2 ht (u - tx)))), (219, .int .i64 ((L1 (lfL hb L2 Z2 ht (u - tx)) : Nat) : Int)), (220, .int .i64 k)]) (fun (zz9 : Int × (Int → Int) × Int) => match zz9 with | (k, es4, ce4) => [(91, ⟨bE, n, n, ints .i32 es4⟩), (92, ⟨bQ, n, n, ints .i32 rs⟩), (93, ⟨bP, K, K, ints .i32 ps⟩), (94, ⟨bW0, sW0, ((0 : Nat) : Int), ints .i32 wk⟩)]) (fun (zz9 : Int × (Int → Int) × Int) => match zz9 with | (k, es4, ce4) => 0 ≤ k ∧ k ≤ ((L1 (lfL hb L2 Z2 ht (u - tx)) : Nat) : Int) ∧ Mk n u es4 (fun v => PSp L1 Z1 sr sl ss u ns v ∨ PLs Z1 (lfL hb L2 Z2 ht (u - tx)) 0 k v) ce4) (fun (zz9 : Int × (Int → Int) × Int) => match zz9 with | (k, es4, ce4) => (((L1 (lfL hb L2 Z2 ht (u - tx)) : Nat) : Int) - k).toNat) (0, es1, ce) ?_ ?_ ?_ ?_
                · exact ⟨by omega, by omega, hmk1.as fun x => ⟨fun h => h.resolve_right (fun ⟨i9, a, b, _⟩ => by omega), .inl⟩⟩
                · exact ⟨rfl, rfl, rfl, rfl, rfl, rfl, rfl, rfl, rfl, rfl, rfl, rfl, rfl, rfl, rfl, rfl, rfl, rfl, rfl, rfl, rfl, trivial⟩
                · exact ⟨rfl, rfl, rfl, rfl, trivial⟩
                rintro ⟨k, es4, ce4⟩ ⟨hk0, hk1, hmk4⟩
                show C _ _ _ _ _ _ [(3, .slice aN nl nl), (4, .slice aR ns ns), (5, .slice aP ns ns), (6, .slice aQ ns ns), (7, .slice aT nt nt), (20, .int .i32 (n : Int)), (21, .int .i32 tx), (25, .slice aU nt nt), (26, .slice aHt hc hc), (27, .slice a1 (T + 1) c1), (28, .slice a2 m c2), (31, .slice (some ⟨bE, 0, none⟩) n n), (32, .slice (some ⟨bQ, 0, none⟩) n n), (33, .slice (some ⟨bP, 0, none⟩) K K), (34, .slice aW0 0 cW0), (35, .int .i32 u), (36, .int .i32 (u + 1)), (37, .int .i64 ce4), (218, .slice (A1 (lfL hb L2 Z2 ht (u - tx))) (L1 (lfL hb L2 Z2 ht (u - tx))) (L1 (lfL hb L2 Z2 ht (u - tx)))), (219, .int .i64 ((L1 (lfL hb L2 Z2 ht (u - tx)) : Nat) : Int)), (220, .int .i64 k)] [(91, ⟨bE, n, n, ints .i32 es4⟩), (92, ⟨bQ, n, n, ints .i32 rs⟩), (93, ⟨bP, K, K, ints .i32 ps⟩), (94, ⟨bW0, sW0, ((0 : Nat) : Int), ints .i32 wk⟩)]
                refine C_seq ?_
                refine C_region ?_
                refine W_lss V_w0 rfl rfl rfl (fun h221 => ?_) (fun h221 => ?_)
                ·
                  have hnd9 := hra.nodes (lfL hb L2 Z2 ht (u - tx)) k (by omega) (by omega) hk0 (by omega)
                  have hcb := cntU_b es4 (u + 1) (k := (n : Int)) (by omega)
                  have hcc := hmk4.c
                  refine V_nil (X_next ?_)
                  refine C_seq ?_
                  refine C_true rfl ?_
                  refine C_skip (X_next ?_)
                  refine C_seq ?_
                  refine C_block ?_
                  refine C_seq ?_
                  refine C_region ?_
                  refine W_elem V_w0 rfl rfl ((hN.2 (lfL hb L2 Z2 ht (u - tx)) (by omega) hb1).rd) (by omega) (by omega) sl22 lf21 rfl rfl (fun _ => ?_)
                  refine V_w0.q (QY_assign rfl) rfl ?_
                  refine V_nil (X_next ?_)
                  refine C_seq ?_
                  refine C_region ?_
                  refine V_w0.q (QY_move rfl) rfl ?_
                  refine V_w0.q (QY_move rfl) rfl ?_
                  refine W_elem V_w0 rfl rfl (Rd_own (q := 91) rfl (by omega)) (by omega) (by omega) sl22 lf21 rfl rfl (fun _ => ?_)
                  refine V_w0.q (QY_move rfl) rfl ?_
                  refine W_neq V_w0 rfl rfl rfl (fun h229 => ?_) (fun h229 => ?_)
                  ·
                    refine V_nil (X_next ?_)
                    refine C_true rfl ?_
                    refine C_seq ?_
                    refine C_region ?_
                    refine V_w0.q (QY_move rfl) rfl ?_
                    refine V_w0.q (QY_move rfl) rfl ?_
                    refine V_w0.q (QY_move rfl) rfl ?_
                    refine V_set (q := 91) rfl rfl rfl rfl rfl (by omega) (by omega) (by omega) sl22 lf21 rfl rfl (upd_ints _ _ _ _) (fun _ => ?_)
                    refine V_nil (X_next ?_)
                    refine C_region ?_
                    refine V_w0.q (QY_move rfl) rfl ?_
                    refine V_w0.q (QY_arith rfl rfl rfl ⟨by omega, by omega⟩) rfl ?_
                    refine V_w0.q (QY_assign rfl) rfl ?_
                    refine V_nil (X_block (X_next ?_))
                    refine C_region ?_
                    refine V_w0.q (QY_arith rfl rfl rfl ⟨by omega, by omega⟩) rfl ?_
                    refine V_w0.q (QY_move rfl) rfl ?_
                    refine V_nil (X_then ?_)
                    refine X_round (k + 1, upd es4 (Z1 (lfL hb L2 Z2 ht (u - tx)) k) (u + 1), ce4 + 1) ?_ ?_ ?_ ?_
                    · exact ⟨by omega, by omega, hmk4.add (by omega) (by omega) (by omega) (fun x => by rw [PLs_succ (by omega), or_assoc])⟩
                    · show (((L1 (lfL hb L2 Z2 ht (u - tx)) : Nat) : Int) - (k + 1)).toNat < (((L1 (lfL hb L2 Z2 ht (u - tx)) : Nat) : Int) - k).toNat
                      omega
                    · exact ⟨rfl, rfl, rfl, rfl, rfl, rfl, rfl, rfl, rfl, rfl, rfl, rfl, rfl, rfl, rfl, rfl, rfl, rfl, rfl, rfl, rfl, trivial⟩
                    · exact ⟨rfl, rfl, rfl, rfl, trivial⟩
                  ·
                    refine V_nil (X_next ?_)
                    refine C_false rfl ?_
                    refine C_skip (X_block (X_next ?_))
                    refine C_region ?_
                    refine V_w0.q (QY_arith rfl rfl rfl ⟨by omega, by omega⟩) rfl ?_
                    refine V_w0.q (QY_move rfl) rfl ?_
                    refine V_nil (X_then ?_)
                    refine X_round (k + 1, es4, ce4) ?_ ?_ ?_ ?_
                    · exact ⟨by omega, by omega, hmk4.got (v := Z1 (lfL hb L2 Z2 ht (u - tx)) k) (by omega) (by omega) (by omega) (fun x => by rw [PLs_succ (by omega), or_assoc])⟩
                    · show (((L1 (lfL hb L2 Z2 ht (u - tx)) : Nat) : Int) - (k + 1)).toNat < (((L1 (lfL hb L2 Z2 ht (u - tx)) : Nat) : Int) - k).toNat
                      omega
                    · exact ⟨rfl, rfl, rfl, rfl, rfl, rfl, rfl, rfl, rfl, rfl, rfl, rfl, rfl, rfl, rfl, rfl, rfl, rfl, rfl, rfl, rfl, trivial⟩
                    · exact ⟨rfl, rfl, rfl, rfl, trivial⟩
                ·
                  obtain rfl : k = ((L1 (lfL hb L2 Z2 ht (u - tx)) : Nat) : Int) := by omega
                  refine V_nil (X_next ?_)
                  refine C_seq ?_
                  refine C_false rfl ?_
                  refine C_exit (X_then_exit (X_then_exit (X_block_exit (X_then ?_))))
                  refine X_cut (es4, ce4) ?_ ?_ ?_
                  · exact hmk4.as fun x => ⟨fun h => h.imp_right (fun h => h.2.2), fun h => h.imp_right (fun h => ⟨by omega, by omega, h⟩)⟩
                  · exact ⟨rfl, rfl, rfl, rfl, rfl, rfl, rfl, rfl, rfl, rfl, rfl, rfl, rfl, rfl, rfl, rfl, rfl, rfl, trivial⟩
                  · exact ⟨rfl, rfl, rfl, rfl, trivial⟩
              ·
                refine V_nil (X_next ?_)
                refine C_false rfl ?_
                refine C_skip (X_then ?_)
                refine X_cut (es1, ce) ?_ ?_ ?_
                · exact hmk1.as fun x => ⟨fun h => h.resolve_right (fun h => by have := h.2.1; omega), .inl⟩
                · exact ⟨rfl, rfl, rfl, rfl, rfl, rfl, rfl, rfl, rfl, rfl, rfl, rfl, rfl, rfl, rfl, rfl, rfl, rfl, trivial⟩
                · exact ⟨rfl, rfl, rfl, rfl, trivial⟩
            ·
              refine V_nil (X_next ?_)
              refine C_false rfl ?_
              refine C_skip (X_then ?_)
              refine X_cut (es1, ce) ?_ ?_ ?_
              · exact hmk1.as fun x => ⟨fun h => h.resolve_right (fun h => by have := h.1; omega), .inl⟩
              · exact ⟨rfl, rfl, rfl, rfl, rfl, rfl, rfl, rfl, rfl, rfl, rfl, rfl, rfl, rfl, rfl, rfl, rfl, rfl, trivial⟩
              · exact ⟨rfl, rfl, rfl, rfl, trivial⟩
          rintro ⟨es3, ce3⟩ hmk3
          show C _ _ _ _ _ _ [(3, .slice aN nl nl), (4, .slice aR ns ns), (5, .slice aP ns ns), (6, .slice aQ ns ns), (7, .slice aT nt nt), (20, .int .i32 (n : Int)), (21, .int .i32 tx), (25, .slice aU nt nt), (26, .slice aHt hc hc), (27, .slice a1 (T + 1) c1), (28, .slice a2 m c2), (31, .slice (some ⟨bE, 0, none⟩) n n), (32, .slice (some ⟨bQ, 0, none⟩) n n), (33, .slice (some ⟨bP, 0, none⟩) K K), (34, .slice aW0 0 cW0), (35, .int .i32 u), (36, .int .i32 (u + 1)), (37, .int .i64 ce3)] [(91, ⟨bE, n, n, ints .i32 es3⟩), (92, ⟨bQ, n, n, ints .i32 rs⟩), (93, ⟨bP, K, K, ints .i32 ps⟩), (94, ⟨bW0, sW0, ((0 : Nat) : Int), ints .i32 wk⟩)]
          refine C_seq ?_
          refine C_region ?_
          refine V_w0.q (QY_assign rfl) rfl ?_
          refine V_nil (X_next ?_)
          refine C_seq ?_
          refine C_region ?_
          refine V_w0.q (QY_move rfl) rfl ?_
          refine V_w0.q (QY_slice_hi sl22 rfl rfl (by omega) (by omega) (by omega)) rfl ?_
          refine V_w0.q (QY_assign rfl) rfl ?_
          refine V_nil (X_next ?_)
          refine C_seq ?_
          refine C_seq ?_
          refine C_region ?_
          refine V_w0.q (QY_move rfl) rfl ?_
          refine V_w0.q (QY_move rfl) rfl ?_
          refine W_elem V_w0 rfl rfl (hrf.rd) (by omega) (by omega) sl22 lf21 rfl rfl (fun _ => ?_)
          refine V_w0.q (QY_assign rfl) rfl ?_
          refine V_nil (X_next ?_)
          refine C_block ?_
          refine C_loops (T := Int × (Int → Int) × (Int → Int) × Nat × Nat × Nat × Option Addr × Nat) (fun (zz9 : Int × (Int → Int) × (Int → Int) × Nat × Nat × Nat × Option Addr × Nat) => match zz9 with | (e, ps1, wk1, q, bW1, sW1, aW1, cW1) => [(3, .slice aN nl nl), (4, .slice aR ns ns), (5, .slice aP ns ns), (6, .slice aQ ns ns), (7, .slice aT nt nt), (20, .int .i32 (n : Int)), (21, .int .i32 tx), (25, .slice aU nt nt), (26, .slice aHt hc hc), (27, .slice a1 (T + 1) c1), (28, .slice a2 m c2), (31, .slice (some ⟨bE, 0, none⟩) n n), (32, .slice (some ⟨bQ, 0, none⟩) n n), (33, .slice (some ⟨bP, 0, none⟩) K K), (34, .slice aW1 q cW1), (35, .int .i32 u), (36, .int .i32 (u + 1)), (37, .int .i64 ce3), (45, .int .i64 0), (46, .int .i32 e)]) (fun (zz9 : Int × (Int → Int) × (Int → Int) × Nat × Nat × Nat × Option Addr × Nat) => match zz9 with | (e, ps1, wk1, q, bW1, sW1, aW1, cW1) => [(91, ⟨bE, n, n, ints .i32 es3⟩), (92, ⟨bQ, n, n, ints .i32 rs⟩), (93, ⟨bP, K, K, ints .i32 ps1⟩), (94, ⟨bW1, sW1, ((q : Nat) : Int), ints .i32 wk1⟩)]) (fun (zz9 : Int × (Int → Int) × (Int → Int) × Nat × Nat × Nat × Option Addr × Nat) => match zz9 with | (e, ps1, wk1, q, bW1, sW1, aW1, cW1) => rf u ≤ e ∧ e ≤ rf (u + 1) ∧ WI n T rf ro u (Gd ns tx (rel lf lt L1) sr sl ss (lfL hb L2 Z2 ht) u) es3 rs ps1 wk1 q 0 (-1) ∧ (∀ e9, rf u ≤ e9 → e9 < e → (n : Int) ≤ ro e9 → ps1 (ro e9 - n) = u + 1) ∧ (q : Int) + ((K : Int) - cntU ps1 (u + 1) K) ≤ K ∧ Gs ⟨bW1, sW1, ((q : Nat) : Int), ints .i32 wk1⟩ 1 q (.slice aW1 q cW1)) (fun (zz9 : Int × (Int → Int) × (Int → Int) × Nat × Nat × Nat × Option Addr × Nat) => match zz9 with | (e, ps1, wk1, q, bW1, sW1, aW1, cW1) => (rf (u + 1) - e).toNat) (rf u, ps, wk, 0, bW0, sW0, aW0, cW0) ?_ ?_ ?_ ?_
          · exact ⟨by omega, by omega, WI.start (fun x a b => hps x a (by omega)) hrs, fun e9 a b c => by omega, by have := cntU_b ps (u + 1) (k := (K : Int)) (by omega); omega, gW0⟩
          · exact ⟨rfl, rfl, rfl, rfl, rfl, rfl, rfl, rfl, rfl, rfl, rfl, rfl, rfl, rfl, rfl, rfl, rfl, rfl, rfl, rfl, trivial⟩
          · exact ⟨rfl, rfl, rfl, rfl, trivial⟩
          rintro ⟨e, ps1, wk1, q, bW1, sW1, aW1, cW1⟩ ⟨he0, he1, hwi, hsrc, hqu, gW1⟩
          show C _ _ _ _ _ _ [(3, .slice aN nl nl), (4, .slice aR ns ns), (5, .slice aP ns ns), (6, .slice aQ ns ns), (7, .slice aT nt nt), (20, .int .i32 (n : Int)), (21, .int .i32 tx), (25, .slice aU nt nt), (26, .slice aHt hc hc), (27, .slice a1 (T + 1) c1), (28, .slice a2 m c2), (31, .slice (some ⟨bE, 0, none⟩) n n), (32, .slice (some ⟨bQ, 0, none⟩) n n), (33, .slice (some ⟨bP, 0, none⟩) K K), (34, .slice aW1 q cW1), (35, .int .i32 u), (36, .int .i32 (u + 1)), (37, .int .i64 ce3), (45, .int .i64 0), (46, .int .i32 e)] [(91, ⟨bE, n, n, ints .i32 es3⟩), (92, ⟨bQ, n, n, ints .i32 rs⟩), (93, ⟨bP, K, K, ints .i32 ps1⟩), (94, ⟨bW1, sW1, ((q : Nat) : Int), ints .i32 wk1⟩)]
          refine C_seq ?_
          refine C_seq ?_
          refine C_region ?_
          refine V_w0.q (QY_move rfl) rfl ?_
          refine V_w0.q (QY_move rfl) rfl ?_
          refine V_w0.q (QY_move rfl) rfl ?_
          refine V_w0.q (QY_arith rfl rfl rfl ⟨by omega, by omega⟩) rfl ?_
          refine W_elem V_w0 rfl rfl (hrf.rd) (by omega) (by omega) sl22 lf21 rfl rfl (fun _ => ?_)
          refine W_lss V_w0 rfl rfl rfl (fun h249 => ?_) (fun h249 => ?_)
          ·
            have hrg := hra.range (e := e) (by omega) (by omega)
            have hcp := cntU_b ps1 (u + 1) (k := (K : Int)) (by omega)
            refine V_nil (X_next ?_)
            refine C_true rfl ?_
            refine C_skip (X_next ?_)
            refine C_seq ?_
            refine C_block ?_
            refine C_seq ?_
            refine C_region ?_
            refine V_w0.q (QY_move rfl) rfl ?_
            refine V_w0.q (QY_move rfl) rfl ?_
            refine W_elem V_w0 rfl rfl (hro.rd) (by omega) (by omega) sl22 lf21 rfl rfl (fun _ => ?_)
            refine V_w0.q (QY_assign rfl) rfl ?_
            refine V_nil (X_next ?_)
            refine C_seq ?_
            refine C_region ?_
            refine V_w0.q (QY_move rfl) rfl ?_
            refine V_w0.q (QY_move rfl) rfl ?_
            refine W_geq V_w0 rfl rfl rfl (fun h258 => ?_) (fun h258 => ?_)
            ·
              refine V_w0.q (QY_move rfl) rfl ?_
              refine V_walk.yes rfl rfl ?_
              refine V_w0.q (QY_move rfl) rfl ?_
              refine V_walk.yes rfl rfl ?_
              refine V_w0.q (QY_move rfl) rfl ?_
              refine V_walk.yes rfl rfl ?_
              refine V_w0.q (QY_move rfl) rfl ?_
              refine V_walk.yes rfl rfl ?_
              refine V_w0.q (QY_arith rfl rfl rfl ⟨by omega, by omega⟩) rfl ?_
              refine V_walk.yes rfl rfl ?_
              refine W_elem2 V_walk rfl (fun _ => rfl) rfl rfl (Rd_own (q := 93) rfl (by omega)) (by omega) (by omega) sl22 lf21 rfl rfl (fun _ => ?_)
              refine V_walk.yes rfl rfl ?_
              refine V_w0.q (QY_move rfl) rfl ?_
              refine V_walk.yes rfl rfl ?_
              refine W_neq V_w0 rfl rfl rfl (fun h267 => ?_) (fun h267 => ?_)
              ·
                refine V_w0.q (QY_pick_true rfl rfl) rfl ?_
                refine V_nil (X_next ?_)
                refine C_true rfl ?_
                refine C_seq ?_
                refine C_region ?_
                refine V_w0.q (QY_move rfl) rfl ?_
                refine V_w0.q (QY_move rfl) rfl ?_
                refine V_w0.q (QY_move rfl) rfl ?_
                refine V_w0.q (QY_arith rfl rfl rfl ⟨by omega, by omega⟩) rfl ?_
                refine V_w0.q (QY_move rfl) rfl ?_
                refine V_set (q := 93) rfl rfl rfl rfl rfl (by omega) (by omega) (by omega) sl22 lf21 rfl rfl (upd_ints _ _ _ _) (fun _ => ?_)
                refine V_nil (X_next ?_)
                refine C_region ?_
                refine V_w0.q (QY_move rfl) rfl ?_
                refine V_w0.q (QY_move rfl) rfl ?_
                refine V_app (q := 94) mk22 rfl rfl (fun _ => rfl) gW1 (by omega) rfl rfl (by omega) (by omega) rfl rfl (upd_ints _ _ _ _) ?_
                intro _ sv2 bW2 sW2 hsW2 gW2
                obtain ⟨aW2, cW2, rfl⟩ := gW2.slice
                refine V_w0.q (QY_assign rfl) rfl ?_
                refine V_nil (X_block (X_next ?_))
                refine C_region ?_
                refine V_w0.q (QY_move rfl) rfl ?_
                refine V_w0.q (QY_arith rfl rfl rfl ⟨by omega, by omega⟩) rfl ?_
                refine V_w0.q (QY_assign rfl) rfl ?_
                refine V_nil (X_then ?_)
                refine X_round (e + 1, upd ps1 (ro e - n) (u + 1), upd wk1 (q : Int) (ro e), q + 1, bW2, sW2, aW2, cW2) ?_ ?_ ?_ ?_
                · have hcu := cntU_upd (es := ps1) (s := u + 1) (v := ro e - n) K (by omega) (by omega) (by omega)
                  refine ⟨by omega, by omega, hwi.push (y := ro e - n) (by omega) (by omega) (by omega) (hra.src hp.hti hu0 (by omega) he0 (by omega) (by omega)), fun e9 a b c => ?_, by omega, gW2⟩
                  by_cases k : ro e9 - n = ro e - n
                  · rw [k]; exact upd_same _ _ _
                  · rw [upd_other _ _ _ k]
                    exact hsrc e9 a (by by_cases h : e9 = e; (subst h; omega); omega) c
                · show (rf (u + 1) - (e + 1)).toNat < (rf (u + 1) - e).toNat
                  omega
                · exact ⟨rfl, rfl, rfl, rfl, rfl, rfl, rfl, rfl, rfl, rfl, rfl, rfl, rfl, rfl, rfl, rfl, rfl, rfl, rfl, rfl, trivial⟩
                · exact ⟨rfl, rfl, rfl, rfl, trivial⟩
              ·
                refine V_w0.q (QY_pick_true rfl rfl) rfl ?_
                refine V_nil (X_next ?_)
                refine C_false rfl ?_
                refine C_skip (X_block (X_next ?_))
                refine C_region ?_
                refine V_w0.q (QY_move rfl) rfl ?_
                refine V_w0.q (QY_arith rfl rfl rfl ⟨by omega, by omega⟩) rfl ?_
                refine V_w0.q (QY_assign rfl) rfl ?_
                refine V_nil (X_then ?_)
                refine X_round (e + 1, ps1, wk1, q, bW1, sW1, aW1, cW1) ?_ ?_ ?_ ?_
                · refine ⟨by omega, by omega, hwi, fun e9 a b c => ?_, by omega, gW1⟩
                  by_cases h : e9 = e
                  · subst h; omega
                  · exact hsrc e9 a (by omega) c
                · show (rf (u + 1) - (e + 1)).toNat < (rf (u + 1) - e).toNat
                  omega
                · exact ⟨rfl, rfl, rfl, rfl, rfl, rfl, rfl, rfl, rfl, rfl, rfl, rfl, rfl, rfl, rfl, rfl, rfl, rfl, rfl, rfl, trivial⟩
                · exact ⟨rfl, rfl, rfl, rfl, trivial⟩
            ·
              refine V_w0.q (QY_move rfl) rfl ?_
              refine V_walk.no rfl rfl rfl ?_
              refine V_walk.no rfl rfl rfl ?_
              refine V_walk.no rfl rfl rfl ?_
              refine V_walk.no rfl rfl rfl ?_
              refine V_walk.no rfl rfl rfl ?_
              refine V_walk.no rfl rfl rfl ?_
              refine V_walk.no rfl rfl rfl ?_
              refine V_walk.no rfl rfl rfl ?_
              refine V_w0.q (QY_pick_false rfl rfl) rfl ?_
              refine V_nil (X_next ?_)
              refine C_false rfl ?_
              refine C_skip (X_block (X_next ?_))
              refine C_region ?_
              refine V_w0.q (QY_move rfl) rfl ?_
              refine V_w0.q (QY_arith rfl rfl rfl ⟨by omega, by omega⟩) rfl ?_
              refine V_w0.q (QY_assign rfl) rfl ?_
              refine V_nil (X_then ?_)
              refine X_round (e + 1, ps1, wk1, q, bW1, sW1, aW1, cW1) ?_ ?_ ?_ ?_
              · refine ⟨by omega, by omega, hwi, fun e9 a b c => ?_, by omega, gW1⟩
                by_cases h : e9 = e
                · subst h; omega
                · exact hsrc e9 a (by omega) c
              · show (rf (u + 1) - (e + 1)).toNat < (rf (u + 1) - e).toNat
                omega
              · exact ⟨rfl, rfl, rfl, rfl, rfl, rfl, rfl, rfl, rfl, rfl, rfl, rfl, rfl, rfl, rfl, rfl, rfl, rfl, rfl, rfl, trivial⟩
              · exact ⟨rfl, rfl, rfl, rfl, trivial⟩
          ·
            refine V_nil (X_next ?_)
            refine C_false rfl ?_
            refine C_exit (X_then_exit (X_then_exit (X_block_exit (X_next ?_))))
            refine C_seq ?_
            refine C_block ?_
            refine C_loops (T := (Int → Int) × (Int → Int) × (Int → Int) × Nat × Int × Nat × Nat × Option Addr × Nat) (fun (zz9 : (Int → Int) × (Int → Int) × (Int → Int) × Nat × Int × Nat × Nat × Option Addr × Nat) => match zz9 with | (rs1, ps2, wk2, q2, cr, bW3, sW3, aW3, cW3) => [(3, .slice aN nl nl), (4, .slice aR ns ns), (5, .slice aP ns ns), (6, .slice aQ ns ns), (7, .slice aT nt nt), (20, .int .i32 (n : Int)), (21, .int .i32 tx), (25, .slice aU nt nt), (26, .slice aHt hc hc), (27, .slice a1 (T + 1) c1), (28, .slice a2 m c2), (31, .slice (some ⟨bE, 0, none⟩) n n), (32, .slice (some ⟨bQ, 0, none⟩) n n), (33, .slice (some ⟨bP, 0, none⟩) K K), (34, .slice aW3 q2 cW3), (35, .int .i32 u), (36, .int .i32 (u + 1)), (37, .int .i64 ce3), (45, .int .i64 cr)]) (fun (zz9 : (Int → Int) × (Int → Int) × (Int → Int) × Nat × Int × Nat × Nat × Option Addr × Nat) => match zz9 with | (rs1, ps2, wk2, q2, cr, bW3, sW3, aW3, cW3) => [(91, ⟨bE, n, n, ints .i32 es3⟩), (92, ⟨bQ, n, n, ints .i32 rs1⟩), (93, ⟨bP, K, K, ints .i32 ps2⟩), (94, ⟨bW3, sW3, ((q2 : Nat) : Int), ints .i32 wk2⟩)]) (fun (zz9 : (Int → Int) × (Int → Int) × (Int → Int) × Nat × Int × Nat × Nat × Option Addr × Nat) => match zz9 with | (rs1, ps2, wk2, q2, cr, bW3, sW3, aW3, cW3) => WI n T rf ro u (Gd ns tx (rel lf lt L1) sr sl ss (lfL hb L2 Z2 ht) u) es3 rs1 ps2 wk2 q2 cr (-1) ∧ (∀ e9, rf u ≤ e9 → e9 < rf (u + 1) → (n : Int) ≤ ro e9 → ps2 (ro e9 - n) = u + 1) ∧ (q2 : Int) + ((K : Int) - cntU ps2 (u + 1) K) ≤ K ∧ Gs ⟨bW3, sW3, ((q2 : Nat) : Int), ints .i32 wk2⟩ 1 q2 (.slice aW3 q2 cW3)) (fun (zz9 : (Int → Int) × (Int → Int) × (Int → Int) × Nat × Int × Nat × Nat × Option Addr × Nat) => match zz9 with | (rs1, ps2, wk2, q2, cr, bW3, sW3, aW3, cW3) => (2 * ((K : Int) - cntU ps2 (u + 1) K) + q2).toNat) (rs, ps1, wk1, q, 0, bW1, sW1, aW1, cW1) ?_ ?_ ?_ ?_
            · exact ⟨hwi, fun e9 a b c => hsrc e9 a (by omega) c, hqu, gW1⟩
            · exact ⟨rfl, rfl, rfl, rfl, rfl, rfl, rfl, rfl, rfl, rfl, rfl, rfl, rfl, rfl, rfl, rfl, rfl, rfl, rfl, trivial⟩
            · exact ⟨rfl, rfl, rfl, rfl, trivial⟩
            rintro ⟨rs1, ps2, wk2, q2, cr, bW3, sW3, aW3, cW3⟩ ⟨hwi2, hsrc2, hqu2, gW3⟩
            show C _ _ _ _ _ _ [(3, .slice aN nl nl), (4, .slice aR ns ns), (5, .slice aP ns ns), (6, .slice aQ ns ns), (7, .slice aT nt nt), (20, .int .i32 (n : Int)), (21, .int .i32 tx), (25, .slice aU nt nt), (26, .slice aHt hc hc), (27, .slice a1 (T + 1) c1), (28, .slice a2 m c2), (31, .slice (some ⟨bE, 0, none⟩) n n), (32, .slice (some ⟨bQ, 0, none⟩) n n), (33, .slice (some ⟨bP, 0, none⟩) K K), (34, .slice aW3 q2 cW3), (35, .int .i32 u), (36, .int .i32 (u + 1)), (37, .int .i64 ce3), (45, .int .i64 cr)] [(91, ⟨bE, n, n, ints .i32 es3⟩), (92, ⟨bQ, n, n, ints .i32 rs1⟩), (93, ⟨bP, K, K, ints .i32 ps2⟩), (94, ⟨bW3, sW3, ((q2 : Nat) : Int), ints .i32 wk2⟩)]
            refine C_seq ?_
            refine C_seq ?_
            refine C_region ?_
            refine V_w0.q (QY_move rfl) rfl ?_
            refine V_w0.q (QY_len sl22 rfl) rfl ?_
            refine W_gtr V_w0 rfl rfl rfl (fun h281 => ?_) (fun h281 => ?_)
            ·
              have hwc := (gW3.some (by omega)).2.2
              have hX := hwi2.wb ((q2 : Int) - 1) (by omega) (by omega)
              obtain ⟨hE1, hE2, hE⟩ := hra.rel2 hX.1 hX.2.1
              have hxb0 := hra.rfb (u := (wk2 ((q2 : Int) - 1))) (by omega) (by omega)
              have hxb1 := hra.rfb (u := (wk2 ((q2 : Int) - 1)) + 1) (by omega) (by omega)
              have hGX := hwi2.pg ((wk2 ((q2 : Int) - 1)) - n) (by omega) (by omega) hX.2.2
              have hih := hra.inHand hp.hti (show u < (n : Int) by omega) hmk3 hX.1 hX.2.1 hGX
              have hcp2 := cntU_b ps2 (u + 1) (k := (K : Int)) (by omega)
              refine V_nil (X_next ?_)
              refine C_true rfl ?_
              refine C_skip (X_next ?_)
              refine C_block ?_
              refine C_seq ?_
              refine C_region ?_
              refine V_w0.q (QY_move rfl) rfl ?_
              refine V_w0.q (QY_move rfl) rfl ?_
              refine V_w0.q (QY_len sl22 rfl) rfl ?_
              refine V_w0.q (QY_arith rfl rfl rfl ⟨by omega, by omega⟩) rfl ?_
              refine W_elem V_w0 rfl rfl (Gs.rd (q := 94) rfl gW3 (Int.le_refl _)) (by omega) (by omega) sl22 lf21 rfl rfl (fun _ => ?_)
              refine V_w0.q (QY_assign rfl) rfl ?_
              refine V_nil (X_next ?_)
              refine C_seq ?_
              refine C_region ?_
              refine V_w0.q (QY_move rfl) rfl ?_
              refine V_w0.q (QY_move rfl) rfl ?_
              refine V_w0.q (QY_len sl22 rfl) rfl ?_
              refine V_w0.q (QY_arith rfl rfl rfl ⟨by omega, by omega⟩) rfl ?_
              refine V_w0.q (QY_slice_hi sl22 rfl rfl (by omega) (by omega) (by omega)) rfl ?_
              refine V_w0.q (QY_assign rfl) rfl ?_
              refine V_nil (X_next ?_)
              refine C_seq ?_
              refine C_mem (fun w hm => hm.say (q := 94) rfl (n := ((((q2 : Int) - 1).toNat : Nat) : Int)) (by show _ ≤ ((q2 : Nat) : Int); omega) (fun i _ _ => rfl)) ?_
              refine C_region ?_
              refine V_w0.q (QY_move rfl) rfl ?_
              refine V_w0.q (QY_move rfl) rfl ?_
              refine W_elem V_w0 rfl rfl (hrf.rd) (by omega) (by omega) sl22 lf21 rfl rfl (fun _ => ?_)
              refine V_w0.q (QY_assign rfl) rfl ?_
              refine V_nil (X_next ?_)
              refine C_block ?_
              refine C_loops (T := Int × (Int → Int) × (Int → Int) × (Int → Int) × Nat × Int × Nat × Nat × Option Addr × Nat) (fun (zz9 : Int × (Int → Int) × (Int → Int) × (Int → Int) × Nat × Int × Nat × Nat × Option Addr × Nat) => match zz9 with | (e, rs3, ps3, wk3, q3, cr3, bW4, sW4, aW4, cW4) => [(3, .slice aN nl nl), (4, .slice aR ns ns), (5, .slice aP ns ns), (6, .slice aQ ns ns), (7, .slice aT nt nt), (20, .int .i32 (n : Int)), (21, .int .i32 tx), (25, .slice aU nt nt), (26, .slice aHt hc hc), (27, .slice a1 (T + 1) c1), (28, .slice a2 m c2), (31, .slice (some ⟨bE, 0, none⟩) n n), (32, .slice (some ⟨bQ, 0, none⟩) n n), (33, .slice (some ⟨bP, 0, none⟩) K K), (34, .slice aW4 q3 cW4), (35, .int .i32 u), (36, .int .i32 (u + 1)), (37, .int .i64 ce3), (45, .int .i64 cr3), (48, .int .i32 (wk2 ((q2 : Int) - 1))), (49, .int .i32 e)]) (fun (zz9 : Int × (Int → Int) × (Int → Int) × (Int → Int) × Nat × Int × Nat × Nat × Option Addr × Nat) => match zz9 with | (e, rs3, ps3, wk3, q3, cr3, bW4, sW4, aW4, cW4) => [(91, ⟨bE, n, n, ints .i32 es3⟩), (92, ⟨bQ, n, n, ints .i32 rs3⟩), (93, ⟨bP, K, K, ints .i32 ps3⟩), (94, ⟨bW4, sW4, ((q3 : Nat) : Int), ints .i32 wk3⟩)]) (fun (zz9 : Int × (Int → Int) × (Int → Int) × (Int → Int) × Nat × Int × Nat × Nat × Option Addr × Nat) => match zz9 with | (e, rs3, ps3, wk3, q3, cr3, bW4, sW4, aW4, cW4) => rf (wk2 ((q2 : Int) - 1)) ≤ e ∧ e ≤ rf ((wk2 ((q2 : Int) - 1)) + 1) ∧ WI n T rf ro u (Gd ns tx (rel lf lt L1) sr sl ss (lfL hb L2 Z2 ht) u) es3 rs3 ps3 wk3 q3 cr3 ((wk2 ((q2 : Int) - 1)) - n) ∧ (∀ e9, rf u ≤ e9 → e9 < rf (u + 1) → (n : Int) ≤ ro e9 → ps3 (ro e9 - n) = u + 1) ∧ (rf (wk2 ((q2 : Int) - 1)) < e → rs3 (ro (rf (wk2 ((q2 : Int) - 1)))) = u + 1) ∧ (rf (wk2 ((q2 : Int) - 1)) + 1 < e → ps3 ((wk2 ((q2 : Int) - 1)) - n + 1) = u + 1) ∧ (q3 : Int) + ((K : Int) - cntU ps3 (u + 1) K) ≤ K ∧ 2 * ((K : Int) - cntU ps3 (u + 1) K) + (q3 : Int) ≤ 2 * ((K : Int) - cntU ps2 (u + 1) K) + q2 - 1 ∧ Gs ⟨bW4, sW4, ((q3 : Nat) : Int), ints .i32 wk3⟩ 1 q3 (.slice aW4 q3 cW4)) (fun (zz9 : Int × (Int → Int) × (Int → Int) × (Int → Int) × Nat × Int × Nat × Nat × Option Addr × Nat) => match zz9 with | (e, rs3, ps3, wk3, q3, cr3, bW4, sW4, aW4, cW4) => (rf ((wk2 ((q2 : Int) - 1)) + 1) - e).toNat) (rf (wk2 ((q2 : Int) - 1)), rs1, ps2, wk2, ((q2 : Int) - 1).toNat, cr, bW3, sW3, aW3, cW3) ?_ ?_ ?_ ?_
              · exact ⟨by omega, by omega, hwi2.pop (by omega), hsrc2, fun h9 => by omega, fun h9 => by omega, by omega, by omega, gW3.shrink (by omega) (by omega)⟩
              · exact ⟨rfl, rfl, rfl, rfl, rfl, rfl, rfl, rfl, rfl, rfl, rfl, rfl, rfl, rfl, rfl, rfl, rfl, rfl, rfl, rfl, rfl, trivial⟩
              · exact ⟨rfl, rfl, rfl, rfl, trivial⟩
              rintro ⟨e, rs3, ps3, wk3, q3, cr3, bW4, sW4, aW4, cW4⟩ ⟨he0, he1, hwi3, hsrc3, hd1, hd2, hqu3, hme3, gW4⟩
              show C _ _ _ _ _ _ [(3, .slice aN nl nl), (4, .slice aR ns ns), (5, .slice aP ns ns), (6, .slice aQ ns ns), (7, .slice aT nt nt), (20, .int .i32 (n : Int)), (21, .int .i32 tx), (25, .slice aU nt nt), (26, .slice aHt hc hc), (27, .slice a1 (T + 1) c1), (28, .slice a2 m c2), (31, .slice (some ⟨bE, 0, none⟩) n n), (32, .slice (some ⟨bQ, 0, none⟩) n n), (33, .slice (some ⟨bP, 0, none⟩) K K), (34, .slice aW4 q3 cW4), (35, .int .i32 u), (36, .int .i32 (u + 1)), (37, .int .i64 ce3), (45, .int .i64 cr3), (48, .int .i32 (wk2 ((q2 : Int) - 1))), (49, .int .i32 e)] [(91, ⟨bE, n, n, ints .i32 es3⟩), (92, ⟨bQ, n, n, ints .i32 rs3⟩), (93, ⟨bP, K, K, ints .i32 ps3⟩), (94, ⟨bW4, sW4, ((q3 : Nat) : Int), ints .i32 wk3⟩)]
              refine C_seq ?_
              refine C_seq ?_
              refine C_region ?_
              refine V_w0.q (QY_move rfl) rfl ?_
              refine V_w0.q (QY_move rfl) rfl ?_
              refine V_w0.q (QY_move rfl) rfl ?_
              refine V_w0.q (QY_arith rfl rfl rfl ⟨by omega, by omega⟩) rfl ?_
              refine W_elem V_w0 rfl rfl (hrf.rd) (by omega) (by omega) sl22 lf21 rfl rfl (fun _ => ?_)
              refine W_lss V_w0 rfl rfl rfl (fun h303 => ?_) (fun h303 => ?_)
              ·
                have hrg := hra.range (e := e) (by omega) (by omega)
                have hE9 := hE e he0 (by omega)
                have hcp := cntU_b ps3 (u + 1) (k := (K : Int)) (by omega)
                have hcr := cntU_b rs3 (u + 1) (k := (n : Int)) (by omega)
                have hcc := hwi3.rc
                refine V_nil (X_next ?_)
                refine C_true rfl ?_
                refine C_skip (X_next ?_)
                refine C_seq ?_
                refine C_block ?_
                refine C_seq ?_
                refine C_region ?_
                refine V_w0.q (QY_move rfl) rfl ?_
                refine V_w0.q (QY_move rfl) rfl ?_
                refine W_elem V_w0 rfl rfl (hro.rd) (by omega) (by omega) sl22 lf21 rfl rfl (fun _ => ?_)
                refine V_w0.q (QY_assign rfl) rfl ?_
                refine V_nil (X_next ?_)
                refine C_seq ?_
                refine C_seq ?_
                refine C_region ?_
                refine V_w0.q (QY_move rfl) rfl ?_
                refine V_w0.q (QY_move rfl) rfl ?_
                refine W_geq V_w0 rfl rfl rfl (fun h312 => ?_) (fun h312 => ?_)
                ·
                  have hne : ¬ e = rf (wk2 ((q2 : Int) - 1)) := fun h => by have := hE9.2.2 h; omega
                  refine V_nil (X_next ?_)
                  refine C_true rfl ?_
                  refine C_seq ?_
                  refine C_seq ?_
                  refine C_region ?_
                  refine V_w0.q (QY_move rfl) rfl ?_
                  refine V_w0.q (QY_move rfl) rfl ?_
                  refine V_w0.q (QY_move rfl) rfl ?_
                  refine V_w0.q (QY_arith rfl rfl rfl ⟨by omega, by omega⟩) rfl ?_
                  refine W_elem V_w0 rfl rfl (Rd_own (q := 93) rfl (by omega)) (by omega) (by omega) sl22 lf21 rfl rfl (fun _ => ?_)
                  refine V_w0.q (QY_move rfl) rfl ?_
                  refine W_neq V_w0 rfl rfl rfl (fun h320 => ?_) (fun h320 => ?_)
                  ·
                    refine V_nil (X_next ?_)
                    refine C_true rfl ?_
                    refine C_seq ?_
                    refine C_region ?_
                    refine V_w0.q (QY_move rfl) rfl ?_
                    refine V_w0.q (QY_move rfl) rfl ?_
                    refine V_w0.q (QY_move rfl) rfl ?_
                    refine V_w0.q (QY_arith rfl rfl rfl ⟨by omega, by omega⟩) rfl ?_
                    refine V_w0.q (QY_move rfl) rfl ?_
                    refine V_set (q := 93) rfl rfl rfl rfl rfl (by omega) (by omega) (by omega) sl22 lf21 rfl rfl (upd_ints _ _ _ _) (fun _ => ?_)
                    refine V_nil (X_next ?_)
                    refine C_region ?_
                    refine V_w0.q (QY_move rfl) rfl ?_
                    refine V_w0.q (QY_move rfl) rfl ?_
                    refine V_app (q := 94) mk22 rfl rfl (fun _ => rfl) gW4 (by omega) rfl rfl (by omega) (by omega) rfl rfl (upd_ints _ _ _ _) ?_
                    intro _ sv5 bW5 sW5 hsW5 gW5
                    obtain ⟨aW5, cW5, rfl⟩ := gW5.slice
                    refine V_w0.q (QY_assign rfl) rfl ?_
                    refine V_nil (X_next ?_)
                    refine C_exit (X_then_exit (X_block_exit (X_next ?_)))
                    refine C_region ?_
                    refine V_w0.q (QY_move rfl) rfl ?_
                    refine V_w0.q (QY_arith rfl rfl rfl ⟨by omega, by omega⟩) rfl ?_
                    refine V_w0.q (QY_assign rfl) rfl ?_
                    refine V_nil (X_then ?_)
                    refine X_round (e + 1, rs3, upd ps3 (ro e - n) (u + 1), upd wk3 (q3 : Int) (ro e), q3 + 1, cr3, bW5, sW5, aW5, cW5) ?_ ?_ ?_ ?_
                    · have hcu := cntU_upd (es := ps3) (s := u + 1) (v := ro e - n) K (by omega) (by omega) (by omega)
                      have hre : ro e = (wk2 ((q2 : Int) - 1)) + 1 := by rw [show e = rf (wk2 ((q2 : Int) - 1)) + 1 from by omega]; exact (hra.rel3 hX.1 hX.2.1 (by omega)).1
                      have hgn : (Gd ns tx (rel lf lt L1) sr sl ss (lfL hb L2 Z2 ht) u) (ro e - n) := by rw [show ro e - n = (wk2 ((q2 : Int) - 1)) - n + 1 from by omega]; exact hih.2 (by omega)
                      refine ⟨by omega, by omega, hwi3.push (y := ro e - n) (by omega) (by omega) (by omega) hgn, fun e9 a b c => ?_, fun h9 => hd1 (by omega), fun h9 => ?_, by omega, by omega, gW5⟩
                      · by_cases k : ro e9 - n = ro e - n
                        · rw [k]; exact upd_same _ _ _
                        · rw [upd_other _ _ _ k]; exact hsrc3 e9 a b c
                      · rw [show (wk2 ((q2 : Int) - 1)) - n + 1 = ro e - n from by omega]; exact upd_same _ _ _
                    · show (rf ((wk2 ((q2 : Int) - 1)) + 1) - (e + 1)).toNat < (rf ((wk2 ((q2 : Int) - 1)) + 1) - e).toNat
                      omega
                    · exact ⟨rfl, rfl, rfl, rfl, rfl, rfl, rfl, rfl, rfl, rfl, rfl, rfl, rfl, rfl, rfl, rfl, rfl, rfl, rfl, rfl, rfl, trivial⟩
                    · exact ⟨rfl, rfl, rfl, rfl, trivial⟩
                  ·
                    refine V_nil (X_next ?_)
                    refine C_false rfl ?_
                    refine C_skip (X_next ?_)
                    refine C_exit (X_then_exit (X_block_exit (X_next ?_)))
                    refine C_region ?_
                    refine V_w0.q (QY_move rfl) rfl ?_
                    refine V_w0.q (QY_arith rfl rfl rfl ⟨by omega, by omega⟩) rfl ?_
                    refine V_w0.q (QY_assign rfl) rfl ?_
                    refine V_nil (X_then ?_)
                    refine X_round (e + 1, rs3, ps3, wk3, q3, cr3, bW4, sW4, aW4, cW4) ?_ ?_ ?_ ?_
                    · have hre : ro e = (wk2 ((q2 : Int) - 1)) + 1 := by rw [show e = rf (wk2 ((q2 : Int) - 1)) + 1 from by omega]; exact (hra.rel3 hX.1 hX.2.1 (by omega)).1
                      exact ⟨by omega, by omega, hwi3, hsrc3, fun h9 => hd1 (by omega), fun h9 => by rw [show (wk2 ((q2 : Int) - 1)) - n + 1 = ro e - n from by omega]; omega, by omega, by omega, gW4⟩
                    · show (rf ((wk2 ((q2 : Int) - 1)) + 1) - (e + 1)).toNat < (rf ((wk2 ((q2 : Int) - 1)) + 1) - e).toNat
                      omega
                    · exact ⟨rfl, rfl, rfl, rfl, rfl, rfl, rfl, rfl, rfl, rfl, rfl, rfl, rfl, rfl, rfl, rfl, rfl, rfl, rfl, rfl, rfl, trivial⟩
                    · exact ⟨rfl, rfl, rfl, rfl, trivial⟩
                ·
                  have hee0 : e = rf (wk2 ((q2 : Int) - 1)) := hE9.2.1 (by omega)
                  have hesX : es3 (ro e) = u + 1 := by rw [hee0]; exact hih.1
                  refine V_nil (X_next ?_)
                  refine C_false rfl ?_
                  refine C_skip (X_next ?_)
                  refine C_seq ?_
                  refine C_seq ?_
                  refine C_region ?_
                  refine V_w0.q (QY_move rfl) rfl ?_
                  refine V_w0.q (QY_move rfl) rfl ?_
                  refine W_elem V_w0 rfl rfl (Rd_own (q := 92) rfl (by omega)) (by omega) (by omega) sl22 lf21 rfl rfl (fun _ => ?_)
                  refine V_w0.q (QY_move rfl) rfl ?_
                  refine W_eql V_w0 rfl rfl rfl (fun h336 => ?_) (fun h336 => ?_)
                  ·
                    refine V_nil (X_next ?_)
                    refine C_true rfl ?_
                    refine C_exit (X_then_exit (X_block_exit (X_next ?_)))
                    refine C_region ?_
                    refine V_w0.q (QY_move rfl) rfl ?_
                    refine V_w0.q (QY_arith rfl rfl rfl ⟨by omega, by omega⟩) rfl ?_
                    refine V_w0.q (QY_assign rfl) rfl ?_
                    refine V_nil (X_then ?_)
                    refine X_round (e + 1, rs3, ps3, wk3, q3, cr3, bW4, sW4, aW4, cW4) ?_ ?_ ?_ ?_
                    · have hee : e = rf (wk2 ((q2 : Int) - 1)) := hE9.2.1 (by omega)
                      exact ⟨by omega, by omega, hwi3, hsrc3, fun h9 => by rw [← hee]; omega, fun h9 => by omega, by omega, by omega, gW4⟩
                    · show (rf ((wk2 ((q2 : Int) - 1)) + 1) - (e + 1)).toNat < (rf ((wk2 ((q2 : Int) - 1)) + 1) - e).toNat
                      omega
                    · exact ⟨rfl, rfl, rfl, rfl, rfl, rfl, rfl, rfl, rfl, rfl, rfl, rfl, rfl, rfl, rfl, rfl, rfl, rfl, rfl, rfl, rfl, trivial⟩
                    · exact ⟨rfl, rfl, rfl, rfl, trivial⟩
                  ·
                    refine V_nil (X_next ?_)
                    refine C_false rfl ?_
                    refine C_skip (X_next ?_)
                    refine C_seq ?_
                    refine C_seq ?_
                    refine C_region ?_
                    refine V_w0.q (QY_move rfl) rfl ?_
                    refine V_w0.q (QY_move rfl) rfl ?_
                    refine W_elem V_w0 rfl rfl (Rd_own (q := 91) rfl (by omega)) (by omega) (by omega) sl22 lf21 rfl rfl (fun _ => ?_)
                    refine V_w0.q (QY_move rfl) rfl ?_
                    refine W_neq V_w0 rfl rfl rfl (fun h342 => False.elim (h342 hesX)) (fun h342 => ?_)
                    refine V_nil (X_next ?_)
                    refine C_false rfl ?_
                    refine C_skip (X_next ?_)
                    refine C_seq ?_
                    refine C_region ?_
                    refine V_w0.q (QY_move rfl) rfl ?_
                    refine V_w0.q (QY_move rfl) rfl ?_
                    refine V_w0.q (QY_move rfl) rfl ?_
                    refine V_set (q := 92) rfl rfl rfl rfl rfl (by omega) (by omega) (by omega) sl22 lf21 rfl rfl (upd_ints _ _ _ _) (fun _ => ?_)
                    refine V_nil (X_next ?_)
                    refine C_region ?_
                    refine V_w0.q (QY_move rfl) rfl ?_
                    refine V_w0.q (QY_arith rfl rfl rfl ⟨by omega, by omega⟩) rfl ?_
                    refine V_w0.q (QY_assign rfl) rfl ?_
                    refine V_nil (X_block (X_next ?_))
                    refine C_region ?_
                    refine V_w0.q (QY_move rfl) rfl ?_
                    refine V_w0.q (QY_arith rfl rfl rfl ⟨by omega, by omega⟩) rfl ?_
                    refine V_w0.q (QY_assign rfl) rfl ?_
                    refine V_nil (X_then ?_)
                    refine X_round (e + 1, upd rs3 (ro e) (u + 1), ps3, wk3, q3, cr3 + 1, bW4, sW4, aW4, cW4) ?_ ?_ ?_ ?_
                    · have hee : e = rf (wk2 ((q2 : Int) - 1)) := hE9.2.1 (by omega)
                      exact ⟨by omega, by omega, hwi3.mark (by omega) (by omega) (by omega) (by rw [hee]; exact hih.1), hsrc3, fun h9 => by rw [← hee]; exact upd_same _ _ _, fun h9 => by omega, by omega, by omega, gW4⟩
                    · show (rf ((wk2 ((q2 : Int) - 1)) + 1) - (e + 1)).toNat < (rf ((wk2 ((q2 : Int) - 1)) + 1) - e).toNat
                      omega
                    · exact ⟨rfl, rfl, rfl, rfl, rfl, rfl, rfl, rfl, rfl, rfl, rfl, rfl, rfl, rfl, rfl, rfl, rfl, rfl, rfl, rfl, rfl, trivial⟩
                    · exact ⟨rfl, rfl, rfl, rfl, trivial⟩
              ·
                refine V_nil (X_next ?_)
                refine C_false rfl ?_
                refine C_exit (X_then_exit (X_then_exit (X_block_exit (X_block (X_then ?_)))))
                refine X_round (rs3, ps3, wk3, q3, cr3, bW4, sW4, aW4, cW4) ?_ ?_ ?_ ?_
                · have e9 : (n : Int) + ((wk2 ((q2 : Int) - 1)) - n) = (wk2 ((q2 : Int) - 1)) := by omega
                  exact ⟨hwi3.done (by rw [e9]; exact hd1 (by omega)) (by rw [e9]; intro h9; exact hd2 (by omega)), hsrc3, by omega, gW4⟩
                · show (2 * ((K : Int) - cntU ps3 (u + 1) K) + q3).toNat < (2 * ((K : Int) - cntU ps2 (u + 1) K) + q2).toNat
                  omega
                · exact ⟨rfl, rfl, rfl, rfl, rfl, rfl, rfl, rfl, rfl, rfl, rfl, rfl, rfl, rfl, rfl, rfl, rfl, rfl, rfl, trivial⟩
                · exact ⟨rfl, rfl, rfl, rfl, trivial⟩
            ·
              obtain rfl : q2 = 0 := by omega
              have hfin := hra.fin hp.hti hu0 (show u < (n : Int) by omega) hmk3 hwi2 hsrc2
              refine V_nil (X_next ?_)
              refine C_false rfl ?_
              refine C_exit (X_then_exit (X_then_exit (X_block_exit (X_next ?_))))
              refine C_seq ?_
              refine C_region ?_
              refine V_w0.q (QY_move rfl) rfl ?_
              refine V_w0.q (QY_move rfl) rfl ?_
              refine W_neq V_w0 rfl rfl rfl (fun h351 => False.elim (h351 hfin)) (fun h351 => ?_)
              refine V_nil (X_next ?_)
              refine C_false rfl ?_
              refine C_skip (X_block (X_next ?_))
              refine C_region ?_
              refine V_w0.q (QY_move rfl) rfl ?_
              refine V_w0.q (QY_arith rfl rfl rfl ⟨by omega, by omega⟩) rfl ?_
              refine V_w0.q (QY_assign rfl) rfl ?_
              refine V_nil (X_then ?_)
              refine X_round (u + 1, es3, rs1, ps2, wk2, bW3, sW3, aW3, cW3) ?_ ?_ ?_ ?_
              · exact ⟨by omega, by omega, hmk3.le, fun v a b => by have := hwi2.rb v a b; omega, fun x a b => by have := hwi2.pb x a (by omega); omega, gW3⟩
              · show ((n : Int) - (u + 1)).toNat < ((n : Int) - u).toNat
                omega
              · exact ⟨rfl, rfl, rfl, rfl, rfl, rfl, rfl, rfl, rfl, rfl, rfl, rfl, rfl, rfl, rfl, rfl, trivial⟩
              · exact ⟨rfl, rfl, rfl, rfl, trivial⟩
      ·
        refine V_nil (X_next ?_)
        refine C_false rfl ?_
        refine C_exit (X_then_exit (X_then_exit (X_block_exit (X_next ?_))))
        refine C_seq ?_
        refine C_region ?_
        refine V_w0.q (QY_assign rfl) rfl ?_
        refine V_nil (X_next ?_)
        refine C_ret (?_)
        refine X_ret1 rfl rfl (fun w hm => ?_)
        exact ⟨rfl, (hmw.join0 (hm.sub trivial)).below⟩
    ·
      refine V_w0.q (QY_not rfl) rfl ?_
      refine V_nil (X_next ?_)
      refine C_true rfl ?_
      refine C_seq ?_
      refine C_region ?_
      refine V_w0.q (QY_assign rfl) rfl ?_
      refine V_nil (X_next ?_)
      refine C_ret (X_then_ret (?_))
      refine X_ret1 rfl rfl (fun w hm => ?_)
      exact ⟨rfl, (hmw.join0 (hm.sub trivial)).below⟩
  ·
    refine V_w0.q (QY_not rfl) rfl ?_
    refine V_nil (X_next ?_)
    refine C_true rfl ?_
    refine C_seq ?_
    refine C_region ?_
    refine V_w0.q (QY_assign rfl) rfl ?_
    refine V_nil (X_next ?_)
    refine C_ret (X_then_ret (?_))
    refine X_ret1 rfl rfl (fun w hm => ?_)
    exact ⟨rfl, (hmw.join0 (hm.sub trivial)).below⟩

end Go.Proofs.Qxb6001307a
