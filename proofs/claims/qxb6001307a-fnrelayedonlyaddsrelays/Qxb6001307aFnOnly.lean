/-
  OWN WORK (the rule applications laid by a program of our own, wip/gen). FnRelayedOnlyAddsRelays.
-/
import Derived.Test.Qxb6001307aKitQ
import Derived.Test.Qxb6001307aRelJ
import Derived.Test.Qxb6001307aPlainZ
namespace Go.Proofs.Qxb6001307a
open Go.RowKit
set_option linter.unusedSimpArgs false
set_option linter.unusedVariables false

set_option maxHeartbeats 4000000 in
theorem fnOnly (w : World) (aF aO aL aN aR aP aQ aT aH : Option Addr) (nf no nc nl ns np nq nt nh cF cO cL cN cR cP cQ cT cH : Nat) (A1 A2 : Int → Option Addr) (L1 C1 L2 C2 : Int → Nat) (f o cl : Int → Int) (Z1 Z2 : Int → Int → Int) (sr sl ss : Int → Int) (hb : Int → Bool)
    (hF : RdW w (.slice aF nf cF) nf (ints .i32 f)) (hO : RdW w (.slice aO no cO) no (ints .i32 o)) (hL : RdW w (.slice aL nc cL) nc (ints .u8 cl)) (hN : RdR w aN nl cN A1 L1 C1 Z1) (hR : RdW w (.slice aR ns cR) ns (ints .i32 sr)) (hP : RdW w (.slice aP np cP) np (ints .i32 sl)) (hQ : RdW w (.slice aQ nq cQ) nq (ints .i32 ss)) (hT : RdR w aT nt cT A2 L2 C2 Z2) (hH : RdW w (.slice aH nh cH) nh (bools hb))
    (hFw : ∀ i, 0 ≤ i → i < (nf : Int) → -2147483648 ≤ f i ∧ f i ≤ 2147483647) (hOw : ∀ i, 0 ≤ i → i < (no : Int) → -2147483648 ≤ o i ∧ o i ≤ 2147483647) (hQw : ∀ i, 0 ≤ i → i < (nq : Int) → -2147483648 ≤ ss i ∧ ss i ≤ 2147483647) :
    Calls Try.prog 6 #[.slice aF nf cF, .slice aO no cO, .slice aL nc cL, .slice aN nl cN, .slice aR ns cR, .slice aP np cP, .slice aQ nq cQ, .slice aT nt cT, .slice aH nh cH] w fun e w' => e = .returned (.bool true) ∧ Below w.heap.size w w' := by
  have hmw : Mem (Old w) w [] w := Mem.start w
  refine enter (N := 301) (vs := [.slice aF nf cF, .slice aO no cO, .slice aL nc cL, .slice aN nl cN, .slice aR ns cR, .slice aP np cP, .slice aQ nq cQ, .slice aT nt cT, .slice aH nh cH]) Try.func6 rfl Try.ntmps6 rfl ?_ w (Mem.start w)
  refine C_seq ?_
  refine C_region ?_
  refine V_w0.q (QY_assign rfl) rfl ?_
  refine V_nil (X_next ?_)
  refine C_seq ?_
  refine C_seq ?_
  refine C_region ?_
  refine V_w0.q (QY_move rfl) rfl ?_
  refine V_w0.q (QY_move rfl) rfl ?_
  refine V_w0.q (QY_move rfl) rfl ?_
  refine V_w0.q (QY_move rfl) rfl ?_
  refine V_w0.q (QY_move rfl) rfl ?_
  refine V_w0.q (QY_move rfl) rfl ?_
  refine V_w0.q (QY_move rfl) rfl ?_
  refine V_w0.q (QY_move rfl) rfl ?_
  refine V_w0.q (QY_move rfl) rfl ?_
  refine V_call cb29 rfl (T := Bool) (Φ := fun _ => True) (val := fun y => .bool y) (H' := fun _ => []) (fun w9 hm => (bytes29 w9 aF aO aL aN aR aP aQ aT aH nf no nc nl ns np nq nt nh cF cO cL cN cR cP cQ cT cH A1 A2 L1 C1 L2 C2 (hN.1.mv hm) (hT.1.mv hm)).mono fun e w2 ⟨y, h1, he, hM⟩ => ⟨y, h1, he, hm.join0 hM⟩) rfl ?_
  intro y53 _
  refine W_bool V_w0 53 rfl (fun h53 => ?_) (fun h53 => ?_)
  ·
    refine V_w0.q (QY_not rfl) rfl ?_
    refine V_nil (X_next ?_)
    refine C_false rfl ?_
    refine C_skip (X_next ?_)
    refine C_seq ?_
    refine C_seq ?_
    refine C_region ?_
    refine V_w0.q (QY_move rfl) rfl ?_
    refine V_w0.q (QY_move rfl) rfl ?_
    refine V_w0.q (QY_move rfl) rfl ?_
    refine V_w0.q (QY_move rfl) rfl ?_
    refine V_w0.q (QY_move rfl) rfl ?_
    refine V_w0.q (QY_move rfl) rfl ?_
    refine V_w0.q (QY_move rfl) rfl ?_
    refine V_w0.q (QY_move rfl) rfl ?_
    refine V_w0.q (QY_move rfl) rfl ?_
    refine V_call cb22 rfl (T := Bool) (Φ := fun y => y = true → (nf : Int) ≤ 4097 ∧ (no : Int) ≤ 262144 ∧ (nc : Int) ≤ 1048576 ∧ (nl : Int) ≤ 65536 ∧ (ns : Int) ≤ 4096 ∧ (np : Int) ≤ 4096 ∧ (nq : Int) ≤ 4096 ∧ (nt : Int) ≤ 65536 ∧ (nh : Int) ≤ 65536 ∧ tot L1 nl ≤ 4096 ∧ tot L2 nt ≤ 4096) (val := fun y => .bool y) (H' := fun _ => []) (fun w9 hm => (lens22 w9 aF aO aL aN aR aP aQ aT aH nf no nc nl ns np nq nt nh cF cO cL cN cR cP cQ cT cH A1 A2 L1 C1 L2 C2 (hN.1.mv hm) (hT.1.mv hm)).mono fun e w2 ⟨y, h1, he, hM⟩ => ⟨y, h1, he, hm.join0 hM⟩) rfl ?_
    intro y64 hy64
    refine W_bool V_w0 64 rfl (fun h64 => ?_) (fun h64 => ?_)
    ·
      obtain ⟨hnf, hno, hnc, hnl, hns, hnp, hnq, hnt, hnh, htL1, htL2⟩ := hy64 h64
      refine V_w0.q (QY_not rfl) rfl ?_
      refine V_nil (X_next ?_)
      refine C_false rfl ?_
      refine C_skip (X_next ?_)
      refine C_seq ?_
      refine C_region ?_
      refine V_w0.q (QY_move rfl) rfl ?_
      refine V_w0.q (QY_move rfl) rfl ?_
      refine V_w0.q (QY_move rfl) rfl ?_
      refine V_w0.q (QY_move rfl) rfl ?_
      refine V_w0.q (QY_move rfl) rfl ?_
      refine V_w0.q (QY_move rfl) rfl ?_
      refine V_w0.q (QY_move rfl) rfl ?_
      refine V_w0.q (QY_move rfl) rfl ?_
      refine V_w0.q (QY_move rfl) rfl ?_
      refine V_callO cb23 rfl (T := PrepOut) (Φ := fun y w' => y.ok = true → ∃ (n hc : Nat) (tx : Int) (aV aW aX aU aHt : Option Addr) (lf lt ln th ht : Int → Int), y.v1 = .int .i32 (n : Int) ∧ y.v2 = .int .i32 tx ∧ y.v3 = .slice aV (nl + 1) (nl + 1) ∧ y.v4 = .slice aW nl nl ∧ y.v5 = .slice aX nl nl ∧ y.v6 = .slice aU nt nt ∧ y.v7 = .slice aHt hc hc ∧
            RdW w' (.slice aV (nl + 1) (nl + 1)) (nl + 1) (ints .i32 lf) ∧ RdW w' (.slice aW nl nl) nl (ints .i32 lt) ∧ RdW w' (.slice aX nl nl) nl (ints .i32 ln) ∧ RdW w' (.slice aU nt nt) nt (ints .i32 th) ∧ RdW w' (.slice aHt hc hc) hc (ints .i32 ht) ∧
            (∀ t, 0 ≤ t → t < (nt : Int) → th t = thF hb L2 t) ∧ hu hb L2 nt = hc ∧ PrepOK nf no nc nl ns np nq nt nh f o L1 L2 Z1 Z2 sr sl ss hb n tx lf lt ht) (val := fun y => .tuple [.bool y.ok, y.v1, y.v2, y.v3, y.v4, y.v5, y.v6, y.v7].toArray) (fun w9 hm => prep23 w9 aF aO aL aN aR aP aQ aT aH nf no nc nl ns np nq nt nh cF cO cL cN cR cP cQ cT cH A1 A2 L1 C1 L2 C2 f o Z1 Z2 sr sl ss hb (hF.mv hm) (hO.mv hm) (hN.mv hm) (hR.mv hm) (hP.mv hm) (hQ.mv hm) (hT.mv hm) (hH.mv hm) hFw hOw hQw hnf hno hnc hnl hns hnt htL1 htL2) rfl ?_
      intro yp w1 hm1 hyp
      have hF := hF.mv hm1
      have hO := hO.mv hm1
      have hL := hL.mv hm1
      have hN := hN.mv hm1
      have hR := hR.mv hm1
      have hP := hP.mv hm1
      have hQ := hQ.mv hm1
      have hT := hT.mv hm1
      have hH := hH.mv hm1
      have hmw := hmw.join0 hm1
      obtain ⟨ok, v1, v2, v3, v4, v5, v6, v7⟩ := yp
      cases ok
      ·
        refine V_w0.q (QY_move rfl) rfl ?_
        refine V_w0.q (QY_extract rfl rfl) rfl ?_
        refine V_w0.q (QY_extract rfl rfl) rfl ?_
        refine V_w0.q (QY_extract rfl rfl) rfl ?_
        refine V_w0.q (QY_extract rfl rfl) rfl ?_
        refine V_w0.q (QY_extract rfl rfl) rfl ?_
        refine V_w0.q (QY_extract rfl rfl) rfl ?_
        refine V_w0.q (QY_extract rfl rfl) rfl ?_
        refine V_w0.q (QY_extract rfl rfl) rfl ?_
        refine V_w0.q (QY_assign rfl) rfl ?_
        refine V_w0.q (QY_assign rfl) rfl ?_
        refine V_w0.q (QY_assign rfl) rfl ?_
        refine V_w0.q (QY_assign rfl) rfl ?_
        refine V_w0.q (QY_assign rfl) rfl ?_
        refine V_w0.q (QY_assign rfl) rfl ?_
        refine V_w0.q (QY_assign rfl) rfl ?_
        refine V_w0.q (QY_assign rfl) rfl ?_
        refine V_nil (X_next ?_)
        refine C_seq ?_
        refine C_seq ?_
        refine C_region ?_
        refine V_w0.q (QY_move rfl) rfl ?_
        refine V_w0.q (QY_not rfl) rfl ?_
        refine V_nil (X_next ?_)
        refine C_true rfl ?_
        refine C_seq ?_
        refine C_region ?_
        refine V_w0.q (QY_assign rfl) rfl ?_
        refine V_nil (X_next ?_)
        refine C_ret (X_then_ret (?_))
        refine X_ret1 rfl rfl (fun w hm => ?_)
        exact ⟨rfl, (hmw.join0 (hm.sub trivial)).below⟩
      have hyp := hyp rfl
      dsimp only at hyp
      obtain ⟨n, hc, tx, aV, aW, aX, aU, aHt, lf, lt, ln, th, ht, rfl, rfl, rfl, rfl, rfl, rfl, rfl, hV, hW, hX, hU, hHt, hth, hhu, hp⟩ := hyp
      obtain rfl : ns = np := hp.enp.symm
      obtain rfl : ns = nq := hp.enq.symm
      obtain rfl : nt = nh := hp.enh.symm
      obtain rfl : no = nc := by have := hp.adj.2.2.2.2.1; omega
      obtain ⟨ow, hlv⟩ := hp.lv
      have hn := hp.hn
      have htx : tx = (n : Int) - hc := by rw [← hhu]; exact hp.etx
      have htx0 := hp.tx0
      have hrb := rel_b lf lt L1 (k := (nl : Int)) (by omega)
      obtain ⟨T, hT9⟩ : ∃ T : Nat, (T : Int) = (n : Int) + rel lf lt L1 nl := ⟨((n : Int) + rel lf lt L1 nl).toNat, by omega⟩
      refine V_w0.q (QY_move rfl) rfl ?_
      refine V_w0.q (QY_extract rfl rfl) rfl ?_
      refine V_w0.q (QY_extract rfl rfl) rfl ?_
      refine V_w0.q (QY_extract rfl rfl) rfl ?_
      refine V_w0.q (QY_extract rfl rfl) rfl ?_
      refine V_w0.q (QY_extract rfl rfl) rfl ?_
      refine V_w0.q (QY_extract rfl rfl) rfl ?_
      refine V_w0.q (QY_extract rfl rfl) rfl ?_
      refine V_w0.q (QY_extract rfl rfl) rfl ?_
      refine V_w0.q (QY_assign rfl) rfl ?_
      refine V_w0.q (QY_assign rfl) rfl ?_
      refine V_w0.q (QY_assign rfl) rfl ?_
      refine V_w0.q (QY_assign rfl) rfl ?_
      refine V_w0.q (QY_assign rfl) rfl ?_
      refine V_w0.q (QY_assign rfl) rfl ?_
      refine V_w0.q (QY_assign rfl) rfl ?_
      refine V_w0.q (QY_assign rfl) rfl ?_
      refine V_nil (X_next ?_)
      refine C_seq ?_
      refine C_seq ?_
      refine C_region ?_
      refine V_w0.q (QY_move rfl) rfl ?_
      refine V_w0.q (QY_not rfl) rfl ?_
      refine V_nil (X_next ?_)
      refine C_false rfl ?_
      refine C_skip (X_next ?_)
      refine C_seq ?_
      refine C_region ?_
      refine V_w0.q (QY_move rfl) rfl ?_
      refine V_callO cb10 rfl (T := Option Addr) (Φ := fun y w' => RdW w' (.slice y nf nf) nf (ints .i32 f)) (val := fun y => .slice y nf nf) (fun w9 hm => clone10R w9 _ _ _ f (hF.mv hm) (by omega)) rfl ?_
      intro aF w2 hm2 hF
      have hO := hO.mv hm2
      have hL := hL.mv hm2
      have hN := hN.mv hm2
      have hR := hR.mv hm2
      have hP := hP.mv hm2
      have hQ := hQ.mv hm2
      have hT := hT.mv hm2
      have hH := hH.mv hm2
      have hV := hV.mv hm2
      have hW := hW.mv hm2
      have hX := hX.mv hm2
      have hU := hU.mv hm2
      have hHt := hHt.mv hm2
      have hmw := hmw.join0 hm2
      refine V_w0.q (QY_assign rfl) rfl ?_
      refine V_nil (X_next ?_)
      refine C_seq ?_
      refine C_region ?_
      refine V_w0.q (QY_move rfl) rfl ?_
      refine V_callO cb10 rfl (T := Option Addr) (Φ := fun y w' => RdW w' (.slice y no no) no (ints .i32 o)) (val := fun y => .slice y no no) (fun w9 hm => clone10R w9 _ _ _ o (hO.mv hm) (by omega)) rfl ?_
      intro aO w3 hm3 hO
      have hF := hF.mv hm3
      have hL := hL.mv hm3
      have hN := hN.mv hm3
      have hR := hR.mv hm3
      have hP := hP.mv hm3
      have hQ := hQ.mv hm3
      have hT := hT.mv hm3
      have hH := hH.mv hm3
      have hV := hV.mv hm3
      have hW := hW.mv hm3
      have hX := hX.mv hm3
      have hU := hU.mv hm3
      have hHt := hHt.mv hm3
      have hmw := hmw.join0 hm3
      refine V_w0.q (QY_assign rfl) rfl ?_
      refine V_nil (X_next ?_)
      refine C_seq ?_
      refine C_region ?_
      refine V_w0.q (QY_move rfl) rfl ?_
      refine V_callO cb11 rfl (T := Option Addr) (Φ := fun y w' => RdW w' (.slice y no no) no (ints .u8 cl)) (val := fun y => .slice y no no) (fun w9 hm => clone11R w9 _ _ _ cl (hL.mv hm) (by omega)) rfl ?_
      intro aL w4 hm4 hL
      have hF := hF.mv hm4
      have hO := hO.mv hm4
      have hN := hN.mv hm4
      have hR := hR.mv hm4
      have hP := hP.mv hm4
      have hQ := hQ.mv hm4
      have hT := hT.mv hm4
      have hH := hH.mv hm4
      have hV := hV.mv hm4
      have hW := hW.mv hm4
      have hX := hX.mv hm4
      have hU := hU.mv hm4
      have hHt := hHt.mv hm4
      have hmw := hmw.join0 hm4
      refine V_w0.q (QY_assign rfl) rfl ?_
      refine V_nil (X_next ?_)
      refine C_seq ?_
      refine C_region ?_
      refine V_w0.q (QY_move rfl) rfl ?_
      refine V_callO cb24 rfl (T := Option Addr × (Int → Option Addr)) (Φ := fun y w' => RdR w' y.1 nl nl y.2 L1 L1 Z1) (val := fun y => .slice y.1 nl nl) (fun w9 hm => nested24 w9 _ _ _ A1 L1 C1 Z1 (hN.mv hm) (by omega) (fun i a b => by have := tot_le L1 nl a b; omega)) rfl ?_
      rintro ⟨aN, A1⟩ w5 hm5 hN
      have hF := hF.mv hm5
      have hO := hO.mv hm5
      have hL := hL.mv hm5
      have hR := hR.mv hm5
      have hP := hP.mv hm5
      have hQ := hQ.mv hm5
      have hT := hT.mv hm5
      have hH := hH.mv hm5
      have hV := hV.mv hm5
      have hW := hW.mv hm5
      have hX := hX.mv hm5
      have hU := hU.mv hm5
      have hHt := hHt.mv hm5
      have hmw := hmw.join0 hm5
      have hN : RdR w5 aN nl nl A1 L1 L1 Z1 := hN
      refine V_w0.q (QY_assign rfl) rfl ?_
      refine V_nil (X_next ?_)
      refine C_seq ?_
      refine C_region ?_
      refine V_w0.q (QY_move rfl) rfl ?_
      refine V_callO cb10 rfl (T := Option Addr) (Φ := fun y w' => RdW w' (.slice y ns ns) ns (ints .i32 sr)) (val := fun y => .slice y ns ns) (fun w9 hm => clone10R w9 _ _ _ sr (hR.mv hm) (by omega)) rfl ?_
      intro aR w6 hm6 hR
      have hF := hF.mv hm6
      have hO := hO.mv hm6
      have hL := hL.mv hm6
      have hN := hN.mv hm6
      have hP := hP.mv hm6
      have hQ := hQ.mv hm6
      have hT := hT.mv hm6
      have hH := hH.mv hm6
      have hV := hV.mv hm6
      have hW := hW.mv hm6
      have hX := hX.mv hm6
      have hU := hU.mv hm6
      have hHt := hHt.mv hm6
      have hmw := hmw.join0 hm6
      refine V_w0.q (QY_assign rfl) rfl ?_
      refine V_nil (X_next ?_)
      refine C_seq ?_
      refine C_region ?_
      refine V_w0.q (QY_move rfl) rfl ?_
      refine V_callO cb10 rfl (T := Option Addr) (Φ := fun y w' => RdW w' (.slice y ns ns) ns (ints .i32 sl)) (val := fun y => .slice y ns ns) (fun w9 hm => clone10R w9 _ _ _ sl (hP.mv hm) (by omega)) rfl ?_
      intro aP w7 hm7 hP
      have hF := hF.mv hm7
      have hO := hO.mv hm7
      have hL := hL.mv hm7
      have hN := hN.mv hm7
      have hR := hR.mv hm7
      have hQ := hQ.mv hm7
      have hT := hT.mv hm7
      have hH := hH.mv hm7
      have hV := hV.mv hm7
      have hW := hW.mv hm7
      have hX := hX.mv hm7
      have hU := hU.mv hm7
      have hHt := hHt.mv hm7
      have hmw := hmw.join0 hm7
      refine V_w0.q (QY_assign rfl) rfl ?_
      refine V_nil (X_next ?_)
      refine C_seq ?_
      refine C_region ?_
      refine V_w0.q (QY_move rfl) rfl ?_
      refine V_callO cb10 rfl (T := Option Addr) (Φ := fun y w' => RdW w' (.slice y ns ns) ns (ints .i32 ss)) (val := fun y => .slice y ns ns) (fun w9 hm => clone10R w9 _ _ _ ss (hQ.mv hm) (by omega)) rfl ?_
      intro aQ w8 hm8 hQ
      have hF := hF.mv hm8
      have hO := hO.mv hm8
      have hL := hL.mv hm8
      have hN := hN.mv hm8
      have hR := hR.mv hm8
      have hP := hP.mv hm8
      have hT := hT.mv hm8
      have hH := hH.mv hm8
      have hV := hV.mv hm8
      have hW := hW.mv hm8
      have hX := hX.mv hm8
      have hU := hU.mv hm8
      have hHt := hHt.mv hm8
      have hmw := hmw.join0 hm8
      refine V_w0.q (QY_assign rfl) rfl ?_
      refine V_nil (X_next ?_)
      refine C_seq ?_
      refine C_region ?_
      refine V_w0.q (QY_move rfl) rfl ?_
      refine V_callO cb24 rfl (T := Option Addr × (Int → Option Addr)) (Φ := fun y w' => RdR w' y.1 nt nt y.2 L2 L2 Z2) (val := fun y => .slice y.1 nt nt) (fun w9 hm => nested24 w9 _ _ _ A2 L2 C2 Z2 (hT.mv hm) (by omega) (fun i a b => by have := tot_le L2 nt a b; omega)) rfl ?_
      rintro ⟨aT, A2⟩ w9 hm9 hT
      have hF := hF.mv hm9
      have hO := hO.mv hm9
      have hL := hL.mv hm9
      have hN := hN.mv hm9
      have hR := hR.mv hm9
      have hP := hP.mv hm9
      have hQ := hQ.mv hm9
      have hH := hH.mv hm9
      have hV := hV.mv hm9
      have hW := hW.mv hm9
      have hX := hX.mv hm9
      have hU := hU.mv hm9
      have hHt := hHt.mv hm9
      have hmw := hmw.join0 hm9
      have hT : RdR w9 aT nt nt A2 L2 L2 Z2 := hT
      refine V_w0.q (QY_assign rfl) rfl ?_
      refine V_nil (X_next ?_)
      refine C_seq ?_
      refine C_region ?_
      refine V_w0.q (QY_move rfl) rfl ?_
      refine V_callO cb16 rfl (T := Option Addr) (Φ := fun y w' => RdW w' (.slice y nt nt) nt (bools hb)) (val := fun y => .slice y nt nt) (fun w9 hm => clone16R w9 _ _ _ hb (hH.mv hm) (by omega)) rfl ?_
      intro aH w10 hm10 hH
      have hF := hF.mv hm10
      have hO := hO.mv hm10
      have hL := hL.mv hm10
      have hN := hN.mv hm10
      have hR := hR.mv hm10
      have hP := hP.mv hm10
      have hQ := hQ.mv hm10
      have hT := hT.mv hm10
      have hV := hV.mv hm10
      have hW := hW.mv hm10
      have hX := hX.mv hm10
      have hU := hU.mv hm10
      have hHt := hHt.mv hm10
      have hmw := hmw.join0 hm10
      refine V_w0.q (QY_assign rfl) rfl ?_
      refine V_nil (X_next ?_)
      refine C_seq ?_
      refine C_region ?_
      refine V_w0.q (QY_move rfl) rfl ?_
      refine V_w0.q (QY_move rfl) rfl ?_
      refine V_w0.q (QY_move rfl) rfl ?_
      refine V_w0.q (QY_move rfl) rfl ?_
      refine V_w0.q (QY_move rfl) rfl ?_
      refine V_w0.q (QY_move rfl) rfl ?_
      refine V_w0.q (QY_move rfl) rfl ?_
      refine V_w0.q (QY_move rfl) rfl ?_
      refine V_w0.q (QY_move rfl) rfl ?_
      refine V_w0.q (QY_move rfl) rfl ?_
      refine V_w0.q (QY_move rfl) rfl ?_
      refine V_w0.q (QY_move rfl) rfl ?_
      refine V_w0.q (QY_move rfl) rfl ?_
      refine V_callO cb25 rfl (T := ZOut) (Φ := fun z w' => RelRes nl ns nt n T f o cl (rel lf lt L1) sr sl ss hb L2 Z1 Z2 tx z.r ∧ RdW w' (.slice z.a1 (T + 1) z.c1) (T + 1) (ints .i32 z.r.rf) ∧ RdW w' (.slice z.a2 z.r.m z.c2) z.r.m (ints .i32 z.r.ro) ∧ RdW w' (.slice z.a3 z.r.m z.c3) z.r.m (ints .u8 z.r.rc)) (val := fun z => .tuple [.slice z.a1 (T + 1) z.c1, .slice z.a2 z.r.m z.c2, .slice z.a3 z.r.m z.c3].toArray) (fun w9 hm => zz25 w9 nl ns nt nf no n hc T nf no no nl ns ns ns (nl + 1) nl nl nt nt hc aF aO aL aN aR aP aQ aV aW aX aT aU aHt A1 A2 L1 L2 L1 L2 f o cl sr sl ss lf lt ln th Z1 Z2 hb ow tx (hF.mv hm) (hO.mv hm) (hL.mv hm) (hN.mv hm) (hR.mv hm) (hP.mv hm) (hQ.mv hm) (hV.mv hm) (hW.mv hm) (hX.mv hm) (hT.mv hm) (hU.mv hm) hth hp.adj hn hlv hp.sp hp.lfi hhu htx htx0 hT9 (Nat.le_refl _) hnf hno hnl hns hnt htL1 htL2) rfl ?_
      rintro ⟨⟨yb, ybf, ybo, ybc, m, M, M2, fr, to, rf, ro, rc⟩, a1, a2, a3, c1, c2, c3⟩ w11 hm11 hz
      have hF := hF.mv hm11
      have hO := hO.mv hm11
      have hL := hL.mv hm11
      have hN := hN.mv hm11
      have hR := hR.mv hm11
      have hP := hP.mv hm11
      have hQ := hQ.mv hm11
      have hT := hT.mv hm11
      have hH := hH.mv hm11
      have hV := hV.mv hm11
      have hW := hW.mv hm11
      have hX := hX.mv hm11
      have hU := hU.mv hm11
      have hHt := hHt.mv hm11
      have hmw := hmw.join0 hm11
      obtain ⟨hres, hrf, hro, hrc⟩ := hz
      dsimp only at hrf hro hrc
      have hra : RA nl ns nt nf no n T m M M2 f o cl lf lt sr sl ss fr to rf ro rc L1 L2 Z1 Z2 hb ow tx := ⟨hp.adj, hn, hlv, hp.sp, hp.lfi, hp.etx, htx0, hT9, hp.nodes, hres.csr, hres.len, hres.lk, hres.frr⟩
      have hmb : (m : Int) ≤ 1048576 := hres.mb
      refine V_w0.q (QY_move rfl) rfl ?_
      refine V_w0.q (QY_extract rfl rfl) rfl ?_
      refine V_w0.q (QY_extract rfl rfl) rfl ?_
      refine V_w0.q (QY_extract rfl rfl) rfl ?_
      refine V_w0.q (QY_assign rfl) rfl ?_
      refine V_w0.q (QY_assign rfl) rfl ?_
      refine V_w0.q (QY_assign rfl) rfl ?_
      refine V_nil (X_next ?_)
      refine C_seq ?_
      refine C_region ?_
      refine V_w0.q (QY_move rfl) rfl ?_
      refine V_w0.q (QY_move rfl) rfl ?_
      refine V_w0.q (QY_move rfl) rfl ?_
      refine V_w0.q (QY_move rfl) rfl ?_
      refine V_call cb26 rfl (T := Int) (Φ := fun y => y = rel lf lt L1 nl) (val := fun y => .int .i32 y) (H' := fun _ => []) (fun w9 hm => (count26 w9 aN aV aW nl (nl + 1) nl nl (nl + 1) nl A1 L1 L1 lf lt (hN.1.mv hm) (hV.mv hm) (hW.mv hm) (by omega) rfl htL1 hnl).mono fun e w2 ⟨y, h1, he, hM⟩ => ⟨y, h1, he, hm.join0 hM⟩) rfl ?_
      intro cn hcn
      have hcT : (T : Int) = (n : Int) + cn := by omega
      refine V_w0.q (QY_arith rfl rfl rfl ⟨by omega, by omega⟩) rfl ?_
      refine V_w0.q (QY_assign (v := .int .i32 (T : Int)) (by rw [hcT]; rfl)) rfl ?_
      refine V_nil (X_next ?_)
      refine C_seq ?_
      refine C_seq ?_
      refine C_region ?_
      refine V_w0.q (QY_move rfl) rfl ?_
      refine V_w0.q (QY_move rfl) rfl ?_
      refine V_w0.q (QY_move rfl) rfl ?_
      refine V_w0.q (QY_move rfl) rfl ?_
      refine V_call cb27 rfl (T := Unit) (Φ := fun _ => True) (val := fun _ => .bool true) (H' := fun _ => []) (fun w9 hm => (adjT27 w9 a1 a2 a3 (T + 1) m m c1 c2 c3 T rf ro (hrf.mv hm) (hro.mv hm) (by omega) hra.csr.r0 (fun u a b => hra.rfm a (by omega) (by omega)) hra.len rfl (fun e a b => hra.range a b) (by omega) (by omega)).mono fun e w2 ⟨y, h1, he, hM⟩ => ⟨y, h1, he, hm.join0 hM⟩) rfl ?_
      intro _ _
      refine V_w0.q (QY_not rfl) rfl ?_
      refine V_nil (X_next ?_)
      refine C_false rfl ?_
      refine C_skip (X_next ?_)
      refine C_seq ?_
      refine C_region ?_
      refine V_w0.q (QY_move rfl) rfl ?_
      refine V_make 91 mk22 rfl rfl rfl (by omega) (by omega) (by omega) (by omega) rfl (fun bX => ?_)
      refine V_w0.q (QY_assign rfl) rfl ?_
      refine V_nil (X_next ?_)
      refine C_seq ?_
      refine C_seq ?_
      refine C_region ?_
      refine V_w0.q (QY_move rfl) rfl ?_
      refine V_w0.q (QY_len sl22 rfl) rfl ?_
      refine V_w0.q (QY_move rfl) rfl ?_
      refine V_nil (X_next ?_)
      refine C_block ?_
      refine C_loops (T := Int × (Int → Int)) (fun (zz9 : Int × (Int → Int)) => match zz9 with | (k, ex) => [(0, .slice aF nf nf), (1, .slice aO no no), (2, .slice aL no no), (7, .slice aT nt nt), (20, .int .i32 (n : Int)), (21, .int .i32 tx), (25, .slice aU nt nt), (26, .slice aHt hc hc), (27, .slice a1 (T + 1) c1), (28, .slice a2 m c2), (29, .slice a3 m c3), (30, .int .i32 (T : Int)), (31, .slice (some ⟨bX, 0, none⟩) n n), (137, .slice aR ns ns), (138, .int .i64 (ns : Int)), (139, .int .i64 k)]) (fun (zz9 : Int × (Int → Int)) => match zz9 with | (k, ex) => [(91, ⟨bX, n, n, ints .i32 ex⟩)]) (fun (zz9 : Int × (Int → Int)) => match zz9 with | (k, ex) => 0 ≤ k ∧ k ≤ ns ∧ ∀ u, 0 ≤ u → u < (n : Int) → ex u = cntU sr u k) (fun (zz9 : Int × (Int → Int)) => match zz9 with | (k, ex) => ((ns : Int) - k).toNat) (0, fun _ => 0) ?_ ?_ ?_ ?_
      · exact ⟨by omega, by omega, fun u a b => rfl⟩
      · exact ⟨rfl, rfl, rfl, rfl, rfl, rfl, rfl, rfl, rfl, rfl, rfl, rfl, rfl, rfl, rfl, rfl, trivial⟩
      · exact ⟨rfl, trivial⟩
      rintro ⟨k, ex⟩ ⟨hk0, hk1, hex⟩
      show C _ _ _ _ _ _ [(0, .slice aF nf nf), (1, .slice aO no no), (2, .slice aL no no), (7, .slice aT nt nt), (20, .int .i32 (n : Int)), (21, .int .i32 tx), (25, .slice aU nt nt), (26, .slice aHt hc hc), (27, .slice a1 (T + 1) c1), (28, .slice a2 m c2), (29, .slice a3 m c3), (30, .int .i32 (T : Int)), (31, .slice (some ⟨bX, 0, none⟩) n n), (137, .slice aR ns ns), (138, .int .i64 (ns : Int)), (139, .int .i64 k)] [(91, ⟨bX, n, n, ints .i32 ex⟩)]
      refine C_seq ?_
      refine C_region ?_
      refine W_lss V_w0 rfl rfl rfl (fun h140 => ?_) (fun h140 => ?_)
      ·
        have hs := hra.sp.1 k hk0 (by omega)
        have htn := hra.txn
        have hxk := hex (sr k) (by omega) (by omega)
        have hcb := cntU_b sr (sr k) hk0
        refine V_nil (X_next ?_)
        refine C_seq ?_
        refine C_true rfl ?_
        refine C_skip (X_next ?_)
        refine C_seq ?_
        refine C_block ?_
        refine C_seq ?_
        refine C_region ?_
        refine W_elem V_w0 rfl rfl (hR.rd) (by omega) (by omega) sl22 lf21 rfl rfl (fun _ => ?_)
        refine V_w0.q (QY_assign rfl) rfl ?_
        refine V_nil (X_next ?_)
        refine C_region ?_
        refine V_w0.q (QY_move rfl) rfl ?_
        refine V_w0.q (QY_move rfl) rfl ?_
        refine W_elem V_w0 rfl rfl (Rd_own (q := 91) rfl (by omega)) (by omega) (by omega) sl22 lf21 rfl rfl (fun _ => ?_)
        refine V_w0.q (QY_arith rfl rfl rfl ⟨by omega, by omega⟩) rfl ?_
        refine V_set (q := 91) rfl rfl rfl rfl rfl (by omega) (by omega) (by omega) sl22 lf21 rfl rfl (upd_ints _ _ _ _) (fun _ => ?_)
        refine V_nil (X_block (X_next ?_))
        refine C_region ?_
        refine V_w0.q (QY_arith rfl rfl rfl ⟨by omega, by omega⟩) rfl ?_
        refine V_w0.q (QY_move rfl) rfl ?_
        refine V_nil (X_then ?_)
        refine X_round (k + 1, upd ex (sr k) (ex (sr k) + 1)) ?_ ?_ ?_ ?_
        · refine ⟨by omega, by omega, fun u a b => ?_⟩
          by_cases e : sr k = u
          · rw [cntU_yes hk0 e, ← e, upd_same, hex (sr k) (by omega) (by omega)]
          · rw [cntU_no hk0 e, upd_other _ _ _ (fun h => e h.symm)]; exact hex u a b
        · show ((ns : Int) - (k + 1)).toNat < ((ns : Int) - k).toNat
          omega
        · exact ⟨rfl, rfl, rfl, rfl, rfl, rfl, rfl, rfl, rfl, rfl, rfl, rfl, rfl, rfl, rfl, rfl, trivial⟩
        · exact ⟨rfl, trivial⟩
      ·
        obtain rfl : k = (ns : Int) := by omega
        refine V_nil (X_next ?_)
        refine C_seq ?_
        refine C_false rfl ?_
        refine C_exit (X_then_exit (X_then_exit (X_block_exit (X_next ?_))))
        refine C_seq ?_
        refine C_seq ?_
        refine C_region ?_
        refine V_w0.q (QY_assign rfl) rfl ?_
        refine V_nil (X_next ?_)
        refine C_block ?_
        refine C_loops (T := Int × (Int → Int)) (fun (zz9 : Int × (Int → Int)) => match zz9 with | (h, ex1) => [(0, .slice aF nf nf), (1, .slice aO no no), (2, .slice aL no no), (7, .slice aT nt nt), (20, .int .i32 (n : Int)), (21, .int .i32 tx), (25, .slice aU nt nt), (26, .slice aHt hc hc), (27, .slice a1 (T + 1) c1), (28, .slice a2 m c2), (29, .slice a3 m c3), (30, .int .i32 (T : Int)), (31, .slice (some ⟨bX, 0, none⟩) n n), (34, .int .i32 h)]) (fun (zz9 : Int × (Int → Int)) => match zz9 with | (h, ex1) => [(91, ⟨bX, n, n, ints .i32 ex1⟩)]) (fun (zz9 : Int × (Int → Int)) => match zz9 with | (h, ex1) => 0 ≤ h ∧ h ≤ hc ∧ ∀ u, 0 ≤ u → u < (n : Int) → ex1 u = cntU sr u ns + if tx ≤ u ∧ u < tx + h ∧ 0 ≤ lfL hb L2 Z2 ht (u - tx) then 1 else 0) (fun (zz9 : Int × (Int → Int)) => match zz9 with | (h, ex1) => ((hc : Int) - h).toNat) (0, ex) ?_ ?_ ?_ ?_
        · exact ⟨by omega, by omega, fun u a b => by rw [if_neg (by omega), Int.add_zero]; exact hex u a b⟩
        · exact ⟨rfl, rfl, rfl, rfl, rfl, rfl, rfl, rfl, rfl, rfl, rfl, rfl, rfl, rfl, trivial⟩
        · exact ⟨rfl, trivial⟩
        rintro ⟨h, ex1⟩ ⟨hh0, hh1, hex1⟩
        show C _ _ _ _ _ _ [(0, .slice aF nf nf), (1, .slice aO no no), (2, .slice aL no no), (7, .slice aT nt nt), (20, .int .i32 (n : Int)), (21, .int .i32 tx), (25, .slice aU nt nt), (26, .slice aHt hc hc), (27, .slice a1 (T + 1) c1), (28, .slice a2 m c2), (29, .slice a3 m c3), (30, .int .i32 (T : Int)), (31, .slice (some ⟨bX, 0, none⟩) n n), (34, .int .i32 h)] [(91, ⟨bX, n, n, ints .i32 ex1⟩)]
        refine C_seq ?_
        refine C_seq ?_
        refine C_region ?_
        refine V_w0.q (QY_move rfl) rfl ?_
        refine V_w0.q (QY_move rfl) rfl ?_
        refine V_w0.q (QY_move rfl) rfl ?_
        refine V_w0.q (QY_arith rfl rfl rfl ⟨by omega, by omega⟩) rfl ?_
        refine W_lss V_w0 rfl rfl rfl (fun h154 => ?_) (fun h154 => ?_)
        ·
          obtain ⟨q1, q2, q3, q4, q5⟩ := hub_at hp.hti (h := h) hh0 (by omega)
          have hthh := hth (ht h) q1 q2
          have htl := tot_le L2 nt q1 q2
          have hxh := hex1 (tx + h) (by omega) (by omega)
          rw [if_neg (by omega)] at hxh
          have hcb := cntU_b sr (tx + h) (k := (ns : Int)) (by omega)
          refine V_nil (X_next ?_)
          refine C_true rfl ?_
          refine C_skip (X_next ?_)
          refine C_seq ?_
          refine C_block ?_
          refine C_seq ?_
          refine C_region ?_
          refine V_w0.q (QY_move rfl) rfl ?_
          refine V_w0.q (QY_move rfl) rfl ?_
          refine V_w0.q (QY_move rfl) rfl ?_
          refine V_w0.q (QY_move rfl) rfl ?_
          refine V_call cb28 rfl (T := Int) (Φ := fun y => y = lfL hb L2 Z2 ht h) (val := fun y => .int .i32 y) (H' := fun _ => [(91, ⟨bX, n, n, ints .i32 ex1⟩)]) (fun w9 hm => (leaf28 w9 aHt aU aT hc nt nt hc nt nt A2 L2 L2 Z2 ht th h ((hHt.rd).at hm) ((hU.rd).at hm) ⟨(hT.1.rd).at hm, fun i a b => ((hT.2 i a b).rd).at hm⟩ hh0 (by omega) rfl q1 q2 (by omega) (by omega) (by omega) (by omega) (by omega)).mono fun e w2 ⟨y, h1, he, hM⟩ => ⟨y, by rw [h1, hthh]; rfl, he, hm.join0 hM⟩) rfl ?_
          intro lv9 hlv9
          refine W_geq V_w0 rfl rfl rfl (fun h162 => ?_) (fun h162 => ?_)
          ·
            refine V_nil (X_next ?_)
            refine C_true rfl ?_
            refine C_region ?_
            refine V_w0.q (QY_move rfl) rfl ?_
            refine V_w0.q (QY_move rfl) rfl ?_
            refine V_w0.q (QY_move rfl) rfl ?_
            refine V_w0.q (QY_arith rfl rfl rfl ⟨by omega, by omega⟩) rfl ?_
            refine W_elem V_w0 rfl rfl (Rd_own (q := 91) rfl (by omega)) (by omega) (by omega) sl22 lf21 rfl rfl (fun _ => ?_)
            refine V_w0.q (QY_arith rfl rfl rfl ⟨by omega, by omega⟩) rfl ?_
            refine V_set (q := 91) rfl rfl rfl rfl rfl (by omega) (by omega) (by omega) sl22 lf21 rfl rfl (upd_ints _ _ _ _) (fun _ => ?_)
            refine V_nil (X_block (X_next ?_))
            refine C_region ?_
            refine V_w0.q (QY_move rfl) rfl ?_
            refine V_w0.q (QY_arith rfl rfl rfl ⟨by omega, by omega⟩) rfl ?_
            refine V_w0.q (QY_assign rfl) rfl ?_
            refine V_nil (X_then ?_)
            refine X_round (h + 1, upd ex1 (tx + h) (ex1 (tx + h) + 1)) ?_ ?_ ?_ ?_
            · refine ⟨by omega, by omega, fun u a b => ?_⟩
              by_cases e : u = tx + h
              · subst e
                rw [upd_same, hex1 _ a b, if_neg (by omega), if_pos ⟨by omega, by omega, by rw [show tx + h - tx = h from by omega]; omega⟩]; omega
              · rw [upd_other _ _ _ e, hex1 u a b]
                by_cases c : tx ≤ u ∧ u < tx + h ∧ 0 ≤ lfL hb L2 Z2 ht (u - tx)
                · rw [if_pos c, if_pos ⟨c.1, by omega, c.2.2⟩]
                · rw [if_neg c, if_neg (by omega)]
            · show ((hc : Int) - (h + 1)).toNat < ((hc : Int) - h).toNat
              omega
            · exact ⟨rfl, rfl, rfl, rfl, rfl, rfl, rfl, rfl, rfl, rfl, rfl, rfl, rfl, rfl, trivial⟩
            · exact ⟨rfl, trivial⟩
          ·
            refine V_nil (X_next ?_)
            refine C_false rfl ?_
            refine C_skip (X_block (X_next ?_))
            refine C_region ?_
            refine V_w0.q (QY_move rfl) rfl ?_
            refine V_w0.q (QY_arith rfl rfl rfl ⟨by omega, by omega⟩) rfl ?_
            refine V_w0.q (QY_assign rfl) rfl ?_
            refine V_nil (X_then ?_)
            refine X_round (h + 1, ex1) ?_ ?_ ?_ ?_
            · refine ⟨by omega, by omega, fun u a b => ?_⟩
              rw [hex1 u a b]
              by_cases c : tx ≤ u ∧ u < tx + h ∧ 0 ≤ lfL hb L2 Z2 ht (u - tx)
              · rw [if_pos c, if_pos ⟨c.1, by omega, c.2.2⟩]
              · by_cases e : u = tx + h
                · subst e
                  rw [if_neg c, if_neg (by rw [show tx + h - tx = h from by omega]; omega)]
                · rw [if_neg c, if_neg (by omega)]
            · show ((hc : Int) - (h + 1)).toNat < ((hc : Int) - h).toNat
              omega
            · exact ⟨rfl, rfl, rfl, rfl, rfl, rfl, rfl, rfl, rfl, rfl, rfl, rfl, rfl, rfl, trivial⟩
            · exact ⟨rfl, trivial⟩
        ·
          obtain rfl : h = (hc : Int) := by omega
          have hexM : ∀ u, 0 ≤ u → u < (n : Int) → ex1 u = cntU fr u M := fun u a b => by
            rw [hex1 u a b, hra.count hp.hti a b]
            by_cases c : tx ≤ u ∧ 0 ≤ lfL hb L2 Z2 ht (u - tx)
            · rw [if_pos c, if_pos ⟨c.1, by omega, c.2⟩]
            · rw [if_neg c, if_neg (fun h => c ⟨h.1, h.2.2⟩)]
          refine V_nil (X_next ?_)
          refine C_false rfl ?_
          refine C_exit (X_then_exit (X_then_exit (X_block_exit (X_next ?_))))
          refine C_seq ?_
          refine C_seq ?_
          refine C_region ?_
          refine V_w0.q (QY_assign rfl) rfl ?_
          refine V_nil (X_next ?_)
          refine C_block ?_
          refine C_loops (T := Int) (fun (u : Int) => [(0, .slice aF nf nf), (1, .slice aO no no), (2, .slice aL no no), (7, .slice aT nt nt), (20, .int .i32 (n : Int)), (21, .int .i32 tx), (25, .slice aU nt nt), (26, .slice aHt hc hc), (27, .slice a1 (T + 1) c1), (28, .slice a2 m c2), (29, .slice a3 m c3), (30, .int .i32 (T : Int)), (31, .slice (some ⟨bX, 0, none⟩) n n), (35, .int .i32 u)]) (fun (u : Int) => [(91, ⟨bX, n, n, ints .i32 ex1⟩)]) (fun (u : Int) => 0 ≤ u ∧ u ≤ n) (fun (u : Int) => ((n : Int) - u).toNat) 0 ?_ ?_ ?_ ?_
          · exact ⟨by omega, by omega⟩
          · exact ⟨rfl, rfl, rfl, rfl, rfl, rfl, rfl, rfl, rfl, rfl, rfl, rfl, rfl, rfl, trivial⟩
          · exact ⟨rfl, trivial⟩
          rintro u ⟨hu0, hu1⟩
          show C _ _ _ _ _ _ [(0, .slice aF nf nf), (1, .slice aO no no), (2, .slice aL no no), (7, .slice aT nt nt), (20, .int .i32 (n : Int)), (21, .int .i32 tx), (25, .slice aU nt nt), (26, .slice aHt hc hc), (27, .slice a1 (T + 1) c1), (28, .slice a2 m c2), (29, .slice a3 m c3), (30, .int .i32 (T : Int)), (31, .slice (some ⟨bX, 0, none⟩) n n), (35, .int .i32 u)] [(91, ⟨bX, n, n, ints .i32 ex1⟩)]
          refine C_seq ?_
          refine C_seq ?_
          refine C_region ?_
          refine V_w0.q (QY_move rfl) rfl ?_
          refine V_w0.q (QY_move rfl) rfl ?_
          refine W_lss V_w0 rfl rfl rfl (fun h173 => ?_) (fun h173 => ?_)
          ·
            have hfb := adj_bounds hp.adj hu0 (by omega)
            have hfb1 := adj_bounds hp.adj (show (0 : Int) ≤ u + 1 by omega) (by omega)
            have hmo := hp.adj.2.2.1 u hu0 (by omega)
            have hnT := hra.nT
            have hrb0 := hra.rfb hu0 (by omega)
            have hrb1 := hra.rfb (u := u + 1) (by omega) (by omega)
            have hrs := hra.rfs hu0 (show u < (T : Int) by omega)
            have hdg := hra.degO (show u < (n : Int) by omega)
            have hxu := hexM u hu0 (by omega)
            refine V_nil (X_next ?_)
            refine C_true rfl ?_
            refine C_skip (X_next ?_)
            refine C_seq ?_
            refine C_block ?_
            refine C_seq ?_
            refine C_draw mix (by kernel_rfl) ?_
            refine S_w0.q (QY_move rfl) rfl ?_
            refine S_w0.q (QY_move rfl) rfl ?_
            refine S_w0.q (QY_arith rfl rfl rfl ⟨by omega, by omega⟩) rfl ?_
            refine W_elem S_w0 rfl rfl (hF.rd) (by omega) (by omega) sl22 lf21 rfl rfl (fun _ => ?_)
            refine S_w0.q (QY_move rfl) rfl ?_
            refine S_w0.q (QY_move rfl) rfl ?_
            refine W_elem S_w0 rfl rfl (hF.rd) (by omega) (by omega) sl22 lf21 rfl rfl (fun _ => ?_)
            refine S_w0.q (QY_arith rfl rfl rfl ⟨by omega, by omega⟩) rfl ?_
            refine S_w0.q (QY_assign rfl) rfl ?_
            refine S_nil (X_next ?_)
            refine C_seq ?_
            refine C_draw mix (by kernel_rfl) ?_
            refine S_w0.q (QY_move rfl) rfl ?_
            refine S_w0.q (QY_move rfl) rfl ?_
            refine S_w0.q (QY_arith rfl rfl rfl ⟨by omega, by omega⟩) rfl ?_
            refine W_elem S_w0 rfl rfl (hrf.rd) (by omega) (by omega) sl22 lf21 rfl rfl (fun _ => ?_)
            refine S_w0.q (QY_move rfl) rfl ?_
            refine S_w0.q (QY_move rfl) rfl ?_
            refine W_elem S_w0 rfl rfl (hrf.rd) (by omega) (by omega) sl22 lf21 rfl rfl (fun _ => ?_)
            refine S_w0.q (QY_arith rfl rfl rfl ⟨by omega, by omega⟩) rfl ?_
            refine S_w0.q (QY_assign rfl) rfl ?_
            refine S_nil (X_next ?_)
            refine C_seq ?_
            refine C_seq ?_
            refine C_region ?_
            refine V_w0.q (QY_move rfl) rfl ?_
            refine V_w0.q (QY_move rfl) rfl ?_
            refine V_w0.q (QY_move rfl) rfl ?_
            refine V_w0.q (QY_move rfl) rfl ?_
            refine W_elem V_w0 rfl rfl (Rd_own (q := 91) rfl (by omega)) (by omega) (by omega) sl22 lf21 rfl rfl (fun _ => ?_)
            refine V_w0.q (QY_arith rfl rfl rfl ⟨by omega, by omega⟩) rfl ?_
            refine W_neq V_w0 rfl rfl rfl (fun h203 => False.elim (h203 (by omega))) (fun h203 => ?_)
            refine V_nil (X_next ?_)
            refine C_false rfl ?_
            refine C_skip (X_next ?_)
            refine C_seq ?_
            refine C_region ?_
            refine V_w0.q (QY_assign rfl) rfl ?_
            refine V_nil (X_next ?_)
            refine C_block ?_
            refine C_loops (T := Int) (fun (k : Int) => [(0, .slice aF nf nf), (1, .slice aO no no), (2, .slice aL no no), (7, .slice aT nt nt), (20, .int .i32 (n : Int)), (21, .int .i32 tx), (25, .slice aU nt nt), (26, .slice aHt hc hc), (27, .slice a1 (T + 1) c1), (28, .slice a2 m c2), (29, .slice a3 m c3), (30, .int .i32 (T : Int)), (31, .slice (some ⟨bX, 0, none⟩) n n), (35, .int .i32 u), (36, .int .i32 (f (u + 1) - f u)), (37, .int .i32 (rf (u + 1) - rf u)), (38, .int .i32 k)]) (fun (k : Int) => [(91, ⟨bX, n, n, ints .i32 ex1⟩)]) (fun (k : Int) => 0 ≤ k ∧ k ≤ rf (u + 1) - rf u) (fun (k : Int) => ((rf (u + 1) - rf u) - k).toNat) 0 ?_ ?_ ?_ ?_
            · exact ⟨by omega, by omega⟩
            · exact ⟨rfl, rfl, rfl, rfl, rfl, rfl, rfl, rfl, rfl, rfl, rfl, rfl, rfl, rfl, rfl, rfl, rfl, trivial⟩
            · exact ⟨rfl, trivial⟩
            rintro k ⟨hk0, hk1⟩
            show C _ _ _ _ _ _ [(0, .slice aF nf nf), (1, .slice aO no no), (2, .slice aL no no), (7, .slice aT nt nt), (20, .int .i32 (n : Int)), (21, .int .i32 tx), (25, .slice aU nt nt), (26, .slice aHt hc hc), (27, .slice a1 (T + 1) c1), (28, .slice a2 m c2), (29, .slice a3 m c3), (30, .int .i32 (T : Int)), (31, .slice (some ⟨bX, 0, none⟩) n n), (35, .int .i32 u), (36, .int .i32 (f (u + 1) - f u)), (37, .int .i32 (rf (u + 1) - rf u)), (38, .int .i32 k)] [(91, ⟨bX, n, n, ints .i32 ex1⟩)]
            refine C_seq ?_
            refine C_seq ?_
            refine C_region ?_
            refine V_w0.q (QY_move rfl) rfl ?_
            refine V_w0.q (QY_move rfl) rfl ?_
            refine W_lss V_w0 rfl rfl rfl (fun h206 => ?_) (fun h206 => ?_)
            ·
              refine V_nil (X_next ?_)
              refine C_true rfl ?_
              refine C_skip (X_next ?_)
              refine C_seq ?_
              refine C_block ?_
              refine C_seq ?_
              refine C_region ?_
              refine V_w0.q (QY_move rfl) rfl ?_
              refine V_w0.q (QY_move rfl) rfl ?_
              refine W_elem V_w0 rfl rfl (hrf.rd) (by omega) (by omega) sl22 lf21 rfl rfl (fun _ => ?_)
              refine V_w0.q (QY_move rfl) rfl ?_
              refine V_w0.q (QY_arith rfl rfl rfl ⟨by omega, by omega⟩) rfl ?_
              refine V_w0.q (QY_assign rfl) rfl ?_
              refine V_nil (X_next ?_)
              refine C_seq ?_
              refine C_seq ?_
              refine C_region ?_
              refine V_w0.q (QY_move rfl) rfl ?_
              refine V_w0.q (QY_move rfl) rfl ?_
              refine W_lss V_w0 rfl rfl rfl (fun h217 => ?_) (fun h217 => ?_)
              ·
                have hold := hra.csr.old u k hu0 (by omega) hk0 (by omega)
                refine V_nil (X_next ?_)
                refine C_true rfl ?_
                refine C_seq ?_
                refine C_seq ?_
                refine C_draw mix (by kernel_rfl) ?_
                refine S_w0.q (QY_move rfl) rfl ?_
                refine S_w0.q (QY_move rfl) rfl ?_
                refine W_elem S_w0 rfl rfl (hro.rd) (by omega) (by omega) sl22 lf21 rfl rfl (fun _ => ?_)
                refine S_w0.q (QY_move rfl) rfl ?_
                refine S_w0.q (QY_move rfl) rfl ?_
                refine S_w0.q (QY_move rfl) rfl ?_
                refine W_elem S_w0 rfl rfl (hF.rd) (by omega) (by omega) sl22 lf21 rfl rfl (fun _ => ?_)
                refine S_w0.q (QY_move rfl) rfl ?_
                refine S_w0.q (QY_arith rfl rfl rfl ⟨by omega, by omega⟩) rfl ?_
                refine W_elem S_w0 rfl rfl (hO.rd) (by omega) (by omega) sl22 lf21 rfl rfl (fun _ => ?_)
                refine W_neq S_w0 rfl rfl rfl (fun h231 => False.elim (h231 hold.1)) (fun h231 => ?_)
                refine S_w0.q (QY_move rfl) rfl ?_
                refine S_walk.yes rfl rfl ?_
                refine S_w0.q (QY_move rfl) rfl ?_
                refine S_walk.yes rfl rfl ?_
                refine S_w0.q (QY_move rfl) rfl ?_
                refine S_walk.yes rfl rfl ?_
                refine W_elem2 S_walk rfl (fun _ => rfl) rfl rfl (hrc.rd) (by omega) (by omega) sl23 lf5 rfl rfl (fun _ => ?_)
                refine S_walk.yes rfl rfl ?_
                refine S_w0.q (QY_move rfl) rfl ?_
                refine S_walk.yes rfl rfl ?_
                refine S_w0.q (QY_move rfl) rfl ?_
                refine S_walk.yes rfl rfl ?_
                refine S_w0.q (QY_move rfl) rfl ?_
                refine S_walk.yes rfl rfl ?_
                refine W_elem2 S_walk rfl (fun _ => rfl) rfl rfl (hF.rd) (by omega) (by omega) sl22 lf21 rfl rfl (fun _ => ?_)
                refine S_walk.yes rfl rfl ?_
                refine S_w0.q (QY_move rfl) rfl ?_
                refine S_walk.yes rfl rfl ?_
                refine S_w0.q (QY_arith rfl rfl rfl ⟨by omega, by omega⟩) rfl ?_
                refine S_walk.yes rfl rfl ?_
                refine W_elem2 S_walk rfl (fun _ => rfl) rfl rfl (hL.rd) (by omega) (by omega) sl23 lf5 rfl rfl (fun _ => ?_)
                refine S_walk.yes rfl rfl ?_
                refine W_neq S_w0 rfl rfl rfl (fun h246 => False.elim (h246 hold.2)) (fun h246 => ?_)
                refine S_w0.q (QY_pick_false rfl rfl) rfl ?_
                refine S_nil (X_next ?_)
                refine C_false rfl ?_
                refine C_skip (X_next ?_)
                refine C_exit (X_then_exit (X_block_exit (X_next ?_)))
                refine C_region ?_
                refine V_w0.q (QY_move rfl) rfl ?_
                refine V_w0.q (QY_arith rfl rfl rfl ⟨by omega, by omega⟩) rfl ?_
                refine V_w0.q (QY_assign rfl) rfl ?_
                refine V_nil (X_then ?_)
                refine X_round (k + 1) ?_ ?_ ?_ ?_
                · exact ⟨by omega, by omega⟩
                · show ((rf (u + 1) - rf u) - (k + 1)).toNat < ((rf (u + 1) - rf u) - k).toNat
                  omega
                · exact ⟨rfl, rfl, rfl, rfl, rfl, rfl, rfl, rfl, rfl, rfl, rfl, rfl, rfl, rfl, rfl, rfl, rfl, trivial⟩
                · exact ⟨rfl, trivial⟩
              ·
                obtain ⟨i, i0, i1, _, _, hro9, hrc9⟩ := hra.newE (u := u) (j := k - dgU n f u) (by omega) (by omega) (by omega)
                rw [show rf u + dgU n f u + (k - dgU n f u) = rf u + k from by omega] at hro9 hrc9
                have hlo := hra.low i0 i1
                refine V_nil (X_next ?_)
                refine C_false rfl ?_
                refine C_skip (X_next ?_)
                refine C_seq ?_
                refine C_region ?_
                refine V_w0.q (QY_move rfl) rfl ?_
                refine V_w0.q (QY_move rfl) rfl ?_
                refine W_elem V_w0 rfl rfl (hro.rd) (by omega) (by omega) sl22 lf21 rfl rfl (fun _ => ?_)
                refine V_w0.q (QY_move rfl) rfl ?_
                refine W_lss V_w0 rfl rfl rfl (fun h253 => False.elim (by omega)) (fun h253 => ?_)
                refine V_w0.q (QY_move rfl) rfl ?_
                refine V_walk.yes rfl rfl ?_
                refine V_w0.q (QY_move rfl) rfl ?_
                refine V_walk.yes rfl rfl ?_
                refine V_w0.q (QY_move rfl) rfl ?_
                refine V_walk.yes rfl rfl ?_
                refine W_elem2 V_walk rfl (fun _ => rfl) rfl rfl (hrc.rd) (by omega) (by omega) sl23 lf5 rfl rfl (fun _ => ?_)
                refine V_walk.yes rfl rfl ?_
                refine W_neq V_w0 rfl rfl rfl (fun h259 => False.elim (h259 hrc9)) (fun h259 => ?_)
                refine V_w0.q (QY_pick_false rfl rfl) rfl ?_
                refine V_nil (X_next ?_)
                refine C_false rfl ?_
                refine C_skip (X_block (X_next ?_))
                refine C_region ?_
                refine V_w0.q (QY_move rfl) rfl ?_
                refine V_w0.q (QY_arith rfl rfl rfl ⟨by omega, by omega⟩) rfl ?_
                refine V_w0.q (QY_assign rfl) rfl ?_
                refine V_nil (X_then ?_)
                refine X_round (k + 1) ?_ ?_ ?_ ?_
                · exact ⟨by omega, by omega⟩
                · show ((rf (u + 1) - rf u) - (k + 1)).toNat < ((rf (u + 1) - rf u) - k).toNat
                  omega
                · exact ⟨rfl, rfl, rfl, rfl, rfl, rfl, rfl, rfl, rfl, rfl, rfl, rfl, rfl, rfl, rfl, rfl, rfl, trivial⟩
                · exact ⟨rfl, trivial⟩
            ·
              refine V_nil (X_next ?_)
              refine C_false rfl ?_
              refine C_exit (X_then_exit (X_then_exit (X_block_exit (X_block (X_next ?_)))))
              refine C_region ?_
              refine V_w0.q (QY_move rfl) rfl ?_
              refine V_w0.q (QY_arith rfl rfl rfl ⟨by omega, by omega⟩) rfl ?_
              refine V_w0.q (QY_assign rfl) rfl ?_
              refine V_nil (X_then ?_)
              refine X_round (u + 1) ?_ ?_ ?_ ?_
              · exact ⟨by omega, by omega⟩
              · show ((n : Int) - (u + 1)).toNat < ((n : Int) - u).toNat
                omega
              · exact ⟨rfl, rfl, rfl, rfl, rfl, rfl, rfl, rfl, rfl, rfl, rfl, rfl, rfl, rfl, trivial⟩
              · exact ⟨rfl, trivial⟩
          ·
            have hnT := hra.nT
            refine V_nil (X_next ?_)
            refine C_false rfl ?_
            refine C_exit (X_then_exit (X_then_exit (X_block_exit (X_next ?_))))
            refine C_seq ?_
            refine C_seq ?_
            refine C_region ?_
            refine V_w0.q (QY_move rfl) rfl ?_
            refine V_w0.q (QY_assign rfl) rfl ?_
            refine V_nil (X_next ?_)
            refine C_block ?_
            refine C_loops (T := Int) (fun (x : Int) => [(0, .slice aF nf nf), (1, .slice aO no no), (2, .slice aL no no), (7, .slice aT nt nt), (20, .int .i32 (n : Int)), (21, .int .i32 tx), (25, .slice aU nt nt), (26, .slice aHt hc hc), (27, .slice a1 (T + 1) c1), (28, .slice a2 m c2), (29, .slice a3 m c3), (30, .int .i32 (T : Int)), (31, .slice (some ⟨bX, 0, none⟩) n n), (40, .int .i32 x)]) (fun (x : Int) => [(91, ⟨bX, n, n, ints .i32 ex1⟩)]) (fun (x : Int) => (n : Int) ≤ x ∧ x ≤ T) (fun (x : Int) => ((T : Int) - x).toNat) (n : Int) ?_ ?_ ?_ ?_
            · exact ⟨by omega, by omega⟩
            · exact ⟨rfl, rfl, rfl, rfl, rfl, rfl, rfl, rfl, rfl, rfl, rfl, rfl, rfl, rfl, trivial⟩
            · exact ⟨rfl, trivial⟩
            rintro x ⟨hx0, hx1⟩
            show C _ _ _ _ _ _ [(0, .slice aF nf nf), (1, .slice aO no no), (2, .slice aL no no), (7, .slice aT nt nt), (20, .int .i32 (n : Int)), (21, .int .i32 tx), (25, .slice aU nt nt), (26, .slice aHt hc hc), (27, .slice a1 (T + 1) c1), (28, .slice a2 m c2), (29, .slice a3 m c3), (30, .int .i32 (T : Int)), (31, .slice (some ⟨bX, 0, none⟩) n n), (40, .int .i32 x)] [(91, ⟨bX, n, n, ints .i32 ex1⟩)]
            refine C_seq ?_
            refine C_seq ?_
            refine C_region ?_
            refine V_w0.q (QY_move rfl) rfl ?_
            refine V_w0.q (QY_move rfl) rfl ?_
            refine W_lss V_w0 rfl rfl rfl (fun h264 => ?_) (fun h264 => ?_)
            ·
              obtain ⟨hE1, hE2, hE⟩ := hra.rel2 hx0 (by omega)
              have hrb0 := hra.rfb (u := x) (by omega) (by omega)
              have hrb1 := hra.rfb (u := x + 1) (by omega) (by omega)
              refine V_nil (X_next ?_)
              refine C_true rfl ?_
              refine C_skip (X_next ?_)
              refine C_seq ?_
              refine C_block ?_
              refine C_seq ?_
              refine C_region ?_
              refine V_w0.q (QY_assign rfl) rfl ?_
              refine V_nil (X_next ?_)
              refine C_seq ?_
              refine C_region ?_
              refine V_w0.q (QY_assign rfl) rfl ?_
              refine V_nil (X_next ?_)
              refine C_seq ?_
              refine C_seq ?_
              refine C_region ?_
              refine V_w0.q (QY_move rfl) rfl ?_
              refine V_w0.q (QY_move rfl) rfl ?_
              refine W_elem V_w0 rfl rfl (hrf.rd) (by omega) (by omega) sl22 lf21 rfl rfl (fun _ => ?_)
              refine V_w0.q (QY_assign rfl) rfl ?_
              refine V_nil (X_next ?_)
              refine C_block ?_
              refine C_loops (T := Int × Int × Int) (fun (zz9 : Int × Int × Int) => match zz9 with | (e, lo, hi) => [(0, .slice aF nf nf), (1, .slice aO no no), (2, .slice aL no no), (7, .slice aT nt nt), (20, .int .i32 (n : Int)), (21, .int .i32 tx), (25, .slice aU nt nt), (26, .slice aHt hc hc), (27, .slice a1 (T + 1) c1), (28, .slice a2 m c2), (29, .slice a3 m c3), (30, .int .i32 (T : Int)), (31, .slice (some ⟨bX, 0, none⟩) n n), (40, .int .i32 x), (41, .int .i64 lo), (42, .int .i64 hi), (43, .int .i32 e)]) (fun (zz9 : Int × Int × Int) => match zz9 with | (e, lo, hi) => [(91, ⟨bX, n, n, ints .i32 ex1⟩)]) (fun (zz9 : Int × Int × Int) => match zz9 with | (e, lo, hi) => rf x ≤ e ∧ e ≤ rf (x + 1) ∧ (lo = 0 ∧ hi = 0 ∧ e = rf x ∨ lo = 1 ∧ hi = 0 ∧ e = rf x + 1 ∨ lo = 1 ∧ hi = 1 ∧ e = rf x + 2)) (fun (zz9 : Int × Int × Int) => match zz9 with | (e, lo, hi) => (rf (x + 1) - e).toNat) (rf x, 0, 0) ?_ ?_ ?_ ?_
              · exact ⟨by omega, by omega, by omega⟩
              · exact ⟨rfl, rfl, rfl, rfl, rfl, rfl, rfl, rfl, rfl, rfl, rfl, rfl, rfl, rfl, rfl, rfl, rfl, trivial⟩
              · exact ⟨rfl, trivial⟩
              rintro ⟨e, lo, hi⟩ ⟨he0, he1, hlh⟩
              show C _ _ _ _ _ _ [(0, .slice aF nf nf), (1, .slice aO no no), (2, .slice aL no no), (7, .slice aT nt nt), (20, .int .i32 (n : Int)), (21, .int .i32 tx), (25, .slice aU nt nt), (26, .slice aHt hc hc), (27, .slice a1 (T + 1) c1), (28, .slice a2 m c2), (29, .slice a3 m c3), (30, .int .i32 (T : Int)), (31, .slice (some ⟨bX, 0, none⟩) n n), (40, .int .i32 x), (41, .int .i64 lo), (42, .int .i64 hi), (43, .int .i32 e)] [(91, ⟨bX, n, n, ints .i32 ex1⟩)]
              refine C_seq ?_
              refine C_seq ?_
              refine C_region ?_
              refine V_w0.q (QY_move rfl) rfl ?_
              refine V_w0.q (QY_move rfl) rfl ?_
              refine V_w0.q (QY_move rfl) rfl ?_
              refine V_w0.q (QY_arith rfl rfl rfl ⟨by omega, by omega⟩) rfl ?_
              refine W_elem V_w0 rfl rfl (hrf.rd) (by omega) (by omega) sl22 lf21 rfl rfl (fun _ => ?_)
              refine W_lss V_w0 rfl rfl rfl (fun h277 => ?_) (fun h277 => ?_)
              ·
                have hE9 := hE e he0 (by omega)
                refine V_nil (X_next ?_)
                refine C_true rfl ?_
                refine C_skip (X_next ?_)
                refine C_seq ?_
                refine C_block ?_
                refine C_seq ?_
                refine C_seq ?_
                refine C_region ?_
                refine V_w0.q (QY_move rfl) rfl ?_
                refine V_w0.q (QY_move rfl) rfl ?_
                refine W_elem V_w0 rfl rfl (hrc.rd) (by omega) (by omega) sl23 lf5 rfl rfl (fun _ => ?_)
                refine W_neq V_w0 rfl rfl rfl (fun h284 => False.elim (h284 hE9.1)) (fun h284 => ?_)
                refine V_nil (X_next ?_)
                refine C_false rfl ?_
                refine C_skip (X_next ?_)
                refine C_seq ?_
                refine C_region ?_
                refine V_w0.q (QY_move rfl) rfl ?_
                refine V_w0.q (QY_move rfl) rfl ?_
                refine W_elem V_w0 rfl rfl (hro.rd) (by omega) (by omega) sl22 lf21 rfl rfl (fun _ => ?_)
                refine V_w0.q (QY_move rfl) rfl ?_
                refine W_lss V_w0 rfl rfl rfl (fun h290 => ?_) (fun h290 => ?_)
                ·
                  refine V_nil (X_next ?_)
                  refine C_true rfl ?_
                  refine C_region ?_
                  refine V_w0.q (QY_move rfl) rfl ?_
                  refine V_w0.q (QY_arith rfl rfl rfl ⟨by omega, by omega⟩) rfl ?_
                  refine V_w0.q (QY_assign rfl) rfl ?_
                  refine V_nil (X_block (X_next ?_))
                  refine C_region ?_
                  refine V_w0.q (QY_move rfl) rfl ?_
                  refine V_w0.q (QY_arith rfl rfl rfl ⟨by omega, by omega⟩) rfl ?_
                  refine V_w0.q (QY_assign rfl) rfl ?_
                  refine V_nil (X_then ?_)
                  refine X_round (e + 1, lo + 1, hi) ?_ ?_ ?_ ?_
                  · exact ⟨by omega, by omega, by have := hE9.2.1 h290; omega⟩
                  · show (rf (x + 1) - (e + 1)).toNat < (rf (x + 1) - e).toNat
                    omega
                  · exact ⟨rfl, rfl, rfl, rfl, rfl, rfl, rfl, rfl, rfl, rfl, rfl, rfl, rfl, rfl, rfl, rfl, rfl, trivial⟩
                  · exact ⟨rfl, trivial⟩
                ·
                  refine V_nil (X_next ?_)
                  refine C_false rfl ?_
                  refine C_region ?_
                  refine V_w0.q (QY_move rfl) rfl ?_
                  refine V_w0.q (QY_arith rfl rfl rfl ⟨by omega, by omega⟩) rfl ?_
                  refine V_w0.q (QY_assign rfl) rfl ?_
                  refine V_nil (X_block (X_next ?_))
                  refine C_region ?_
                  refine V_w0.q (QY_move rfl) rfl ?_
                  refine V_w0.q (QY_arith rfl rfl rfl ⟨by omega, by omega⟩) rfl ?_
                  refine V_w0.q (QY_assign rfl) rfl ?_
                  refine V_nil (X_then ?_)
                  refine X_round (e + 1, lo, hi + 1) ?_ ?_ ?_ ?_
                  · exact ⟨by omega, by omega, by have : ¬ e = rf x := fun h => h290 (hE9.2.2 h); omega⟩
                  · show (rf (x + 1) - (e + 1)).toNat < (rf (x + 1) - e).toNat
                    omega
                  · exact ⟨rfl, rfl, rfl, rfl, rfl, rfl, rfl, rfl, rfl, rfl, rfl, rfl, rfl, rfl, rfl, rfl, rfl, trivial⟩
                  · exact ⟨rfl, trivial⟩
              ·
                refine V_nil (X_next ?_)
                refine C_false rfl ?_
                refine C_exit (X_then_exit (X_then_exit (X_block_exit (X_next ?_))))
                refine C_seq ?_
                refine C_region ?_
                refine V_w0.q (QY_move rfl) rfl ?_
                refine W_neq V_w0 rfl rfl rfl (fun h296 => False.elim (h296 (by omega))) (fun h296 => ?_)
                refine V_w0.q (QY_move rfl) rfl ?_
                refine V_walk.yes rfl rfl ?_
                refine V_w0.q (QY_move rfl) rfl ?_
                refine V_walk.yes rfl rfl ?_
                refine W_gtr V_w0 rfl rfl rfl (fun h299 => False.elim (by omega)) (fun h299 => ?_)
                refine V_w0.q (QY_pick_false rfl rfl) rfl ?_
                refine V_nil (X_next ?_)
                refine C_false rfl ?_
                refine C_skip (X_block (X_next ?_))
                refine C_region ?_
                refine V_w0.q (QY_move rfl) rfl ?_
                refine V_w0.q (QY_arith rfl rfl rfl ⟨by omega, by omega⟩) rfl ?_
                refine V_w0.q (QY_assign rfl) rfl ?_
                refine V_nil (X_then ?_)
                refine X_round (x + 1) ?_ ?_ ?_ ?_
                · exact ⟨by omega, by omega⟩
                · show ((T : Int) - (x + 1)).toNat < ((T : Int) - x).toNat
                  omega
                · exact ⟨rfl, rfl, rfl, rfl, rfl, rfl, rfl, rfl, rfl, rfl, rfl, rfl, rfl, rfl, trivial⟩
                · exact ⟨rfl, trivial⟩
            ·
              refine V_nil (X_next ?_)
              refine C_false rfl ?_
              refine C_exit (X_then_exit (X_then_exit (X_block_exit (X_next ?_))))
              refine C_seq ?_
              refine C_region ?_
              refine V_w0.q (QY_assign rfl) rfl ?_
              refine V_nil (X_next ?_)
              refine C_ret (?_)
              refine X_ret1 rfl rfl (fun w hm => ?_)
              exact ⟨rfl, (hmw.join0 (hm.sub trivial)).below⟩
    ·
      refine V_w0.q (QY_not rfl) rfl ?_
      refine V_nil (X_next ?_)
      refine C_true rfl ?_
      refine C_seq ?_
      refine C_region ?_
      refine V_w0.q (QY_assign rfl) rfl ?_
      refine V_nil (X_next ?_)
      refine C_ret (X_then_ret (?_))
      refine X_ret1 rfl rfl (fun w hm => ?_)
      exact ⟨rfl, (hmw.join0 (hm.sub trivial)).below⟩
  ·
    refine V_w0.q (QY_not rfl) rfl ?_
    refine V_nil (X_next ?_)
    refine C_true rfl ?_
    refine C_seq ?_
    refine C_region ?_
    refine V_w0.q (QY_assign rfl) rfl ?_
    refine V_nil (X_next ?_)
    refine C_ret (X_then_ret (?_))
    refine X_ret1 rfl rfl (fun w hm => ?_)
    exact ⟨rfl, (hmw.join0 (hm.sub trivial)).below⟩

end Go.Proofs.Qxb6001307a
