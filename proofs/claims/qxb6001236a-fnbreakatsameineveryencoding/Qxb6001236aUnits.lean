/-
  OWN WORK (the rule applications laid by a program of our own, wip/gen). The functions on code units.
-/
import Derived.Test.Qxb6001236aPlain
namespace Go.Proofs.Qxb6001236a
open Go.RowKit
set_option linter.unusedSimpArgs false
set_option linter.unusedVariables false

theorem eq30 (w : World) (a b : Option Addr) (m ca cb : Nat) (f g : Int → Int) (hA : RdW w (.slice a m ca) m (ints .u8 f)) (hB : RdW w (.slice b m cb) m (ints .u8 g)) (hf : ∀ i, 0 ≤ i → i < (m : Int) → 0 ≤ f i ∧ f i ≤ 255) (hg : ∀ i, 0 ≤ i → i < (m : Int) → 0 ≤ g i ∧ g i ≤ 255) :
    Calls Try.prog 30 #[.slice a m ca, .slice b m cb] w fun e w' => ∃ y : Bool, (y = true ↔ ∀ i, 0 ≤ i → i < (m : Int) → f i = g i) ∧ e = .returned (.bool y) ∧ Mem (Old w) w [] w' := by
  refine enter (N := 10) (vs := [.slice a m ca, .slice b m cb]) Try.func30 rfl Try.ntmps30 rfl ?_ w (Mem.start w)
  refine C_seq ?_
  refine C_region ?_
  refine V_w0.q (QY_assign rfl) rfl ?_
  refine V_nil (X_next ?_)
  refine C_seq ?_
  refine C_region ?_
  refine V_w0.q (QY_move rfl) rfl ?_
  refine V_w0.q (QY_str Try.underlying22 Try.underlying5 Try.underlying9 rfl hA.rd) rfl ?_
  refine V_w0.q (QY_move rfl) rfl ?_
  refine V_w0.q (QY_str Try.underlying22 Try.underlying5 Try.underlying9 rfl hB.rd) rfl ?_
  refine V_w0.q (QY_eqlS Try.underlying9 rfl rfl) rfl ?_
  refine V_w0.q (QY_assign rfl) rfl ?_
  refine V_nil (X_next ?_)
  refine C_ret (?_)
  refine X_ret1 rfl rfl (fun w hm => ?_)
  exact ⟨_, bstr_eq hf hg, rfl, hm⟩

theorem hp28 (w : World) (aD aP : Option Addr) (n k cD cP : Nat) (d p : Int → Int) (hD : RdW w (.slice aD n cD) n (ints .u8 d)) (hP : RdW w (.slice aP k cP) k (ints .u8 p)) (hnc : n ≤ cD) (hd : ∀ i, 0 ≤ i → i < (n : Int) → 0 ≤ d i ∧ d i ≤ 255) (hp : ∀ i, 0 ≤ i → i < (k : Int) → 0 ≤ p i ∧ p i ≤ 255) :
    Calls Try.prog 28 #[.slice aD n cD, .slice aP k cP] w fun e w' => ∃ y : Bool, (y = true ↔ (k : Int) ≤ n ∧ ∀ i, 0 ≤ i → i < (k : Int) → d i = p i) ∧ e = .returned (.bool y) ∧ Mem (Old w) w [] w' := by
  refine enter (N := 18) (vs := [.slice aD n cD, .slice aP k cP]) Try.func28 rfl Try.ntmps28 rfl ?_ w (Mem.start w)
  refine C_seq ?_
  refine C_region ?_
  refine V_w0.q (QY_assign rfl) rfl ?_
  refine V_nil (X_next ?_)
  refine C_seq ?_
  refine C_region ?_
  refine V_w0.q (QY_move rfl) rfl ?_
  refine V_w0.q (QY_len sl22 rfl) rfl ?_
  refine V_w0.q (QY_move rfl) rfl ?_
  refine V_w0.q (QY_len sl22 rfl) rfl ?_
  refine W_geq V_w0 rfl rfl rfl (fun h9 => ?_) (fun h9 => ?_)
  ·
    refine V_w0.q (QY_move rfl) rfl ?_
    refine V_walk.yes rfl rfl ?_
    refine V_w0.q (QY_move rfl) rfl ?_
    refine V_walk.yes rfl rfl ?_
    refine V_w0.q (QY_move rfl) rfl ?_
    refine V_walk.yes rfl rfl ?_
    refine V_w0.q (QY_len sl22 rfl) rfl ?_
    refine V_walk.yes rfl rfl ?_
    refine V_w0.q (QY_slice_hi sl22 rfl rfl (by omega) (by omega) (by omega)) rfl ?_
    refine V_walk.yes rfl rfl ?_
    refine V_w0.q (QY_move rfl) rfl ?_
    refine V_walk.yes rfl rfl ?_
    refine V_call cb30 rfl (T := Bool) (Φ := fun y => y = true ↔ ∀ i, 0 ≤ i → i < (k : Int) → d i = p i) (val := fun y => .bool y) (H' := fun _ => []) (fun w9 hm => (eq30 w9 aD aP k cD cP d p ((hD.take (by omega) cD).mv hm) (hP.mv hm) (fun i a b => hd i a (by omega)) hp).mono fun e w2 ⟨y, h1, he, hM⟩ => ⟨y, h1, he, hm.join0 hM⟩) rfl ?_
    intro y hy
    refine V_w0.q (QY_pick_true rfl rfl) rfl ?_
    refine V_w0.q (QY_assign rfl) rfl ?_
    refine V_nil (X_next ?_)
    refine C_ret (?_)
    refine X_ret1 rfl rfl (fun w hm => ?_)
    exact ⟨y, ⟨fun h => ⟨h9, hy.1 h⟩, fun h => hy.2 h.2⟩, rfl, hm⟩
  ·
    refine V_w0.q (QY_move rfl) rfl ?_
    refine V_walk.no rfl rfl rfl ?_
    refine V_walk.no rfl rfl rfl ?_
    refine V_walk.no rfl rfl rfl ?_
    refine V_walk.no rfl rfl rfl ?_
    refine V_walk.no rfl rfl rfl ?_
    refine V_walk.no rfl rfl rfl ?_
    refine V_w0.q (QY_pick_false rfl rfl) rfl ?_
    refine V_w0.q (QY_assign rfl) rfl ?_
    refine V_nil (X_next ?_)
    refine C_ret (?_)
    refine X_ret1 rfl rfl (fun w hm => ?_)
    exact ⟨false, ⟨(fun h => by cases h), fun h => absurd h.1 h9⟩, rfl, hm⟩

theorem pf1 {n : Nat} {d : Int → Int} : (((2 : Nat) : Int) ≤ n ∧ ∀ i, 0 ≤ i → i < ((2 : Nat) : Int) → d i = (fun i => if i = 0 then 255 else 254) i) ↔ 2 ≤ (n : Int) ∧ d 0 = 255 ∧ d 1 = 254 := by
  constructor
  · rintro ⟨h, hi⟩
    exact ⟨by omega, hi 0 (by omega) (by omega), hi 1 (by omega) (by omega)⟩
  · rintro ⟨h, h0, h1⟩
    refine ⟨by omega, fun i a b => ?_⟩
    rcases (by omega : i = 0 ∨ i = 1) with rfl | rfl
    · exact h0
    · exact h1
theorem pf2 {n : Nat} {d : Int → Int} : (((2 : Nat) : Int) ≤ n ∧ ∀ i, 0 ≤ i → i < ((2 : Nat) : Int) → d i = (fun i => if i = 0 then 254 else 255) i) ↔ 2 ≤ (n : Int) ∧ d 0 = 254 ∧ d 1 = 255 := by
  constructor
  · rintro ⟨h, hi⟩
    exact ⟨by omega, hi 0 (by omega) (by omega), hi 1 (by omega) (by omega)⟩
  · rintro ⟨h, h0, h1⟩
    refine ⟨by omega, fun i a b => ?_⟩
    rcases (by omega : i = 0 ∨ i = 1) with rfl | rfl
    · exact h0
    · exact h1
theorem pf3 {n : Nat} {d : Int → Int} : (((3 : Nat) : Int) ≤ n ∧ ∀ i, 0 ≤ i → i < ((3 : Nat) : Int) → d i = (fun i => if i = 0 then 239 else if i = 1 then 187 else 191) i) ↔ 3 ≤ (n : Int) ∧ d 0 = 239 ∧ d 1 = 187 ∧ d 2 = 191 := by
  constructor
  · rintro ⟨h, hi⟩
    exact ⟨by omega, hi 0 (by omega) (by omega), hi 1 (by omega) (by omega), hi 2 (by omega) (by omega)⟩
  · rintro ⟨h, h0, h1, h2⟩
    refine ⟨by omega, fun i a b => ?_⟩
    rcases (by omega : i = 0 ∨ i = 1 ∨ i = 2) with rfl | rfl | rfl
    · exact h0
    · exact h1
    · exact h2
set_option maxHeartbeats 1000000 in
theorem uo24 (w : World) (aD : Option Addr) (n cD : Nat) (d : Int → Int) (hD : RdW w (.slice aD n cD) n (ints .u8 d)) (hnc : n ≤ cD) (hd : ∀ i, 0 ≤ i → i < (n : Int) → 0 ≤ d i ∧ d i ≤ 255) :
    Calls Try.prog 24 #[.slice aD n cD] w fun e w' => ∃ y : Int × Int × Int, y = uo n d ∧ e = .returned (.agg #[.slice aD n cD, .int .i64 y.1, .int .i64 y.2.1, .int .i64 y.2.2]) ∧ Mem (Old w) w [] w' := by
  have hD0 := hD.rdb
  refine enter (N := 23) (vs := [.slice aD n cD]) Try.func24 rfl Try.ntmps24 rfl ?_ w (Mem.start w)
  refine C_seq ?_
  refine C_region ?_
  refine V_allocA 1 ag34 rfl rfl (fun b2 => ?_)
  refine V_nil (X_next ?_)
  refine C_seq ?_
  refine C_seq ?_
  refine C_region ?_
  refine V_w0.q (QY_move rfl) rfl ?_
  refine V_bytes (parts := [(0, .const (.int .u8 255)), (1, .const (.int .u8 254))]) (vs := [(0, .int .u8 255), (1, .int .u8 254)]) (C := [.int .u8 255, .int .u8 254]) (c := fun i => if i = 0 then 255 else 254) (fun a hf => rfl) (fun w => bs2 w _ _ rfl rfl) (by intro i hi; rcases (by omega : i = 0 ∨ i = 1) with rfl | rfl <;> rfl) Try.underlying22 Try.underlying5 rfl rfl ?_
  intro bP1 w1 hm1 hP1
  have hD1 := hD0.move hm1 (fun q k h => h)
  have hmw1 := hm1
  refine V_call cb28 rfl (T := Bool) (Φ := fun y => y = true ↔ 2 ≤ (n : Int) ∧ d 0 = 255 ∧ d 1 = 254) (val := fun y => .bool y) (H' := fun _ => [(1, ⟨b2, 4, 4, fl [.slice none 0 0, .int .i64 0, .int .i64 0, .int .i64 0]⟩)]) (fun w9 hm => (hp28 w9 aD (some ⟨bP1, 0, none⟩) n 2 cD 2 d (fun i => if i = 0 then 255 else 254) (hD1.rd.at hm) (hP1.rd.at hm) hnc hd (fun i a b => by constructor <;> (repeat' split) <;> omega)).mono fun e w2 ⟨y, h1, he, hM⟩ => ⟨y, h1.trans pf1, he, hm.join0 hM⟩) rfl ?_
  intro y6 hy6
  refine W_bool V_w0 6 rfl (fun h6 => ?_) (fun h6 => ?_)
  ·
    refine V_nil (X_next ?_)
    refine C_true rfl ?_
    refine C_seq ?_
    refine C_region ?_
    refine V_w0.q (QY_move rfl) rfl ?_
    refine V_w0.q (v := .agg [.slice aD n cD, .int .i64 2, .int .i64 2, .int .i64 0].toArray) (QY_build (parts := [(0, .tmp 7), (1, .const (.int .i64 2)), (2, .const (.int .i64 2)), (3, .const (.int .i64 0))]) (vs := [(0, .slice aD n cD), (1, .int .i64 2), (2, .int .i64 2), (3, .int .i64 0)]) (fun a hf => by
      simp only [List.map_cons, List.map_nil]
      rw [hf.eval (x := .tmp 7) rfl] <;> rfl) (fun w => build34a w _ _ _ _ rfl rfl rfl rfl)) rfl ?_
    refine V_storeV (q := 1) ag34 rfl rfl rfl rfl (by simp [Value.oneCell']) (by decide) ?_
    refine V_nil (X_next ?_)
    refine C_ret (X_then_ret (?_))
    refine X_retC (q := 1) (ty := 34) rfl ag34 rfl rfl rfl (fun w hm => ?_)
    exact ⟨(2, 2, 0), by unfold uo; rw [if_pos (hy6.1 h6)], rfl, (hmw1.chain (keys_sub rfl) hm).sub trivial⟩
  ·
    refine V_nil (X_next ?_)
    refine C_false rfl ?_
    refine C_skip (X_next ?_)
    refine C_seq ?_
    refine C_seq ?_
    refine C_region ?_
    refine V_w0.q (QY_move rfl) rfl ?_
    refine V_bytes (parts := [(0, .const (.int .u8 254)), (1, .const (.int .u8 255))]) (vs := [(0, .int .u8 254), (1, .int .u8 255)]) (C := [.int .u8 254, .int .u8 255]) (c := fun i => if i = 0 then 254 else 255) (fun a hf => rfl) (fun w => bs2 w _ _ rfl rfl) (by intro i hi; rcases (by omega : i = 0 ∨ i = 1) with rfl | rfl <;> rfl) Try.underlying22 Try.underlying5 rfl rfl ?_
    intro bP2 w2 hm2 hP2
    have hD2 := hD1.move hm2 (fun q k h => h)
    have hmw2 := hmw1.chain (fun q h => h) hm2
    refine V_call cb28 rfl (T := Bool) (Φ := fun y => y = true ↔ 2 ≤ (n : Int) ∧ d 0 = 254 ∧ d 1 = 255) (val := fun y => .bool y) (H' := fun _ => [(1, ⟨b2, 4, 4, fl [.slice none 0 0, .int .i64 0, .int .i64 0, .int .i64 0]⟩)]) (fun w9 hm => (hp28 w9 aD (some ⟨bP2, 0, none⟩) n 2 cD 2 d (fun i => if i = 0 then 254 else 255) (hD2.rd.at hm) (hP2.rd.at hm) hnc hd (fun i a b => by constructor <;> (repeat' split) <;> omega)).mono fun e w2 ⟨y, h1, he, hM⟩ => ⟨y, h1.trans pf2, he, hm.join0 hM⟩) rfl ?_
    intro y12 hy12
    refine W_bool V_w0 12 rfl (fun h12 => ?_) (fun h12 => ?_)
    ·
      refine V_nil (X_next ?_)
      refine C_true rfl ?_
      refine C_seq ?_
      refine C_region ?_
      refine V_w0.q (QY_move rfl) rfl ?_
      refine V_w0.q (v := .agg [.slice aD n cD, .int .i64 2, .int .i64 2, .int .i64 1].toArray) (QY_build (parts := [(0, .tmp 13), (1, .const (.int .i64 2)), (2, .const (.int .i64 2)), (3, .const (.int .i64 1))]) (vs := [(0, .slice aD n cD), (1, .int .i64 2), (2, .int .i64 2), (3, .int .i64 1)]) (fun a hf => by
        simp only [List.map_cons, List.map_nil]
        rw [hf.eval (x := .tmp 13) rfl] <;> rfl) (fun w => build34a w _ _ _ _ rfl rfl rfl rfl)) rfl ?_
      refine V_storeV (q := 1) ag34 rfl rfl rfl rfl (by simp [Value.oneCell']) (by decide) ?_
      refine V_nil (X_next ?_)
      refine C_ret (X_then_ret (?_))
      refine X_retC (q := 1) (ty := 34) rfl ag34 rfl rfl rfl (fun w hm => ?_)
      exact ⟨(2, 2, 1), by unfold uo; rw [if_neg (fun h => by rw [hy6.2 h] at h6; cases h6), if_pos (hy12.1 h12)], rfl, (hmw2.chain (keys_sub rfl) hm).sub trivial⟩
    ·
      refine V_nil (X_next ?_)
      refine C_false rfl ?_
      refine C_skip (X_next ?_)
      refine C_seq ?_
      refine C_seq ?_
      refine C_region ?_
      refine V_w0.q (QY_move rfl) rfl ?_
      refine V_bytes (parts := [(0, .const (.int .u8 239)), (1, .const (.int .u8 187)), (2, .const (.int .u8 191))]) (vs := [(0, .int .u8 239), (1, .int .u8 187), (2, .int .u8 191)]) (C := [.int .u8 239, .int .u8 187, .int .u8 191]) (c := fun i => if i = 0 then 239 else if i = 1 then 187 else 191) (fun a hf => rfl) (fun w => bs3 w _ _ _ rfl rfl rfl) (by intro i hi; rcases (by omega : i = 0 ∨ i = 1 ∨ i = 2) with rfl | rfl | rfl <;> rfl) Try.underlying22 Try.underlying5 rfl rfl ?_
      intro bP3 w3 hm3 hP3
      have hD3 := hD2.move hm3 (fun q k h => h)
      have hmw3 := hmw2.chain (fun q h => h) hm3
      refine V_call cb28 rfl (T := Bool) (Φ := fun y => y = true ↔ 3 ≤ (n : Int) ∧ d 0 = 239 ∧ d 1 = 187 ∧ d 2 = 191) (val := fun y => .bool y) (H' := fun _ => [(1, ⟨b2, 4, 4, fl [.slice none 0 0, .int .i64 0, .int .i64 0, .int .i64 0]⟩)]) (fun w9 hm => (hp28 w9 aD (some ⟨bP3, 0, none⟩) n 3 cD 3 d (fun i => if i = 0 then 239 else if i = 1 then 187 else 191) (hD3.rd.at hm) (hP3.rd.at hm) hnc hd (fun i a b => by constructor <;> (repeat' split) <;> omega)).mono fun e w2 ⟨y, h1, he, hM⟩ => ⟨y, h1.trans pf3, he, hm.join0 hM⟩) rfl ?_
      intro y18 hy18
      refine W_bool V_w0 18 rfl (fun h18 => ?_) (fun h18 => ?_)
      ·
        refine V_nil (X_next ?_)
        refine C_true rfl ?_
        refine C_seq ?_
        refine C_region ?_
        refine V_w0.q (QY_move rfl) rfl ?_
        refine V_w0.q (v := .agg [.slice aD n cD, .int .i64 3, .int .i64 1, .int .i64 0].toArray) (QY_build (parts := [(0, .tmp 19), (1, .const (.int .i64 3)), (2, .const (.int .i64 1))]) (vs := [(0, .slice aD n cD), (1, .int .i64 3), (2, .int .i64 1)]) (fun a hf => by
          simp only [List.map_cons, List.map_nil]
          rw [hf.eval (x := .tmp 19) rfl] <;> rfl) (fun w => build34b w _ _ _ rfl rfl rfl)) rfl ?_
        refine V_storeV (q := 1) ag34 rfl rfl rfl rfl (by simp [Value.oneCell']) (by decide) ?_
        refine V_nil (X_next ?_)
        refine C_ret (X_then_ret (?_))
        refine X_retC (q := 1) (ty := 34) rfl ag34 rfl rfl rfl (fun w hm => ?_)
        exact ⟨(3, 1, 0), by unfold uo; rw [if_neg (fun h => by rw [hy6.2 h] at h6; cases h6), if_neg (fun h => by rw [hy12.2 h] at h12; cases h12), if_pos (hy18.1 h18)], rfl, (hmw3.chain (keys_sub rfl) hm).sub trivial⟩
      ·
        refine V_nil (X_next ?_)
        refine C_false rfl ?_
        refine C_skip (X_next ?_)
        refine C_seq ?_
        refine C_region ?_
        refine V_w0.q (QY_move rfl) rfl ?_
        refine V_w0.q (v := .agg [.slice aD n cD, .int .i64 0, .int .i64 1, .int .i64 0].toArray) (QY_build (parts := [(0, .tmp 21), (2, .const (.int .i64 1))]) (vs := [(0, .slice aD n cD), (2, .int .i64 1)]) (fun a hf => by
          simp only [List.map_cons, List.map_nil]
          rw [hf.eval (x := .tmp 21) rfl] <;> rfl) (fun w => build34c w _ _ rfl rfl)) rfl ?_
        refine V_storeV (q := 1) ag34 rfl rfl rfl rfl (by simp [Value.oneCell']) (by decide) ?_
        refine V_nil (X_next ?_)
        refine C_ret (?_)
        refine X_retC (q := 1) (ty := 34) rfl ag34 rfl rfl rfl (fun w hm => ?_)
        exact ⟨(0, 1, 0), by unfold uo; rw [if_neg (fun h => by rw [hy6.2 h] at h6; cases h6), if_neg (fun h => by rw [hy12.2 h] at h12; cases h12), if_neg (fun h => by rw [hy18.2 h] at h18; cases h18)], rfl, (hmw3.chain (keys_sub rfl) hm).sub trivial⟩

theorem len26 (w : World) (aD : Option Addr) (n cD : Nat) (s z l : Int) (hs : 0 ≤ s) (hsn : s ≤ (n : Int)) (hz : z = 1 ∧ l = 0 ∨ z = 2 ∧ (l = 0 ∨ l = 1)) (hn : (n : Int) ≤ 4194304) :
    Calls Try.prog 26 #[.agg #[.slice aD n cD, .int .i64 s, .int .i64 z, .int .i64 l]] w fun e w' => ∃ y : Int, y = ((n : Int) - s) / z ∧ e = .returned (.int .i64 y) ∧ Mem (Old w) w [] w' := by
  have hdb := div_b (n := (n : Int)) (z := z) hs hsn (by omega)
  refine enter (N := 12) (vs := [.agg #[.slice aD n cD, .int .i64 s, .int .i64 z, .int .i64 l]]) Try.func26 rfl Try.ntmps26 rfl ?_ w (Mem.start w)
  refine C_seq ?_
  refine C_region ?_
  refine V_box 1 (cs := [.slice aD n cD, .int .i64 s, .int .i64 z, .int .i64 l]) rfl (m := 4) rfl (mi := 4) rfl rfl (fun b1 => ?_)
  refine V_w0.q (QY_assign rfl) rfl ?_
  refine V_nil (X_next ?_)
  refine C_seq ?_
  refine C_region ?_
  refine V_w0.q (QY_fieldP (o' := 0) fa34_0 rfl rfl) rfl ?_
  refine V_w0.q (QY_cell lf22 (q := 1) rfl rfl (by decide) rfl) rfl ?_
  refine V_w0.q (QY_len sl22 rfl) rfl ?_
  refine V_w0.q (QY_fieldP (o' := 1) fa34_1 rfl rfl) rfl ?_
  refine V_w0.q (QY_cell lf3 (q := 1) rfl rfl (by decide) rfl) rfl ?_
  refine V_w0.q (QY_arith rfl rfl rfl ⟨by omega, by omega⟩) rfl ?_
  refine V_w0.q (QY_fieldP (o' := 2) fa34_2 rfl rfl) rfl ?_
  refine V_w0.q (QY_cell lf3 (q := 1) rfl rfl (by decide) rfl) rfl ?_
  refine V_w0.q (QY_quo rfl rfl (by omega) (by omega) rfl ⟨by omega, by omega⟩) rfl ?_
  refine V_w0.q (QY_assign rfl) rfl ?_
  refine V_nil (X_next ?_)
  refine C_ret (?_)
  refine X_ret1 rfl rfl (fun w hm => ?_)
  exact ⟨_, rfl, rfl, hm.sub trivial⟩

theorem off29 (w : World) (aD : Option Addr) (n cD : Nat) (s z l i : Int) (hs : 0 ≤ s) (hsn : s ≤ (n : Int)) (hz : z = 1 ∧ l = 0 ∨ z = 2 ∧ (l = 0 ∨ l = 1)) (hn : (n : Int) ≤ 4194304) (hi : 0 ≤ i) (hil : i < ((n : Int) - s) / z) :
    Calls Try.prog 29 #[.agg #[.slice aD n cD, .int .i64 s, .int .i64 z, .int .i64 l], .int .i64 i] w fun e w' => ∃ y : Int, y = s + i * z + l ∧ e = .returned (.int .i64 y) ∧ Mem (Old w) w [] w' := by
  have hob := off_b hs hsn hz hi hil
  refine enter (N := 15) (vs := [.agg #[.slice aD n cD, .int .i64 s, .int .i64 z, .int .i64 l], .int .i64 i]) Try.func29 rfl Try.ntmps29 rfl ?_ w (Mem.start w)
  refine C_seq ?_
  refine C_region ?_
  refine V_box 1 (cs := [.slice aD n cD, .int .i64 s, .int .i64 z, .int .i64 l]) rfl (m := 4) rfl (mi := 4) rfl rfl (fun b1 => ?_)
  refine V_w0.q (QY_assign rfl) rfl ?_
  refine V_nil (X_next ?_)
  refine C_seq ?_
  refine C_region ?_
  refine V_w0.q (QY_fieldP (o' := 1) fa34_1 rfl rfl) rfl ?_
  refine V_w0.q (QY_cell lf3 (q := 1) rfl rfl (by decide) rfl) rfl ?_
  refine V_w0.q (QY_move rfl) rfl ?_
  refine V_w0.q (QY_fieldP (o' := 2) fa34_2 rfl rfl) rfl ?_
  refine V_w0.q (QY_cell lf3 (q := 1) rfl rfl (by decide) rfl) rfl ?_
  refine V_w0.q (QY_arith rfl rfl rfl ⟨by omega, by omega⟩) rfl ?_
  refine V_w0.q (QY_arith rfl rfl rfl ⟨by omega, by omega⟩) rfl ?_
  refine V_w0.q (QY_fieldP (o' := 3) fa34_3 rfl rfl) rfl ?_
  refine V_w0.q (QY_cell lf3 (q := 1) rfl rfl (by decide) rfl) rfl ?_
  refine V_w0.q (QY_arith rfl rfl rfl ⟨by omega, by omega⟩) rfl ?_
  refine V_w0.q (QY_assign rfl) rfl ?_
  refine V_nil (X_next ?_)
  refine C_ret (?_)
  refine X_ret1 rfl rfl (fun w hm => ?_)
  exact ⟨_, rfl, rfl, hm.sub trivial⟩

set_option maxHeartbeats 2000000 in
theorem asc27 (w : World) (aD : Option Addr) (n cD : Nat) (d : Int → Int) (s z l i : Int) (hD : RdW w (.slice aD n cD) n (ints .u8 d)) (hs : 0 ≤ s) (hsn : s ≤ (n : Int)) (hz : z = 1 ∧ l = 0 ∨ z = 2 ∧ (l = 0 ∨ l = 1)) (hn : (n : Int) ≤ 4194304) (hi : 0 ≤ i) :
    Calls Try.prog 27 #[.agg #[.slice aD n cD, .int .i64 s, .int .i64 z, .int .i64 l], .int .i64 i] w fun e w' => ∃ y : Int, y = asc n d s z l i ∧ e = .returned (.int .u8 y) ∧ Mem (Old w) w [] w' := by
  refine enter (N := 40) (vs := [.agg #[.slice aD n cD, .int .i64 s, .int .i64 z, .int .i64 l], .int .i64 i]) Try.func27 rfl Try.ntmps27 rfl ?_ w (Mem.start w)
  refine C_seq ?_
  refine C_region ?_
  refine V_box 1 (cs := [.slice aD n cD, .int .i64 s, .int .i64 z, .int .i64 l]) rfl (m := 4) rfl (mi := 4) rfl rfl (fun b1 => ?_)
  refine V_w0.q (QY_assign rfl) rfl ?_
  refine V_nil (X_next ?_)
  refine C_seq ?_
  refine C_seq ?_
  refine C_region ?_
  refine V_w0.q (QY_move rfl) rfl ?_
  refine V_w0.q (QY_loadA ag34 (q := 1) (vs := [.slice aD n cD, .int .i64 s, .int .i64 z, .int .i64 l]) rfl rfl (by decide) rfl (fl_cells _)) rfl ?_
  refine V_call cb26 rfl (T := Int) (Φ := fun y => y = ((n : Int) - s) / z) (val := fun y => .int .i64 y) (H' := fun _ => [(1, ⟨b1, 4, 4, fl [.slice aD n cD, .int .i64 s, .int .i64 z, .int .i64 l]⟩)]) (fun w9 hm => (len26 w9 aD n cD s z l hs hsn hz hn).mono fun e w2 ⟨y, h1, he, hM⟩ => ⟨y, h1, he, hm.join0 hM⟩) rfl ?_
  intro y8 hy8
  subst hy8
  refine W_geq V_w0 rfl rfl rfl (fun h9 => ?_) (fun h9 => ?_)
  ·
    refine V_nil (X_next ?_)
    refine C_true rfl ?_
    refine C_seq ?_
    refine C_region ?_
    refine V_w0.q (QY_assign rfl) rfl ?_
    refine V_nil (X_next ?_)
    refine C_ret (X_then_ret (?_))
    refine X_ret1 rfl rfl (fun w hm => ?_)
    exact ⟨_, by unfold asc; rw [if_pos h9], rfl, hm.sub trivial⟩
  ·
    have hob := off_b hs hsn hz hi (show i < ((n : Int) - s) / z by omega)
    refine V_nil (X_next ?_)
    refine C_false rfl ?_
    refine C_skip (X_next ?_)
    refine C_seq ?_
    obtain ⟨ad, rfl, hcell⟩ := hD.ix (m := (s + i * z + l)) (by omega) (by omega)
    refine C_orders mix ?_
    refine G_take 0 rfl (by kernel_rfl) (listed' := #[true, false, false, false, false, false, false, false]) (by kernel_rfl) (QY_fieldP (o' := 0) fa34_0 rfl rfl) rfl ?_
    refine G_take 1 rfl (by kernel_rfl) (listed' := #[true, true, false, false, false, false, false, false]) (by kernel_rfl) (QY_cell lf22 (q := 1) rfl rfl (by decide) rfl) rfl ?_
    refine G_take 2 rfl (by kernel_rfl) (listed' := #[true, true, true, false, false, false, false, false]) (by kernel_rfl) (QY_loadA ag34 (q := 1) (vs := [.slice _ n cD, .int .i64 s, .int .i64 z, .int .i64 l]) rfl rfl (by decide) rfl (fl_cells _)) rfl ?_
    refine G_take 3 rfl (by kernel_rfl) (listed' := #[true, true, true, true, false, false, false, false]) (by kernel_rfl) (QY_move rfl) rfl ?_
    refine G_call 4 rfl (.inl rfl) (by kernel_rfl) (listed' := #[true, true, true, true, true, false, false, false]) (by kernel_rfl) cb29 rfl (T := Int) (Φ := fun y => y = s + i * z + l) (val := fun y => .int .i64 y) (fun w9 hm => off29 w9 _ n cD s z l i hs hsn hz hn hi (by omega)) rfl ?_
    intro y4 hy4
    subst hy4
    refine G_take 5 rfl (by kernel_rfl) (listed' := #[true, true, true, true, true, true, false, false]) (by kernel_rfl) (QY_index sl22 rfl rfl (by omega) (by omega)) rfl ?_
    refine G_take 6 rfl (by kernel_rfl) (listed' := #[true, true, true, true, true, true, true, false]) (by kernel_rfl) (QY_load lf5 (v := .int .u8 (d (s + i * z + l))) rfl (hcell _)) rfl ?_
    refine G_take 7 rfl (by kernel_rfl) (listed' := #[true, true, true, true, true, true, true, true]) (by kernel_rfl) (QY_assign rfl) rfl ?_
    refine G_end (by kernel_rfl) (X_next ?_)
    refine C_seq ?_
    refine C_seq ?_
    by_cases hc : 128 ≤ d (s + i * z + l)
    ·
      refine C_draw mix (by kernel_rfl) ?_
      refine S_w0.q (QY_move rfl) rfl ?_
      refine W_geq S_w0 rfl rfl rfl (fun h18 => ?_) (fun h18 => False.elim (h18 hc))
      refine S_w0.q (QY_move rfl) rfl ?_
      refine S_walk.no rfl rfl rfl ?_
      refine S_walk.no rfl rfl rfl ?_
      refine S_walk.no rfl rfl rfl ?_
      refine S_walk.no rfl rfl rfl ?_
      refine S_no2 rfl rfl rfl ?_
      refine S_no2 rfl rfl rfl ?_
      refine S_no2 rfl rfl rfl ?_
      refine S_no2 rfl rfl rfl ?_
      refine S_no2 rfl rfl rfl ?_
      refine S_no2 rfl rfl rfl ?_
      refine S_no2 rfl rfl rfl ?_
      refine S_no2 rfl rfl rfl ?_
      refine S_no2 rfl rfl rfl ?_
      refine S_no2 rfl rfl rfl ?_
      refine S_no2 rfl rfl rfl ?_
      refine S_no2 rfl rfl rfl ?_
      refine S_no2 rfl rfl rfl ?_
      refine S_walk.no rfl rfl rfl ?_
      refine S_w0.q (QY_pick_true rfl rfl) rfl ?_
      refine S_nil (X_next ?_)
      refine C_true rfl ?_
      refine C_seq ?_
      refine C_region ?_
      refine V_w0.q (QY_assign rfl) rfl ?_
      refine V_nil (X_next ?_)
      refine C_ret (X_then_ret (?_))
      refine X_ret1 rfl rfl (fun w hm => ?_)
      exact ⟨_, by unfold asc; rw [if_neg h9, if_pos (.inl hc)], rfl, hm.sub trivial⟩
    by_cases hz2 : z = 2
    ·
      obtain ⟨ad2, hae, hcell2⟩ := hD.ix (m := (s + i * z + l + 1 - 2 * l)) (by omega) (by omega)
      obtain rfl := Option.some.inj hae
      by_cases h36 : d (s + i * z + l + 1 - 2 * l) = 0
      ·
        refine C_orders mix ?_
        refine G_take 0 rfl (by kernel_rfl) (listed' := #[true, false, false, false, false, false, false, false, false, false, false, false, false, false, false, false, false, false, false, false, false, false]) (by kernel_rfl) (QY_move rfl) rfl ?_
        refine G_take 1 rfl (by kernel_rfl) (listed' := #[true, true, false, false, false, false, false, false, false, false, false, false, false, false, false, false, false, false, false, false, false, false]) (by kernel_rfl) (QY_cmp (r := false) rfl rfl (by simp [cmpB, hc])) rfl ?_
        refine G_take 2 rfl (by kernel_rfl) (listed' := #[true, true, true, false, false, false, false, false, false, false, false, false, false, false, false, false, false, false, false, false, false, false]) (by kernel_rfl) (QY_move rfl) rfl ?_
        refine G_takeY 3 rfl rfl rfl (by kernel_rfl) (listed' := #[true, true, true, true, false, false, false, false, false, false, false, false, false, false, false, false, false, false, false, false, false, false]) (by kernel_rfl) (QY_fieldP (o' := 2) fa34_2 rfl rfl) rfl ?_
        refine G_takeY 4 rfl rfl rfl (by kernel_rfl) (listed' := #[true, true, true, true, true, false, false, false, false, false, false, false, false, false, false, false, false, false, false, false, false, false]) (by kernel_rfl) (QY_cell lf3 (q := 1) rfl rfl (by decide) rfl) rfl ?_
        refine G_takeY 5 rfl rfl rfl (by kernel_rfl) (listed' := #[true, true, true, true, true, true, false, false, false, false, false, false, false, false, false, false, false, false, false, false, false, false]) (by kernel_rfl) (QY_cmp (r := true) rfl rfl (by simp [cmpB, hz2])) rfl ?_
        refine G_takeY 6 rfl rfl rfl (by kernel_rfl) (listed' := #[true, true, true, true, true, true, true, false, false, false, false, false, false, false, false, false, false, false, false, false, false, false]) (by kernel_rfl) (QY_move rfl) rfl ?_
        refine G_takeY 7 rfl rfl rfl (by kernel_rfl) (listed' := #[true, true, true, true, true, true, true, true, false, false, false, false, false, false, false, false, false, false, false, false, false, false]) (by kernel_rfl) (QY_fieldP (o' := 0) fa34_0 rfl rfl) rfl ?_
        refine G_takeY 8 rfl rfl rfl (by kernel_rfl) (listed' := #[true, true, true, true, true, true, true, true, true, false, false, false, false, false, false, false, false, false, false, false, false, false]) (by kernel_rfl) (QY_cell lf22 (q := 1) rfl rfl (by decide) rfl) rfl ?_
        refine G_takeY 9 rfl rfl rfl (by kernel_rfl) (listed' := #[true, true, true, true, true, true, true, true, true, true, false, false, false, false, false, false, false, false, false, false, false, false]) (by kernel_rfl) (QY_loadA ag34 (q := 1) (vs := [.slice _ n cD, .int .i64 s, .int .i64 z, .int .i64 l]) rfl rfl (by decide) rfl (fl_cells _)) rfl ?_
        refine G_takeY 10 rfl rfl rfl (by kernel_rfl) (listed' := #[true, true, true, true, true, true, true, true, true, true, true, false, false, false, false, false, false, false, false, false, false, false]) (by kernel_rfl) (QY_move rfl) rfl ?_
        refine G_takeY 13 rfl rfl rfl (by kernel_rfl) (listed' := #[true, true, true, true, true, true, true, true, true, true, true, false, false, true, false, false, false, false, false, false, false, false]) (by kernel_rfl) (QY_fieldP (o' := 3) fa34_3 rfl rfl) rfl ?_
        refine G_takeY 14 rfl rfl rfl (by kernel_rfl) (listed' := #[true, true, true, true, true, true, true, true, true, true, true, false, false, true, true, false, false, false, false, false, false, false]) (by kernel_rfl) (QY_cell lf3 (q := 1) rfl rfl (by decide) rfl) rfl ?_
        refine G_takeY 15 rfl rfl rfl (by kernel_rfl) (listed' := #[true, true, true, true, true, true, true, true, true, true, true, false, false, true, true, true, false, false, false, false, false, false]) (by kernel_rfl) (QY_arith rfl rfl rfl ⟨by omega, by omega⟩) rfl ?_
        refine G_call 11 rfl (.inr ⟨6, 23, true, rfl, rfl, rfl⟩) (by kernel_rfl) (listed' := #[true, true, true, true, true, true, true, true, true, true, true, true, false, true, true, true, false, false, false, false, false, false]) (by kernel_rfl) cb29 rfl (T := Int) (Φ := fun y => y = s + i * z + l) (val := fun y => .int .i64 y) (fun w9 hm => off29 w9 _ n cD s z l i hs hsn hz hn hi (by omega)) rfl ?_
        intro y11 hy11
        subst hy11
        refine G_takeY 12 rfl rfl rfl (by kernel_rfl) (listed' := #[true, true, true, true, true, true, true, true, true, true, true, true, true, true, true, true, false, false, false, false, false, false]) (by kernel_rfl) (QY_arith rfl rfl rfl ⟨by omega, by omega⟩) rfl ?_
        refine G_takeY 16 rfl rfl rfl (by kernel_rfl) (listed' := #[true, true, true, true, true, true, true, true, true, true, true, true, true, true, true, true, true, false, false, false, false, false]) (by kernel_rfl) (QY_arith rfl rfl rfl ⟨by omega, by omega⟩) rfl ?_
        refine G_takeY 17 rfl rfl rfl (by kernel_rfl) (listed' := #[true, true, true, true, true, true, true, true, true, true, true, true, true, true, true, true, true, true, false, false, false, false]) (by kernel_rfl) (QY_index sl22 rfl rfl (by omega) (by omega)) rfl ?_
        refine G_takeY 18 rfl rfl rfl (by kernel_rfl) (listed' := #[true, true, true, true, true, true, true, true, true, true, true, true, true, true, true, true, true, true, true, false, false, false]) (by kernel_rfl) (QY_load lf5 (v := .int .u8 (d (s + i * z + l + 1 - 2 * l))) rfl (hcell2 _)) rfl ?_
        refine G_takeY 19 rfl rfl rfl (by kernel_rfl) (listed' := #[true, true, true, true, true, true, true, true, true, true, true, true, true, true, true, true, true, true, true, true, false, false]) (by kernel_rfl) (QY_cmp (r := false) rfl rfl (by simp [cmpB, h36])) rfl ?_
        refine G_takeY 20 rfl rfl rfl (by kernel_rfl) (listed' := #[true, true, true, true, true, true, true, true, true, true, true, true, true, true, true, true, true, true, true, true, true, false]) (by kernel_rfl) (QY_pick_true rfl rfl) rfl ?_
        refine G_take 21 rfl (by kernel_rfl) (listed' := #[true, true, true, true, true, true, true, true, true, true, true, true, true, true, true, true, true, true, true, true, true, true]) (by kernel_rfl) (QY_pick_false rfl rfl) rfl ?_
        refine G_end (by kernel_rfl) (X_next ?_)
        refine C_false rfl ?_
        refine C_skip (X_next ?_)
        refine C_seq ?_
        refine C_region ?_
        refine V_w0.q (QY_move rfl) rfl ?_
        refine V_w0.q (QY_assign rfl) rfl ?_
        refine V_nil (X_next ?_)
        refine C_ret (?_)
        refine X_ret1 rfl rfl (fun w hm => ?_)
        exact ⟨_, by unfold asc; rw [if_neg h9, if_neg (fun h => h.elim hc (fun h => h.2 h36))], rfl, hm.sub trivial⟩
      ·
        refine C_orders mix ?_
        refine G_take 0 rfl (by kernel_rfl) (listed' := #[true, false, false, false, false, false, false, false, false, false, false, false, false, false, false, false, false, false, false, false, false, false]) (by kernel_rfl) (QY_move rfl) rfl ?_
        refine G_take 1 rfl (by kernel_rfl) (listed' := #[true, true, false, false, false, false, false, false, false, false, false, false, false, false, false, false, false, false, false, false, false, false]) (by kernel_rfl) (QY_cmp (r := false) rfl rfl (by simp [cmpB, hc])) rfl ?_
        refine G_take 2 rfl (by kernel_rfl) (listed' := #[true, true, true, false, false, false, false, false, false, false, false, false, false, false, false, false, false, false, false, false, false, false]) (by kernel_rfl) (QY_move rfl) rfl ?_
        refine G_takeY 3 rfl rfl rfl (by kernel_rfl) (listed' := #[true, true, true, true, false, false, false, false, false, false, false, false, false, false, false, false, false, false, false, false, false, false]) (by kernel_rfl) (QY_fieldP (o' := 2) fa34_2 rfl rfl) rfl ?_
        refine G_takeY 4 rfl rfl rfl (by kernel_rfl) (listed' := #[true, true, true, true, true, false, false, false, false, false, false, false, false, false, false, false, false, false, false, false, false, false]) (by kernel_rfl) (QY_cell lf3 (q := 1) rfl rfl (by decide) rfl) rfl ?_
        refine G_takeY 5 rfl rfl rfl (by kernel_rfl) (listed' := #[true, true, true, true, true, true, false, false, false, false, false, false, false, false, false, false, false, false, false, false, false, false]) (by kernel_rfl) (QY_cmp (r := true) rfl rfl (by simp [cmpB, hz2])) rfl ?_
        refine G_takeY 6 rfl rfl rfl (by kernel_rfl) (listed' := #[true, true, true, true, true, true, true, false, false, false, false, false, false, false, false, false, false, false, false, false, false, false]) (by kernel_rfl) (QY_move rfl) rfl ?_
        refine G_takeY 7 rfl rfl rfl (by kernel_rfl) (listed' := #[true, true, true, true, true, true, true, true, false, false, false, false, false, false, false, false, false, false, false, false, false, false]) (by kernel_rfl) (QY_fieldP (o' := 0) fa34_0 rfl rfl) rfl ?_
        refine G_takeY 8 rfl rfl rfl (by kernel_rfl) (listed' := #[true, true, true, true, true, true, true, true, true, false, false, false, false, false, false, false, false, false, false, false, false, false]) (by kernel_rfl) (QY_cell lf22 (q := 1) rfl rfl (by decide) rfl) rfl ?_
        refine G_takeY 9 rfl rfl rfl (by kernel_rfl) (listed' := #[true, true, true, true, true, true, true, true, true, true, false, false, false, false, false, false, false, false, false, false, false, false]) (by kernel_rfl) (QY_loadA ag34 (q := 1) (vs := [.slice _ n cD, .int .i64 s, .int .i64 z, .int .i64 l]) rfl rfl (by decide) rfl (fl_cells _)) rfl ?_
        refine G_takeY 10 rfl rfl rfl (by kernel_rfl) (listed' := #[true, true, true, true, true, true, true, true, true, true, true, false, false, false, false, false, false, false, false, false, false, false]) (by kernel_rfl) (QY_move rfl) rfl ?_
        refine G_takeY 13 rfl rfl rfl (by kernel_rfl) (listed' := #[true, true, true, true, true, true, true, true, true, true, true, false, false, true, false, false, false, false, false, false, false, false]) (by kernel_rfl) (QY_fieldP (o' := 3) fa34_3 rfl rfl) rfl ?_
        refine G_takeY 14 rfl rfl rfl (by kernel_rfl) (listed' := #[true, true, true, true, true, true, true, true, true, true, true, false, false, true, true, false, false, false, false, false, false, false]) (by kernel_rfl) (QY_cell lf3 (q := 1) rfl rfl (by decide) rfl) rfl ?_
        refine G_takeY 15 rfl rfl rfl (by kernel_rfl) (listed' := #[true, true, true, true, true, true, true, true, true, true, true, false, false, true, true, true, false, false, false, false, false, false]) (by kernel_rfl) (QY_arith rfl rfl rfl ⟨by omega, by omega⟩) rfl ?_
        refine G_call 11 rfl (.inr ⟨6, 23, true, rfl, rfl, rfl⟩) (by kernel_rfl) (listed' := #[true, true, true, true, true, true, true, true, true, true, true, true, false, true, true, true, false, false, false, false, false, false]) (by kernel_rfl) cb29 rfl (T := Int) (Φ := fun y => y = s + i * z + l) (val := fun y => .int .i64 y) (fun w9 hm => off29 w9 _ n cD s z l i hs hsn hz hn hi (by omega)) rfl ?_
        intro y11 hy11
        subst hy11
        refine G_takeY 12 rfl rfl rfl (by kernel_rfl) (listed' := #[true, true, true, true, true, true, true, true, true, true, true, true, true, true, true, true, false, false, false, false, false, false]) (by kernel_rfl) (QY_arith rfl rfl rfl ⟨by omega, by omega⟩) rfl ?_
        refine G_takeY 16 rfl rfl rfl (by kernel_rfl) (listed' := #[true, true, true, true, true, true, true, true, true, true, true, true, true, true, true, true, true, false, false, false, false, false]) (by kernel_rfl) (QY_arith rfl rfl rfl ⟨by omega, by omega⟩) rfl ?_
        refine G_takeY 17 rfl rfl rfl (by kernel_rfl) (listed' := #[true, true, true, true, true, true, true, true, true, true, true, true, true, true, true, true, true, true, false, false, false, false]) (by kernel_rfl) (QY_index sl22 rfl rfl (by omega) (by omega)) rfl ?_
        refine G_takeY 18 rfl rfl rfl (by kernel_rfl) (listed' := #[true, true, true, true, true, true, true, true, true, true, true, true, true, true, true, true, true, true, true, false, false, false]) (by kernel_rfl) (QY_load lf5 (v := .int .u8 (d (s + i * z + l + 1 - 2 * l))) rfl (hcell2 _)) rfl ?_
        refine G_takeY 19 rfl rfl rfl (by kernel_rfl) (listed' := #[true, true, true, true, true, true, true, true, true, true, true, true, true, true, true, true, true, true, true, true, false, false]) (by kernel_rfl) (QY_cmp (r := true) rfl rfl (by simp [cmpB, h36])) rfl ?_
        refine G_takeY 20 rfl rfl rfl (by kernel_rfl) (listed' := #[true, true, true, true, true, true, true, true, true, true, true, true, true, true, true, true, true, true, true, true, true, false]) (by kernel_rfl) (QY_pick_true rfl rfl) rfl ?_
        refine G_take 21 rfl (by kernel_rfl) (listed' := #[true, true, true, true, true, true, true, true, true, true, true, true, true, true, true, true, true, true, true, true, true, true]) (by kernel_rfl) (QY_pick_false rfl rfl) rfl ?_
        refine G_end (by kernel_rfl) (X_next ?_)
        refine C_true rfl ?_
        refine C_seq ?_
        refine C_region ?_
        refine V_w0.q (QY_assign rfl) rfl ?_
        refine V_nil (X_next ?_)
        refine C_ret (X_then_ret (?_))
        refine X_ret1 rfl rfl (fun w hm => ?_)
        exact ⟨_, by unfold asc; rw [if_neg h9, if_pos (.inr ⟨hz2, h36⟩)], rfl, hm.sub trivial⟩
    refine C_draw mix (by kernel_rfl) ?_
    refine S_w0.q (QY_move rfl) rfl ?_
    refine W_geq S_w0 rfl rfl rfl (fun h18 => False.elim (hc h18)) (fun h18 => ?_)
    refine S_w0.q (QY_move rfl) rfl ?_
    refine S_walk.yes rfl rfl ?_
    refine S_w0.q (QY_fieldP (o' := 2) fa34_2 rfl rfl) rfl ?_
    refine S_walk.yes rfl rfl ?_
    refine S_w0.q (QY_cell lf3 (q := 1) rfl rfl (by decide) rfl) rfl ?_
    refine S_walk.yes rfl rfl ?_
    refine W_eql S_w0 rfl rfl rfl (fun h22 => False.elim (hz2 h22)) (fun h22 => ?_)
    refine S_walk.yes rfl rfl ?_
    refine S_w0.q (QY_move rfl) rfl ?_
    refine S_walk.no rfl rfl rfl ?_
    refine S_walk.no rfl rfl rfl ?_
    refine S_walk.no rfl rfl rfl ?_
    refine S_walk.no rfl rfl rfl ?_
    refine S_walk.no rfl rfl rfl ?_
    refine S_walk.no rfl rfl rfl ?_
    refine S_walk.no rfl rfl rfl ?_
    refine S_walk.no rfl rfl rfl ?_
    refine S_walk.no rfl rfl rfl ?_
    refine S_walk.no rfl rfl rfl ?_
    refine S_walk.no rfl rfl rfl ?_
    refine S_walk.no rfl rfl rfl ?_
    refine S_walk.no rfl rfl rfl ?_
    refine S_walk.yes rfl rfl ?_
    refine S_w0.q (QY_pick_false rfl rfl) rfl ?_
    refine S_w0.q (QY_pick_false rfl rfl) rfl ?_
    refine S_nil (X_next ?_)
    refine C_false rfl ?_
    refine C_skip (X_next ?_)
    refine C_seq ?_
    refine C_region ?_
    refine V_w0.q (QY_move rfl) rfl ?_
    refine V_w0.q (QY_assign rfl) rfl ?_
    refine V_nil (X_next ?_)
    refine C_ret (?_)
    refine X_ret1 rfl rfl (fun w hm => ?_)
    exact ⟨_, by unfold asc; rw [if_neg h9, if_neg (fun h => h.elim hc (fun h => hz2 h.1))], rfl, hm.sub trivial⟩

theorem brk25 (w : World) (aD : Option Addr) (n cD : Nat) (d : Int → Int) (s z l i : Int) (hD : RdW w (.slice aD n cD) n (ints .u8 d)) (hs : 0 ≤ s) (hsn : s ≤ (n : Int)) (hz : z = 1 ∧ l = 0 ∨ z = 2 ∧ (l = 0 ∨ l = 1)) (hn : (n : Int) ≤ 4194304) (hi : 0 ≤ i) :
    Calls Try.prog 25 #[.agg #[.slice aD n cD, .int .i64 s, .int .i64 z, .int .i64 l], .int .i64 i] w fun e w' => ∃ y : Int, y = brk n d s z l i ∧ e = .returned (.int .i64 y) ∧ Mem (Old w) w [] w' := by
  refine enter (N := 17) (vs := [.agg #[.slice aD n cD, .int .i64 s, .int .i64 z, .int .i64 l], .int .i64 i]) Try.func25 rfl Try.ntmps25 rfl ?_ w (Mem.start w)
  refine C_seq ?_
  refine C_region ?_
  refine V_box 1 (cs := [.slice aD n cD, .int .i64 s, .int .i64 z, .int .i64 l]) rfl (m := 4) rfl (mi := 4) rfl rfl (fun b1 => ?_)
  refine V_w0.q (QY_assign rfl) rfl ?_
  refine V_nil (X_next ?_)
  refine C_seq ?_
  refine C_seq ?_
  refine C_region ?_
  refine V_w0.q (QY_loadA ag34 (q := 1) (vs := [.slice aD n cD, .int .i64 s, .int .i64 z, .int .i64 l]) rfl rfl (by decide) rfl (fl_cells _)) rfl ?_
  refine V_w0.q (QY_move rfl) rfl ?_
  refine V_call cb27 rfl (T := Int) (Φ := fun y => y = asc n d s z l (i)) (val := fun y => .int .u8 y) (H' := fun _ => [(1, ⟨b1, 4, 4, fl [.slice aD n cD, .int .i64 s, .int .i64 z, .int .i64 l]⟩)]) (fun w9 hm => (asc27 w9 aD n cD d s z l (i) (hD.rd.at hm) hs hsn hz hn (by omega)).mono fun e w2 ⟨y, h1, he, hM⟩ => ⟨y, h1, he, hm.join0 hM⟩) rfl ?_
  intro y7 hy7
  subst hy7
  refine V_nil (X_next ?_)
  refine C_block ?_
  refine C_seq ?_
  refine C_region ?_
  refine W_eql V_w0 rfl rfl rfl (fun h9 => ?_) (fun h9 => ?_)
  ·
    have hlt := asc_lt (n := (n : Int)) (d := d) (s := s) (z := z) (l := l) (i := i) (by omega)
    have hdb := div_b (n := (n : Int)) (z := z) hs hsn (by omega)
    refine V_w0.q (QY_assign rfl) rfl ?_
    refine V_nil (X_next ?_)
    refine C_true rfl ?_
    refine C_seq ?_
    refine C_seq ?_
    refine C_region ?_
    refine V_w0.q (QY_loadA ag34 (q := 1) (vs := [.slice aD n cD, .int .i64 s, .int .i64 z, .int .i64 l]) rfl rfl (by decide) rfl (fl_cells _)) rfl ?_
    refine V_w0.q (QY_move rfl) rfl ?_
    refine V_w0.q (QY_arith rfl rfl rfl ⟨by omega, by omega⟩) rfl ?_
    refine V_call cb27 rfl (T := Int) (Φ := fun y => y = asc n d s z l (i + 1)) (val := fun y => .int .u8 y) (H' := fun _ => [(1, ⟨b1, 4, 4, fl [.slice aD n cD, .int .i64 s, .int .i64 z, .int .i64 l]⟩)]) (fun w9 hm => (asc27 w9 aD n cD d s z l (i + 1) (hD.rd.at hm) hs hsn hz hn (by omega)).mono fun e w2 ⟨y, h1, he, hM⟩ => ⟨y, h1, he, hm.join0 hM⟩) rfl ?_
    intro y13 hy13
    subst hy13
    refine W_eql V_w0 rfl rfl rfl (fun h14 => ?_) (fun h14 => ?_)
    ·
      refine V_nil (X_next ?_)
      refine C_true rfl ?_
      refine C_seq ?_
      refine C_region ?_
      refine V_w0.q (QY_assign rfl) rfl ?_
      refine V_nil (X_next ?_)
      refine C_ret (X_then_ret (X_block_ret (X_then_ret (?_))))
      refine X_ret1 rfl rfl (fun w hm => ?_)
      exact ⟨_, by unfold brk; rw [if_pos h9, if_pos h14], rfl, hm.sub trivial⟩
    ·
      refine V_nil (X_next ?_)
      refine C_false rfl ?_
      refine C_skip (X_next ?_)
      refine C_seq ?_
      refine C_region ?_
      refine V_w0.q (QY_assign rfl) rfl ?_
      refine V_nil (X_next ?_)
      refine C_ret (X_block_ret (X_then_ret (?_)))
      refine X_ret1 rfl rfl (fun w hm => ?_)
      exact ⟨_, by unfold brk; rw [if_pos h9, if_neg h14], rfl, hm.sub trivial⟩
  ·
    refine V_w0.q (QY_assign rfl) rfl ?_
    refine V_nil (X_next ?_)
    refine C_false rfl ?_
    refine C_seq ?_
    refine C_region ?_
    refine W_eql V_w0 rfl rfl rfl (fun h16 => ?_) (fun h16 => ?_)
    ·
      refine V_w0.q (QY_assign rfl) rfl ?_
      refine V_nil (X_next ?_)
      refine C_true rfl ?_
      refine C_seq ?_
      refine C_region ?_
      refine V_w0.q (QY_assign rfl) rfl ?_
      refine V_nil (X_next ?_)
      refine C_ret (X_block_ret (X_then_ret (?_)))
      refine X_ret1 rfl rfl (fun w hm => ?_)
      exact ⟨_, by unfold brk; rw [if_neg h9, if_pos h16], rfl, hm.sub trivial⟩
    ·
      refine V_w0.q (QY_assign rfl) rfl ?_
      refine V_nil (X_next ?_)
      refine C_false rfl ?_
      refine C_skip (X_block (X_next ?_))
      refine C_seq ?_
      refine C_region ?_
      refine V_w0.q (QY_assign rfl) rfl ?_
      refine V_nil (X_next ?_)
      refine C_ret (?_)
      refine X_ret1 rfl rfl (fun w hm => ?_)
      exact ⟨_, by unfold brk; rw [if_neg h9, if_neg h16], rfl, hm.sub trivial⟩

theorem zu17 (w : World) (aD : Option Addr) (n cD : Nat) (d : Int → Int) (hD : RdW w (.slice aD n cD) n (ints .u8 d)) (hnc : n ≤ cD) (hd : ∀ i, 0 ≤ i → i < (n : Int) → 0 ≤ d i ∧ d i ≤ 255) :
    Calls Try.prog 17 #[.slice aD n cD] w fun e w' => ∃ y : Int × Int × Int, y = uo n d ∧ e = .returned (.tuple [.int .i64 y.1, .int .i64 y.2.1, .int .i64 y.2.2].toArray) ∧ Mem (Old w) w [] w' := by
  refine enter (N := 14) (vs := [.slice aD n cD]) Try.func17 rfl Try.ntmps17 rfl ?_ w (Mem.start w)
  refine C_seq ?_
  refine C_region ?_
  refine V_w0.q (QY_assign rfl) rfl ?_
  refine V_w0.q (QY_assign rfl) rfl ?_
  refine V_w0.q (QY_assign rfl) rfl ?_
  refine V_nil (X_next ?_)
  refine C_seq ?_
  refine C_region ?_
  refine V_w0.q (QY_move rfl) rfl ?_
  refine V_call cb24 rfl (T := Int × Int × Int) (Φ := fun y => y = uo n d) (val := fun y => .agg #[.slice aD n cD, .int .i64 y.1, .int .i64 y.2.1, .int .i64 y.2.2]) (H' := fun _ => []) (fun w9 hm => (uo24 w9 aD n cD d (hD.rd.at hm) hnc hd).mono fun e w2 ⟨y, h1, he, hM⟩ => ⟨y, h1, he, hm.join0 hM⟩) rfl ?_
  rintro ⟨s, z, l⟩ hu
  refine V_allocA 1 ag34 rfl rfl (fun b5 => ?_)
  refine V_storeV (q := 1) ag34 rfl rfl rfl rfl (by simp [Value.oneCell']) (by decide) ?_
  refine V_nil (X_next ?_)
  refine C_seq ?_
  refine C_draw mix (by kernel_rfl) ?_
  refine S_w0.q (QY_fieldP (o' := 1) fa34_1 rfl rfl) rfl ?_
  refine S_w0.q (QY_cell lf3 (q := 1) rfl rfl (by decide) rfl) rfl ?_
  refine S_w0.q (QY_fieldP (o' := 2) fa34_2 rfl rfl) rfl ?_
  refine S_w0.q (QY_cell lf3 (q := 1) rfl rfl (by decide) rfl) rfl ?_
  refine S_w0.q (QY_fieldP (o' := 3) fa34_3 rfl rfl) rfl ?_
  refine S_w0.q (QY_cell lf3 (q := 1) rfl rfl (by decide) rfl) rfl ?_
  refine S_w0.q (QY_assign rfl) rfl ?_
  refine S_w0.q (QY_assign rfl) rfl ?_
  refine S_w0.q (QY_assign rfl) rfl ?_
  refine S_nil (X_next ?_)
  refine C_ret (?_)
  refine X_retN (ts := [2, 3, 4]) rfl (by decide) rfl (fun w hm => ?_)
  exact ⟨(s, z, l), hu, rfl, hm.sub trivial⟩

theorem zb21 (w : World) (aD : Option Addr) (n cD : Nat) (d : Int → Int) (i : Int) (hD : RdW w (.slice aD n cD) n (ints .u8 d)) (hnc : n ≤ cD) (hd : ∀ i, 0 ≤ i → i < (n : Int) → 0 ≤ d i ∧ d i ≤ 255) (hn : (n : Int) ≤ 4194304) (hi : 0 ≤ i) :
    Calls Try.prog 21 #[.slice aD n cD, .int .i64 i] w fun e w' => ∃ y : Int, y = brk n d (uo n d).1 (uo n d).2.1 (uo n d).2.2 i ∧ e = .returned (.int .i64 y) ∧ Mem (Old w) w [] w' := by
  refine enter (N := 9) (vs := [.slice aD n cD, .int .i64 i]) Try.func21 rfl Try.ntmps21 rfl ?_ w (Mem.start w)
  refine C_seq ?_
  refine C_region ?_
  refine V_w0.q (QY_assign rfl) rfl ?_
  refine V_nil (X_next ?_)
  refine C_seq ?_
  refine C_region ?_
  refine V_w0.q (QY_move rfl) rfl ?_
  refine V_call cb24 rfl (T := Int × Int × Int) (Φ := fun y => y = uo n d) (val := fun y => .agg #[.slice aD n cD, .int .i64 y.1, .int .i64 y.2.1, .int .i64 y.2.2]) (H' := fun _ => []) (fun w9 hm => (uo24 w9 aD n cD d (hD.rd.at hm) hnc hd).mono fun e w2 ⟨y, h1, he, hM⟩ => ⟨y, h1, he, hm.join0 hM⟩) rfl ?_
  rintro ⟨s, z, l⟩ hu
  have huo := uo_ok n d (by omega)
  rw [← hu] at huo
  dsimp only at huo
  refine V_w0.q (QY_move rfl) rfl ?_
  refine V_call cb25 rfl (T := Int) (Φ := fun y => y = brk n d s z l i) (val := fun y => .int .i64 y) (H' := fun _ => []) (fun w9 hm => (brk25 w9 aD n cD d s z l i (hD.rd.at hm) (by omega) (by omega) (by omega) hn hi).mono fun e w2 ⟨y, h1, he, hM⟩ => ⟨y, h1, he, hm.join0 hM⟩) rfl ?_
  intro y8 hy8
  refine V_w0.q (QY_assign rfl) rfl ?_
  refine V_nil (X_next ?_)
  refine C_ret (?_)
  refine X_ret1 rfl rfl (fun w hm => ?_)
  exact ⟨y8, by rw [hy8, ← hu], rfl, hm⟩

end Go.Proofs.Qxb6001236a
