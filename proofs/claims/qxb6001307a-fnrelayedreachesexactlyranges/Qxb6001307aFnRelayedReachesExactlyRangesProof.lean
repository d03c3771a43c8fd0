/-
  OWN WORK. From the walk to the given statement 'Rows.FnRelayedReachesExactlyRangesSaid'.
-/
import Derived.Test.Qxb6001307aRows
import Derived.Test.Qxb6001307aFnReach
import Derived.WalkKit
import Derived.ProofKit
import Derived.OpenShut
import Derived.ShutString
import Derived.ChangeOld
import Derived.Below
import Derived.Deep.Grids
import Derived.Deep.Matrix
namespace Go.Proofs.Qxb6001307a.fnRelayedReachesExactlyRanges
open Go.ChangeShapes Go.WideShapes Go.ChangeAt Go.RowKit
set_option linter.unusedVariables false

theorem own : ownKnob Try.prog.godebug = none := by kernel_rfl
theorem laidOut : laidOutB Try.prog = true := by kernel_rfl
theorem wf_i32 {z : Int} (h : (Lit.int .i32 z).wf = true) : -2147483648 ≤ z ∧ z ≤ 2147483647 := by
  simp only [Lit.wf, Bool.and_eq_true, decide_eq_true_eq] at h
  exact h
theorem wf_u8 {z : Int} (h : (Lit.int .u8 z).wf = true) : 0 ≤ z ∧ z ≤ 255 := by
  simp only [Lit.wf, Bool.and_eq_true, decide_eq_true_eq] at h
  exact h

set_option maxRecDepth 100000 in
theorem lifted (os : Os) (started : os.Started) (H : Type) (enc : TypeId × Value → H) :
    ReturnsInHanded {} Try.checked os 5 .any (Rows.fnRelayedReachesExactlyRangesSpec.pre6 enc Try.prog Try.f5 Rows.fnRelayedReachesExactlyRangesRow.domain false) (Rows.fnRelayedReachesExactlyRangesSpec.post enc Try.prog Try.f5 false true false false) := by
  refine returnsInHanded_of_change (C := Try.checked) own started (by kernel_rfl) Try.func5
    (ChangeSpec.witness6 (enc := enc) (C := Try.checked) false ⟨#[], #[.slice none 0 0, .slice none 0 0, .slice none 0 0, .slice none 0 0, .slice none 0 0, .slice none 0 0, .slice none 0 0, .slice none 0 0, .slice none 0 0], []⟩ 8 (by kernel_rfl) (by kernel_rfl) (by kernel_rfl) (by kernel_rfl)) ?_
  intro W base args ds gs before hval0 hW hcnd _
  have hval : ∀ (j : Nat) t v, Try.f5.params[j]? = some t → args[j]? = some v → Value.okWide Try.prog W .any base t v := hval0
  have hW' := hW
  obtain ⟨p, q, hA0, hV, rfl, hfz, hnd⟩ := hW
  have hA : DataW.TrodAll enc Try.prog W 0 (fun _ => true) true Try.f5.params.toList args.toList ds p := hA0
  rw [Try.params5] at hA hval
  obtain ⟨v0, vs0, d0, ds0, p0, q0, hargs, rfl, rfl, h0, r0⟩ := trodAll_cons hA
  obtain ⟨v1, vs1, d1, ds1, p1, q1, rfl, rfl, rfl, h1, r1⟩ := trodAll_cons r0
  obtain ⟨v2, vs2, d2, ds2, p2, q2, rfl, rfl, rfl, h2, r2⟩ := trodAll_cons r1
  obtain ⟨v3, vs3, d3, ds3, p3, q3, rfl, rfl, rfl, h3, r3⟩ := trodAll_cons r2
  obtain ⟨v4, vs4, d4, ds4, p4, q4, rfl, rfl, rfl, h4, r4⟩ := trodAll_cons r3
  obtain ⟨v5, vs5, d5, ds5, p5, q5, rfl, rfl, rfl, h5, r5⟩ := trodAll_cons r4
  obtain ⟨v6, vs6, d6, ds6, p6, q6, rfl, rfl, rfl, h6, r6⟩ := trodAll_cons r5
  obtain ⟨v7, vs7, d7, ds7, p7, q7, rfl, rfl, rfl, h7, r7⟩ := trodAll_cons r6
  obtain ⟨v8, vs8, d8, ds8, p8, q8, rfl, rfl, rfl, h8, r8⟩ := trodAll_cons r7
  obtain ⟨rfl, rfl, rfl⟩ := trodAll_nil r8
  obtain rfl : args = #[v0, v1, v2, v3, v4, v5, v6, v7, v8] := by cases args; simp_all
  obtain ⟨rfl, rfl⟩ := trodVars_none hV
  obtain ⟨a0, len0, cap0, rfl⟩ := okWide_slice Try.underlying22 (hval 0 22 v0 rfl rfl)
  have k0 := h0
  have lt0 : ∀ x ∈ p0, x.block < W.heap.size := by obtain ⟨m, hm⟩ := k0; exact DataW.trod_lt m _ _ _ hm
  obtain ⟨g0, w0, b0⟩ : ∃ g : Int → Int, RdW W (.slice a0 len0 cap0) len0 (ints .i32 g) ∧ ∀ i, 0 ≤ i → i < (len0 : Int) → (Lit.int .i32 (g i)).wf = true := by
    obtain ⟨fuel, hf⟩ := h0
    rcases open_ints Try.underlying22 Try.underlying21 (by kernel_rfl) hf with ⟨hcs, _⟩ | ⟨x, l, c, zs, hcs, _, hl, hm, hz, _, hcell, hwz⟩
    · simp [Value.cells] at hcs
      obtain ⟨rfl, rfl, rfl⟩ := hcs
      exact ⟨fun _ => 0, ⟨_, _, rfl, fun i h0 h1 => by omega⟩, fun i h0 h1 => by omega⟩
    · simp [Value.cells] at hcs
      obtain ⟨rfl, rfl, rfl⟩ := hcs
      have hz' : zs.length = cap0 := by simpa using hz
      refine ⟨fun i => zs.getD i.toNat 0, ⟨_, _, rfl, fun i h0 h1 => ⟨x, rfl, hcell i.toNat (by omega)⟩⟩, fun i h0 h1 => hwz _ ?_⟩
      have hlt : i.toNat < zs.length := by omega
      show zs.getD i.toNat 0 ∈ zs
      rw [List.getD_eq_getElem?_getD, List.getElem?_eq_getElem hlt]
      exact List.getElem_mem hlt
  obtain ⟨a1, len1, cap1, rfl⟩ := okWide_slice Try.underlying22 (hval 1 22 v1 rfl rfl)
  have k1 := h1
  have lt1 : ∀ x ∈ p1, x.block < W.heap.size := by obtain ⟨m, hm⟩ := k1; exact DataW.trod_lt m _ _ _ hm
  obtain ⟨g1, w1, b1⟩ : ∃ g : Int → Int, RdW W (.slice a1 len1 cap1) len1 (ints .i32 g) ∧ ∀ i, 0 ≤ i → i < (len1 : Int) → (Lit.int .i32 (g i)).wf = true := by
    obtain ⟨fuel, hf⟩ := h1
    rcases open_ints Try.underlying22 Try.underlying21 (by kernel_rfl) hf with ⟨hcs, _⟩ | ⟨x, l, c, zs, hcs, _, hl, hm, hz, _, hcell, hwz⟩
    · simp [Value.cells] at hcs
      obtain ⟨rfl, rfl, rfl⟩ := hcs
      exact ⟨fun _ => 0, ⟨_, _, rfl, fun i h0 h1 => by omega⟩, fun i h0 h1 => by omega⟩
    · simp [Value.cells] at hcs
      obtain ⟨rfl, rfl, rfl⟩ := hcs
      have hz' : zs.length = cap1 := by simpa using hz
      refine ⟨fun i => zs.getD i.toNat 0, ⟨_, _, rfl, fun i h0 h1 => ⟨x, rfl, hcell i.toNat (by omega)⟩⟩, fun i h0 h1 => hwz _ ?_⟩
      have hlt : i.toNat < zs.length := by omega
      show zs.getD i.toNat 0 ∈ zs
      rw [List.getD_eq_getElem?_getD, List.getElem?_eq_getElem hlt]
      exact List.getElem_mem hlt
  obtain ⟨a2, len2, cap2, rfl⟩ := okWide_slice Try.underlying23 (hval 2 23 v2 rfl rfl)
  have k2 := h2
  have lt2 : ∀ x ∈ p2, x.block < W.heap.size := by obtain ⟨m, hm⟩ := k2; exact DataW.trod_lt m _ _ _ hm
  obtain ⟨g2, w2, b2⟩ : ∃ g : Int → Int, RdW W (.slice a2 len2 cap2) len2 (ints .u8 g) ∧ ∀ i, 0 ≤ i → i < (len2 : Int) → (Lit.int .u8 (g i)).wf = true := by
    obtain ⟨fuel, hf⟩ := h2
    rcases open_ints Try.underlying23 Try.underlying5 (by kernel_rfl) hf with ⟨hcs, _⟩ | ⟨x, l, c, zs, hcs, _, hl, hm, hz, _, hcell, hwz⟩
    · simp [Value.cells] at hcs
      obtain ⟨rfl, rfl, rfl⟩ := hcs
      exact ⟨fun _ => 0, ⟨_, _, rfl, fun i h0 h1 => by omega⟩, fun i h0 h1 => by omega⟩
    · simp [Value.cells] at hcs
      obtain ⟨rfl, rfl, rfl⟩ := hcs
      have hz' : zs.length = cap2 := by simpa using hz
      refine ⟨fun i => zs.getD i.toNat 0, ⟨_, _, rfl, fun i h0 h1 => ⟨x, rfl, hcell i.toNat (by omega)⟩⟩, fun i h0 h1 => hwz _ ?_⟩
      have hlt : i.toNat < zs.length := by omega
      show zs.getD i.toNat 0 ∈ zs
      rw [List.getD_eq_getElem?_getD, List.getElem?_eq_getElem hlt]
      exact List.getElem_mem hlt
  obtain ⟨a3, len3, cap3, rfl⟩ := okWide_slice Try.underlying42 (hval 3 42 v3 rfl rfl)
  have k3 := h3
  have lt3 : ∀ x ∈ p3, x.block < W.heap.size := by obtain ⟨m, hm⟩ := k3; exact DataW.trod_lt m _ _ _ hm
  obtain ⟨A3, L3, C3, Z3, w3, ro3, b3⟩ : ∃ (A : Int → Option Addr) (L C : Int → Nat) (Z : Int → Int → Int), RdW W (.slice a3 len3 cap3) len3 (fun i => .slice (A i) (L i) (C i)) ∧
      (∀ i, 0 ≤ i → i < (len3 : Int) → RdW W (.slice (A i) (L i) (C i)) (L i) (ints .i32 (Z i))) ∧ (∀ i, 0 ≤ i → i < (len3 : Int) → ∀ c, 0 ≤ c → c < (L i : Int) → (Lit.int .i32 (Z i c)).wf = true) := by
    obtain ⟨fuel, hf⟩ := h3
    rcases Go.Deep.open_int_rows Try.underlying42 Try.underlying22 Try.underlying21 (by kernel_rfl) (by kernel_rfl) hf with ⟨hcs, _⟩ | ⟨x, l, c, A, L, C, Z, hcs, _, hl, hm, _, hrow⟩
    · simp [Value.cells] at hcs
      obtain ⟨rfl, rfl, rfl⟩ := hcs
      exact ⟨fun _ => none, fun _ => 0, fun _ => 0, fun _ _ => 0, ⟨_, _, rfl, fun i h0 h1 => by omega⟩, fun i h0 h1 => by omega, fun i h0 h1 => by omega⟩
    · simp [Value.cells] at hcs
      obtain ⟨rfl, rfl, rfl⟩ := hcs
      refine ⟨fun i => A i.toNat, fun i => L i.toNat, fun i => C i.toNat, fun i c => (Z i.toNat).getD c.toNat 0, ⟨_, _, rfl, fun i h0 h1 => ⟨x, rfl, (hrow i.toNat (by omega)).1⟩⟩, fun i h0 h1 => ?_, fun i h0 h1 c c0 c1 => ?_⟩
      · obtain ⟨_, h2, _, _, _, h6, h7⟩ := hrow i.toNat (by omega)
        refine ⟨_, _, rfl, fun c c0 c1 => ?_⟩
        have c1' : c < (L i.toNat : Int) := c1
        show ∃ y, A i.toNat = some y ∧ _
        cases hA : A i.toNat with
        | none => have := h6 hA; omega
        | some a' => exact ⟨a', rfl, (h7 a' hA).2 c.toNat (by omega)⟩
      · obtain ⟨_, h2, _, h4, h5, _, _⟩ := hrow i.toNat (by omega)
        have c1' : c < (L i.toNat : Int) := c1
        refine h5 _ ?_
        have hlt : c.toNat < (Z i.toNat).length := by omega
        show (Z i.toNat).getD c.toNat 0 ∈ Z i.toNat
        rw [List.getD_eq_getElem?_getD, List.getElem?_eq_getElem hlt]
        exact List.getElem_mem hlt
  obtain ⟨a4, len4, cap4, rfl⟩ := okWide_slice Try.underlying22 (hval 4 22 v4 rfl rfl)
  have k4 := h4
  have lt4 : ∀ x ∈ p4, x.block < W.heap.size := by obtain ⟨m, hm⟩ := k4; exact DataW.trod_lt m _ _ _ hm
  obtain ⟨g4, w4, b4⟩ : ∃ g : Int → Int, RdW W (.slice a4 len4 cap4) len4 (ints .i32 g) ∧ ∀ i, 0 ≤ i → i < (len4 : Int) → (Lit.int .i32 (g i)).wf = true := by
    obtain ⟨fuel, hf⟩ := h4
    rcases open_ints Try.underlying22 Try.underlying21 (by kernel_rfl) hf with ⟨hcs, _⟩ | ⟨x, l, c, zs, hcs, _, hl, hm, hz, _, hcell, hwz⟩
    · simp [Value.cells] at hcs
      obtain ⟨rfl, rfl, rfl⟩ := hcs
      exact ⟨fun _ => 0, ⟨_, _, rfl, fun i h0 h1 => by omega⟩, fun i h0 h1 => by omega⟩
    · simp [Value.cells] at hcs
      obtain ⟨rfl, rfl, rfl⟩ := hcs
      have hz' : zs.length = cap4 := by simpa using hz
      refine ⟨fun i => zs.getD i.toNat 0, ⟨_, _, rfl, fun i h0 h1 => ⟨x, rfl, hcell i.toNat (by omega)⟩⟩, fun i h0 h1 => hwz _ ?_⟩
      have hlt : i.toNat < zs.length := by omega
      show zs.getD i.toNat 0 ∈ zs
      rw [List.getD_eq_getElem?_getD, List.getElem?_eq_getElem hlt]
      exact List.getElem_mem hlt
  obtain ⟨a5, len5, cap5, rfl⟩ := okWide_slice Try.underlying22 (hval 5 22 v5 rfl rfl)
  have k5 := h5
  have lt5 : ∀ x ∈ p5, x.block < W.heap.size := by obtain ⟨m, hm⟩ := k5; exact DataW.trod_lt m _ _ _ hm
  obtain ⟨g5, w5, b5⟩ : ∃ g : Int → Int, RdW W (.slice a5 len5 cap5) len5 (ints .i32 g) ∧ ∀ i, 0 ≤ i → i < (len5 : Int) → (Lit.int .i32 (g i)).wf = true := by
    obtain ⟨fuel, hf⟩ := h5
    rcases open_ints Try.underlying22 Try.underlying21 (by kernel_rfl) hf with ⟨hcs, _⟩ | ⟨x, l, c, zs, hcs, _, hl, hm, hz, _, hcell, hwz⟩
    · simp [Value.cells] at hcs
      obtain ⟨rfl, rfl, rfl⟩ := hcs
      exact ⟨fun _ => 0, ⟨_, _, rfl, fun i h0 h1 => by omega⟩, fun i h0 h1 => by omega⟩
    · simp [Value.cells] at hcs
      obtain ⟨rfl, rfl, rfl⟩ := hcs
      have hz' : zs.length = cap5 := by simpa using hz
      refine ⟨fun i => zs.getD i.toNat 0, ⟨_, _, rfl, fun i h0 h1 => ⟨x, rfl, hcell i.toNat (by omega)⟩⟩, fun i h0 h1 => hwz _ ?_⟩
      have hlt : i.toNat < zs.length := by omega
      show zs.getD i.toNat 0 ∈ zs
      rw [List.getD_eq_getElem?_getD, List.getElem?_eq_getElem hlt]
      exact List.getElem_mem hlt
  obtain ⟨a6, len6, cap6, rfl⟩ := okWide_slice Try.underlying22 (hval 6 22 v6 rfl rfl)
  have k6 := h6
  have lt6 : ∀ x ∈ p6, x.block < W.heap.size := by obtain ⟨m, hm⟩ := k6; exact DataW.trod_lt m _ _ _ hm
  obtain ⟨g6, w6, b6⟩ : ∃ g : Int → Int, RdW W (.slice a6 len6 cap6) len6 (ints .i32 g) ∧ ∀ i, 0 ≤ i → i < (len6 : Int) → (Lit.int .i32 (g i)).wf = true := by
    obtain ⟨fuel, hf⟩ := h6
    rcases open_ints Try.underlying22 Try.underlying21 (by kernel_rfl) hf with ⟨hcs, _⟩ | ⟨x, l, c, zs, hcs, _, hl, hm, hz, _, hcell, hwz⟩
    · simp [Value.cells] at hcs
      obtain ⟨rfl, rfl, rfl⟩ := hcs
      exact ⟨fun _ => 0, ⟨_, _, rfl, fun i h0 h1 => by omega⟩, fun i h0 h1 => by omega⟩
    · simp [Value.cells] at hcs
      obtain ⟨rfl, rfl, rfl⟩ := hcs
      have hz' : zs.length = cap6 := by simpa using hz
      refine ⟨fun i => zs.getD i.toNat 0, ⟨_, _, rfl, fun i h0 h1 => ⟨x, rfl, hcell i.toNat (by omega)⟩⟩, fun i h0 h1 => hwz _ ?_⟩
      have hlt : i.toNat < zs.length := by omega
      show zs.getD i.toNat 0 ∈ zs
      rw [List.getD_eq_getElem?_getD, List.getElem?_eq_getElem hlt]
      exact List.getElem_mem hlt
  obtain ⟨a7, len7, cap7, rfl⟩ := okWide_slice Try.underlying42 (hval 7 42 v7 rfl rfl)
  have k7 := h7
  have lt7 : ∀ x ∈ p7, x.block < W.heap.size := by obtain ⟨m, hm⟩ := k7; exact DataW.trod_lt m _ _ _ hm
  obtain ⟨A7, L7, C7, Z7, w7, ro7, b7⟩ : ∃ (A : Int → Option Addr) (L C : Int → Nat) (Z : Int → Int → Int), RdW W (.slice a7 len7 cap7) len7 (fun i => .slice (A i) (L i) (C i)) ∧
      (∀ i, 0 ≤ i → i < (len7 : Int) → RdW W (.slice (A i) (L i) (C i)) (L i) (ints .i32 (Z i))) ∧ (∀ i, 0 ≤ i → i < (len7 : Int) → ∀ c, 0 ≤ c → c < (L i : Int) → (Lit.int .i32 (Z i c)).wf = true) := by
    obtain ⟨fuel, hf⟩ := h7
    rcases Go.Deep.open_int_rows Try.underlying42 Try.underlying22 Try.underlying21 (by kernel_rfl) (by kernel_rfl) hf with ⟨hcs, _⟩ | ⟨x, l, c, A, L, C, Z, hcs, _, hl, hm, _, hrow⟩
    · simp [Value.cells] at hcs
      obtain ⟨rfl, rfl, rfl⟩ := hcs
      exact ⟨fun _ => none, fun _ => 0, fun _ => 0, fun _ _ => 0, ⟨_, _, rfl, fun i h0 h1 => by omega⟩, fun i h0 h1 => by omega, fun i h0 h1 => by omega⟩
    · simp [Value.cells] at hcs
      obtain ⟨rfl, rfl, rfl⟩ := hcs
      refine ⟨fun i => A i.toNat, fun i => L i.toNat, fun i => C i.toNat, fun i c => (Z i.toNat).getD c.toNat 0, ⟨_, _, rfl, fun i h0 h1 => ⟨x, rfl, (hrow i.toNat (by omega)).1⟩⟩, fun i h0 h1 => ?_, fun i h0 h1 c c0 c1 => ?_⟩
      · obtain ⟨_, h2, _, _, _, h6, h7⟩ := hrow i.toNat (by omega)
        refine ⟨_, _, rfl, fun c c0 c1 => ?_⟩
        have c1' : c < (L i.toNat : Int) := c1
        show ∃ y, A i.toNat = some y ∧ _
        cases hA : A i.toNat with
        | none => have := h6 hA; omega
        | some a' => exact ⟨a', rfl, (h7 a' hA).2 c.toNat (by omega)⟩
      · obtain ⟨_, h2, _, h4, h5, _, _⟩ := hrow i.toNat (by omega)
        have c1' : c < (L i.toNat : Int) := c1
        refine h5 _ ?_
        have hlt : c.toNat < (Z i.toNat).length := by omega
        show (Z i.toNat).getD c.toNat 0 ∈ Z i.toNat
        rw [List.getD_eq_getElem?_getD, List.getElem?_eq_getElem hlt]
        exact List.getElem_mem hlt
  obtain ⟨a8, len8, cap8, rfl⟩ := okWide_slice Try.underlying26 (hval 8 26 v8 rfl rfl)
  have k8 := h8
  have lt8 : ∀ x ∈ p8, x.block < W.heap.size := by obtain ⟨m, hm⟩ := k8; exact DataW.trod_lt m _ _ _ hm
  obtain ⟨g8, w8⟩ : ∃ g : Int → Bool, RdW W (.slice a8 len8 cap8) len8 (bools g) := by
    obtain ⟨fuel, hf⟩ := h8
    rcases Go.Deep.open_bools Try.underlying26 Try.underlying4 (by kernel_rfl) hf with ⟨hcs, _⟩ | ⟨x, l, c, B, hcs, _, hl, hm, _, hcell⟩
    · simp [Value.cells] at hcs
      obtain ⟨rfl, rfl, rfl⟩ := hcs
      exact ⟨fun _ => false, ⟨_, _, rfl, fun i h0 h1 => by omega⟩⟩
    · simp [Value.cells] at hcs
      obtain ⟨rfl, rfl, rfl⟩ := hcs
      exact ⟨fun i => B i.toNat, ⟨_, _, rfl, fun i h0 h1 => ⟨x, rfl, hcell i.toNat (by omega)⟩⟩⟩
  clear hA0 hval0
  refine (fnReach W a0 a1 a2 a3 a4 a5 a6 a7 a8 len0 len1 len2 len3 len4 len5 len6 len7 len8 cap0 cap1 cap2 cap3 cap4 cap5 cap6 cap7 cap8 A3 A7 L3 C3 L7 C7 g0 g1 g2 Z3 Z7 g4 g5 g6 g8 w0 w1 w2 ⟨w3, ro3⟩ w4 w5 w6 ⟨w7, ro7⟩ w8 (fun i h0 h1 => wf_i32 (b0 i h0 h1)) (fun i h0 h1 => wf_i32 (b1 i h0 h1)) (fun i h0 h1 => wf_i32 (b6 i h0 h1))).mono fun e W' ⟨he, bel⟩ => ?_
  subst he
  exact ⟨_, rfl, _, _, _, [], _, [], hW', trodAll_mk1 (shut_bool Try.underlying4 _), (trodAll_cons_mk (Below.trod laidOut (by kernel_rfl) (of_decide_eq_true (by kernel_rfl)) k0 bel lt0) (trodAll_cons_mk (Below.trod laidOut (by kernel_rfl) (of_decide_eq_true (by kernel_rfl)) k1 bel lt1) (trodAll_cons_mk (Below.trod laidOut (by kernel_rfl) (of_decide_eq_true (by kernel_rfl)) k2 bel lt2) (trodAll_cons_mk (Below.trod laidOut (by kernel_rfl) (of_decide_eq_true (by kernel_rfl)) k3 bel lt3) (trodAll_cons_mk (Below.trod laidOut (by kernel_rfl) (of_decide_eq_true (by kernel_rfl)) k4 bel lt4) (trodAll_cons_mk (Below.trod laidOut (by kernel_rfl) (of_decide_eq_true (by kernel_rfl)) k5 bel lt5) (trodAll_cons_mk (Below.trod laidOut (by kernel_rfl) (of_decide_eq_true (by kernel_rfl)) k6 bel lt6) (trodAll_cons_mk (Below.trod laidOut (by kernel_rfl) (of_decide_eq_true (by kernel_rfl)) k7 bel lt7) (trodAll_cons_mk (Below.trod laidOut (by kernel_rfl) (of_decide_eq_true (by kernel_rfl)) k8 bel lt8) trodAll_mk0))))))))), rfl, bel.frame _, fun h => by cases h⟩

theorem over : Rows.fnRelayedReachesExactlyRangesRow.holds Try.pinned (OpenSpec.ofChange Rows.fnRelayedReachesExactlyRangesSpec) :=
  OpenClaim.holds_of_wide 5 Try.f5 rfl rfl rfl rfl rfl rfl rfl ⟨rfl, rfl, rfl, rfl, rfl⟩ rfl rfl rfl rfl rfl (by kernel_rfl) Try.func5 (by kernel_rfl)
    (of_decide_eq_true (by kernel_rfl)) (by unfold Func.isWrapper; first | (rw [if_pos (by decide +kernel)]; kernel_rfl) | (rw [if_neg (by decide +kernel)]; exact ⟨rfl, rfl⟩))
    (fun os started H enc _ => lifted os started H enc)

/-- The statement. -/
theorem proved : Rows.FnRelayedReachesExactlyRangesSaid := over
#print axioms proved
end Go.Proofs.Qxb6001307a.fnRelayedReachesExactlyRanges
