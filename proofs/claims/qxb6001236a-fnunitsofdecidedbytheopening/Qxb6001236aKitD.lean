/-
  OWN WORK. Kit D: rounds, cuts, more operations.
-/
import Derived.Test.Qxb6001236aKitC
namespace Go.Proofs.Qxb6001236a
open Go.RowKit
set_option linter.unusedSimpArgs false
set_option linter.unusedVariables false

section
variable {P : Program} {N : Nat} {B : Nat → Prop} {w0 : World} {Q : Exit → Act → World → Prop} {L : List (Nat × Value)} {H : List (Nat × Bk)}
theorem C_loops {body : Code} {T : Type} (Lx : T → List (Nat × Value)) (Hx : T → List (Nat × Bk)) (I : T → Prop) (μ : T → Nat) (x0 : T) (h0 : I x0) (hL : SubL (Lx x0) L) (hH : SubH (Hx x0) H)
    (round : ∀ x, I x → C P N B w0 body (Exit.then (Again I Lx Hx μ N B w0 (μ x)) Q) (Lx x) (Hx x)) : C P N B w0 (.loop body) Q L H :=
  C_loop Lx Hx I μ x0 h0 hL (fun _ _ hq => hH.look hq) round
theorem X_round {T : Type} {Lx : T → List (Nat × Value)} {Hx : T → List (Nat × Bk)} {I : T → Prop} {μ : T → Nat} {m : Nat} (x' : T) (hI : I x') (hμ : μ x' < m) (hL : SubL (Lx x') L) (hH : SubH (Hx x') H) :
    X N B w0 (Again I Lx Hx μ N B w0 m) L H :=
  ⟨fun a w hf hm => ⟨x', hI, hμ, hf.sub hL, hm.sub hH⟩⟩
def Meet {T : Type} (I : T → Prop) (Lx : T → List (Nat × Value)) (Hx : T → List (Nat × Bk)) (N : Nat) (B : Nat → Prop) (w0 : World) : Act → World → Prop :=
  fun a w => ∃ t, I t ∧ Fr N (Lx t) a ∧ Mem B w0 (Hx t) w

/-- Two ways through a piece of code meet again: what is known there. -/
theorem C_cut {x y : Code} {T : Type} (Lx : T → List (Nat × Value)) (Hx : T → List (Nat × Bk)) (I : T → Prop)
    (h : C P N B w0 x (Exit.then (Meet I Lx Hx N B w0) Q) L H)
    (hy : ∀ t, I t → C P N B w0 y Q (Lx t) (Hx t)) : C P N B w0 (.seq x y) Q L H :=
  ⟨fun a w hf hm => wp_seq (wp_mono (h.run a w hf hm) fun e a' w' hq => by
    cases e with
    | normal => obtain ⟨t, hI, hF, hM⟩ := hq; exact (hy t hI).run a' w' hF hM
    | exit id => exact hq
    | goto l => exact hq
    | ret => exact hq
    | panic c => exact hq
    | outgrown => exact hq)⟩
theorem X_cut {T : Type} {Lx : T → List (Nat × Value)} {Hx : T → List (Nat × Bk)} {I : T → Prop} (t : T) (hI : I t) (hL : SubL (Lx t) L) (hH : SubH (Hx t) H) :
    X N B w0 (Meet I Lx Hx N B w0) L H :=
  ⟨fun a w hf hm => ⟨t, hI, hf.sub hL, hm.sub hH⟩⟩

/-- What memory tells. -/
theorem C_know {code : Code} {φ : Prop} (h1 : ∀ w, Mem B w0 H w → φ) (h : φ → C P N B w0 code Q L H) : C P N B w0 code Q L H :=
  ⟨fun a w hf hm => (h (h1 w hm)).run a w hf hm⟩
/-- What is said of memory, said otherwise. -/
theorem C_mem {code : Code} {H' : List (Nat × Bk)} (hM : ∀ w, Mem B w0 H w → Mem B w0 H' w) (h : C P N B w0 code Q L H') : C P N B w0 code Q L H :=
  ⟨fun a w hf hm => h.run a w hf (hM w hm)⟩
theorem X_mem {R : Act → World → Prop} {H' : List (Nat × Bk)} (hM : ∀ w, Mem B w0 H w → Mem B w0 H' w) (h : X N B w0 R L H') : X N B w0 R L H :=
  ⟨fun a w hf hm => h.run a w hf (hM w hm)⟩

theorem lks_eval : ∀ (ts : List Nat) (vs : List Value) (a : Act), Fr N L a → evs L (ts.map .tmp) = some vs → ts.map (fun t => a.tmps.getD t undef) = vs
  | [], vs, a, _, h => by simp [evs] at h; simp [h]
  | t :: r, vs, a, hf, h => by
    simp only [List.map_cons, evs] at h
    split at h
    · rename_i v us hv hus
      obtain rfl := Option.some.inj h
      have h1 : a.tmps.getD t undef = v := by simp [hf.get t v hv]
      have h2 := lks_eval r us a hf hus
      rw [List.map_cons, h1, h2]
    · cases h

theorem run_mapM_tmps (w : World) (tmps : Array Value) (g : ResultVar → Sem Value) (hg : ∀ t, g (.tmp t) = pure (tmps.getD t undef)) : ∀ (ts : List Nat), (List.mapM g (ts.map ResultVar.tmp)).run P w = .ok (ts.map fun t => tmps.getD t undef) w
  | [] => by simp
  | t :: r => by
    have ih := run_mapM_tmps w tmps g hg r
    simp only [List.map_cons, List.mapM_cons, Sem.run_bind, Sem.run_pure, Result.andThen_ok, ih, hg]

theorem X_retN {fn : Func} {R : Ending → World → Prop} {ts : List Nat} {vs : List Value} (hr : fn.results = (ts.map ResultVar.tmp).toArray) (hlen : ¬ ts.length = 1) (hv : evs L (ts.map .tmp) = some vs)
    (h : ∀ w, Mem B w0 H w → R (.returned (.tuple vs.toArray)) w) : X N B w0 (bodyPost P fn R .ret) L H :=
  ⟨fun a w hf hm => bodyPost_ret (v := .tuple vs.toArray) (by
    have h2 := lks_eval ts vs a hf hv
    have hl : vs.length = ts.length := by rw [← h2]; simp
    unfold results
    simp only [hr, List.mapM_toArray, Sem.run_bind, Sem.run_map, Sem.run_pure]
    rw [run_mapM_tmps (P := P) w a.tmps _ (fun t => rfl) ts, h2]
    simp only [Result.andThen_ok]
    have h3 : ¬ vs.toArray.size = 1 := by simp; omega
    rw [dif_neg h3]) hf.defers (h w hm)⟩
end

section
variable {P : Program} {N : Nat} {B : Nat → Prop} {w0 : World} {ops : Array Oper} {W : List Oper → List (Nat × Value) → List (Nat × Bk) → Prop} {L : List (Nat × Value)} {H : List (Nat × Bk)}
/-- A slot that holds a Bool, parted. -/
theorem W_bool (hW : Walk0 P N B w0 W) {rest : List Oper} (d : Nat) {b : Bool} (hv : lk L d = some (.bool b)) (ht : b = true → W rest ((d, .bool true) :: L) H) (hf : b = false → W rest ((d, .bool false) :: L) H) : W rest L H := by
  have key : ∀ t v, lk ((d, .bool b) :: L) t = some v → lk L t = some v := by
    intro t v h
    simp only [lk] at h
    cases hb : Nat.beq d t with
    | true =>
      have e : d = t := Nat.eq_of_beq_eq_true hb
      subst e
      simp at h
      rw [hv, ← h]
    | false => simpa [hb] using h
  cases b with
  | true => exact hW.relab key (ht rfl)
  | false => exact hW.relab key (hf rfl)

theorem run_equalIn_isnil (w : World) (d : Nat) (t e : TypeId) (a0 : Option Addr) (n c : Nat) (h : P.underlying t = some (.slice e)) : (Op.equalIn (d + 1) t (.slice a0 n c) (.slice none 0 0)).run P w = .ok a0.isNone w := by
  cases a0 <;> simp [Op.equalIn, run_underlying h]
theorem run_eql_isnil (w : World) (t e : TypeId) (a0 : Option Addr) (n c : Nat) (h : P.underlying t = some (.slice e)) : (binOp .eql t (.slice a0 n c) (.slice none 0 0)).run P w = .ok (.bool a0.isNone) w := by
  simp only [binOp]
  simp [Op.equal, Op.maxDepth, run_equalIn_isnil w 9999 t e a0 n c h]
/-- 'xs[i]', read, the load under a guard that says yes. -/
theorem W_elem2 (hW : Walk P N B w0 ops W) {d1 d2 j tg : Nat} {gb : Bool} {ty1 ty2 t e : TypeId} {pos1 pos2 : String} {af1 af2 : Array Edge} {rest : List Oper} {x y : Operand} {sv : Value} {n : Nat} {c : Int → Value} {k : IntKind} {m : Int}
    (hj : (ops[j]?).bind (·.dst) = some tg) (hb : ∀ p, lk ((d1, p) :: L) tg = some (.bool gb))
    (hx : ev L x = some sv) (hy : ev L y = some (.int k m)) (hr : Rd B w0 H sv n c) (h0 : 0 ≤ m) (h1 : m < (n : Int)) (ht : SlT P t 1) (he : Leaf P e)
    (hd1 : Nat.ble (d1 + 1) N = true) (hd2 : Nat.ble (d2 + 1) N = true)
    (h : ∀ p, W rest ((d2, c m) :: (d1, p) :: L) H) : W (⟨some d1, .indexAddr t x y, ty1, pos1, af1, none⟩ :: ⟨some d2, .load e (.tmp d1), ty2, pos2, af2, some (j, gb)⟩ :: rest) L H := by
  obtain ⟨a, cap, rfl, hc⟩ := hr
  obtain ⟨ad, rfl, hcell⟩ := hc m h0 h1
  refine hW.w0.q (QY_index ht hx hy h0 h1) hd1 ?_
  refine hW.yes hj (hb _) ?_
  refine hW.w0.q (QY_load he (ad := ad.add (m.toNat * 1)) (by simp [ev, lk]) (fun w hm => by rw [Nat.mul_one]; exact hcell w hm)) hd2 (h _)

/-- 'p.f', read, under a guard that says yes. -/
theorem W_fld2 (hW : Walk P N B w0 ops W) {d1 d2 d3 jg tg : Nat} {gb : Bool} {ty1 ty2 ty3 t e : TypeId} {pos1 pos2 pos3 : String} {af1 af2 af3 : Array Edge} {rest : List Oper} {x : Operand} {j off q b sz : Nat} {n : Int} {c : Int → Value} {v : Value}
    (hj : (ops[jg]?).bind (·.dst) = some tg) (hb1 : ∀ p, lk ((d1, p) :: L) tg = some (.bool gb)) (hb2 : ∀ p p', lk ((d2, p') :: (d1, p) :: L) tg = some (.bool gb))
    (hq : lkH H q = some ⟨b, sz, n, c⟩) (hx : ev L x = some (.pointer (some ⟨b, 0, none⟩))) (ht : FieldAt P t j off) (he : Leaf P e) (ho : (off : Int) < n) (hv : c (off : Int) = v)
    (hd1 : Nat.ble (d1 + 1) N = true) (hd2 : Nat.ble (d2 + 1) N = true) (hd3 : Nat.ble (d3 + 1) N = true)
    (h : W rest ((d3, v) :: (d2, .pointer (some ((⟨b, 0, none⟩ : Addr).add off))) :: (d1, .pointer (some ⟨b, 0, none⟩)) :: L) H) :
    W (⟨some d1, .nilCheck x, ty1, pos1, af1, none⟩ :: ⟨some d2, .fieldAddr t (.tmp d1) j, ty2, pos2, af2, some (jg, gb)⟩ :: ⟨some d3, .load e (.tmp d2), ty3, pos3, af3, some (jg, gb)⟩ :: rest) L H := by
  refine hW.w0.q (QY_nil hx) hd1 ?_
  refine hW.yes hj (hb1 _) ?_
  refine hW.w0.q (QY_field ht (ad := ⟨b, 0, none⟩) (by simp [ev, lk])) hd2 ?_
  refine hW.yes hj (hb2 _ _) ?_
  refine hW.w0.q (QY_load he (ad := (⟨b, 0, none⟩ : Addr).add off) (by simp [ev, lk]) (fun w hm => ?_)) hd3 h
  have this : w.cell? ⟨b, ((off : Int)).toNat, none⟩ = some (c (off : Int)) := cell_own hm hq (i := (off : Int)) (by omega) ho
  rw [hv] at this
  by_cases e : off = 0
  · subst e; simpa [Addr.add] using this
  · simpa [Addr.add, e] using this

theorem QY_isnil {ty t e t' : TypeId} {x : Operand} {a0 : Option Addr} {n c : Nat} {r : Bool} (ht : P.underlying t = some (.slice e)) (hx : ev L x = some (.slice a0 n c)) (hr : a0.isNone = r) : QY P N B w0 L H (.binOp .eql t x (.const (.slice none 0 0)) t') ty (.bool r) :=
  ⟨fun a w dst pos af g hf hm => by
    subst hr
    have hg : (eqGuard .eql t x (.const (.slice none 0 0)) (.slice a0 n c) (.slice none 0 0)).run P w = .ok () w := by unfold eqGuard; simp
    have h2 : a.eval (.const (.slice none 0 0)) = .slice none 0 0 := rfl
    have h3 := run_eql_isnil (P := P) w t e a0 n c ht
    simp only [execOp, hf.eval hx, h2, Sem.run_bind, hg, h3, Result.andThen_ok, Sem.run_pure]⟩
theorem W_isnil (hW : Walk0 P N B w0 W) {d : Nat} {ty t e t' : TypeId} {pos : String} {af : Array Edge} {rest : List Oper} {x : Operand} {a0 : Option Addr} {n c : Nat} (hu : P.underlying t = some (.slice e)) (hx : ev L x = some (.slice a0 n c)) (hd : Nat.ble (d + 1) N = true)
    (ht : a0 = none → W rest ((d, .bool true) :: L) H) (hf : ¬ a0 = none → W rest ((d, .bool false) :: L) H) : W (⟨some d, .binOp .eql t x (.const (.slice none 0 0)) t', ty, pos, af, none⟩ :: rest) L H := by
  by_cases h : a0 = none
  · exact hW.q (QY_isnil hu hx (by simp [h])) hd (ht h)
  · exact hW.q (QY_isnil hu hx (by cases a0 <;> simp at h ⊢)) hd (hf h)
end

/-- One block of several, in other words, under a key of its own. -/
theorem Mem.one {B : Nat → Prop} {w0 w : World} {H : List (Nat × Bk)} (h : Mem B w0 H w) {q : Nat} (q' : Nat) {k : Bk} (hq : lkH H q = some k) {n : Int} {c : Int → Value} (hn : n ≤ k.n) (hc : ∀ i, 0 ≤ i → i < n → c i = k.c i) : Mem B w0 [(q', ⟨k.b, k.size, n, c⟩)] w := by
  have h1 : Mem B w0 [(q, ⟨k.b, k.size, n, c⟩)] w := (h.say hq hn hc).weak fun r m hr => by
    rw [lkH_cons] at hr ⊢
    split at hr
    · rename_i e; rw [if_pos e]; exact hr
    · simp [lkH] at hr
  exact h1.rekey q'
/-- A callee's one new block, under a key of the caller's. -/
theorem Mem.join1 {B : Nat → Prop} {w0 w w' : World} {H : List (Nat × Bk)} (h : Mem B w0 H w) (q' : Nat) {q : Nat} {k : Bk} (h2 : Mem (Old w) w [(q, k)] w') : Mem B w0 ((q', k) :: H) w' := h.join (h2.rekey q')
theorem Mem.join0 {B : Nat → Prop} {w0 w w' : World} {H : List (Nat × Bk)} (h : Mem B w0 H w) (h2 : Mem (Old w) w [] w') : Mem B w0 H w' := h.join h2
theorem lkH_none {H : List (Nat × Bk)} {q : Nat} : lkH H q = Option.none ↔ q ∉ H.map (·.1) := by
  induction H with
  | nil => simp [lkH]
  | cons p r ih =>
    obtain ⟨t, u⟩ := p
    rw [lkH_cons]
    by_cases e : t = q
    · simp [e]
    · rw [if_neg e, ih]
      simp [e, Ne.symm (show q ≠ t from fun h => e h.symm)]
      exact fun _ => fun h => e h.symm
theorem keys_sub {H1 H2 : List (Nat × Bk)} (h : (H1.map (·.1)).all (fun q => (H2.map (·.1)).contains q) = true) : ∀ q, lkH H2 q = Option.none → lkH H1 q = Option.none := by
  intro q hq
  rw [lkH_none] at hq ⊢
  intro hm
  have := List.all_eq_true.1 h q hm
  exact hq (by simpa using this)
/-- Nothing has been laid yet. -/
theorem Mem.none {B : Nat → Prop} {w0 w : World} {H : List (Nat × Bk)} (h : Mem B w0 H w) (q b : Nat) {n : Int} (hn : n ≤ 0) (c : Int → Value) : Mem B w0 ((q, ⟨b, 0, n, c⟩) :: H) w := by
  refine ⟨h.os, h.tape, h.output, h.size, h.block, fun r m hr => ?_, fun r r' m m' hr hr' hne hp hp' => ?_⟩
  · rw [lkH_cons] at hr
    split at hr
    · obtain rfl := Option.some.inj hr
      exact ⟨⟨hn, fun hp => absurd hp (by simp)⟩, fun hp => absurd hp (by simp)⟩
    · exact h.ok r m hr
  · rw [lkH_cons] at hr hr'
    split at hr
    · obtain rfl := Option.some.inj hr
      exact absurd hp (by simp)
    · split at hr'
      · obtain rfl := Option.some.inj hr'
        exact absurd hp' (by simp)
      · exact h.apart r r' m m' hr hr' hne hp hp'

theorem RdW.nil {w : World} {a : Option Addr} {n cap : Nat} {c : Int → Value} (h : RdW w (.slice a n cap) n c) (ha : a = Option.none) : n = 0 := by
  obtain ⟨a', cap', he, hc⟩ := h
  cases he
  by_cases hn : n = 0
  · exact hn
  · obtain ⟨x, hx, _⟩ := hc 0 (by omega) (by omega)
    rw [ha] at hx; cases hx

theorem upd_same {α : Type} (f : Int → α) (m : Int) (z : α) : upd f m z m = z := by simp [upd]
theorem upd_other {α : Type} (f : Int → α) (m : Int) (z : α) {i : Int} (h : i ≠ m) : upd f m z i = f i := by simp [upd, h]
theorem upd_copy {α : Type} {f g : Int → α} {k : Int} (h : ∀ i, 0 ≤ i → i < k → g i = f i) : ∀ i, 0 ≤ i → i < k + 1 → upd g k (f k) i = f i := by
  intro i h0 h1
  by_cases e : i = k
  · subst e; exact upd_same _ _ _
  · rw [upd_other _ _ _ e]; exact h i h0 (by omega)

theorem Rd_sl {B : Nat → Prop} {w0 : World} {H : List (Nat × Bk)} {q b sz : Nat} {m : Int} {c : Int → Value} (hq : lkH H q = some ⟨b, sz, m, c⟩) {a : Option Addr} {n cap : Nat} (ha : 0 < n → a = some ⟨b, 0, Option.none⟩) (hn : (n : Int) ≤ m) : Rd B w0 H (.slice a n cap) n c := by
  by_cases h : 0 < n
  · rw [ha h]; exact Rd_own hq hn
  · exact ⟨a, cap, rfl, fun i h0 h1 => by omega⟩
end Go.Proofs.Qxb6001236a
