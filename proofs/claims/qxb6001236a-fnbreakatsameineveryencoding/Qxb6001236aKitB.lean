/-
  OWN WORK. Kit B: the operations that only yield a value.
-/
import Derived.Test.Qxb6001236aKitA
namespace Go.Proofs.Qxb6001236a
open Go.RowKit
set_option linter.unusedSimpArgs false
set_option linter.unusedVariables false

/-! ### Types -/
/-- 't' is a slice type whose elements take 'sz' cells. -/
def SlT (P : Program) (t : TypeId) (sz : Nat) : Prop := ∃ e i, P.underlying t = some (.slice e) ∧ P.info? e = some i ∧ i.size = sz
/-- A value of type 't' lies in one cell. -/
def Leaf (P : Program) (t : TypeId) : Prop := (∃ d, P.underlying t = some d ∧ (match d with | .struct _ | .array _ _ => true | _ => false) = false) ∧ ∃ i, P.info? t = some i ∧ i.size = 1
/-- A field's place. -/
def FieldAt (P : Program) (t : TypeId) (j off : Nat) : Prop := ∃ fs f i, P.underlying t = some (.struct fs) ∧ fs[j]? = some f ∧ f.offset = off ∧ P.info? f.type = some i ∧ ¬ i.size = 0
def IntT (P : Program) (t : TypeId) (k : IntKind) : Prop := P.underlying t = some (.int k)

def Fits : IntKind → Int → Prop
  | .i8, z => -128 ≤ z ∧ z ≤ 127
  | .i16, z => -32768 ≤ z ∧ z ≤ 32767
  | .i32, z => -2147483648 ≤ z ∧ z ≤ 2147483647
  | .i64, z => -9223372036854775808 ≤ z ∧ z ≤ 9223372036854775807
  | .u8, z => 0 ≤ z ∧ z ≤ 255
  | .u16, z => 0 ≤ z ∧ z ≤ 65535
  | .u32, z => 0 ≤ z ∧ z ≤ 4294967295
  | .u64, z => 0 ≤ z ∧ z ≤ 18446744073709551615

theorem wrap_fits {k : IntKind} {z : Int} (h : Fits k z) : k.wrap z = z := by
  cases k <;> simp only [Fits] at h <;> simp [IntKind.wrap, IntKind.signed, IntKind.bits] <;> omega

section
variable {P : Program} {N : Nat} {B : Nat → Prop} {w0 : World} {L : List (Nat × Value)} {H : List (Nat × Bk)} {ty : TypeId}

theorem QY_move {x : Operand} {v : Value} (hx : ev L x = some v) : QY P N B w0 L H (.move x) ty v :=
  ⟨fun a w dst pos af g hf hm => by simp [execOp, hf.eval hx]⟩
theorem QY_assign {x : Operand} {v : Value} (hx : ev L x = some v) : QY P N B w0 L H (.assign x) ty v :=
  ⟨fun a w dst pos af g hf hm => by simp [execOp, hf.eval hx]⟩
theorem QY_pick_true {c x y : Operand} {v : Value} (hc : ev L c = some (.bool true)) (hx : ev L x = some v) : QY P N B w0 L H (.pick c x y) ty v :=
  ⟨fun a w dst pos af g hf hm => by simp [execOp, hf.eval hx, hf.eval hc, asBool]⟩
theorem QY_pick_false {c x y : Operand} {v : Value} (hc : ev L c = some (.bool false)) (hx : ev L y = some v) : QY P N B w0 L H (.pick c x y) ty v :=
  ⟨fun a w dst pos af g hf hm => by simp [execOp, hf.eval hx, hf.eval hc, asBool]⟩
theorem QY_not {t : TypeId} {x : Operand} {b : Bool} (hx : ev L x = some (.bool b)) : QY P N B w0 L H (.unOp .not t x) ty (.bool (!b)) :=
  ⟨fun a w dst pos af g hf hm => by simp [execOp, hf.eval hx, Op.unary]⟩
theorem QY_extract {x : Operand} {vs : Array Value} {j : Nat} {v : Value} (hx : ev L x = some (.tuple vs)) (hv : vs[j]? = some v) : QY P N B w0 L H (.extract x j) ty v :=
  ⟨fun a w dst pos af g hf hm => by simp [execOp, hf.eval hx, Instr.extract, hv]⟩
theorem QY_len {t : TypeId} {sz : Nat} {x : Operand} {a0 : Option Addr} {n c : Nat} (ht : SlT P t sz) (hx : ev L x = some (.slice a0 n c)) :
    QY P N B w0 L H (.call { callee := .builtin .len, args := #[x], argTypes := #[t] }) ty (.int .i64 (n : Int)) :=
  ⟨fun a w dst pos af g hf hm => by
    obtain ⟨e, i, h1, _⟩ := ht
    simp [execOp, resolve, invoke, builtin, hf.eval hx, Builtin.len_, run_underlying h1, goInt]⟩

theorem eqGuard_int (op : BinOp) (t : TypeId) (x y : Operand) (k k' : IntKind) (m n : Int) (w : World) : (eqGuard op t x y (.int k m) (.int k' n)).run P w = .ok () w := by
  unfold eqGuard
  by_cases h : (op matches .eql | .neq) = true
  · simp [h]
  · simp [h]

/-- The six tests on integers. -/
def cmpB : BinOp → Int → Int → Option Bool
  | .eql, a, b => some (decide (a = b))
  | .neq, a, b => some (decide (a ≠ b))
  | .lss, a, b => some (decide (a < b))
  | .leq, a, b => some (decide (a ≤ b))
  | .gtr, a, b => some (decide (b < a))
  | .geq, a, b => some (decide (b ≤ a))
  | _, _, _ => none

theorem QY_cmp {op : BinOp} {t t' : TypeId} {x y : Operand} {k : IntKind} {m n : Int} {r : Bool} (hx : ev L x = some (.int k m)) (hy : ev L y = some (.int k n)) (hr : cmpB op m n = some r) :
    QY P N B w0 L H (.binOp op t x y t') ty (.bool r) :=
  ⟨fun a w dst pos af g hf hm => by
    have hg := eqGuard_int (P := P) op t x y k k m n w
    cases op <;> simp only [cmpB, Option.some.injEq, reduceCtorEq] at hr
    all_goals
      rw [← hr]
      simp [execOp, hf.eval hx, hf.eval hy, hg, binOp, Op.intCmp]
    all_goals first | rfl | (by_cases h : m = n <;> simp [h])⟩

def arith : BinOp → Int → Int → Option Int
  | .add, a, b => some (a + b)
  | .sub, a, b => some (a - b)
  | .mul, a, b => some (a * b)
  | _, _, _ => none

theorem QY_arith {op : BinOp} {t t' : TypeId} {x y : Operand} {k : IntKind} {m n z : Int} (hx : ev L x = some (.int k m)) (hy : ev L y = some (.int k n)) (hr : arith op m n = some z) (hz : Fits k z) :
    QY P N B w0 L H (.binOp op t x y t') ty (.int k z) :=
  ⟨fun a w dst pos af g hf hm => by
    have hg := eqGuard_int (P := P) op t x y k k m n w
    have hw := wrap_fits hz
    cases op <;> simp [arith] at hr <;> subst hr <;> simp [execOp, hf.eval hx, hf.eval hy, hg, binOp, Op.intArith, hw]⟩

theorem QY_conv {t t' : TypeId} {x : Operand} {k k' : IntKind} {m : Int} (h1 : IntT P t k) (h2 : IntT P t' k') (hx : ev L x = some (.int k m)) (hz : Fits k' m) :
    QY P N B w0 L H (.convert t t' x) ty (.int k' m) :=
  ⟨fun a w dst pos af g hf hm => by
    have hw := wrap_fits hz
    unfold IntT at h1 h2
    simp [execOp, hf.eval hx, convert, run_underlying h1, run_underlying h2, Conv.intToInt, hw]⟩

theorem QY_nil {x : Operand} {ad : Addr} (hx : ev L x = some (.pointer (some ad))) : QY P N B w0 L H (.nilCheck x) ty (.pointer (some ad)) :=
  ⟨fun a w dst pos af g hf hm => by simp [execOp, hf.eval hx]⟩

theorem QY_field {t : TypeId} {x : Operand} {j off : Nat} {ad : Addr} (ht : FieldAt P t j off) (hx : ev L x = some (.pointer (some ad))) : QY P N B w0 L H (.fieldAddr t x j) ty (.pointer (some (ad.add off))) :=
  ⟨fun a w dst pos af g hf hm => by
    obtain ⟨fs, f, i, h1, h2, h3, h4, h5⟩ := ht
    simp [execOp, hf.eval hx, Instr.fieldAt, run_underlying h1, h2, Instr.sureAddr, fieldPlace, sizeOf, typeInfo, h4, h5, h3]⟩

theorem QY_index {t : TypeId} {sz : Nat} {x y : Operand} {ad : Addr} {n c : Nat} {k : IntKind} {m : Int} (ht : SlT P t sz) (hx : ev L x = some (.slice (some ad) n c)) (hy : ev L y = some (.int k m)) (h0 : 0 ≤ m) (h1 : m < (n : Int)) :
    QY P N B w0 L H (.indexAddr t x y) ty (.pointer (some (ad.add (m.toNat * sz)))) :=
  ⟨fun a w dst pos af g hf hm => by
    obtain ⟨e, i, e1, e2, e3⟩ := ht
    simp [execOp, hf.eval hx, hf.eval hy, Instr.indexAt, asIntOf, run_underlying e1, h0, h1, sizeOf, typeInfo, e2, e3]⟩

theorem QY_load {t : TypeId} {x : Operand} {ad : Addr} {v : Value} (ht : Leaf P t) (hx : ev L x = some (.pointer (some ad))) (hc : ∀ w, Mem B w0 H w → w.cell? ad = some v) :
    QY P N B w0 L H (.load t x) ty v :=
  ⟨fun a w dst pos af g hf hm => by
    obtain ⟨⟨d, h1, h2⟩, _⟩ := ht
    have h3 := hc w hm
    cases d <;> simp at h2 <;> simp [execOp, hf.eval hx, Instr.loadAt, Instr.sureAddr, loadVar, isAgg, run_underlying h1, h3]⟩
end

/-! ### A walk, of whatever kind, in which such operations may stand -/
structure Walk0 (P : Program) (N : Nat) (B : Nat → Prop) (w0 : World) (W : List Oper → List (Nat × Value) → List (Nat × Bk) → Prop) : Prop where
  q : ∀ {L H d op ty pos af v rest}, QY P N B w0 L H op ty v → Nat.ble (d + 1) N = true → W rest ((d, v) :: L) H → W (⟨some d, op, ty, pos, af, none⟩ :: rest) L H
  relab : ∀ {L L' H rest}, (∀ t v, lk L' t = some v → lk L t = some v) → W rest L' H → W rest L H
structure Walk (P : Program) (N : Nat) (B : Nat → Prop) (w0 : World) (ops : Array Oper) (W : List Oper → List (Nat × Value) → List (Nat × Bk) → Prop) : Prop where
  w0 : Walk0 P N B w0 W
  yes : ∀ {L H dst op ty pos af j b t rest}, (ops[j]?).bind (·.dst) = some t → lk L t = some (.bool b) → W (⟨dst, op, ty, pos, af, none⟩ :: rest) L H → W (⟨dst, op, ty, pos, af, some (j, b)⟩ :: rest) L H
  no : ∀ {L H d op ty pos af j b t rest}, (ops[j]?).bind (·.dst) = some t → lk L t = some (.bool (!b)) → Nat.ble (d + 1) N = true → W rest ((d, undef) :: L) H → W (⟨some d, op, ty, pos, af, some (j, b)⟩ :: rest) L H

theorem yielded_of {N : Nat} {L : List (Nat × Value)} {a : Act} {ops : Array Oper} {j t : Nat} {b : Bool} (hf : Fr N L a) (hj : (ops[j]?).bind (·.dst) = some t) (hb : lk L t = some (.bool b)) : yielded ops a.tmps j = some b := by
  unfold yielded
  rw [hj, Option.bind_some, hf.get t _ hb]

section
variable {P : Program} {N : Nat} {B : Nat → Prop} {w0 : World}
theorem V_w0 {ops : Array Oper} {Q : Exit → Act → World → Prop} : Walk0 P N B w0 (V P N B w0 ops Q) where
  q := fun hq hd h => ⟨fun a w hf hm => wpList_plain rfl fun K hK => by
    unfold Oper.wp
    rw [hq.run a w _ _ _ _ hf hm]
    exact hK _ _ (h.run _ _ (hf.put hd _) hm)⟩
  relab := fun hl h => ⟨fun a w hf hm => h.run a w ⟨hf.size, fun t v ht => hf.get t v (hl t v ht), hf.defers⟩ hm⟩
theorem V_walk {ops : Array Oper} {Q : Exit → Act → World → Prop} : Walk P N B w0 ops (V P N B w0 ops Q) where
  w0 := V_w0
  yes := fun hj hb h => ⟨fun a w hf hm => by
    have hy := yielded_of hf hj hb
    have h1 := h.run a w hf hm
    unfold wpList at h1 ⊢
    simp only [Region.wanted, if_true] at h1
    rw [if_pos (by simp [Region.wanted, hy])]
    exact h1⟩
  no := fun hj hb hd h => ⟨fun a w hf hm => by
    have hy := yielded_of hf hj hb
    unfold wpList
    rw [if_neg (by simp only [Region.wanted, hy]; rename_i b _ _; cases b <;> simp)]
    exact h.run _ _ (hf.put hd _) hm⟩

/-- The walk over a region that draws its order and only reads. -/
structure S (P : Program) (N : Nat) (B : Nat → Prop) (w0 : World) (ops : Array Oper) (K : Act → World → Prop) (rest : List Oper) (L : List (Nat × Value)) (H : List (Nat × Bk)) : Prop where
  run : ∀ a w, Fr N L a → Mem B w0 H w → wpStill P ops w (fun a' => K a' w) rest a

theorem S_w0 {ops : Array Oper} {K : Act → World → Prop} : Walk0 P N B w0 (S P N B w0 ops K) where
  q := fun hq hd h => ⟨fun a w hf hm => wpStill_step fun K hK => by
    simp only [Region.wanted, if_true]
    unfold Oper.still
    rw [hq.run a w _ _ _ _ hf hm]
    exact ⟨rfl, hK _ (h.run _ _ (hf.put hd _) hm)⟩⟩
  relab := fun hl h => ⟨fun a w hf hm => h.run a w ⟨hf.size, fun t v ht => hf.get t v (hl t v ht), hf.defers⟩ hm⟩
theorem S_walk {ops : Array Oper} {K : Act → World → Prop} : Walk P N B w0 ops (S P N B w0 ops K) where
  w0 := S_w0
  yes := fun hj hb h => ⟨fun a w hf hm => by
    have hy := yielded_of hf hj hb
    have h1 := h.run a w hf hm
    unfold wpStill at h1 ⊢
    simp only [Region.wanted, if_true] at h1
    rw [if_pos (by simp [Region.wanted, hy])]
    exact h1⟩
  no := fun hj hb hd h => ⟨fun a w hf hm => by
    have hy := yielded_of hf hj hb
    unfold wpStill
    rw [if_neg (by simp only [Region.wanted, hy]; rename_i b _ _; cases b <;> simp)]
    exact h.run _ _ (hf.put hd _) hm⟩

theorem S_nil {ops : Array Oper} {K : Act → World → Prop} {L : List (Nat × Value)} {H : List (Nat × Bk)} (h : X N B w0 K L H) : S P N B w0 ops K [] L H :=
  ⟨fun a w hf hm => wpStill_nil (h.run a w hf hm)⟩
theorem C_draw {id : Nat} {l : List Oper} {Q : Exit → Act → World → Prop} {L : List (Nat × Value)} {H : List (Nat × Bk)} (hm : P.follows .mixedOrders = true) (hB : Region.lexB .any l.toArray = true)
    (h : S P N B w0 l.toArray (Q .normal) l L H) : C P N B w0 (.region id l.toArray true) Q L H :=
  ⟨fun a w hf hmem => wp_region_still_lit hm hB (h.run a _ hf (hmem.drawn _))⟩
end

/-! ### The tests, parted -/
section
variable {P : Program} {N : Nat} {B : Nat → Prop} {w0 : World} {W : List Oper → List (Nat × Value) → List (Nat × Bk) → Prop} {L : List (Nat × Value)} {H : List (Nat × Bk)}
  {d : Nat} {ty t t' : TypeId} {pos : String} {af : Array Edge} {rest : List Oper} {x y : Operand} {k : IntKind} {m n : Int}
theorem W_lss (hW : Walk0 P N B w0 W) (hx : ev L x = some (.int k m)) (hy : ev L y = some (.int k n)) (hd : Nat.ble (d + 1) N = true)
    (ht : m < n → W rest ((d, .bool true) :: L) H) (hf : ¬ m < n → W rest ((d, .bool false) :: L) H) : W (⟨some d, .binOp .lss t x y t', ty, pos, af, none⟩ :: rest) L H := by
  by_cases h : m < n
  · exact hW.q (QY_cmp hx hy (by simp [cmpB, h])) hd (ht h)
  · exact hW.q (QY_cmp hx hy (by simp [cmpB, h])) hd (hf h)
theorem W_leq (hW : Walk0 P N B w0 W) (hx : ev L x = some (.int k m)) (hy : ev L y = some (.int k n)) (hd : Nat.ble (d + 1) N = true)
    (ht : m ≤ n → W rest ((d, .bool true) :: L) H) (hf : ¬ m ≤ n → W rest ((d, .bool false) :: L) H) : W (⟨some d, .binOp .leq t x y t', ty, pos, af, none⟩ :: rest) L H := by
  by_cases h : m ≤ n
  · exact hW.q (QY_cmp hx hy (by simp [cmpB, h])) hd (ht h)
  · exact hW.q (QY_cmp hx hy (by simp [cmpB, h])) hd (hf h)
theorem W_gtr (hW : Walk0 P N B w0 W) (hx : ev L x = some (.int k m)) (hy : ev L y = some (.int k n)) (hd : Nat.ble (d + 1) N = true)
    (ht : n < m → W rest ((d, .bool true) :: L) H) (hf : ¬ n < m → W rest ((d, .bool false) :: L) H) : W (⟨some d, .binOp .gtr t x y t', ty, pos, af, none⟩ :: rest) L H := by
  by_cases h : n < m
  · exact hW.q (QY_cmp hx hy (by simp [cmpB, h])) hd (ht h)
  · exact hW.q (QY_cmp hx hy (by simp [cmpB, h])) hd (hf h)
theorem W_geq (hW : Walk0 P N B w0 W) (hx : ev L x = some (.int k m)) (hy : ev L y = some (.int k n)) (hd : Nat.ble (d + 1) N = true)
    (ht : n ≤ m → W rest ((d, .bool true) :: L) H) (hf : ¬ n ≤ m → W rest ((d, .bool false) :: L) H) : W (⟨some d, .binOp .geq t x y t', ty, pos, af, none⟩ :: rest) L H := by
  by_cases h : n ≤ m
  · exact hW.q (QY_cmp hx hy (by simp [cmpB, h])) hd (ht h)
  · exact hW.q (QY_cmp hx hy (by simp [cmpB, h])) hd (hf h)
theorem W_eql (hW : Walk0 P N B w0 W) (hx : ev L x = some (.int k m)) (hy : ev L y = some (.int k n)) (hd : Nat.ble (d + 1) N = true)
    (ht : m = n → W rest ((d, .bool true) :: L) H) (hf : ¬ m = n → W rest ((d, .bool false) :: L) H) : W (⟨some d, .binOp .eql t x y t', ty, pos, af, none⟩ :: rest) L H := by
  by_cases h : m = n
  · exact hW.q (QY_cmp hx hy (by simp [cmpB, h])) hd (ht h)
  · exact hW.q (QY_cmp hx hy (by simp [cmpB, h])) hd (hf h)
theorem W_neq (hW : Walk0 P N B w0 W) (hx : ev L x = some (.int k m)) (hy : ev L y = some (.int k n)) (hd : Nat.ble (d + 1) N = true)
    (ht : m ≠ n → W rest ((d, .bool true) :: L) H) (hf : m = n → W rest ((d, .bool false) :: L) H) : W (⟨some d, .binOp .neq t x y t', ty, pos, af, none⟩ :: rest) L H := by
  by_cases h : m = n
  · exact hW.q (QY_cmp hx hy (by simp [cmpB, h])) hd (hf h)
  · exact hW.q (QY_cmp hx hy (by simp [cmpB, h])) hd (ht h)
end

/-! ### Elements of a slice that can be read -/
/-- The slice value 'sv' has 'n' elements of one cell each, which read as 'c' says. -/
def Rd (B : Nat → Prop) (w0 : World) (H : List (Nat × Bk)) (sv : Value) (n : Nat) (c : Int → Value) : Prop :=
  ∃ a cap, sv = .slice a n cap ∧ ∀ i : Int, 0 ≤ i → i < (n : Int) → ∃ x : Addr, a = some x ∧ ∀ w, Mem B w0 H w → w.cell? (x.add i.toNat) = some (c i)

theorem cell_own {B : Nat → Prop} {w0 w : World} {H : List (Nat × Bk)} (hm : Mem B w0 H w) {q : Nat} {k : Bk} (hq : lkH H q = some k) {i : Int} (h0 : 0 ≤ i) (h1 : i < k.n) : w.cell? ⟨k.b, i.toNat, none⟩ = some (k.c i) := by
  obtain ⟨hn, hk⟩ := (hm.ok q k hq).1
  obtain ⟨arr, ty, ha, _, hc⟩ := hk (by omega)
  simp [World.cell?, ha, hc i h0 h1]

theorem Rd_own {B : Nat → Prop} {w0 : World} {H : List (Nat × Bk)} {q b sz : Nat} {m : Int} {c : Int → Value} (hq : lkH H q = some ⟨b, sz, m, c⟩) {n cap : Nat} (hn : (n : Int) ≤ m) : Rd B w0 H (.slice (some ⟨b, 0, none⟩) n cap) n c :=
  ⟨_, _, rfl, fun i h0 h1 => ⟨_, rfl, fun w hm => by
    have := cell_own hm hq h0 (show i < m by omega)
    by_cases e : i.toNat = 0
    · rw [e] at this; simpa [Addr.add, e] using this
    · simpa [Addr.add, e] using this⟩⟩

theorem Rd.len {B : Nat → Prop} {w0 : World} {H : List (Nat × Bk)} {sv : Value} {n : Nat} {c : Int → Value} (h : Rd B w0 H sv n c) : ∃ a cap, sv = .slice a n cap := ⟨h.choose, h.choose_spec.choose, h.choose_spec.choose_spec.1⟩

section
variable {P : Program} {N : Nat} {B : Nat → Prop} {w0 : World} {W : List Oper → List (Nat × Value) → List (Nat × Bk) → Prop} {L : List (Nat × Value)} {H : List (Nat × Bk)}
/-- 'xs[i]', read. -/
theorem W_elem (hW : Walk0 P N B w0 W) {d1 d2 : Nat} {ty1 ty2 t e : TypeId} {pos1 pos2 : String} {af1 af2 : Array Edge} {rest : List Oper} {x y : Operand} {sv : Value} {n : Nat} {c : Int → Value} {k : IntKind} {m : Int}
    (hx : ev L x = some sv) (hy : ev L y = some (.int k m)) (hr : Rd B w0 H sv n c) (h0 : 0 ≤ m) (h1 : m < (n : Int)) (ht : SlT P t 1) (he : Leaf P e)
    (hd1 : Nat.ble (d1 + 1) N = true) (hd2 : Nat.ble (d2 + 1) N = true)
    (h : ∀ p, W rest ((d2, c m) :: (d1, p) :: L) H) : W (⟨some d1, .indexAddr t x y, ty1, pos1, af1, none⟩ :: ⟨some d2, .load e (.tmp d1), ty2, pos2, af2, none⟩ :: rest) L H := by
  obtain ⟨a, cap, rfl, hc⟩ := hr
  obtain ⟨ad, rfl, hcell⟩ := hc m h0 h1
  refine hW.q (QY_index ht hx hy h0 h1) hd1 ?_
  refine hW.q (QY_load he (ad := ad.add (m.toNat * 1)) (by simp [ev, lk]) (fun w hm => by rw [Nat.mul_one]; exact hcell w hm)) hd2 (h _)

/-- 'p.f', read (p: a pointer to a struct of the call's own). -/
theorem W_fld (hW : Walk0 P N B w0 W) {d1 d2 d3 : Nat} {ty1 ty2 ty3 t e : TypeId} {pos1 pos2 pos3 : String} {af1 af2 af3 : Array Edge} {rest : List Oper} {x : Operand} {j off q b sz : Nat} {n : Int} {c : Int → Value} {v : Value}
    (hq : lkH H q = some ⟨b, sz, n, c⟩) (hx : ev L x = some (.pointer (some ⟨b, 0, none⟩))) (ht : FieldAt P t j off) (he : Leaf P e) (ho : (off : Int) < n) (hv : c (off : Int) = v)
    (hd1 : Nat.ble (d1 + 1) N = true) (hd2 : Nat.ble (d2 + 1) N = true) (hd3 : Nat.ble (d3 + 1) N = true)
    (h : W rest ((d3, v) :: (d2, .pointer (some ((⟨b, 0, none⟩ : Addr).add off))) :: (d1, .pointer (some ⟨b, 0, none⟩)) :: L) H) :
    W (⟨some d1, .nilCheck x, ty1, pos1, af1, none⟩ :: ⟨some d2, .fieldAddr t (.tmp d1) j, ty2, pos2, af2, none⟩ :: ⟨some d3, .load e (.tmp d2), ty3, pos3, af3, none⟩ :: rest) L H := by
  refine hW.q (QY_nil hx) hd1 ?_
  refine hW.q (QY_field ht (ad := ⟨b, 0, none⟩) (by simp [ev, lk])) hd2 ?_
  refine hW.q (QY_load he (ad := (⟨b, 0, none⟩ : Addr).add off) (by simp [ev, lk]) (fun w hm => ?_)) hd3 h
  have this : w.cell? ⟨b, ((off : Int)).toNat, none⟩ = some (c (off : Int)) := cell_own hm hq (i := (off : Int)) (by omega) ho
  rw [hv] at this
  by_cases e : off = 0
  · subst e; simpa [Addr.add] using this
  · simpa [Addr.add, e] using this
end
end Go.Proofs.Qxb6001236a
