/-
  OWN WORK. Kit C: stores, makes, appends, calls; a function's entry and end.
-/
import Derived.Test.Qxb6001236aKitB
import Derived.Laws.AppendOwn
namespace Go.Proofs.Qxb6001236a
open Go.RowKit
set_option linter.unusedSimpArgs false
set_option linter.unusedVariables false

/-! ### What a block reads as -/
def upd {α : Type} (f : Int → α) (m : Int) (z : α) : Int → α := fun i => if i = m then z else f i
def ints (k : IntKind) (f : Int → Int) : Int → Value := fun i => .int k (f i)
def bools (f : Int → Bool) : Int → Value := fun i => .bool (f i)
def fl (l : List Value) : Int → Value := fun i => l.getD i.toNat undef
/-- The cells 'l' laid over 'c' from place 'o' on. -/
def lay (c : Int → Value) (o : Int) (l : List Value) : Int → Value := fun i => if o ≤ i ∧ i < o + (l.length : Int) then l.getD (i - o).toNat undef else c i

theorem lay_one (c : Int → Value) (o : Int) (v : Value) : lay c o [v] = upd c o v := by
  funext i
  simp only [lay, upd, List.length_singleton]
  by_cases h : i = o
  · subst h; simp; omega
  · rw [if_neg (by omega), if_neg h]
theorem upd_ints (k : IntKind) (f : Int → Int) (m z : Int) : upd (ints k f) m (.int k z) = ints k (upd f m z) := by
  funext i; simp only [upd, ints]; split <;> rfl
theorem upd_bools (f : Int → Bool) (m : Int) (z : Bool) : upd (bools f) m (.bool z) = bools (upd f m z) := by
  funext i; simp only [upd, bools]; split <;> rfl
theorem upd_fl (l : List Value) (o : Nat) (v : Value) (ho : o < l.length) : ∀ i : Int, 0 ≤ i → upd (fl l) (o : Int) v i = fl (l.set o v) i := by
  intro i hi
  simp only [upd, fl]
  by_cases h : i = o
  · subst h; simp [List.getD, ho]
  · rw [if_neg h]
    have : o ≠ i.toNat := by omega
    simp [List.getD, List.getElem?_set_ne this]

theorem Bk.ok.congr {k : Bk} {w : World} (h : k.ok w) {n : Int} {c : Int → Value} (hn : n ≤ k.n) (hc : ∀ i, 0 ≤ i → i < n → c i = k.c i) : (⟨k.b, k.size, n, c⟩ : Bk).ok w := by
  obtain ⟨h1, h2⟩ := h
  refine ⟨by show n ≤ (k.size : Int); omega, fun hp => ?_⟩
  obtain ⟨arr, ty, ha, hs, hcc⟩ := h2 hp
  exact ⟨arr, ty, ha, hs, fun i h0 hi => (hcc i h0 (by have : i < n := hi; omega)).trans (congrArg some (hc i h0 hi).symm)⟩

/-- What is said of a block, said in other words. -/
theorem Mem.say {B : Nat → Prop} {w0 w : World} {H : List (Nat × Bk)} (h : Mem B w0 H w) {q : Nat} {k : Bk} (hq : lkH H q = some k) {n : Int} {c : Int → Value} (hn : n ≤ k.n) (hc : ∀ i, 0 ≤ i → i < n → c i = k.c i) :
    Mem B w0 ((q, ⟨k.b, k.size, n, c⟩) :: H) w := by
  refine ⟨h.os, h.tape, h.output, h.size, h.block, fun r m hr => ?_, fun r r' m m' hr hr' hne hp hp' => ?_⟩
  · rw [lkH_cons] at hr
    split at hr
    · obtain rfl := Option.some.inj hr
      exact ⟨(h.ok q k hq).1.congr hn hc, (h.ok q k hq).2⟩
    · exact h.ok r m hr
  · rw [lkH_cons] at hr hr'
    split at hr
    · split at hr'
      · omega
      · obtain rfl := Option.some.inj hr
        rename_i e1 e2
        exact h.apart q r' k m' hq hr' e2 hp hp'
    · split at hr'
      · obtain rfl := Option.some.inj hr'
        rename_i e1 e2
        exact fun e => h.apart q r k m hq hr e1 hp' hp e.symm
      · exact h.apart r r' m m' hr hr' hne hp hp'

theorem lay_arr (arr : Array Value) (c : Int → Value) (kn n : Int) (o : Nat) (vs : List Value) (hc : ∀ i : Int, 0 ≤ i → i < kn → arr[i.toNat]? = some (c i)) (ho : o + vs.length ≤ arr.size) (hkn : kn ≤ (arr.size : Int))
    (hn : n ≤ kn ∨ ((o : Int) ≤ kn ∧ n ≤ (o + vs.length : Nat))) (i : Int) (h0 : 0 ≤ i) (hi : i < n) : (arr.toList.take o ++ vs ++ arr.toList.drop (o + vs.length)).toArray[i.toNat]? = some (lay c o vs i) := by
  simp only [lay, List.getElem?_toArray]
  by_cases c1 : (o : Int) ≤ i ∧ i < o + (vs.length : Int)
  · have hlt : (i - o).toNat < vs.length := by omega
    have e1 : i.toNat - (List.take o arr.toList).length = (i - o).toNat := by simp; omega
    rw [if_pos c1, List.append_assoc, List.getElem?_append_right (by simp; omega), List.getElem?_append_left (by rw [e1]; exact hlt), e1, List.getElem?_eq_getElem hlt, List.getD_eq_getElem?_getD, List.getElem?_eq_getElem hlt]
    rfl
  · have hik : i < kn := by omega
    have hci := hc i h0 hik
    rw [if_neg c1, ← hci]
    by_cases c2 : i < o
    · rw [List.append_assoc, List.getElem?_append_left (by simp; omega), List.getElem?_take_of_lt (by omega)]
      simp
    · have e2 : o + vs.length + (i.toNat - (List.take o arr.toList ++ vs).length) = i.toNat := by simp; omega
      rw [List.getElem?_append_right (by simp; omega), List.getElem?_drop, e2]
      simp

/-- 'Mem' behind a new block. -/
theorem Mem.push {B : Nat → Prop} {w0 w : World} {H : List (Nat × Bk)} (hm : Mem B w0 H w) (arr : Array Value) (t : TypeId) : Mem B w0 H { w with heap := w.heap.push (.cells arr t) } := by
  have hA := hm.alloc 0 arr t 0 (fun _ => undef) (by omega) (fun i h0 h1 => by omega)
  refine ⟨hA.os, hA.tape, hA.output, hA.size, hA.block, fun r m hr => ⟨(hm.ok r m hr).1.same fun hp => ?_, (hm.ok r m hr).2⟩, hm.apart⟩
  have := (hm.ok r m hr).1.lt hp
  show (w.heap.push _)[m.b]? = _
  rw [Array.getElem?_push, if_neg (by omega)]

/-- Cells stored into a block of the call's own. -/
theorem Mem.laid {B : Nat → Prop} {w0 w : World} {H : List (Nat × Bk)} (h : Mem B w0 H w) {q : Nat} {k : Bk} (hq : lkH H q = some k) {o : Nat} {vs : List Value} (hp : 0 < k.size) (ho : o + vs.length ≤ k.size) (h1 : ∀ v ∈ vs, v.oneCell' = true)
    {n : Int} (hn : n ≤ k.n ∨ ((o : Int) ≤ k.n ∧ n ≤ (o + vs.length : Nat))) {P : Program} :
    ∃ w', (storeCells ⟨k.b, o, none⟩ vs 0).run P w = .ok () w' ∧ Mem B w0 ((q, ⟨k.b, k.size, n, lay k.c o vs⟩) :: H) w' := by
  obtain ⟨hkn, hk⟩ := (h.ok q k hq).1
  obtain ⟨arr, ty, ha, hs, hc⟩ := hk hp
  have hrun := run_storeCells_at P k.b o ty vs 0 arr w ha (by rw [hs]; simpa using ho) h1
  rw [Nat.add_zero] at hrun
  have hsz : ((arr.toList.take o ++ vs ++ arr.toList.drop (o + vs.length)).toArray).size = k.size := by simp; omega
  have hns : n ≤ (k.size : Int) := by omega
  have hok : (⟨k.b, k.size, n, lay k.c o vs⟩ : Bk).ok (w.setRow k.b (arr.toList.take o ++ vs ++ arr.toList.drop (o + vs.length)).toArray) :=
    ⟨hns, fun _ => ⟨_, ty, setRow_heap w k.b arr _ ty _ ha, hsz, lay_arr arr k.c k.n n o vs hc (by omega) (by omega) hn⟩⟩
  exact ⟨_, hrun, h.change hq hp rfl hok rfl rfl rfl (by simp) (fun j hj _ => setRow_other w k.b j _ hj)⟩

/-! ### A slice that may grow -/
/-- The value 'sv' is a slice of length 'len' at the head of the block 'k' (sz cells an element); or nothing has been laid yet. -/
def Gs (k : Bk) (sz len : Nat) (sv : Value) : Prop :=
  (k.size = 0 ∧ len = 0 ∧ sv = .slice none 0 0) ∨ (0 < k.size ∧ ∃ cap, sv = .slice (some ⟨k.b, 0, none⟩) len cap ∧ k.size = cap * sz ∧ len ≤ cap)

theorem Gs.slice {k : Bk} {sz len : Nat} {sv : Value} (h : Gs k sz len sv) : ∃ a cap, sv = .slice a len cap := by
  rcases h with ⟨_, rfl, rfl⟩ | ⟨_, cap, rfl, _, _⟩
  · exact ⟨_, _, rfl⟩
  · exact ⟨_, _, rfl⟩

/-- The facts on a slice type that an append or a make asks for. -/
structure MkT (P : Program) (t e : TypeId) (z : Value) (sz bytes : Nat) : Prop where
  under : P.underlying t = some (.slice e)
  info : ∃ i, P.info? e = some i ∧ i.zero = some z ∧ i.size = sz ∧ i.bytes = bytes
  cells : z.cells.size = sz
  pos : 0 < sz

theorem range_map_get {α : Type} {m j : Nat} {f : Nat → α} {v : α} (h : ((List.range m).map f)[j]? = some v) : j < m ∧ f j = v := by
  obtain ⟨hl, he⟩ := List.getElem?_eq_some_iff.1 h
  simp at hl he
  exact ⟨hl, he⟩

theorem run_app {P : Program} {B : Nat → Prop} {w0 w : World} {H : List (Nat × Bk)} (hm : Mem B w0 H w) {q : Nat} {k : Bk} (hq : lkH H q = some k) {t e ty : TypeId} {z : Value} {sz bytes : Nat} (ht : MkT P t e z sz bytes)
    {len : Nat} {sv : Value} (hs : Gs k sz len sv) (hlen : ((len * sz : Nat) : Int) ≤ k.n) (ad : Addr) (c : Nat) (vs : List Value) (hvs : vs.length = sz) (hcell : ∀ j v, vs[j]? = some v → w.cell? (ad.add j) = some v) (h1 : ∀ v ∈ vs, v.oneCell' = true)
    (hbig : (len + 1) * bytes ≤ 140737488355328) (hlen2 : len < 4611686018427387904) :
    ∃ sv' w' k', (Builtin.append_ #[t, t] ty #[sv, .slice (some ad) 1 c]).run P w = .ok sv' w' ∧ 0 < k'.size ∧ Gs k' sz (len + 1) sv' ∧ k'.n = (((len + 1) * sz : Nat) : Int) ∧ k'.c = lay k.c ((len * sz : Nat) : Int) vs ∧
      Mem B w0 ((q, k') :: H) w' ∧ (k.n = ((len * sz : Nat) : Int) → Mem B w0 H w') := by
  obtain ⟨i, hi, hz, hsz, hby⟩ := ht.info
  subst hsz; subst hby
  have hl1 : vs.length = 1 * i.size := by omega
  -- the case in which a new block is laid
  have grow : ∀ (olds : List Value) (cap' : Nat) (w' : World), olds.length = len * i.size → (∀ (j : Nat) (v : Value), olds[j]? = some v → v = k.c (j : Int)) → len + 1 ≤ cap' →
      w' = w.drew.alloc (.cells (olds.toArray ++ vs.toArray ++ Builtin.zeroCells z.cells (cap' - (len + 1))) e) →
      ∃ k' : Bk, 0 < k'.size ∧ Gs k' i.size (len + 1) (.slice (some ⟨w.heap.size, 0, none⟩) (len + 1) cap') ∧ k'.n = (((len + 1) * i.size : Nat) : Int) ∧ k'.c = lay k.c ((len * i.size : Nat) : Int) vs ∧
        Mem B w0 ((q, k') :: H) w' ∧ (k.n = ((len * i.size : Nat) : Int) → Mem B w0 H w') := by
    intro olds cap' w' hol hold hcap hw'
    have hsize : (olds.toArray ++ vs.toArray ++ Builtin.zeroCells z.cells (cap' - (len + 1))).size = cap' * i.size := by
      simp only [Array.size_append, List.size_toArray, size_zeroCells, ht.cells, hol, hl1, ← Nat.add_mul]
      congr 1; omega
    have hpos := ht.pos
    have hcp : 0 < cap' * i.size := Nat.mul_pos (by omega) hpos
    have hle : ((len + 1) * i.size : Nat) ≤ cap' * i.size := Nat.mul_le_mul_right _ hcap
    have hmul : (len + 1) * i.size = len * i.size + i.size := by rw [Nat.add_mul, Nat.one_mul]
    have hA := (hm.drawn (w.drawn + 1)).alloc q (olds.toArray ++ vs.toArray ++ Builtin.zeroCells z.cells (cap' - (len + 1))) e (((len + 1) * i.size : Nat) : Int) (lay k.c ((len * i.size : Nat) : Int) vs)
      (by rw [hsize]; omega) (fun j h0 hj => by
        simp only [lay]
        rw [Array.append_assoc, Array.getElem?_append]
        by_cases c1 : j < ((len * i.size : Nat) : Int)
        · rw [if_pos (by simp [hol]; omega), if_neg (by omega)]
          have hlt : j.toNat < olds.length := by omega
          have := hold j.toNat _ (List.getElem?_eq_getElem hlt)
          simp only [List.getElem?_toArray, List.getElem?_eq_getElem hlt, this]
          congr 2; omega
        · rw [if_neg (by simp [hol]; omega), if_pos (by omega), Array.getElem?_append, if_pos (by simp [hol]; omega)]
          have hlt : (j - ((len * i.size : Nat) : Int)).toNat < vs.length := by omega
          have he : j.toNat - olds.toArray.size = (j - ((len * i.size : Nat) : Int)).toNat := by simp [hol]; omega
          rw [he, List.getElem?_toArray, List.getElem?_eq_getElem hlt, List.getD_eq_getElem?_getD, List.getElem?_eq_getElem hlt]
          rfl)
    have hA' : Mem B w0 ((q, ⟨w.heap.size, (olds.toArray ++ vs.toArray ++ Builtin.zeroCells z.cells (cap' - (len + 1))).size, (((len + 1) * i.size : Nat) : Int), lay k.c ((len * i.size : Nat) : Int) vs⟩) :: H) w' := by rw [hw']; exact hA
    refine ⟨_, ?_, ?_, rfl, rfl, hA', fun hkn => ?_⟩
    · show 0 < _; rw [hsize]; exact hcp
    · refine .inr ⟨?_, cap', rfl, ?_, hcap⟩
      · show 0 < _; rw [hsize]; exact hcp
      · show _ = _; rw [hsize]
    · have hold' : ∀ (m : Bk), m.ok w → m.ok w' := fun m hmk => hmk.same fun hp => by
        have := hmk.lt hp
        rw [hw']
        show (w.heap.push _)[m.b]? = _
        rw [Array.getElem?_push, if_neg (by omega)]
      exact ⟨hA'.os, hA'.tape, hA'.output, hA'.size, hA'.block, fun r m hr => ⟨hold' m (hm.ok r m hr).1, (hm.ok r m hr).2⟩, hm.apart⟩
  rcases hs with ⟨hk0, rfl, rfl⟩ | ⟨hkp, cap, rfl, hcap, hlecap⟩
  · have hr := run_append_nil (P := P) w t ty e i z ht.under hi hz ad 1 c vs hl1 hcell (by omega) (by omega) (by simp at hbig; omega)
    have hge := grownCap_ge w 1 0 e
    obtain ⟨k', g1, g2, g3, g4, g5, g6⟩ := grow [] (grownCap w 1 0 e) _ (by simp) (by simp) (by simpa using hge) rfl
    refine ⟨_, _, k', ?_, g1, g2, g3, g4, g5, g6⟩
    simpa using hr
  · have hpos := ht.pos
    by_cases hroom : len + 1 ≤ cap
    · obtain ⟨hkn, hk⟩ := (hm.ok q k hq).1
      obtain ⟨arr, ty', ha, has, hc⟩ := hk hkp
      have hle : ((len + 1) * i.size : Nat) ≤ cap * i.size := Nat.mul_le_mul_right _ hroom
      have hmul : (len + 1) * i.size = len * i.size + i.size := by rw [Nat.add_mul, Nat.one_mul]
      obtain ⟨w', hst, hM⟩ := hm.laid (P := P) hq (o := len * i.size) (vs := vs) (n := (((len + 1) * i.size : Nat) : Int)) hkp (by omega) h1 (.inr ⟨hlen, by omega⟩)
      have hf := run_firstCells_some (P := P) w i.size 1 ad 1 c vs hl1 hcell
      have hst' : (storeCells ((⟨k.b, 0, none⟩ : Addr).add (len * i.size)) vs 0).run P w = .ok () w' := by rw [Addr.add_lit, Nat.zero_add]; exact hst
      refine ⟨_, w', ⟨k.b, k.size, (((len + 1) * i.size : Nat) : Int), lay k.c ((len * i.size : Nat) : Int) vs⟩, ?_, hkp, .inr ⟨hkp, cap, rfl, hcap, hroom⟩, rfl, rfl, hM, fun hkn' => ?_⟩
      · simp [Builtin.append_, run_underlying ht.under, sizeOf, typeInfo, hi, Builtin.lenOf, hroom, hf, hst']
      · have hM2 := hM.say (q := q) (k := ⟨k.b, k.size, (((len + 1) * i.size : Nat) : Int), lay k.c ((len * i.size : Nat) : Int) vs⟩) (by simp [lkH_cons]) (n := k.n) (c := k.c) (by show k.n ≤ (((len + 1) * i.size : Nat) : Int); omega)
          (fun j h0 hj => by show k.c j = lay _ _ _ _; simp only [lay]; rw [if_neg (by omega)])
        refine hM2.weak fun r m hr => ?_
        simp only [lkH_cons]
        by_cases e1 : q = r
        · subst e1
          rw [hq] at hr
          obtain rfl := Option.some.inj hr
          simp
        · simp [e1, hr]
    · have holds : ∀ j v, (((List.range (len * i.size)).map fun (j : Nat) => k.c (j : Int)))[j]? = some v → w.cell? ((⟨k.b, 0, none⟩ : Addr).add j) = some v := by
        intro j v hj
        obtain ⟨hjl, rfl⟩ := range_map_get hj
        rw [Addr.add_lit, Nat.zero_add]
        have := cell_own hm hq (i := (j : Int)) (by omega) (by omega)
        simpa using this
      have hcl : ¬ (len + 1 ≤ cap) := hroom
      have hr := run_append_grow (P := P) w t ty e i z ht.under hi hz ⟨k.b, 0, none⟩ len cap _ (by simp) holds ad 1 c vs hl1 hcell (by omega) (by omega) (growslice_fits (by omega) hbig)
      have hge := grownCap_ge w (len + 1) cap e
      obtain ⟨k', g1, g2, g3, g4, g5, g6⟩ := grow ((List.range (len * i.size)).map fun (j : Nat) => k.c (j : Int)) (grownCap w (len + 1) cap e) _ (by simp) (fun j v hj => (range_map_get hj).2.symm) hge rfl
      exact ⟨_, _, k', hr, g1, g2, g3, g4, g5, g6⟩

/-! ### Stores -/
section
variable {P : Program} {N : Nat} {B : Nat → Prop} {w0 : World} {ops : Array Oper} {Q : Exit → Act → World → Prop} {L : List (Nat × Value)} {H : List (Nat × Bk)}

theorem V_store {e ty : TypeId} {pos : String} {af : Array Edge} {rest : List Oper} {p x : Operand} {q o b sz : Nat} {n : Int} {c : Int → Value} {v : Value}
    (hq : lkH H q = some ⟨b, sz, n, c⟩) (hp : ev L p = some (.pointer (some ⟨b, o, none⟩))) (hv : ev L x = some v) (he : Leaf P e) (h1 : v.oneCell' = true) (ho : (o : Int) < n)
    (h : V P N B w0 ops Q rest L ((q, ⟨b, sz, n, upd c o v⟩) :: H)) : V P N B w0 ops Q (⟨none, .store e p x, ty, pos, af, none⟩ :: rest) L H :=
  ⟨fun a w hf hm => wpList_plain rfl fun K hK => by
    have hkn : n ≤ (sz : Int) := (hm.ok q _ hq).1.1
    obtain ⟨w', hr, hM⟩ := hm.laid (P := P) hq (o := o) (vs := [v]) (n := n) (show 0 < sz by omega) (show o + [v].length ≤ sz by simp; omega) (by simpa using h1) (.inl (Int.le_refl _))
    obtain ⟨_, i, hi, hsz⟩ := he
    have hcs : v.cells = #[v] := by cases v <;> simp [Value.oneCell'] at h1 <;> rfl
    rw [lay_one] at hM
    unfold Oper.wp
    simp only [execOp, hf.eval hp, hf.eval hv, Instr.storeAt, Instr.sureAddr, storeVar, sizeOf, typeInfo, program, hcs, Sem.run_bind, Sem.run_pure, Sem.run, Result.andThen_ok, hi, hsz]
    simp [hr]
    exact hK _ _ (h.run _ _ hf hM)⟩

/-- 'xs[i] = v', xs of the call's own. -/
theorem V_set {d1 : Nat} {ty1 ty2 t e : TypeId} {pos1 pos2 : String} {af1 af2 : Array Edge} {rest : List Oper} {x y u : Operand} {n cap q b sz : Nat} {kn : Int} {c : Int → Value} {kk : IntKind} {m : Int} {v : Value} {c' : Int → Value} {a0 : Option Addr}
    (hq : lkH H q = some ⟨b, sz, kn, c⟩) (hx : ev L x = some (.slice a0 n cap)) (ha : a0 = some ⟨b, 0, none⟩) (hy : ev L y = some (.int kk m)) (hv : ev ((d1, .pointer (some ⟨b, m.toNat, none⟩)) :: L) u = some v) (h0 : 0 ≤ m) (h1 : m < (n : Int)) (h2 : m < kn) (ht : SlT P t 1) (he : Leaf P e)
    (hone : v.oneCell' = true) (hd1 : Nat.ble (d1 + 1) N = true) (hc : upd c m v = c')
    (h : ∀ p, V P N B w0 ops Q rest ((d1, p) :: L) ((q, ⟨b, sz, kn, c'⟩) :: H)) :
    V P N B w0 ops Q (⟨some d1, .indexAddr t x y, ty1, pos1, af1, none⟩ :: ⟨none, .store e (.tmp d1) u, ty2, pos2, af2, none⟩ :: rest) L H := by
  subst ha
  have hpt : (⟨b, 0, none⟩ : Addr).add (m.toNat * 1) = ⟨b, m.toNat, none⟩ := by rw [Addr.add_lit, Nat.zero_add, Nat.mul_one]
  have hqi := QY_index (P := P) (N := N) (B := B) (w0 := w0) (H := H) (ty := ty1) ht hx hy h0 h1
  rw [hpt] at hqi
  refine V_w0.q hqi hd1 ?_
  subst hc
  have hmm : ((m.toNat : Nat) : Int) = m := by omega
  refine V_store (q := q) (b := b) (o := m.toNat) (v := v) hq (by simp [ev, lk]) hv he hone (by omega) ?_
  rw [hmm]
  exact h _

/-- 'p.f = v', p a pointer to a struct of the call's own. -/
theorem V_fset {d1 d2 : Nat} {ty1 ty2 ty3 t e : TypeId} {pos1 pos2 pos3 : String} {af1 af2 af3 : Array Edge} {rest : List Oper} {x u : Operand} {j off q b sz : Nat} {n : Int} {v : Value} {l : List Value}
    (hq : lkH H q = some ⟨b, sz, n, fl l⟩) (hx : ev L x = some (.pointer (some ⟨b, 0, none⟩))) (ht : FieldAt P t j off) (he : Leaf P e) (ho : (off : Int) < n) (hol' : Nat.ble (off + 1) l.length = true)
    (hv : ev ((d2, .pointer (some ⟨b, off, none⟩)) :: (d1, .pointer (some ⟨b, 0, none⟩)) :: L) u = some v) (hone : v.oneCell' = true) (hd1 : Nat.ble (d1 + 1) N = true) (hd2 : Nat.ble (d2 + 1) N = true)
    (h : V P N B w0 ops Q rest ((d2, .pointer (some ⟨b, off, none⟩)) :: (d1, .pointer (some ⟨b, 0, none⟩)) :: L) ((q, ⟨b, sz, n, fl (l.set off v)⟩) :: H)) :
    V P N B w0 ops Q (⟨some d1, .nilCheck x, ty1, pos1, af1, none⟩ :: ⟨some d2, .fieldAddr t (.tmp d1) j, ty2, pos2, af2, none⟩ :: ⟨none, .store e (.tmp d2) u, ty3, pos3, af3, none⟩ :: rest) L H := by
  have hol : off < l.length := Nat.le_of_ble_eq_true hol'
  refine V_w0.q (QY_nil hx) hd1 ?_
  have hqf := QY_field (P := P) (N := N) (B := B) (w0 := w0) (H := H) (ty := ty2) (L := (d1, .pointer (some ⟨b, 0, none⟩)) :: L) (x := .tmp d1) (ad := ⟨b, 0, none⟩) ht (by simp [ev, lk])
  rw [Addr.add_lit, Nat.zero_add] at hqf
  refine V_w0.q hqf hd2 ?_
  refine V_store (q := q) (b := b) (o := off) (v := v) hq (by simp [ev, lk]) hv he hone ho ?_
  refine ⟨fun a w hf hm => h.run a w hf ?_⟩
  have h3 := hm.say (q := q) (k := ⟨b, sz, n, upd (fl l) off v⟩) (by simp [lkH_cons]) (n := n) (c := fl (l.set off v)) (Int.le_refl _) (fun i h0 _ => (upd_fl l off v hol i h0).symm)
  refine h3.weak fun r m hr => ?_
  simp only [lkH_cons] at hr ⊢
  split at hr
  · rename_i e1; rw [if_pos e1]; exact hr
  · rename_i e1; rw [if_neg e1, if_neg e1]; exact hr

/-! ### Memory that is made -/
theorem range0 : Array.range 0 = #[] := rfl
theorem run_makeSlice {t e : TypeId} {z : Value} {sz bytes : Nat} (ht : MkT P t e z sz bytes) (w : World) (kl kc : IntKind) (l c : Int) (h0 : 0 ≤ l) (hlc : l ≤ c) (hb : (bytes : Int) * c ≤ 281474976710656) (hc : c ≤ 9223372036854775807) :
    (Instr.makeSlice t (.int kl l) (.int kc c)).run P w = .ok (.slice (some ⟨w.heap.size, 0, none⟩) l.toNat c.toNat) { w with heap := w.heap.push (.cells ((Array.range (c.toNat * sz)).map (z.cells[· % z.cells.size]!)) e) } := by
  obtain ⟨i, hi, hz, hsz, hby⟩ := ht.info
  have w1 : IntKind.i64.wrap l = l := wrap_fits (k := .i64) ⟨by omega, by omega⟩
  have w2 : IntKind.i64.wrap c = c := wrap_fits (k := .i64) ⟨by omega, by omega⟩
  have c1 : ¬ l < 0 := by omega
  have c2 : ¬ c < 0 := by omega
  have c3 : ¬ c < l := by omega
  have c4 : ¬ (281474976710656 : Int) < (bytes : Int) * c := by omega
  have hroom : ∀ n w, (askRoom n).run P w = .ok () w := by
    intro n w
    unfold askRoom
    split <;> simp [mark, Sem.run]
  by_cases hn : c.toNat * sz = 0
  · simp [Instr.makeSlice, run_underlying ht.under, asInt, asIntOf, typeInfo, hi, w1, w2, c1, c2, c3, c4, hby, hroom, sizeOf, hsz, hn, newRow, newObj, Sem.run, range0]
  · simp [Instr.makeSlice, run_underlying ht.under, asInt, asIntOf, typeInfo, hi, w1, w2, c1, c2, c3, c4, hby, hroom, sizeOf, hsz, hn, zeroValue, hz, newRow, newObj, Sem.run]

/-- 'make([]T, n)' | 'make([]T, n, m)', an element of one cell. -/
theorem V_make {d : Nat} {ty t e : TypeId} {pos : String} {af : Array Edge} {rest : List Oper} {x y : Operand} {z : Value} {bytes : Nat} {kl kc : IntKind} {l c : Int} (q : Nat)
    (ht : MkT P t e z 1 bytes) (hz : z.cells = #[z]) (hx : ev L x = some (.int kl l)) (hy : ev L y = some (.int kc c)) (h0 : 0 ≤ l) (hlc : l ≤ c) (hb : (bytes : Int) * c ≤ 281474976710656) (hc : c ≤ 9223372036854775807) (hd : Nat.ble (d + 1) N = true)
    (h : ∀ b, V P N B w0 ops Q rest ((d, .slice (some ⟨b, 0, none⟩) l.toNat c.toNat) :: L) ((q, ⟨b, c.toNat, c, fun _ => z⟩) :: H)) :
    V P N B w0 ops Q (⟨some d, .makeSlice t x y, ty, pos, af, none⟩ :: rest) L H :=
  ⟨fun a w hf hm => wpList_plain rfl fun K hK => by
    have hr := run_makeSlice ht w kl kc l c h0 hlc hb hc
    have hsz : ((Array.range (c.toNat * 1)).map (z.cells[· % z.cells.size]!)).size = c.toNat := by simp
    have hA := hm.alloc q ((Array.range (c.toNat * 1)).map (z.cells[· % z.cells.size]!)) e c (fun _ => z) (by rw [hsz]; omega) (fun i i0 i1 => by
      have hlt : i.toNat < c.toNat := by omega
      simp [hz, Array.getElem?_range, hlt, Nat.mod_one])
    rw [hsz] at hA
    unfold Oper.wp
    simp only [execOp, hf.eval hx, hf.eval hy, Sem.run_bind, hr, Result.andThen_ok, Sem.run_pure]
    exact hK _ _ ((h _).run _ _ (hf.put hd _) hA)⟩

/-- '[]T{v}' appended: 'append(xs, v)', an element of one cell. -/
theorem V_app {d1 d2 : Nat} {ty1 ty2 t e : TypeId} {pos1 pos2 : String} {af1 af2 : Array Edge} {rest : List Oper} {s x : Operand} {z v sv : Value} {bytes q len kb ks : Nat} {kn : Int} {kc c' : Int → Value}
    (ht : MkT P t e z 1 bytes) (hz : z.cells = #[z]) (hq : lkH H q = some ⟨kb, ks, kn, kc⟩) (hs' : ∀ p, ev ((d1, p) :: L) s = some sv) (hg : Gs ⟨kb, ks, kn, kc⟩ 1 len sv) (hlen : (len : Int) ≤ kn) (hx : ev L x = some v) (hone : v.oneCell' = true)
    (hbig : (len + 1) * bytes ≤ 140737488355328) (hlen2 : len < 4611686018427387904) (hd1 : Nat.ble (d1 + 1) N = true) (hd2 : Nat.ble (d2 + 1) N = true) (hc' : upd kc (len : Int) v = c')
    (h : ∀ p sv' b' sz', 0 < sz' → Gs ⟨b', sz', (len : Int) + 1, c'⟩ 1 (len + 1) sv' → V P N B w0 ops Q rest ((d2, sv') :: (d1, p) :: L) ((q, ⟨b', sz', (len : Int) + 1, c'⟩) :: H)) :
    V P N B w0 ops Q (⟨some d1, .buildSlice t 1 #[(0, x)], ty1, pos1, af1, none⟩ :: ⟨some d2, .call { callee := .builtin .append, args := #[s, .tmp d1], argTypes := #[t, t] }, ty2, pos2, af2, none⟩ :: rest) L H :=
  ⟨fun a w hf hm => wpList_plain rfl fun K hK => by
    obtain ⟨i, hi, hiz, hsz, hby⟩ := ht.info
    have hvc : v.cells = #[v] := by cases v <;> simp [Value.oneCell'] at hone <;> rfl
    have hbs : (Instr.buildSlice t 1 #[(0, v)]).run P w = .ok (.slice (some ⟨w.heap.size, 0, none⟩) 1 1) { w with heap := w.heap.push (.cells #[v] e) } := by
      simp [Instr.buildSlice, run_underlying ht.under, sizeOf, typeInfo, hi, hsz, zeroValue, hiz, Instr.fill, hvc, hz, newRow, newObj, Sem.run, Array.range_succ, range0]
    have hA := hm.alloc q #[v] e 0 (fun _ => v) (by simp) (fun i h0 h1 => by omega)
    have hm1 : Mem B w0 H { w with heap := w.heap.push (.cells #[v] e) } := hm.push _ _
    have hcell : ∀ j u, [v][j]? = some u → ({ w with heap := w.heap.push (.cells #[v] e) } : World).cell? ((⟨w.heap.size, 0, none⟩ : Addr).add j) = some u := by
      intro j u hj
      cases j with
      | zero => simp at hj; subst hj; simp [World.cell?, Addr.add]
      | succ j => simp at hj
    obtain ⟨sv', w', k', r1, r2, r3, r4, r5, r6, _⟩ := run_app (P := P) hm1 hq (ty := ty2) ht hg (by simpa using hlen) ⟨w.heap.size, 0, none⟩ 1 [v] rfl hcell (by simpa using hone) hbig hlen2
    simp only [Nat.mul_one] at r4 r5
    rw [lay_one] at r5
    unfold Oper.wp
    simp only [execOp, hf.eval hx, List.map_toArray, List.map_cons, List.map_nil, Sem.run_bind, hbs, Result.andThen_ok, Sem.run_pure]
    refine hK _ _ (wpList_plain rfl fun K2 hK2 => ?_)
    have hf1 := hf.put hd1 (.slice (some ⟨w.heap.size, 0, none⟩) 1 1)
    have e1 := hf1.eval (hs' _)
    have e2 : (a.put (some d1) (.slice (some ⟨w.heap.size, 0, none⟩) 1 1)).eval (.tmp d1) = .slice (some ⟨w.heap.size, 0, none⟩) 1 1 := hf1.eval (by simp [ev, lk])
    unfold Oper.wp
    simp only [execOp, resolve, invoke, builtin, List.map_toArray, List.map_cons, List.map_nil, e1, e2, Sem.run_bind, Sem.run_pure, Result.andThen_ok, r1]
    obtain ⟨kb', ks', kn', kc'⟩ := k'
    have r4' : kn' = (len : Int) + 1 := by have : kn' = _ := r4; omega
    have r5' : kc' = c' := by have : kc' = _ := r5; rw [this, hc']
    subst r4' r5'
    exact hK2 _ _ ((h _ sv' kb' ks' r2 r3).run _ _ (hf1.put hd2 _) r6)⟩
end

/-! ### Calls -/
def evs (L : List (Nat × Value)) : List Operand → Option (List Value)
  | [] => some []
  | x :: r => match ev L x, evs L r with
    | some v, some vs => some (v :: vs)
    | _, _ => none

theorem evs_eval {N : Nat} {L : List (Nat × Value)} {a : Act} (hf : Fr N L a) : ∀ (xs : List Operand) (vs : List Value), evs L xs = some vs → xs.map a.eval = vs
  | [], vs, h => by simp [evs] at h; simp [h]
  | x :: r, vs, h => by
    simp only [evs] at h
    split at h
    · rename_i v us hv hus
      obtain rfl := Option.some.inj h
      simp [hf.eval hv, evs_eval hf r us hus]
    · cases h

def Callable (P : Program) (f : FuncId) : Prop := ∃ fn, P.funcs[f]? = some fn ∧ (fn.name == "runtime.NumGoroutine") = false ∧ fn.body.isNone = false

section
variable {P : Program} {N : Nat} {B : Nat → Prop} {w0 : World} {ops : Array Oper} {Q : Exit → Act → World → Prop} {L : List (Nat × Value)} {H : List (Nat × Bk)}
theorem V_call {d : Nat} {ty : TypeId} {pos : String} {af : Array Edge} {rest : List Oper} {f : FuncId} {xs : List Operand} {vs : List Value} {ats : Array TypeId} {T : Type} {Φ : T → Prop} {val : T → Value} {H' : T → List (Nat × Bk)}
    (hf : Callable P f) (hxs : evs L xs = some vs)
    (hc : ∀ w, Mem B w0 H w → Calls P f vs.toArray w (fun e w' => ∃ y, Φ y ∧ e = .returned (val y) ∧ Mem B w0 (H' y) w')) (hd : Nat.ble (d + 1) N = true)
    (h : ∀ y, Φ y → V P N B w0 ops Q rest ((d, val y) :: L) (H' y)) :
    V P N B w0 ops Q (⟨some d, .call { callee := .value (.func f), args := xs.toArray, argTypes := ats }, ty, pos, af, none⟩ :: rest) L H :=
  ⟨fun a w hfr hm => wpList_plain rfl fun K hK => by
    obtain ⟨fn, h1, h2, h3⟩ := hf
    have ha := evs_eval hfr xs vs hxs
    have hrun : (execOp a.eval ⟨some d, .call { callee := .value (.func f), args := xs.toArray, argTypes := ats }, ty, pos, af, none⟩).run P w = .ok (.enter f vs.toArray) w := by
      have hb : ¬ fn.body = none := fun e => by rw [e] at h3; simp at h3
      have hn : ¬ fn.name = "runtime.NumGoroutine" := fun e => by rw [e] at h2; simp at h2
      simp [execOp, resolve, Deferred.ofValue, Act.eval, invoke, callFunc, program, Sem.run, h1, hb, hn, ← ha]
    unfold Oper.wp
    rw [hrun]
    refine (hc w hm).mono fun e w' ⟨y, hy, he, hM⟩ => ?_
    subst he
    exact hK _ _ ((h y hy).run _ _ (hfr.put hd _) hM)⟩

/-! ### A function's entry and end -/
def argL : Nat → List Value → List (Nat × Value)
  | _, [] => []
  | i, v :: r => (i, v) :: argL (i + 1) r

theorem lk_argL : ∀ (vs : List Value) (i t : Nat) (v : Value), lk (argL i vs) t = some v → i ≤ t ∧ vs[t - i]? = some v
  | [], _, _, _, h => by simp [argL, lk] at h
  | u :: r, i, t, v, h => by
    simp only [argL, lk] at h
    cases hb : Nat.beq i t with
    | true =>
      have e : i = t := Nat.eq_of_beq_eq_true hb
      subst e
      simp at h
      simp [h]
    | false =>
      have e : i ≠ t := fun e => by subst e; simp at hb
      simp [hb] at h
      obtain ⟨h1, h2⟩ := lk_argL r (i + 1) t v h
      refine ⟨by omega, ?_⟩
      have : t - i = (t - (i + 1)) + 1 := by omega
      rw [this]
      simpa using h2

theorem enter {f : FuncId} {fn : Func} {c : Code} {vs : List Value} {R : Ending → World → Prop} (hf : P.funcs[f]? = some fn) (hb : fn.body = some c) (hN : fn.ntmps = N) (hlen : Nat.ble vs.length N = true)
    (h : C P N B w0 c (bodyPost P fn R) (argL 0 vs) H) : ∀ w, Mem B w0 H w → Calls P f vs.toArray w R := by
  intro w hm
  have hl : vs.length ≤ N := Nat.le_of_ble_eq_true hlen
  refine calls_of_wp hf hb (h.run _ w ⟨?_, fun t v ht => ?_, rfl⟩ hm)
  · simp [hN]; omega
  · obtain ⟨_, h2⟩ := lk_argL vs 0 t v ht
    simp only [Nat.sub_zero] at h2
    have hlt : t < vs.length := (List.getElem?_eq_some_iff.1 h2).1
    rw [Array.getElem?_append_left (by simpa using hlt)]
    simpa using h2

theorem Mem.start (w : World) : Mem (Old w) w [] w := ⟨rfl, rfl, rfl, Nat.le_refl _, fun k hk => ⟨hk, rfl⟩, fun q k h => by simp [lkH] at h, fun q q' k k' h => by simp [lkH] at h⟩

theorem X_ret1 {fn : Func} {R : Ending → World → Prop} {t : Nat} {v : Value} (hr : fn.results = #[.tmp t]) (hv : lk L t = some v) (h : ∀ w, Mem B w0 H w → R (.returned v) w) : X N B w0 (bodyPost P fn R .ret) L H :=
  ⟨fun a w hf hm => bodyPost_ret (results_tmp hr _ _ _) hf.defers (by
    have : a.tmps.getD t undef = v := by simp [hf.get t v hv]
    rw [this]; exact h w hm)⟩
theorem X_ret0 {fn : Func} {R : Ending → World → Prop} (hr : fn.results = #[]) (h : ∀ w, Mem B w0 H w → R (.returned (.tuple #[])) w) : X N B w0 (bodyPost P fn R .ret) L H :=
  ⟨fun a w hf hm => bodyPost_ret (results_none hr _ _ _) hf.defers (h w hm)⟩
theorem X_end0 {fn : Func} {R : Ending → World → Prop} (hr : fn.results = #[]) (h : ∀ w, Mem B w0 H w → R (.returned (.tuple #[])) w) : X N B w0 (bodyPost P fn R .normal) L H :=
  ⟨fun a w hf hm => bodyPost_end (results_none hr _ _ _) hf.defers (h w hm)⟩
end

/-! ### A callee's memory joins its caller's -/
/-- The slice value has 'n' one-cell elements, which read in the world 'w' as 'c' says. -/
def RdW (w : World) (sv : Value) (n : Nat) (c : Int → Value) : Prop :=
  ∃ a cap, sv = .slice a n cap ∧ ∀ i : Int, 0 ≤ i → i < (n : Int) → ∃ x : Addr, a = some x ∧ w.cell? (x.add i.toNat) = some (c i)

theorem Rd.at {B : Nat → Prop} {w0 w : World} {H : List (Nat × Bk)} {sv : Value} {n : Nat} {c : Int → Value} (h : Rd B w0 H sv n c) (hm : Mem B w0 H w) : RdW w sv n c := by
  obtain ⟨a, cap, rfl, hc⟩ := h
  exact ⟨a, cap, rfl, fun i h0 h1 => by obtain ⟨x, hx, hcell⟩ := hc i h0 h1; exact ⟨x, hx, hcell w hm⟩⟩

theorem RdW.rd {w : World} {H : List (Nat × Bk)} {sv : Value} {n : Nat} {c : Int → Value} (h : RdW w sv n c) : Rd (Old w) w H sv n c := by
  obtain ⟨a, cap, rfl, hc⟩ := h
  refine ⟨a, cap, rfl, fun i h0 h1 => ?_⟩
  obtain ⟨x, hx, hcell⟩ := hc i h0 h1
  refine ⟨x, hx, fun w' hm => ?_⟩
  rw [World.cell?_of_block (w := w) (hm.block _ (World.block_lt_of_cell? w _ hcell)).2]
  exact hcell

theorem lkH_append {H2 H : List (Nat × Bk)} {q : Nat} {k : Bk} (hk : lkH (H2 ++ H) q = some k) : lkH H2 q = some k ∨ (lkH H2 q = none ∧ lkH H q = some k) := by
  induction H2 with
  | nil => exact .inr ⟨rfl, hk⟩
  | cons p r ih =>
    obtain ⟨t, u⟩ := p
    rw [List.cons_append, lkH_cons] at hk
    rw [lkH_cons]
    split at hk
    · rename_i e; rw [if_pos e]; exact .inl hk
    · rename_i e; rw [if_neg e]; exact ih hk

/-- The blocks of a world that are none of the listed ones. -/
def Rest (w : World) (H : List (Nat × Bk)) : Nat → Prop := fun j => j < w.heap.size ∧ ∀ q k, lkH H q = some k → 0 < k.size → j ≠ k.b

/-- A callee is handed some of the blocks; it leaves all others alone. -/
theorem Mem.lend {B : Nat → Prop} {w0 w : World} {H H1 : List (Nat × Bk)} (h : Mem B w0 H w) (hs : ∀ q k, lkH H1 q = some k → lkH H q = some k) : Mem (Rest w H1) w H1 w :=
  ⟨rfl, rfl, rfl, Nat.le_refl _, fun k hk => ⟨hk.1, rfl⟩, fun q k hq => ⟨(h.ok q k (hs q k hq)).1, fun hp hr => hr.2 q k hq hp rfl⟩, fun q q' k k' hq hq' => h.apart q q' k k' (hs q k hq) (hs q' k' hq')⟩

/-- .. and hands them back. -/
theorem Mem.back {B : Nat → Prop} {w0 w w' : World} {H H1 H2 : List (Nat × Bk)} (h : Mem B w0 H w) (hs : ∀ q k, lkH H1 q = some k → lkH H q = some k) (hkeys : ∀ q, lkH H2 q = none → lkH H1 q = none) (h2 : Mem (Rest w H1) w H2 w') : Mem B w0 (H2 ++ H) w' := by
  have hfar : ∀ j, j < w.heap.size → (∀ q k, lkH H1 q = some k → 0 < k.size → j ≠ k.b) → w'.heap[j]? = w.heap[j]? := fun j h1 h3 => (h2.block j ⟨h1, h3⟩).2
  have hrest : ∀ q k, lkH H2 q = none → lkH H q = some k → 0 < k.size → ∀ q1 k1, lkH H1 q1 = some k1 → 0 < k1.size → k.b ≠ k1.b := by
    intro q k hn hk hp q1 k1 hk1 hp1
    refine h.apart q q1 k k1 hk (hs q1 k1 hk1) (fun e => ?_) hp hp1
    subst e
    rw [hkeys q hn] at hk1; cases hk1
  refine ⟨h2.os.trans h.os, h2.tape.trans h.tape, h2.output.trans h.output, Nat.le_trans h.size h2.size, fun j hj => ?_, fun q k hk => ?_, fun q q' k k' hk hk' hne hp hp' => ?_⟩
  · have h1 := h.block j hj
    exact ⟨h1.1, by rw [hfar j (by have := h.size; omega) (fun q k hq hp e => (h.ok q k (hs q k hq)).2 hp (e ▸ hj))]; exact h1.2⟩
  · rcases lkH_append hk with e | ⟨e1, e2⟩
    · refine ⟨(h2.ok q k e).1, fun hp hb => ?_⟩
      have h1 := h.block k.b hb
      exact (h2.ok q k e).2 hp ⟨by have := h.size; omega, fun q1 k1 hq1 hp1 he => (h.ok q1 k1 (hs q1 k1 hq1)).2 hp1 (he ▸ hb)⟩
    · have hk1 := h.ok q k e2
      exact ⟨hk1.1.same fun hp => hfar k.b (hk1.1.lt hp) (fun q1 k1 hq1 hp1 => hrest q k e1 e2 hp q1 k1 hq1 hp1), hk1.2⟩
  · rcases lkH_append hk with e | ⟨e1, e2⟩ <;> rcases lkH_append hk' with e' | ⟨e1', e2'⟩
    · exact h2.apart q q' k k' e e' hne hp hp'
    · intro he
      exact (h2.ok q k e).2 hp ⟨by rw [he]; exact (h.ok q' k' e2').1.lt hp', fun q1 k1 hq1 hp1 => by rw [he]; exact hrest q' k' e1' e2' hp' q1 k1 hq1 hp1⟩
    · intro he
      exact (h2.ok q' k' e').2 hp' ⟨by rw [← he]; exact (h.ok q k e2).1.lt hp, fun q1 k1 hq1 hp1 => by rw [← he]; exact hrest q k e1 e2 hp q1 k1 hq1 hp1⟩
    · exact h.apart q q' k k' e2 e2' hne hp hp'

theorem Rest_nil (w : World) : Rest w [] = Old w := by
  funext j
  simp [Rest, Old, lkH]
theorem Mem.join {B : Nat → Prop} {w0 w w' : World} {H H2 : List (Nat × Bk)} (h : Mem B w0 H w) (h2 : Mem (Old w) w H2 w') : Mem B w0 (H2 ++ H) w' :=
  h.back (H1 := []) (fun q k hq => by simp [lkH] at hq) (fun q _ => rfl) (by rw [Rest_nil]; exact h2)

/-- One block under another key. -/
theorem Mem.rekey {B : Nat → Prop} {w0 w : World} {q : Nat} {k : Bk} (h : Mem B w0 [(q, k)] w) (q' : Nat) : Mem B w0 [(q', k)] w := by
  refine ⟨h.os, h.tape, h.output, h.size, h.block, fun r m hr => ?_, fun r r' m m' hr hr' hne hp hp' => ?_⟩
  · rw [lkH_cons] at hr
    split at hr
    · obtain rfl := Option.some.inj hr
      exact h.ok q k (by simp [lkH_cons])
    · simp [lkH] at hr
  · rw [lkH_cons] at hr hr'
    split at hr <;> split at hr' <;> simp [lkH] at hr hr'
    omega
end Go.Proofs.Qxb6001236a
