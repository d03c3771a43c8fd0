/-
  OWN WORK. Kit R: bytes and strings; a result that lies in a cell; division; calls in drawn regions; appends with room.
-/
import Derived.Test.Qxb6001236aTypes
import Derived.Laws.BytesArg
import Derived.Laws.StructEq
import Derived.Lib.SlBytesConst
namespace Go.Proofs.Qxb6001236a
open Go.RowKit
set_option linter.unusedSimpArgs false
set_option linter.unusedVariables false

theorem RdW.mv {w w1 : World} {sv : Value} {n : Nat} {c : Int → Value} (h : RdW w sv n c) (hm : Mem (Old w) w [] w1) : RdW w1 sv n c := (h.rd (H := [])).at hm
section
variable {P : Program} {N : Nat} {w0 : World} {ops : Array Oper} {Q : Exit → Act → World → Prop} {L : List (Nat × Value)}
theorem V_callO {d : Nat} {ty : TypeId} {pos : String} {af : Array Edge} {rest : List Oper} {f : FuncId} {xs : List Operand} {vs : List Value} {ats : Array TypeId} {T : Type} {Φ : T → World → Prop} {val : T → Value}
    (hf : Callable P f) (hxs : evs L xs = some vs)
    (hc : ∀ w, Mem (Old w0) w0 [] w → Calls P f vs.toArray w (fun e w' => ∃ y, Φ y w' ∧ e = .returned (val y) ∧ Mem (Old w) w [] w')) (hd : Nat.ble (d + 1) N = true)
    (h : ∀ y w1, Mem (Old w0) w0 [] w1 → Φ y w1 → V P N (Old w1) w1 ops Q rest ((d, val y) :: L) []) :
    V P N (Old w0) w0 ops Q (⟨some d, .call { callee := .value (.func f), args := xs.toArray, argTypes := ats }, ty, pos, af, none⟩ :: rest) L [] :=
  V_callR hf hxs hc hd fun y w1 hm hy => by rw [Rest_nil]; exact h y w1 hm hy
end

theorem Mem.pushO {B : Nat → Prop} {w0 w : World} {H : List (Nat × Bk)} (hm : Mem B w0 H w) (o : Obj) : Mem B w0 H (w.alloc o) := by
  refine ⟨hm.os, hm.tape, hm.output, by have := hm.size; simp only [World.size_alloc]; omega, fun k hk => ?_, fun r m hr => ⟨(hm.ok r m hr).1.same fun hp => ?_, (hm.ok r m hr).2⟩, hm.apart⟩
  · have h1 := hm.block k hk
    have h2 := hm.size
    refine ⟨h1.1, ?_⟩
    show (w.heap.push o)[k]? = _
    rw [Array.getElem?_push, if_neg (by omega)]
    exact h1.2
  · have := (hm.ok r m hr).1.lt hp
    show (w.heap.push o)[m.b]? = _
    rw [Array.getElem?_push, if_neg (by omega)]

section
variable {P : Program} {N : Nat} {B : Nat → Prop} {w0 : World} {ops : Array Oper} {Q : Exit → Act → World → Prop} {L : List (Nat × Value)} {H : List (Nat × Bk)}
/-- '[]byte("..")' of a constant string. -/
theorem V_bytes {d1 d2 : Nat} {t e ty1 ty2 : TypeId} {pos1 pos2 : String} {af1 af2 : Array Edge} {rest : List Oper} {parts : List (Nat × Operand)} {vs : List (Nat × Value)} {C : List Value} {n : Nat} {c : Int → Int}
    (hp : ∀ a, Fr N L a → parts.map (fun p => (p.1, a.eval p.2)) = vs) (hr : ∀ w : World, (Instr.buildSlice t n vs.toArray).run P w = .ok (.slice (some ⟨w.heap.size, 0, none⟩) n n) (w.alloc (.cells C.toArray e)))
    (hc : ∀ i : Nat, i < n → C[i]? = some (.int .u8 (c i))) (ht : P.underlying t = some (.slice e)) (he : P.underlying e = some (.int .u8)) (hd1 : Nat.ble (d1 + 1) N = true) (hd2 : Nat.ble (d2 + 1) N = true)
    (h : ∀ b w1, Mem B w0 H w1 → RdB (Rest w1 H) w1 (.slice (some ⟨b, 0, none⟩) n n) n (ints .u8 c) → V P N (Rest w1 H) w1 ops Q rest ((d2, .slice (some ⟨b, 0, none⟩) n n) :: (d1, .slice (some ⟨b, 0, none⟩) n n) :: L) H) :
    V P N B w0 ops Q (⟨some d1, .buildSlice t n parts.toArray, ty1, pos1, af1, none⟩ :: ⟨some d2, .convert t t (.tmp d1), ty2, pos2, af2, none⟩ :: rest) L H :=
  ⟨fun a w hf hm => wpList_plain rfl fun K hK => by
    have h1 := hp a hf
    unfold Oper.wp
    simp only [execOp, List.map_toArray, h1, Sem.run_bind, hr w, Result.andThen_ok, Sem.run_pure]
    refine hK _ _ (wpList_plain rfl fun K2 hK2 => ?_)
    have hf1 := hf.put hd1 (.slice (some ⟨w.heap.size, 0, none⟩) n n)
    have e1 : (a.put (some d1) (.slice (some ⟨w.heap.size, 0, none⟩) n n)).eval (.tmp d1) = .slice (some ⟨w.heap.size, 0, none⟩) n n := hf1.eval (by simp [ev, lk])
    have hcv := Lib.run_convert_bytes_const (P := P) w t e C.toArray n n ht he
    unfold Oper.wp
    simp only [execOp, e1, Sem.run_bind, hcv, Result.andThen_ok, Sem.run_pure]
    have hm1 := hm.pushO (.cells C.toArray e (C.toArray.size, C.toArray.size + 1))
    have hblk : (w.alloc (.cells C.toArray e (C.toArray.size, C.toArray.size + 1))).heap[w.heap.size]? = some (.cells C.toArray e (C.toArray.size, C.toArray.size + 1)) := by
      show (w.heap.push _)[w.heap.size]? = _
      simp
    refine hK2 _ _ ((h w.heap.size _ hm1 ⟨_, _, rfl, fun i i0 i1 => ⟨_, rfl, ?_, ?_⟩⟩).run _ _ (hf1.put hd2 _) (hm1.lend fun _ _ hq => hq))
    · rw [Addr.add_lit, Nat.zero_add]
      unfold World.cell?
      rw [hblk]
      have := hc i.toNat (by omega)
      simp only [Option.isSome_none, Bool.false_eq_true, if_false, List.getElem?_toArray, this]
      show some (Value.int .u8 (c (i.toNat : Int))) = some (Value.int .u8 (c i))
      rw [show ((i.toNat : Nat) : Int) = i from by omega]
    · rw [Addr.add_lit]
      refine ⟨by show w.heap.size < (w.alloc _).heap.size; rw [World.size_alloc]; omega, fun q k hq hp9 => ?_⟩
      have := (hm.ok q k hq).1.lt hp9
      show w.heap.size ≠ k.b
      omega⟩
/-- A result that lies in a cell. -/
theorem X_retC {fn : Func} {R : Ending → World → Prop} {t ty q b k : Nat} {vs zs : List Value} (hr : fn.results = #[.cell t ty]) (ht : AggT P ty k zs) (hv : lk L t = some (.pointer (some ⟨b, 0, none⟩))) (hq : lkH H q = some ⟨b, k, k, fl vs⟩) (hl : vs.length = k)
    (h : ∀ w, Mem B w0 H w → R (.returned (.agg vs.toArray)) w) : X N B w0 (bodyPost P fn R .ret) L H :=
  ⟨fun a w hf hm => bodyPost_ret (v := .agg vs.toArray) (by
    obtain ⟨⟨fs, h1⟩, i, h2, h3, _⟩ := ht
    have hc := run_loadCellsFrom (P := P) w ⟨b, 0, none⟩ vs 0 #[] (fun j v hj => by
      have hjl : j < k := by have := (List.getElem?_eq_some_iff.1 hj).1; omega
      have := cell_own hm hq (i := ((j : Nat) : Int)) (by omega) (by show _ < (k : Int); omega)
      rw [Nat.zero_add, Addr.add_lit, Nat.zero_add]
      rw [show (((j : Nat) : Int)).toNat = j from by omega] at this
      rw [this]
      show some (fl vs (j : Int)) = some v
      unfold fl
      rw [show (((j : Nat) : Int)).toNat = j from by omega, List.getD_eq_getElem?_getD, hj]
      rfl)
    rw [hl] at hc
    have hg : a.tmps.getD t undef = .pointer (some ⟨b, 0, none⟩) := by simp [hf.get t _ hv]
    unfold results
    simp only [hr, List.mapM_toArray, List.mapM_cons, List.mapM_nil, hg, asAddr, loadVar, isAgg, Sem.run_bind, Sem.run_map, run_underlying h1, Sem.run_pure, Result.andThen_ok, sizeOf, typeInfo, loadCells]
    simp [h2, h3, hc]) hf.defers (h w hm)⟩
theorem QY_quo {t t' ty : TypeId} {x y : Operand} {k : IntKind} {m n z : Int} (hx : ev L x = some (.int k m)) (hy : ev L y = some (.int k n)) (hn : n ≠ 0) (h0 : 0 ≤ m) (hr : m / n = z) (hz : Fits k z) : QY P N B w0 L H (.binOp .quo t x y t') ty (.int k z) :=
  ⟨fun a w dst pos af g hf hm => by
    have hg := eqGuard_int (P := P) .quo t x y k k m n w
    have hw := wrap_fits hz
    have hd : m.tdiv n = z := by rw [← hr]; exact Int.tdiv_eq_ediv_of_nonneg h0
    simp [execOp, hf.eval hx, hf.eval hy, hg, binOp, Op.intDiv, hn, hd, hw]⟩

/-- The bytes of a slice, as a string. -/
def bstr (n : Nat) (f : Int → Int) : ByteArray := strOfNums ((List.range n).map fun (i : Nat) => f (i : Int))
theorem QY_str {t e d ty : TypeId} {x : Operand} {sv : Value} {n : Nat} {f : Int → Int} (ht : P.underlying t = some (.slice e)) (he : P.underlying e = some (.int .u8)) (hd : P.underlying d = some .string) (hx : ev L x = some sv) (hr : Rd B w0 H sv n (ints .u8 f)) :
    QY P N B w0 L H (.convert t d x) ty (.string (bstr n f)) :=
  ⟨fun a w dst pos af g hf hm => by
    obtain ⟨ao, cap, rfl, hc⟩ := hr
    have hrun : (convert t d (.slice ao n cap)).run P w = .ok (.string (bstr n f)) w := by
      rw [run_convert_bytes_string w t d e _ n cap ht he hd]
      cases ao with
      | none =>
        have hn : n = 0 := by
          rcases Nat.eq_zero_or_pos n with h | h
          · exact h
          · obtain ⟨x, hx, _⟩ := hc 0 (by omega) (by omega); cases hx
        subst hn
        simp [Conv.bytesToString, bstr, strOfNums]
        rfl
      | some ad =>
        have hl : (loadCells ad n).run P w = .ok (((List.range n).map fun (i : Nat) => f (i : Int)).map (Value.int .u8)).toArray w := by
          have := run_loadCellsFrom (P := P) w ad (((List.range n).map fun (i : Nat) => f (i : Int)).map (Value.int .u8)) 0 #[] (fun j v hj => by
            simp only [List.map_map] at hj
            obtain ⟨hjl, rfl⟩ := range_map_get hj
            obtain ⟨x, hx, hcell⟩ := hc (j : Int) (by omega) (by omega)
            obtain rfl := Option.some.inj hx
            have := hcell w hm
            rw [Nat.zero_add]
            simpa [ints] using this)
          simpa [loadCells] using this
        rw [run_bytesToString w ad n cap _ hl, foldl_push_bytes]
        simp [bstr, strOfNums, ByteArray.empty, ByteArray.emptyWithCapacity]
        rfl
    simp only [execOp, hf.eval hx, Sem.run_bind, hrun, Result.andThen_ok, Sem.run_pure]⟩
theorem QY_eqlS {t t' ty : TypeId} {x y : Operand} {a b : ByteArray} (ht : P.underlying t = some .string) (hx : ev L x = some (.string a)) (hy : ev L y = some (.string b)) : QY P N B w0 L H (.binOp .eql t x y t') ty (.bool (a.toList == b.toList)) :=
  ⟨fun ac w dst pos af g hf hm => by
    have hg : (eqGuard .eql t x y (.string a) (.string b)).run P w = .ok () w := by unfold eqGuard; simp
    have h3 : (binOp .eql t (.string a) (.string b)).run P w = .ok (.bool (a.toList == b.toList)) w := by
      simp [binOp, Op.stringOp]
    simp only [execOp, hf.eval hx, hf.eval hy, Sem.run_bind, hg, h3, Result.andThen_ok, Sem.run_pure]⟩
end
theorem bstr_eq {n : Nat} {f g : Int → Int} (hf : ∀ i, 0 ≤ i → i < (n : Int) → 0 ≤ f i ∧ f i ≤ 255) (hg : ∀ i, 0 ≤ i → i < (n : Int) → 0 ≤ g i ∧ g i ≤ 255) : ((bstr n f).toList == (bstr n g).toList) = true ↔ ∀ i, 0 ≤ i → i < (n : Int) → f i = g i := by
  have e : ∀ h : Int → Int, (bstr n h).toList = (List.range n).map fun (i : Nat) => UInt8.ofNat (h (i : Int)).toNat := fun h => by
    rw [ByteArray.toList_eq]
    simp [bstr, strOfNums_data, List.map_map, Function.comp_def]
  rw [e, e, beq_iff_eq]
  constructor
  · intro h i i0 i1
    have h1 := congrArg (fun l => l[i.toNat]?) h
    have hlt : i.toNat < n := by omega
    simp [hlt] at h1
    rw [show max i 0 = i from by omega] at h1
    have h2 := congrArg UInt8.toNat h1
    have a1 := hf i i0 i1
    have a2 := hg i i0 i1
    simp at h2
    omega
  · intro h
    refine List.map_congr_left fun i hi => ?_
    have := List.mem_range.1 hi
    rw [h i (by omega) (by omega)]
theorem one_cellsR {v : Value} (h : v.oneCell' = true) : v.cells = #[v] := by cases v <;> simp [Value.oneCell'] at h <;> rfl
theorem bs1 (w : World) (v0 : Value) (h0 : v0.oneCell' = true) : (Instr.buildSlice 22 1 [(0, v0)].toArray).run Try.prog w = .ok (.slice (some ⟨w.heap.size, 0, none⟩) 1 1) (w.alloc (.cells [v0].toArray 5)) := by
  obtain ⟨i, hi, hz, hsz, hby⟩ := mk22.info
  simp [Instr.buildSlice, run_underlying Try.underlying22, sizeOf, typeInfo, hi, hsz, zeroValue, hz, Instr.fill, one_cellsR h0, newRow, newObj, Sem.run, Array.range_succ, range0]
theorem bs2 (w : World) (v0 v1 : Value) (h0 : v0.oneCell' = true) (h1 : v1.oneCell' = true) : (Instr.buildSlice 22 2 [(0, v0), (1, v1)].toArray).run Try.prog w = .ok (.slice (some ⟨w.heap.size, 0, none⟩) 2 2) (w.alloc (.cells [v0, v1].toArray 5)) := by
  obtain ⟨i, hi, hz, hsz, hby⟩ := mk22.info
  simp [Instr.buildSlice, run_underlying Try.underlying22, sizeOf, typeInfo, hi, hsz, zeroValue, hz, Instr.fill, one_cellsR h0, one_cellsR h1, newRow, newObj, Sem.run, Array.range_succ, range0]
theorem bs3 (w : World) (v0 v1 v2 : Value) (h0 : v0.oneCell' = true) (h1 : v1.oneCell' = true) (h2 : v2.oneCell' = true) : (Instr.buildSlice 22 3 [(0, v0), (1, v1), (2, v2)].toArray).run Try.prog w = .ok (.slice (some ⟨w.heap.size, 0, none⟩) 3 3) (w.alloc (.cells [v0, v1, v2].toArray 5)) := by
  obtain ⟨i, hi, hz, hsz, hby⟩ := mk22.info
  simp [Instr.buildSlice, run_underlying Try.underlying22, sizeOf, typeInfo, hi, hsz, zeroValue, hz, Instr.fill, one_cellsR h0, one_cellsR h1, one_cellsR h2, newRow, newObj, Sem.run, Array.range_succ, range0]

section
variable {P : Program} {N : Nat} {B : Nat → Prop} {w0 : World} {ops : Array Oper} {Q : Exit → Act → World → Prop} {L : List (Nat × Value)} {H : List (Nat × Bk)}
/-- 'append(xs, ..)' where there is room. -/
theorem V_appC {d1 d2 : Nat} {ty1 ty2 t e : TypeId} {pos1 pos2 : String} {af1 af2 : Array Edge} {rest : List Oper} {s : Operand} {z : Value} {bytes q b sz len cap m : Nat} {kn : Int} {c : Int → Value} {parts : List (Nat × Operand)} {vs : List (Nat × Value)} {us : List Value} {c' : Int → Value}
    (ht : MkT P t e z 1 bytes) (hp : ∀ a, Fr N L a → parts.map (fun p => (p.1, a.eval p.2)) = vs) (hr : ∀ w : World, (Instr.buildSlice t m vs.toArray).run P w = .ok (.slice (some ⟨w.heap.size, 0, none⟩) m m) (w.alloc (.cells us.toArray e)))
    (hus : us.length = m) (h1 : ∀ v ∈ us, v.oneCell' = true) (hm0 : 0 < m) (hq : lkH H q = some ⟨b, sz, kn, c⟩) (hs' : ∀ p, ev ((d1, p) :: L) s = some (.slice (some ⟨b, 0, none⟩) len cap)) (hroom : len + m ≤ cap) (hkn : ((len + m : Nat) : Int) ≤ kn) (hd1 : Nat.ble (d1 + 1) N = true) (hd2 : Nat.ble (d2 + 1) N = true) (hc' : lay c ((len : Nat) : Int) us = c')
    (h : ∀ p, V P N B w0 ops Q rest ((d2, .slice (some ⟨b, 0, none⟩) (len + m) cap) :: (d1, p) :: L) ((q, ⟨b, sz, kn, c'⟩) :: H)) :
    V P N B w0 ops Q (⟨some d1, .buildSlice t m parts.toArray, ty1, pos1, af1, none⟩ :: ⟨some d2, .call { callee := .builtin .append, args := #[s, .tmp d1], argTypes := #[t, t] }, ty2, pos2, af2, none⟩ :: rest) L H :=
  ⟨fun a w hf hm => wpList_plain rfl fun K hK => by
    have hv := hp a hf
    obtain ⟨i, hi, hiz, hsz, hby⟩ := ht.info
    unfold Oper.wp
    simp only [execOp, List.map_toArray, hv, Sem.run_bind, hr w, Result.andThen_ok, Sem.run_pure]
    refine hK _ _ (wpList_plain rfl fun K2 hK2 => ?_)
    have hm1 : Mem B w0 H (w.alloc (.cells us.toArray e)) := hm.pushO _
    have hf1 := hf.put hd1 (.slice (some ⟨w.heap.size, 0, none⟩) m m)
    have e1 := hf1.eval (hs' _)
    have e2 : (a.put (some d1) (.slice (some ⟨w.heap.size, 0, none⟩) m m)).eval (.tmp d1) = .slice (some ⟨w.heap.size, 0, none⟩) m m := hf1.eval (by simp [ev, lk])
    have hcell : ∀ j u, us[j]? = some u → (w.alloc (.cells us.toArray e)).cell? ((⟨w.heap.size, 0, none⟩ : Addr).add j) = some u := by
      intro j u hj
      rw [Addr.add_lit, Nat.zero_add]
      simp [World.cell?, -World.alloc_eq, World.alloc, hj]
    have hfc := run_firstCells_some (P := P) (w.alloc (.cells us.toArray e)) 1 m ⟨w.heap.size, 0, none⟩ m m us (by omega) hcell
    have hkz : kn ≤ (sz : Int) := (hm.ok q _ hq).1.1
    obtain ⟨w', hst, hM⟩ := hm1.laid (P := P) hq (o := len) (vs := us) (n := kn) (show 0 < sz by omega) (show len + us.length ≤ sz by omega) h1 (.inl (Int.le_refl _))
    have hst' : (storeCells ((⟨b, 0, none⟩ : Addr).add (len * 1)) us 0).run P (w.alloc (.cells us.toArray e)) = .ok () w' := by rw [Addr.add_lit, Nat.zero_add, Nat.mul_one]; exact hst
    have hap : (Builtin.append_ #[t, t] ty2 #[.slice (some ⟨b, 0, none⟩) len cap, .slice (some ⟨w.heap.size, 0, none⟩) m m]).run P (w.alloc (.cells us.toArray e)) = .ok (.slice (some ⟨b, 0, none⟩) (len + m) cap) w' := by
      rw [← hsz] at hfc hst'
      simp [Builtin.append_, run_underlying ht.under, sizeOf, typeInfo, hi, Builtin.lenOf, hroom, hfc, hst']
    unfold Oper.wp
    simp only [execOp, resolve, invoke, builtin, List.map_toArray, List.map_cons, List.map_nil, e1, e2, Sem.run_bind, Sem.run_pure, Result.andThen_ok, hap]
    subst hc'
    exact hK2 _ _ ((h _).run _ _ (hf1.put hd2 _) hM)⟩
end

section
variable {P : Program} {N : Nat} {B : Nat → Prop} {w0 : World} {ops : Array Oper} {K : Act → World → Prop} {H0 : List (Nat × Bk)} {f : Nat} {listed listed' : Array Bool} {L : List (Nat × Value)} {H : List (Nat × Bk)}
theorem G_takeY (i : Nat) {d : Nat} {op : Op} {ty : TypeId} {pos : String} {af : Array Edge} {v : Value} {j t : Nat} {b : Bool} (hi : ops[i]? = some ⟨some d, op, ty, pos, af, some (j, b)⟩) (hj : (ops[j]?).bind (·.dst) = some t) (hb : lk L t = some (.bool b))
    (hchk : (Region.noSelect ops && (Region.ready .any ops listed).contains i && Region.free .any ops listed i) = true) (hl : listed.setIfInBounds i true = listed') (hq : QY P N B w0 L H0 op ty v) (hd : Nat.ble (d + 1) N = true)
    (h : G P N B w0 ops K H0 f listed' ((d, v) :: L) H) : G P N B w0 ops K H0 (f + 1) listed L H := by
  simp only [Bool.and_eq_true] at hchk
  obtain ⟨⟨hsel, hr⟩, hfree⟩ := hchk
  refine ⟨fun a w hf hm h0 => ?_⟩
  refine wpT_first hi hsel (tailB_all ops) (Array.getElem?_eq_some_iff.1 hi).1 f listed a w (Region.free_spec hi hfree) (by simpa using hr) ⟨by simp [Region.wanted, yielded_of hf hj hb], fun w' hw' => hq.run a w' _ _ _ _ hf hw'⟩ h0 ?_
  rw [hl]
  exact h.run _ w (hf.put hd v) hm h0
/-- A call that leaves all as it was, the only one that may come up. -/
theorem G_call (i : Nat) {d : Nat} {ty : TypeId} {pos : String} {af : Array Edge} {fn : FuncId} {xs : List Operand} {vs : List Value} {ats : Array TypeId} {T : Type} {Φ : T → Prop} {val : T → Value} {g : Option (Nat × Bool)}
    (hi : ops[i]? = some ⟨some d, .call { callee := .value (.func fn), args := xs.toArray, argTypes := ats }, ty, pos, af, g⟩) (hg : g = none ∨ ∃ j t b, g = some (j, b) ∧ (ops[j]?).bind (·.dst) = some t ∧ lk L t = some (.bool b))
    (hr : Region.ready .any ops listed = [i]) (hl : listed.setIfInBounds i true = listed') (hfn : Callable P fn) (hxs : evs L xs = some vs)
    (hc : ∀ w, Mem B w0 H0 w → Calls P fn vs.toArray w (fun e w' => ∃ y, Φ y ∧ e = .returned (val y) ∧ Mem (Old w) w [] w')) (hd : Nat.ble (d + 1) N = true)
    (h : ∀ y, Φ y → G P N B w0 ops K H0 f listed' ((d, val y) :: L) H) : G P N B w0 ops K H0 (f + 1) listed L H := by
  refine ⟨fun a w hf hm h0 => ⟨fun e => (by rw [hr] at e; cases e), fun i' hi' => ?_⟩⟩
  rw [hr] at hi'
  obtain rfl : i' = i := by simpa using hi'
  have hw : Region.wanted ⟨some d, .call { callee := .value (.func fn), args := xs.toArray, argTypes := ats }, ty, pos, af, g⟩ (yielded ops a.tmps) = true := by
    rcases hg with rfl | ⟨j, t, b, rfl, hj, hb⟩
    · rfl
    · simp [Region.wanted, yielded_of hf hj hb]
  unfold wpOp
  simp only [hi]
  rw [if_pos hw]
  left
  obtain ⟨fnc, h1, h2, h3⟩ := hfn
  have ha := evs_eval hf xs vs hxs
  have hrun : (execOp a.eval ⟨some d, .call { callee := .value (.func fn), args := xs.toArray, argTypes := ats }, ty, pos, af, g⟩).run P w = .ok (.enter fn vs.toArray) w := by
    have hb : ¬ fnc.body = none := fun e => by rw [e] at h3; simp at h3
    have hn : ¬ fnc.name = "runtime.NumGoroutine" := fun e => by rw [e] at h2; simp at h2
    simp [execOp, resolve, Deferred.ofValue, Act.eval, invoke, callFunc, program, Sem.run, h1, hb, hn, ← ha]
  unfold Oper.wp
  rw [hrun]
  refine (hc w h0).mono fun e w' ⟨y, hy, he, hM⟩ => ?_
  subst he
  have hm1 := hm.join0 hM
  have h01 := h0.join0 hM
  refine ⟨fun _ => h01, ?_⟩
  rw [hl]
  exact (h y hy).run _ _ (hf.put hd _) hm1 h01
end
theorem lay_three (c : Int → Value) (o : Int) (v u t : Value) : lay c o [v, u, t] = upd (upd (upd c o v) (o + 1) u) (o + 2) t := by
  funext i
  simp only [lay, upd, List.length_cons, List.length_nil]
  by_cases h : i = o
  · subst h
    rw [if_pos (by omega), if_neg (by omega), if_neg (by omega), if_pos rfl]
    simp
  · by_cases h' : i = o + 1
    · subst h'
      rw [if_pos (by omega), if_neg (by omega), if_pos rfl, show (o + 1 - o).toNat = 1 from by omega]
      rfl
    · by_cases h2 : i = o + 2
      · subst h2
        rw [if_pos (by omega), if_pos rfl, show (o + 2 - o).toNat = 2 from by omega]
        rfl
      · rw [if_neg (by omega), if_neg h2, if_neg h', if_neg h]
theorem lay_i1 {kk : IntKind} {E : Int → Int} {o x : Int} : lay (ints kk E) o [.int kk x] = ints kk (upd E o x) := by rw [lay_one, upd_ints]
theorem lay_i2 {kk : IntKind} {E : Int → Int} {o x y : Int} : lay (ints kk E) o [.int kk x, .int kk y] = ints kk (upd (upd E o x) (o + 1) y) := by rw [lay_two, upd_ints, upd_ints]
theorem lay_i3 {kk : IntKind} {E : Int → Int} {o x y z : Int} : lay (ints kk E) o [.int kk x, .int kk y, .int kk z] = ints kk (upd (upd (upd E o x) (o + 1) y) (o + 2) z) := by rw [lay_three, upd_ints, upd_ints, upd_ints]
end Go.Proofs.Qxb6001236a
