/-
  OWN WORK. Kit O: an append of an element of two cells, outside drawn regions; pairs of cells.
-/
import Derived.Test.Qxb6001236aKitN
import Derived.Test.Qxb6001236aKitH
namespace Go.Proofs.Qxb6001236a
open Go.RowKit
set_option linter.unusedSimpArgs false
set_option linter.unusedVariables false
section
variable {P : Program} {N : Nat} {B : Nat → Prop} {w0 : World} {ops : Array Oper} {Q : Exit → Act → World → Prop} {L : List (Nat × Value)} {H : List (Nat × Bk)}
/-- 'append(xs, v)', an element of two cells. -/
theorem V_app2 {d1 d2 : Nat} {ty1 ty2 t e : TypeId} {pos1 pos2 : String} {af1 af2 : Array Edge} {rest : List Oper} {s x : Operand} {z v1 v2 sv : Value} {bytes q len kb ks : Nat} {kn kn2 : Int} {kc c' : Int → Value}
    (ht : MkT P t e z 2 bytes) (hq : lkH H q = some ⟨kb, ks, kn, kc⟩) (hs' : ∀ p, ev ((d1, p) :: L) s = some sv) (hg : Gs ⟨kb, ks, kn, kc⟩ 2 len sv) (hx : ev L x = some (.agg #[v1, v2])) (hkn : kn = ((len * 2 : Nat) : Int)) (hk2 : kn + 2 = kn2) (hone1 : v1.oneCell' = true) (hone2 : v2.oneCell' = true)
    (hbig : (len + 1) * bytes ≤ 140737488355328) (hlen2 : len < 4611686018427387904) (hd1 : Nat.ble (d1 + 1) N = true) (hd2 : Nat.ble (d2 + 1) N = true) (hc' : upd (upd kc kn v1) (kn + 1) v2 = c')
    (h : ∀ p sv' b' sz', 0 < sz' → Gs ⟨b', sz', kn2, c'⟩ 2 (len + 1) sv' → V P N B w0 ops Q rest ((d2, sv') :: (d1, p) :: L) ((q, ⟨b', sz', kn2, c'⟩) :: H)) :
    V P N B w0 ops Q (⟨some d1, .buildSlice t 1 #[(0, x)], ty1, pos1, af1, none⟩ :: ⟨some d2, .call { callee := .builtin .append, args := #[s, .tmp d1], argTypes := #[t, t] }, ty2, pos2, af2, none⟩ :: rest) L H :=
  ⟨fun a w hf hm => wpList_plain rfl fun K hK => by
    obtain ⟨i, hi, hiz, hsz, hby⟩ := ht.info
    have hzs : z.cells.size = 2 := ht.cells
    have hbs : (Instr.buildSlice t 1 #[(0, .agg #[v1, v2])]).run P w = .ok (.slice (some ⟨w.heap.size, 0, none⟩) 1 1) { w with heap := w.heap.push (.cells #[v1, v2] e) } := by
      have hvc : (Value.agg #[v1, v2]).cells = #[v1, v2] := rfl
      simp [Instr.buildSlice, run_underlying ht.under, sizeOf, typeInfo, hi, hsz, zeroValue, hiz, Instr.fill, hvc, hzs, newRow, newObj, Sem.run, Array.range_succ, range0]
    have hm1 : Mem B w0 H { w with heap := w.heap.push (.cells #[v1, v2] e) } := hm.push _ _
    have hcell : ∀ j u, [v1, v2][j]? = some u → ({ w with heap := w.heap.push (.cells #[v1, v2] e) } : World).cell? ((⟨w.heap.size, 0, none⟩ : Addr).add j) = some u := by
      intro j u hj
      cases j with
      | zero => simp at hj; subst hj; simp [World.cell?, Addr.add]
      | succ j => cases j with
        | zero => simp at hj; subst hj; simp [World.cell?, Addr.add]
        | succ j => simp at hj
    obtain ⟨sv', w', k', r1, r2, r3, r4, r5, r6, _⟩ := run_app (P := P) hm1 hq (ty := ty2) ht hg (by show _ ≤ kn; omega) ⟨w.heap.size, 0, none⟩ 1 [v1, v2] rfl hcell (by intro v hv; simp at hv; rcases hv with rfl | rfl <;> assumption) hbig hlen2
    rw [lay_two] at r5
    unfold Oper.wp
    simp only [execOp, hf.eval hx, List.map_toArray, List.map_cons, List.map_nil, Sem.run_bind, hbs, Result.andThen_ok, Sem.run_pure]
    refine hK _ _ (wpList_plain rfl fun K2 hK2 => ?_)
    have hf1 := hf.put hd1 (.slice (some ⟨w.heap.size, 0, none⟩) 1 1)
    have e1 := hf1.eval (hs' _)
    have e2 : (a.put (some d1) (.slice (some ⟨w.heap.size, 0, none⟩) 1 1)).eval (.tmp d1) = .slice (some ⟨w.heap.size, 0, none⟩) 1 1 := hf1.eval (by simp [ev, lk])
    unfold Oper.wp
    simp only [execOp, resolve, invoke, builtin, List.map_toArray, List.map_cons, List.map_nil, e1, e2, Sem.run_bind, Sem.run_pure, Result.andThen_ok, r1]
    obtain ⟨kb', ks', kn', kc'⟩ := k'
    have r4' : kn' = kn2 := by have : kn' = _ := r4; omega
    have r5' : kc' = c' := by have : kc' = _ := r5; rw [this, ← hc', hkn]
    subst r4' r5'
    exact hK2 _ _ ((h _ sv' kb' ks' r2 r3).run _ _ (hf1.put hd2 _) r6)⟩
end

/-- The cells of pairs of 32-bit numbers. -/
def prs (a b : Int → Int) : Int → Value := fun i => if i % 2 = 0 then .int .i32 (a (i / 2)) else .int .i32 (b (i / 2))
theorem prs_0 (a b : Int → Int) (l : Int) : prs a b (2 * l) = .int .i32 (a l) := by
  unfold prs; rw [if_pos (by omega), show 2 * l / 2 = l from by omega]
theorem prs_1 (a b : Int → Int) (l : Int) : prs a b (2 * l + 1) = .int .i32 (b l) := by
  unfold prs; rw [if_neg (by omega), show (2 * l + 1) / 2 = l from by omega]
theorem prs_upd (a b : Int → Int) (m : Nat) (x y : Int) (kn : Int) (hk : kn = ((m * 2 : Nat) : Int)) : upd (upd (prs a b) kn (.int .i32 x)) (kn + 1) (.int .i32 y) = prs (upd a (m : Int) x) (upd b (m : Int) y) := by
  subst hk
  funext i
  simp only [upd, prs]
  by_cases h1 : i = ((m * 2 : Nat) : Int) + 1
  · rw [if_pos h1, if_neg (by omega), if_pos (by omega)]
  · rw [if_neg h1]
    by_cases h2 : i = ((m * 2 : Nat) : Int)
    · rw [if_pos h2, if_pos (by omega), if_pos (by omega)]
    · rw [if_neg h2]
      by_cases h3 : i % 2 = 0
      · rw [if_pos h3, if_pos h3, if_neg (by omega)]
      · rw [if_neg h3, if_neg h3, if_neg (by omega)]
theorem prs_upd2 {a b : Int → Int} {m : Nat} {x y x' y' : Int} {kn : Int} (hk : kn = ((m * 2 : Nat) : Int)) (hx : x = x') (hy : y = y') : upd (upd (prs a b) kn (.int .i32 x)) (kn + 1) (.int .i32 y) = prs (upd a (m : Int) x') (upd b (m : Int) y') := by
  subst hx; subst hy; exact prs_upd a b m x y kn hk
/-- What a copy leaves. -/
def cpy (ro o : Int → Int) (p q m : Int) : Int → Int := fun i => if p ≤ i ∧ i < p + m then o (q + (i - p)) else ro i
theorem cpy_in {ro o : Int → Int} {p q m i : Int} (h0 : p ≤ i) (h1 : i < p + m) : cpy ro o p q m i = o (q + (i - p)) := by unfold cpy; rw [if_pos ⟨h0, h1⟩]
theorem cpy_out {ro o : Int → Int} {p q m i : Int} (h : i < p ∨ p + m ≤ i) : cpy ro o p q m i = ro i := by unfold cpy; rw [if_neg (by omega)]
section
variable {P : Program} {N : Nat} {B : Nat → Prop} {w0 : World} {ops : Array Oper} {K : Act → World → Prop} {n nl : Nat} {H0 : List (Nat × Bk)} {L : List (Nat × Value)} {H : List (Nat × Bk)}
theorem T_copyI {d : Nat} {ty t t' e : TypeId} {pos : String} {af : Array Edge} {rest : List Oper} {x y : Operand} {z : Value} {kk : IntKind} {bytes q b sz dl dc l r : Nat} {kn p lo m : Int} {c o : Int → Int} {sv : Value} {ad : Option Addr}
    (hnl : Nat.ble (rest.length + 1) (ops.size - nl) = true) (hn : Nat.ble (ops.size - n) (rest.length + 1) = true)
    (ht : MkT P t e z 1 bytes) (hq : lkH H q = some ⟨b, sz, kn, ints kk c⟩) (hx : ev L x = some (.slice ad dl dc)) (hy : ev L y = some sv) (hr : Rd B w0 H sv (r - l) (fun i => ints kk o ((l : Int) + i))) (hl0 : (l : Int) = lo) (hm9 : ((r - l : Nat) : Int) = m) (hp0 : 0 ≤ p) (hpm : p + m ≤ kn) (had : 0 < r - l → ad = some ⟨b, p.toNat, none⟩) (hml : r - l ≤ dl) (hd : Nat.ble (d + 1) N = true) (hs : SubH H0 H) (hq0 : lkH H0 q = none)
    (h : T P N B w0 ops K n nl H0 rest ((d, .int .i64 ((r - l : Nat) : Int)) :: L) ((q, ⟨b, sz, kn, ints kk (cpy c o p lo m)⟩) :: H)) :
    T P N B w0 ops K n nl H0 (⟨some d, .call { callee := .builtin .copy, args := #[x, y], argTypes := #[t, t'] }, ty, pos, af, none⟩ :: rest) L H := by
  have hpt : ((p.toNat : Nat) : Int) = p := by omega
  refine T_copy hnl hn ht hq hx hy hr had hml (by omega) (fun i _ _ => rfl) hd hs hq0 ?_
  have he : (fun i : Int => if ((p.toNat : Nat) : Int) ≤ i ∧ i < ((p.toNat + (r - l) : Nat) : Int) then ints kk o ((l : Int) + (i - ((p.toNat : Nat) : Int))) else ints kk c i) = ints kk (cpy c o p lo m) := by
    funext i
    unfold ints cpy
    by_cases hc : p ≤ i ∧ i < p + m
    · rw [if_pos hc, if_pos (by omega), hl0, hpt]
    · rw [if_neg hc, if_neg (by omega)]
  rw [he]
  exact h
end
section
variable {P : Program} {N : Nat} {B : Nat → Prop} {w0 : World} {L : List (Nat × Value)} {H : List (Nat × Bk)}
theorem run_equalIn_ptrnil (w : World) (d : Nat) (t e : TypeId) (ad : Addr) (h : P.underlying t = some (.pointer e)) : (Op.equalIn (d + 1) t (.pointer (some ad)) (.pointer none)).run P w = .ok false w := by
  simp [Op.equalIn, run_underlying h]
theorem run_eql_ptrnil (w : World) (t e : TypeId) (ad : Addr) (h : P.underlying t = some (.pointer e)) : (binOp .eql t (.pointer (some ad)) (.pointer none)).run P w = .ok (.bool false) w := by
  simp only [binOp]
  simp [Op.equal, Op.maxDepth, run_equalIn_ptrnil w 9999 t e ad h]
theorem QY_ptrnil {ty t e t' : TypeId} {x : Operand} {ad : Addr} (ht : P.underlying t = some (.pointer e)) (hx : ev L x = some (.pointer (some ad))) : QY P N B w0 L H (.binOp .eql t x (.const (.pointer none)) t') ty (.bool false) :=
  ⟨fun a w dst pos af g hf hm => by
    have hg : (eqGuard .eql t x (.const (.pointer none)) (.pointer (some ad)) (.pointer none)).run P w = .ok () w := by unfold eqGuard; simp
    have h2 : a.eval (.const (.pointer none)) = .pointer none := rfl
    have h3 := run_eql_ptrnil (P := P) w t e ad ht
    simp only [execOp, hf.eval hx, h2, Sem.run_bind, hg, h3, Result.andThen_ok, Sem.run_pure]⟩
end
end Go.Proofs.Qxb6001236a
