/-
  Walks and facts for the mailparts program.
-/
import Derived.Test.YtkbgnplknifmhaaGreatDoorKNr1ToSp3
import Derived.Lib.Overlaps
import Derived.Lib.AppendZerosOnto
import Derived.Laws.CopyRow
import Derived.Lib.SliceRun
namespace Go.Proofs.YtkbgnplknifmhaaGreatDoor
open Go.RowKit
attribute [local go_sem ↓] Go.wp_at_zero Go.wp_at_succ
/-- 'copy' between rows of elements of some cells. -/
theorem run_copy_rowk {P : Program} (w : World) (dT sT ty elem : TypeId) (g o dLen dCap : Nat) (a : Addr) (sLen sCap : Nat) (cur : Array Value) (t : TypeId) (cs : List Value) (size : Nat)
    (hu : P.underlying dT = some (.slice elem)) (hs : (P.info? elem).map (·.size) = some size)
    (hg : w.heap[g]? = some (.cells cur t (0, 0))) (hn : cs.length = Nat.min sLen dLen * size)
    (hsrc : ∀ j v, cs[j]? = some v → w.cell? (a.add j) = some v) (hfit : o + cs.length ≤ cur.size) (h1 : ∀ v ∈ cs, v.oneCell' = true) :
    (Builtin.copy_ #[dT, sT] ty #[.slice (some ⟨g, o, none⟩) dLen dCap, .slice (some a) sLen sCap]).run P w =
      .ok (goInt (Nat.min sLen dLen)) (w.setRow g (cur.toList.take o ++ cs ++ cur.toList.drop (o + cs.length)).toArray) := by
  have hl := run_loadCells_list (P := P) w a cs hsrc
  have hst := run_storeCells_at P g o t cs 0 cur w hg (by simpa using hfit) h1
  cases hq : P.info? elem with
  | none => simp [hq] at hs
  | some i =>
    have hi : i.size = size := by simpa [hq] using hs
    simp [Builtin.copy_, run_underlying hu, Builtin.lenOf, Builtin.firstCells, sizeOf, typeInfo, hq, hi, ← hn, hl, hst]
section
variable {P : Program}
theorem wp_copy_run (w : World) {o : Oper} {a : Act} {K : Act → World → Prop} {Q : Exit → Act → World → Prop} (d s : Operand) (t t' : TypeId)
    (ho : o.op = .call { callee := .builtin .copy, args := #[d, s], argTypes := #[t, t'] }) (v u : Value) (hd : a.eval d = v) (hs : a.eval s = u) {v' : Value} {w' : World}
    (hr : (Builtin.copy_ #[t, t'] o.type #[v, u]).run P w = .ok v' w') (h : K (a.put o.dst v') w') : o.wp P a w K Q := by
  unfold Oper.wp execOp
  simp only [ho, resolve, invoke, builtin, Sem.run_bind, Sem.run_pure, Result.andThen_ok, List.map_toArray, List.map_cons, List.map_nil, hd, hs, hr]
  exact h
theorem wpList_copy_run (w : World) {ops : Array Oper} {rest : List Oper} {o : Oper} {a : Act} {Q : Exit → Act → World → Prop} (hgd : o.guard = none) (d s : Operand) (t t' : TypeId)
    (ho : o.op = .call { callee := .builtin .copy, args := #[d, s], argTypes := #[t, t'] }) (v u : Value) (hd : a.eval d = v) (hs : a.eval s = u) {v' : Value} {w' : World}
    (hr : (Builtin.copy_ #[t, t'] o.type #[v, u]).run P w = .ok v' w') (h : wpList P ops Q rest (a.put o.dst v') w') : wpList P ops Q (o :: rest) a w :=
  wpList_plain hgd fun _ hK => wp_copy_run w d s t t' ho v u hd hs hr (hK _ _ h)
theorem step_copy_run {ops : Array Oper} {o : Oper} {a : Act} {w : World} {K : Act → World → Prop} {Q : Exit → Act → World → Prop} {E : Prop}
    (hg : o.guard = none) (d x : Operand) (dT sT : TypeId) (hop : o.op = Op.call { callee := Callee.builtin Builtin.copy, args := #[d, x], argTypes := #[dT, sT] })
    (v u : Value) (hd : a.eval d = v) (hx : a.eval x = u) {v' : Value} {w' : World} (hr : (Builtin.copy_ #[dT, sT] o.type #[v, u]).run P w = .ok v' w') (hK : K (a.put o.dst v') w') :
    if Region.wanted o (yielded ops a.tmps) = true then Oper.wp P o a w K Q else E := by
  have hw : Region.wanted o (yielded ops a.tmps) = true := by simp [Region.wanted, hg]
  rw [if_pos hw]
  exact wp_copy_run w d x dT sT hop v u hd hx hr hK
theorem wp_append_run (w : World) {o : Oper} {a : Act} {K : Act → World → Prop} {Q : Exit → Act → World → Prop} (d s : Operand) (t t' : TypeId)
    (ho : o.op = .call { callee := .builtin .append, args := #[d, s], argTypes := #[t, t'] }) (v u : Value) (hd : a.eval d = v) (hs : a.eval s = u) {v' : Value} {w' : World}
    (hr : (Builtin.append_ #[t, t'] o.type #[v, u]).run P w = .ok v' w') (h : K (a.put o.dst v') w') : o.wp P a w K Q := by
  unfold Oper.wp execOp
  simp only [ho, resolve, invoke, builtin, Sem.run_bind, Sem.run_pure, Result.andThen_ok, List.map_toArray, List.map_cons, List.map_nil, hd, hs, hr]
  exact h
theorem wpList_append_run2 (w : World) {ops : Array Oper} {rest : List Oper} {o : Oper} {a : Act} {Q : Exit → Act → World → Prop} (hgd : o.guard = none) (d s : Operand) (t t' : TypeId)
    (ho : o.op = .call { callee := .builtin .append, args := #[d, s], argTypes := #[t, t'] }) (v u : Value) (hd : a.eval d = v) (hs : a.eval s = u) {v' : Value} {w' : World}
    (hr : (Builtin.append_ #[t, t'] o.type #[v, u]).run P w = .ok v' w') (h : wpList P ops Q rest (a.put o.dst v') w') : wpList P ops Q (o :: rest) a w :=
  wpList_plain hgd fun _ hK => wp_append_run w d s t t' ho v u hd hs hr (hK _ _ h)
end
/-! ### Rows of headers (type 27, elements of type 43, two cells each) -/
theorem elem27 : Tryz.prog.underlying 27 = some (.slice 43) := by kernel_rfl
theorem isSlice27 : Tryz.prog.underlying 27 = some (.slice (Tryz.prog.elem 27)) := by kernel_rfl
theorem elem27_eq : Tryz.prog.elem 27 = 43 := by kernel_rfl
theorem sizeOf43 (w : World) : (sizeOf 43).run Tryz.prog w = .ok 2 w := by kernel_rfl
theorem info43_size : (Tryz.prog.info? 43).map (·.size) = some 2 := by kernel_rfl
theorem ti43 : ∃ i, Tryz.prog.info? 43 = some i ∧ i.zero = some (.agg #[.string ⟨#[]⟩, .slice none 0 0]) ∧ i.size = 2 ∧ i.bytes = 40 := by
  have h : (Tryz.prog.info? 43).map (fun i => (i.zero, i.size, i.bytes)) = some (some (.agg #[.string ⟨#[]⟩, .slice none 0 0]), 2, 40) := by kernel_rfl
  obtain ⟨i, h1, h2⟩ := Option.map_eq_some_iff.1 h
  injection h2 with h2 h3
  injection h3 with h3 h4
  exact ⟨i, h1, h2, h3, h4⟩
theorem run27_l (w : World) (g n c k : Nat) (h : k ≤ n) (hc : k < c) : (Instr.sliceAt 27 (.slice (some ⟨g, 0, none⟩) n c) (some (.int .i64 (k : Int))) none none).run Tryz.prog w = .ok (.slice (some ⟨g, k * 2, none⟩) (n - k) (c - k)) w := by
  rw [run_sliceAt_slice _ _ _ _ _ _ isSlice27, run_slice_l _ _ _ _ _ isSlice27 _ _ (by omega) (by omega), elem27_eq, sizeOf43]
  simp [sliced, show ¬ c = k from by omega, Addr.add_lit]
theorem run27_h (w : World) (a : Option Addr) (n c k : Nat) (h : k ≤ c) : (Instr.sliceAt 27 (.slice a n c) none (some (.int .i64 (k : Int))) none).run Tryz.prog w = .ok (.slice a k c) w := by
  rw [run_sliceAt_slice _ _ _ _ _ _ isSlice27, run_slice_h _ _ _ _ _ isSlice27 _ _ (by omega) (by omega), elem27_eq, sizeOf43]
  simp [sliced, addr_add0]
def flatH (xs : List (Bytes × Value)) : List Value := xs.flatMap fun p => [S1 p.1, p.2]
theorem flatH_len (xs : List (Bytes × Value)) : (flatH xs).length = xs.length * 2 := by
  unfold flatH
  induction xs with
  | nil => rfl
  | cons x r ih => simp only [List.flatMap_cons, List.length_append, ih, List.length_cons, List.length_nil]; omega
theorem flatH_append (xs ys : List (Bytes × Value)) : flatH (xs ++ ys) = flatH xs ++ flatH ys := by unfold flatH; simp
theorem flatH_cons (p : Bytes × Value) (ys : List (Bytes × Value)) : flatH (p :: ys) = S1 p.1 :: p.2 :: flatH ys := rfl
def HR (w : World) (base : Nat) (v : Value) (xs : List (Bytes × Value)) : Prop := w.ownsRow base 43 2 v xs.length (flatH xs)
theorem HR.kp {S : List Nat} {w w' : World} {base : Nat} {v : Value} {xs : List (Bytes × Value)} (h : HR w base v xs) (k : Kp S w w') (hS : ∀ b ∈ S, v.ownBlock ≠ some b) : HR w' base v xs := by
  refine ⟨h.1, ?_⟩
  rcases h.2 with h0 | ⟨g, cap, cur, rfl, hb, hg, rest⟩
  · exact .inl h0
  · refine .inr ⟨g, cap, cur, rfl, hb, ?_, rest⟩
    rw [k.block g (Array.getElem?_eq_some_iff.1 hg).1 (fun e => hS g e rfl)]; exact hg
theorem HR.nil (w : World) (base : Nat) : HR w base (.slice none 0 0) [] := World.ownsRow_nil w base 43 2
end Go.Proofs.YtkbgnplknifmhaaGreatDoor
