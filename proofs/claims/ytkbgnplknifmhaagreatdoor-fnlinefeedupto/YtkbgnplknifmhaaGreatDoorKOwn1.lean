/-
  Walks and facts for the mailparts program.
-/
import Derived.Test.YtkbgnplknifmhaaGreatDoorKBlkToBuf1
import Derived.Test.YtkbgnplknifmhaaGreatDoorKBaseToTx0
import Derived.OwnWalk
import Derived.ArgAppend
import Derived.Laws.OwnMore
import Derived.Lib.AppendStr
namespace Go.Proofs.YtkbgnplknifmhaaGreatDoor
open Go.RowKit

/-! ### A slice of bytes that the call owns -/
def OB (w : World) (base : Nat) (v : Value) (l : Bytes) : Prop := w.ownsRow base 5 1 v l.length (l.map B8)
theorem ti5 : ∃ i, Tryz.prog.info? 5 = some i ∧ i.zero = some (.int .u8 0) ∧ i.size = 1 ∧ i.bytes = 1 := by
  have h : (Tryz.prog.info? 5).map (fun i => (i.zero, i.size, i.bytes)) = some (some (.int .u8 0), 1, 1) := by kernel_rfl
  obtain ⟨i, h1, h2⟩ := Option.map_eq_some_iff.1 h
  injection h2 with h2 h3
  injection h3 with h3 h4
  exact ⟨i, h1, h2, h3, h4⟩
theorem OB.nil (w : World) (base : Nat) : OB w base (.slice none 0 0) [] := World.ownsRow_nil w base 5 1
theorem OB.len {w : World} {base : Nat} {v : Value} {l : Bytes} (h : OB w base v l) : ∃ a c, v = .slice a l.length c ∧ l.length ≤ c ∧ (∀ x, a = some x → base ≤ x.block ∧ x.block < w.heap.size) ∧ HB w a l ∧ v.ownBlock = a.map (·.block) := by
  rcases h.2 with ⟨rfl, h0⟩ | ⟨g, cap, cur, rfl, hb, hg, hnc, hcm, hcs, htake⟩
  · have : l = [] := List.eq_nil_of_length_eq_zero h0
    subst this
    exact ⟨none, 0, rfl, Nat.le_refl _, by simp, HB.nil _ _, rfl⟩
  · refine ⟨_, cap, rfl, hnc, ?_, ?_, rfl⟩
    · intro x hx
      injection hx with hx
      subst hx
      exact ⟨hb, (Array.getElem?_eq_some_iff.1 hg).1⟩
    · refine HB.of_cells (fun i hi => ?_)
      have := World.ownsRow.cellAt h (j := 0 + i) (by omega)
      rw [this, Nat.zero_add, List.getElem?_map, List.getElem?_eq_getElem hi, byt_lt _ _ hi]
      rfl
theorem OB.kp {S : List Nat} {w w' : World} {base : Nat} {v : Value} {l : Bytes} (h : OB w base v l) (k : Kp S w w') (hS : ∀ b ∈ S, v.ownBlock ≠ some b) : OB w' base v l := by
  refine ⟨h.1, ?_⟩
  rcases h.2 with h0 | ⟨g, cap, cur, rfl, hb, hg, rest⟩
  · exact .inl h0
  · refine .inr ⟨g, cap, cur, rfl, hb, ?_, rest⟩
    rw [k.block g (Array.getElem?_eq_some_iff.1 hg).1 (fun e => hS g e rfl)]; exact hg
theorem OB.base {w : World} {base base' : Nat} {v : Value} {l : Bytes} (h : OB w base v l) (hb : base' ≤ base) : OB w base' v l := by
  refine ⟨h.1, ?_⟩
  rcases h.2 with h0 | ⟨g, cap, cur, rfl, hb2, rest⟩
  · exact .inl h0
  · exact .inr ⟨g, cap, cur, rfl, Nat.le_trans hb hb2, rest⟩
/-- 'v[:0]'. -/
theorem OB.zero {w : World} {base : Nat} {a : Option Addr} {n c : Nat} {l : Bytes} (h : OB w base (.slice a n c) l) : OB w base (.slice a 0 c) [] := by
  refine ⟨rfl, ?_⟩
  rcases h.2 with ⟨h0, _⟩ | ⟨g, cap, cur, he, hb, hg, hnc, hcm, hcs, htake⟩
  · injection h0 with h0 h1 h2
    subst h0; subst h2
    exact .inl ⟨rfl, rfl⟩
  · injection he with h0 h1 h2
    subst h0; subst h2
    exact .inr ⟨g, c, cur, rfl, hb, hg, Nat.zero_le _, hcm, hcs, rfl⟩
/-- '[]byte{}' and the like: a new row with just these bytes. -/
theorem OB.lit (w : World) (base : Nat) (l : Bytes) (hb : base ≤ w.heap.size) (hm : l.length ≤ maxLen) : OB (w.alloc (.cells (encB l) 5)) base (.slice (some ⟨w.heap.size, 0, none⟩) l.length l.length) l :=
  World.ownsRow_lit (size := 1) w (encB l) l.length hb hm (by simp [encB])

/-- v' lies where v lay, or in a row that is new. -/
def NewOr (w : World) (v v' : Value) : Prop := v'.ownBlock = v.ownBlock ∨ ∀ b, v'.ownBlock = some b → w.heap.size ≤ b
theorem HB.cells {w : World} {ad : Addr} {src : Bytes} (hsrc : HB w (some ad) src) : ∀ j u, (src.map B8)[j]? = some u → w.cell? (ad.add j) = some u := by
  intro j u hj
  simp only [List.getElem?_map, Option.map_eq_some_iff] at hj
  obtain ⟨x, hx, rfl⟩ := hj
  have hj' := (List.getElem?_eq_some_iff.1 hx).1
  have := hsrc.cell j hj'
  unfold at_ at this
  rw [Option.getD_some] at this
  have e : byt src j = x := by rw [byt_lt _ _ hj']; rw [List.getElem?_eq_getElem hj'] at hx; exact Option.some.inj hx
  rw [this, e]; rfl
theorem oneCells (src : Bytes) : ∀ u ∈ src.map B8, u.oneCell' = true := fun u hu => by obtain ⟨x, _, rfl⟩ := List.mem_map.1 hu; rfl
theorem run_append_OB (w : World) (base : Nat) (ty : TypeId) (v : Value) (l : Bytes) (hown : OB w base v l) (a : Option Addr) (m c : Nat) (src : Bytes) (hsrc : HB w a src) (hm : m = src.length) (hnone : a = none → c = 0)
    (hlen : l.length + m ≤ 140737488355328) (hbase : base ≤ w.heap.size) :
    ∃ v' w', (Builtin.append_ #[22, 22] ty #[v, .slice a m c]).run Tryz.prog w = .ok v' w' ∧ OB w' base v' (l ++ src) ∧ w.grownBy w' v.ownBlock ∧ NewOr w v v' := by
  obtain ⟨i, h1, h2, h3, h4⟩ := ti5
  subst hm
  cases a with
  | none =>
    have : src = [] := by
      cases src with
      | nil => rfl
      | cons x s => have := hsrc.some_ (by simp); cases this
    subst this
    have := hnone rfl
    subst this
    exact ⟨v, w, run_append_owned_none (P := Tryz.prog) w base 22 ty 5 i 1 elem22 h1 v l.length _ hown, by rw [List.append_nil]; exact hown, World.grownBy.refl _ _, .inl rfl⟩
  | some ad =>
    have hc := hsrc.cells
    rcases hown.2 with ⟨hv, h0⟩ | ⟨g, cap, cur, hv, hb, hg, hnc, hcm, hcs, htake⟩
    · obtain ⟨v', w', e1, e2, e3, e4⟩ := run_append_own (P := Tryz.prog) w w.heap.size 22 ty 5 i _ 1 1 elem22 h1 h2 h3 h4 rfl (by decide) (.slice none 0 0) 0 [] (World.ownsRow_nil w _ 5 1) ad src.length c (src.map B8) (by simp) hc (oneCells src) (by unfold maxLen; omega) (by omega) (Nat.le_refl _)
      have hl : l = [] := List.eq_nil_of_length_eq_zero h0
      subst hl; subst hv
      have e2' : OB w' w.heap.size v' src := by unfold OB; simpa using e2
      exact ⟨v', w', e1, e2'.base hbase, e3, .inr (fun b hb => (World.ownsRow.lt e2' b hb).1)⟩
    · by_cases hfit : l.length + src.length ≤ cap
      · have hown' : w.ownsRow base 5 1 (.slice (some ⟨g, 0, none⟩) l.length cap) l.length (l.map B8) := hv ▸ hown
        obtain ⟨w', e1, e2, e3⟩ := run_append_fits (P := Tryz.prog) w base 22 ty 5 i 1 elem22 h1 h3 g l.length cap _ hown' ad src.length c (src.map B8) (by simp) hc (oneCells src) hfit
        subst hv
        refine ⟨_, w', e1, ?_, e3, .inl rfl⟩
        unfold OB
        rw [List.length_append, List.map_append]
        exact e2
      · obtain ⟨v', w', e1, e2, e3⟩ := run_append_arg_grows (P := Tryz.prog) w 22 ty 5 i _ 1 1 elem22 h1 h2 h3 h4 rfl (by decide) ⟨g, 0, none⟩ l.length cap (l.map B8) (by simp) (fun j u hj => by
          have hj' : j < l.length := by have := (List.getElem?_eq_some_iff.1 hj).1; simpa using this
          have hown' : w.ownsRow base 5 1 (.slice (some ⟨g, 0, none⟩) l.length cap) l.length (l.map B8) := hv ▸ hown
          have := World.ownsRow.cellAt hown' j (by omega)
          rw [Addr.add_lit, Nat.zero_add, this]; exact hj) ad src.length c (src.map B8) (by simp) hc (by omega) (by unfold maxLen; omega) (by omega)
        subst hv
        have e2' : OB w' w.heap.size v' (l ++ src) := by
          unfold OB
          rw [List.length_append, List.map_append]
          exact e2
        exact ⟨v', w', e1, e2'.base hbase, ⟨e3.os, e3.tape, e3.output, e3.size, fun k hk _ => e3.block k hk (by simp)⟩, .inr (fun b hb => (World.ownsRow.lt e2' b hb).1)⟩
theorem strCells_str (l : Bytes) : Lib.strCells (str l) = l.map B8 := by
  unfold Lib.strCells str
  rfl
theorem run_append_OBs (w : World) (base : Nat) (ty : TypeId) (v : Value) (l : Bytes) (hown : OB w base v l) (src : Bytes) (hlen : l.length + src.length ≤ 140737488355328) (hbase : base ≤ w.heap.size) :
    ∃ v' w', (Builtin.append_ #[22, 9] ty #[v, .string (str src)]).run Tryz.prog w = .ok v' w' ∧ OB w' base v' (l ++ src) ∧ w.grownBy w' v.ownBlock := by
  obtain ⟨i, h1, h2, h3, h4⟩ := ti5
  obtain ⟨v', w', e1, e2, e3, _⟩ := Lib.run_append_own_string (P := Tryz.prog) w base 22 9 ty 5 i elem22 (by kernel_rfl) h1 h2 h3 h4 v l.length _ hown (str src) (by rw [str_size]; unfold maxLen; omega) (by rw [str_size]; omega) hbase
  refine ⟨v', w', e1, ?_, e3⟩
  unfold OB
  rw [strCells_str, str_size] at e2
  rw [List.length_append, List.map_append]; exact e2
theorem wp_append_OB {w : World} {o : Oper} {a : Act} {K : Act → World → Prop} {Q : Exit → Act → World → Prop} (d s : Operand)
    (ho : o.op = .call { callee := .builtin .append, args := #[d, s], argTypes := #[22, 22] }) (base : Nat) (v : Value) (l : Bytes) (hd : a.eval d = v) (hown : OB w base v l)
    (x : Option Addr) (m c : Nat) (src : Bytes) (hs : a.eval s = .slice x m c) (hsrc : HB w x src) (hm : m = src.length) (hnone : x = none → c = 0)
    (hlen : l.length + m ≤ 140737488355328) (hbase : base ≤ w.heap.size)
    (h : ∀ v' w', OB w' base v' (l ++ src) → w.grownBy w' v.ownBlock → NewOr w v v' → K (a.put o.dst v') w') : Oper.wp Tryz.prog o a w K Q := by
  obtain ⟨v', w', e1, e2, e3, e4⟩ := run_append_OB w base o.type v l hown x m c src hsrc hm hnone hlen hbase
  unfold Oper.wp
  simp [execOp, ho, resolve, invoke, builtin, hd, hs, e1, Result.andThen]
  exact h _ _ e2 e3 e4
theorem wpList_append_OB {w : World} {ops : Array Oper} {rest : List Oper} {o : Oper} {a : Act} {Q : Exit → Act → World → Prop} (hgd : o.guard = none) (d s : Operand)
    (ho : o.op = .call { callee := .builtin .append, args := #[d, s], argTypes := #[22, 22] }) (base : Nat) (v : Value) (l : Bytes) (hd : a.eval d = v) (hown : OB w base v l)
    (x : Option Addr) (m c : Nat) (src : Bytes) (hs : a.eval s = .slice x m c) (hsrc : HB w x src) (hm : m = src.length) (hnone : x = none → c = 0)
    (hlen : l.length + m ≤ 140737488355328) (hbase : base ≤ w.heap.size)
    (h : ∀ v' w', OB w' base v' (l ++ src) → w.grownBy w' v.ownBlock → NewOr w v v' → wpList Tryz.prog ops Q rest (a.put o.dst v') w') : wpList Tryz.prog ops Q (o :: rest) a w :=
  wpList_plain hgd fun _ hK => wp_append_OB d s ho base v l hd hown x m c src hs hsrc hm hnone hlen hbase fun v' w' h1 h2 h3 => hK _ _ (h v' w' h1 h2 h3)
theorem step_append_OB {w : World} {ops : Array Oper} {o : Oper} {a : Act} {K : Act → World → Prop} {Q : Exit → Act → World → Prop} {E : Prop} (hgd : o.guard = none) (d s : Operand)
    (ho : o.op = .call { callee := .builtin .append, args := #[d, s], argTypes := #[22, 22] }) (base : Nat) (v : Value) (l : Bytes) (hd : a.eval d = v) (hown : OB w base v l)
    (x : Option Addr) (m c : Nat) (src : Bytes) (hs : a.eval s = .slice x m c) (hsrc : HB w x src) (hm : m = src.length) (hnone : x = none → c = 0)
    (hlen : l.length + m ≤ 140737488355328) (hbase : base ≤ w.heap.size)
    (h : ∀ v' w', OB w' base v' (l ++ src) → w.grownBy w' v.ownBlock → NewOr w v v' → K (a.put o.dst v') w') : if Region.wanted o (yielded ops a.tmps) = true then Oper.wp Tryz.prog o a w K Q else E := by
  have hw : Region.wanted o (yielded ops a.tmps) = true := by simp [Region.wanted, hgd]
  rw [if_pos hw]
  exact wp_append_OB d s ho base v l hd hown x m c src hs hsrc hm hnone hlen hbase h
theorem wp_append_OBs {w : World} {o : Oper} {a : Act} {K : Act → World → Prop} {Q : Exit → Act → World → Prop} (d s : Operand)
    (ho : o.op = .call { callee := .builtin .append, args := #[d, s], argTypes := #[22, 9] }) (base : Nat) (v : Value) (l : Bytes) (hd : a.eval d = v) (hown : OB w base v l)
    (src : Bytes) (hs : a.eval s = .string (str src)) (hlen : l.length + src.length ≤ 140737488355328) (hbase : base ≤ w.heap.size)
    (h : ∀ v' w', OB w' base v' (l ++ src) → w.grownBy w' v.ownBlock → K (a.put o.dst v') w') : Oper.wp Tryz.prog o a w K Q := by
  obtain ⟨v', w', e1, e2, e3⟩ := run_append_OBs w base o.type v l hown src hlen hbase
  unfold Oper.wp
  simp [execOp, ho, resolve, invoke, builtin, hd, hs, e1, Result.andThen]
  exact h _ _ e2 e3
theorem wpList_append_OBs {w : World} {ops : Array Oper} {rest : List Oper} {o : Oper} {a : Act} {Q : Exit → Act → World → Prop} (hgd : o.guard = none) (d s : Operand)
    (ho : o.op = .call { callee := .builtin .append, args := #[d, s], argTypes := #[22, 9] }) (base : Nat) (v : Value) (l : Bytes) (hd : a.eval d = v) (hown : OB w base v l)
    (src : Bytes) (hs : a.eval s = .string (str src)) (hlen : l.length + src.length ≤ 140737488355328) (hbase : base ≤ w.heap.size)
    (h : ∀ v' w', OB w' base v' (l ++ src) → w.grownBy w' v.ownBlock → wpList Tryz.prog ops Q rest (a.put o.dst v') w') : wpList Tryz.prog ops Q (o :: rest) a w :=
  wpList_plain hgd fun _ hK => wp_append_OBs d s ho base v l hd hown src hs hlen hbase fun v' w' h1 h2 => hK _ _ (h v' w' h1 h2)
end Go.Proofs.YtkbgnplknifmhaaGreatDoor
