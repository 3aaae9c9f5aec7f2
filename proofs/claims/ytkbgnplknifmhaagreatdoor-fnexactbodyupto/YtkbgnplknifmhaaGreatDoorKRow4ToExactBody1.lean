/-
  Walks and facts for the mailparts program.
-/
import Derived.Test.YtkbgnplknifmhaaGreatDoorKPm4ToPreamble1
import Derived.Test.YtkbgnplknifmhaaGreatDoorKBd1ToPure11
import Derived.Test.YtkbgnplknifmhaaGreatDoorKBd8ToLw6
import Derived.Test.YtkbgnplknifmhaaGreatDoorRows
import Derived.Deep.SlicePairs
import Derived.Lib.SmallJoins
namespace Go.Proofs.YtkbgnplknifmhaaGreatDoor
open Go.ChangeShapes Go.WideShapes Go.ChangeAt Go.RowKit
/-! ### A body among the arguments: how it lies, and its bulk -/
section
variable {H : Type} {enc : TypeId × Value → H} {W : World}
theorem bulk_pos (d : DataW H) : 1 ≤ Rows.uptoBulk d := by
  cases d with
  | lit l => cases l <;> simp [Rows.uptoBulk]
  | nil => simp [Rows.uptoBulk]
  | ptr d => simp [Rows.uptoBulk]
  | slice elems spare => simp [Rows.uptoBulk]
  | agg parts => simp [Rows.uptoBulk]
  | iface t d => simp [Rows.uptoBulk]
  | map entries => simp [Rows.uptoBulk]
  | held h => simp [Rows.uptoBulk]
theorem bulk_sum {α : Type} (f : α → Nat) (g : α → DataW H) : ∀ (l : List α), (∀ x ∈ l, f x ≤ Rows.uptoBulk (g x)) → (l.map f).sum ≤ Rows.uptoBulkAll (l.map g)
  | [], _ => by simp
  | x :: l, h => by
    have h1 := h x (by simp)
    have h2 := bulk_sum f g l (fun y hy => h y (by simp [hy]))
    simp only [List.map_cons, List.sum_cons, Rows.uptoBulkAll]
    omega
theorem bulk_len (l : List (DataW H)) : l.length ≤ Rows.uptoBulkAll l := by
  induction l with
  | nil => exact Nat.zero_le _
  | cons x r ih => have := bulk_pos x; simp only [Rows.uptoBulkAll, List.length_cons]; omega
theorem at0 (a : Addr) : a.add 0 = a := by unfold Addr.add; simp
/-- A row of texts. -/
theorem open_textsB {fuel : Nat} {v : Value} {x : DataW H × List MemPlace} (hf : DataW.trod enc Tryz.prog W 0 (fun _ => true) true fuel 41 [v] = some x) :
    ∃ (ls : List Bytes) (a : Option Addr) (c : Nat), v = .slice a ls.length c ∧ TB W a ls ∧ ls.length ≤ c ∧ (a = none → c = 0) ∧ bulkT ls + 1 ≤ Rows.uptoBulk x.1 := by
  rcases open_strings Tryz.underlying41 Tryz.underlying9 cellsOf9t hf with ⟨hcs, hx⟩ | ⟨a, len, cap, ss, hcs, _, hl, hm, hz, hx, hcell, _⟩
  · injection hcs with hcs _
    subst hcs; subst hx
    exact ⟨[], none, 0, rfl, ⟨fun e => absurd rfl e, fun i hi => by simp at hi⟩, Nat.le_refl _, fun _ => rfl, by simp [Rows.uptoBulk, bulkT]⟩
  · injection hcs with hcs _
    subst hcs
    simp only [if_true] at hz
    have hl2 : ((ss.take len).map fun s => s.data.toList).length = len := by simp; omega
    refine ⟨(ss.take len).map fun s => s.data.toList, some a, cap, by rw [hl2], ⟨fun _ => rfl, fun i hi => ?_⟩, by omega, fun e => (by cases e), ?_⟩
    · rw [hl2] at hi
      have h1 := hcell i (by omega)
      have h4 : str (((ss.take len).map fun s => s.data.toList).getD i []) = ss.getD i ByteArray.empty := by
        have hi2 : i < ss.length := by omega
        rw [List.getD_eq_getElem?_getD, List.getElem?_map, List.getElem?_take_of_lt hi, List.getElem?_eq_getElem hi2, List.getD_eq_getElem?_getD, List.getElem?_eq_getElem hi2]
        simp only [Option.map_some, Option.getD_some]
        exact (str_of _).symm
      rw [h4]
      exact h1
    · rw [hx]
      unfold bulkT
      rw [List.map_map]
      have := bulk_sum (fun s : ByteArray => s.data.toList.length + 1) (fun s => (.lit (.string s.data.toList) : DataW H)) (ss.take len) (fun s _ => by simp [Rows.uptoBulk])
      simp only [Rows.uptoBulk, strs]
      have e : ((fun s : Bytes => s.length + 1) ∘ fun s : ByteArray => s.data.toList) = fun s : ByteArray => s.data.toList.length + 1 := rfl
      rw [e]
      omega
/-- A row of bytes. -/
theorem open_bytesB {fuel : Nat} {v : Value} {x : DataW H × List MemPlace} (hf : DataW.trod enc Tryz.prog W 0 (fun _ => true) true fuel 22 [v] = some x) :
    ∃ (l : Bytes) (a : Option Addr) (c : Nat), v = .slice a l.length c ∧ HB W a l ∧ l.length ≤ c ∧ (a = none → c = 0) ∧ l.length + 1 ≤ Rows.uptoBulk x.1 := by
  obtain ⟨a, n, c, rfl, hn⟩ : ∃ a n c, v = .slice a n c ∧ n + 1 ≤ Rows.uptoBulk x.1 := by
    rcases open_ints elem22 Tryz.underlying5 cells5 hf with ⟨hcs, hx⟩ | ⟨a, len, cap, zs, hcs, _, hl, hm, hz, hx, _, _⟩
    · injection hcs with hcs _
      subst hcs; subst hx
      exact ⟨_, _, _, rfl, by simp [Rows.uptoBulk]⟩
    · injection hcs with hcs _
      subst hcs
      simp only [if_true] at hz
      refine ⟨_, _, _, rfl, ?_⟩
      rw [hx]
      have := bulk_len (lits (H := H) .u8 (zs.take len))
      have hlen : (lits (H := H) .u8 (zs.take len)).length = len := by simp [lits]; omega
      simp only [Rows.uptoBulk]
      omega
  obtain ⟨l, rfl, h1, h2, h3⟩ := open_bytes (enc := enc) (d := x.1) (p := x.2) ⟨fuel, by simpa [Value.cells] using hf⟩
  exact ⟨l, a, c, rfl, h1, h2, h3, hn⟩
noncomputable def fieldsOf (t : TypeId) : Option (List (TypeId × Nat)) := match Tryz.prog.underlying t with | some (.struct fs) => some (fs.toList.map fun f => (f.type, f.offset)) | _ => none
theorem fields_of {t : TypeId} {l : List (TypeId × Nat)} (h : fieldsOf t = some l) : ∃ fs : Array Field, Tryz.prog.underlying t = some (.struct fs) ∧ fs.toList.map (fun f => (f.type, f.offset)) = l := by
  unfold fieldsOf at h
  split at h
  · rename_i fs hu
    injection h with h
    exact ⟨fs, hu, h⟩
  · cases h
theorem fields2 {t a b : TypeId} {m n : Nat} (h : fieldsOf t = some [(a, m), (b, n)]) : ∃ f0 f1 : Field, Tryz.prog.underlying t = some (.struct #[f0, f1]) ∧ f0.offset = m ∧ f1.offset = n ∧ f0.type = a ∧ f1.type = b := by
  obtain ⟨⟨l⟩, hu, hl⟩ := fields_of h
  match l, hl, hu with
  | [f0, f1], hl, hu =>
    simp only [List.map_cons, List.map_nil, List.cons.injEq, Prod.mk.injEq, and_true] at hl
    exact ⟨f0, f1, hu, hl.1.2, hl.2.2, hl.1.1, hl.2.1⟩
theorem under27 : ∃ f0 f1 : Field, Tryz.prog.underlying 27 = some (.slice 43) ∧ Tryz.prog.underlying 43 = some (.struct #[f0, f1]) ∧ f0.offset = 0 ∧ f1.offset = 1 ∧ f0.type = 9 ∧ f1.type = 41 := by
  obtain ⟨f0, f1, h1, h2⟩ := fields2 (t := 43) (a := 9) (b := 41) (m := 0) (n := 1) (by kernel_rfl)
  exact ⟨f0, f1, by kernel_rfl, h1, h2⟩
theorem under24 : ∃ f0 f1 : Field, Tryz.prog.underlying 24 = some (.slice 29) ∧ Tryz.prog.underlying 29 = some (.struct #[f0, f1]) ∧ f0.offset = 0 ∧ f1.offset = 1 ∧ f0.type = 27 ∧ f1.type = 22 := by
  obtain ⟨f0, f1, h1, h2⟩ := fields2 (t := 29) (a := 27) (b := 22) (m := 0) (n := 1) (by kernel_rfl)
  exact ⟨f0, f1, by kernel_rfl, h1, h2⟩
theorem cells43 : Tryz.prog.cellsOf 43 = 2 := by kernel_rfl
theorem cells29 : Tryz.prog.cellsOf 29 = 2 := by kernel_rfl
theorem cells41 : Tryz.prog.cellsOf 41 = 1 := by kernel_rfl
theorem cells24 : Tryz.prog.cellsOf 24 = 1 := by kernel_rfl
theorem cells27 : Tryz.prog.cellsOf 27 = 1 := by kernel_rfl
theorem cells22 : Tryz.prog.cellsOf 22 = 1 := by kernel_rfl
theorem open_textB {fuel : Nat} {v : Value} {x : DataW H × List MemPlace} (hf : DataW.trod enc Tryz.prog W 0 (fun _ => true) true fuel 9 [v] = some x) : ∃ l : Bytes, v = .string (str l) ∧ Rows.uptoBulk x.1 = l.length + 1 := by
  obtain ⟨s, hs, rfl, _⟩ := DataW.trod_string Tryz.underlying9 hf
  injection hs with hs _
  subst hs
  exact ⟨s.data.toList, by rw [← str_of s], by simp [Rows.uptoBulk]⟩
def HdAt (W : World) (a : Addr) (i : Nat) (q : Bytes × List Bytes) : Prop := W.cell? (a.add (i * 2)) = some (S1 q.1) ∧ ∃ a' c', W.cell? (a.add (i * 2 + 1)) = some (.slice a' q.2.length c') ∧ TB W a' q.2 ∧ q.2.length ≤ c' ∧ (a' = none → c' = 0)
theorem range_get {α : Type} {f : Nat → α} {n i : Nat} {p : α} (h : ((List.range n).map f)[i]? = some p) : i < n ∧ p = f i := by
  rw [List.getElem?_map, Option.map_eq_some_iff] at h
  obtain ⟨j, h1, h2⟩ := h
  obtain ⟨h3, h4⟩ := List.getElem?_eq_some_iff.1 h1
  rw [List.getElem_range] at h4
  rw [List.length_range] at h3
  subst h4
  exact ⟨h3, h2.symm⟩
theorem lit_of {W : World} {a : Addr} {u : Value} (h : W.cell? (a.add 0) = some u) : ∃ g o, a = ⟨g, o, none⟩ := by
  rw [at0] at h
  have := cell_spot h
  cases a with
  | mk g o s => simp at this; subst this; exact ⟨g, o, rfl⟩
/-- A header. -/
theorem open_headB {fuel : Nat} {v : Value} {x : DataW H × List MemPlace} (hf : DataW.trod enc Tryz.prog W 0 (fun _ => true) true fuel 27 [v] = some x) :
    ∃ hs : HL, HVa W v hs ∧ bulkH hs + 1 ≤ Rows.uptoBulk x.1 := by
  obtain ⟨f0, f1, u1, u2, o0, o1, t0, t1⟩ := under27
  rcases Go.Deep.open_slice_pairs u1 u2 cells43 o0 o1 (by rw [t0]; exact cells9) (by rw [t1]; exact cells41) hf with ⟨hcs, hx⟩ | ⟨a, len, cap, m, n, V0, V1, D0, D1, P0, P1, hcs, _, hl, hm, hmm, hx, hall⟩
  · injection hcs with hcs _
    subst hcs; subst hx
    exact ⟨[], ⟨.inl ⟨rfl, _, _, rfl⟩⟩, by simp [Rows.uptoBulk, bulkH]⟩
  · injection hcs with hcs _
    subst hcs
    simp only [if_true] at hmm
    rw [t0, t1] at hall
    obtain ⟨f, hfq⟩ := Go.Deep.choose_lt (α := Bytes × List Bytes) (n := len) (p := fun i q => HdAt W a i q ∧ q.1.length + 1 + bulkT q.2 ≤ Rows.uptoBulk (DataW.agg [D0 i, D1 i])) (fun i hi => by
      obtain ⟨k1, k2, k3, k4⟩ := hall i (by omega)
      obtain ⟨l, e1, e2⟩ := open_textB k3
      obtain ⟨ls, a', c', e3, e4, e5, e6, e7⟩ := open_textsB k4
      simp only at e2 e7
      refine ⟨(l, ls), ⟨by rw [k1, e1]; rfl, a', c', by rw [k2, e3], e4, e5, e6⟩, ?_⟩
      simp only [Rows.uptoBulk, Rows.uptoBulkAll]
      omega)
    have hlen : ((List.range len).map f).length = len := by simp
    refine ⟨(List.range len).map f, ?_, ?_⟩
    · by_cases h0 : len = 0
      · subst h0
        exact ⟨.inl ⟨rfl, _, _, rfl⟩⟩
      · obtain ⟨g, o, rfl⟩ := lit_of (u := S1 (f 0).1) (by have := (hfq 0 (by omega)).1.1; simpa using this)
        refine ⟨.inr ⟨g, o, cap, by rw [hlen], by omega, fun i p hp => ?_⟩⟩
        obtain ⟨hi, rfl⟩ := range_get hp
        obtain ⟨⟨k1, a', c', k2, k3, k4, k5⟩, _⟩ := hfq i hi
        rw [Addr.add_lit] at k1 k2
        exact ⟨a', c', k1, k2, k3, k4, k5⟩
    · rw [hx]
      have := bulk_sum (fun i => (f i).1.length + 1 + bulkT (f i).2) (fun i => DataW.agg [D0 i, D1 i]) (List.range len) (fun i hi => (hfq i (List.mem_range.1 hi)).2)
      unfold bulkH
      rw [List.map_map]
      simp only [Rows.uptoBulk]
      have e : ((fun p : Bytes × List Bytes => p.1.length + 1 + bulkT p.2) ∘ f) = fun i => (f i).1.length + 1 + bulkT (f i).2 := rfl
      rw [e]
      omega
def PtAt (W : World) (a : Addr) (i : Nat) (p : HL × Bytes) : Prop := ∃ a1 c1 a2 c2, W.cell? (a.add (i * 2)) = some (.slice a1 p.1.length c1) ∧ W.cell? (a.add (i * 2 + 1)) = some (.slice a2 p.2.length c2) ∧ HVa W (.slice a1 p.1.length c1) p.1 ∧ HB W a2 p.2 ∧ p.2.length ≤ c2 ∧ (a2 = none → c2 = 0)
/-- The parts. -/
theorem open_partsB {fuel : Nat} {v : Value} {x : DataW H × List MemPlace} (hf : DataW.trod enc Tryz.prog W 0 (fun _ => true) true fuel 24 [v] = some x) :
    ∃ ps : PL, PVa W v ps ∧ bulkP ps + 1 ≤ Rows.uptoBulk x.1 := by
  obtain ⟨f0, f1, u1, u2, o0, o1, t0, t1⟩ := under24
  rcases Go.Deep.open_slice_pairs u1 u2 cells29 o0 o1 (by rw [t0]; exact cells27) (by rw [t1]; exact cells22) hf with ⟨hcs, hx⟩ | ⟨a, len, cap, m, n, V0, V1, D0, D1, P0, P1, hcs, _, hl, hm, hmm, hx, hall⟩
  · injection hcs with hcs _
    subst hcs; subst hx
    exact ⟨[], ⟨.inl ⟨rfl, _, _, rfl⟩⟩, by simp [Rows.uptoBulk, bulkP]⟩
  · injection hcs with hcs _
    subst hcs
    simp only [if_true] at hmm
    rw [t0, t1] at hall
    obtain ⟨f, hfq⟩ := Go.Deep.choose_lt (α := HL × Bytes) (n := len) (p := fun i p => PtAt W a i p ∧ bulkH p.1 + p.2.length + 1 ≤ Rows.uptoBulk (DataW.agg [D0 i, D1 i])) (fun i hi => by
      obtain ⟨k1, k2, k3, k4⟩ := hall i (by omega)
      obtain ⟨hs, e1, e2⟩ := open_headB k3
      obtain ⟨l, a2, c2, e3, e4, e5, e6, e7⟩ := open_bytesB k4
      obtain ⟨a1, c1, e8⟩ := e1.shape
      simp only at e2 e7
      refine ⟨(hs, l), ⟨a1, c1, a2, c2, by rw [k1, e8], by rw [k2, e3], by rw [← e8]; exact e1, e4, e5, e6⟩, ?_⟩
      simp only [Rows.uptoBulk, Rows.uptoBulkAll]
      omega)
    have hlen : ((List.range len).map f).length = len := by simp
    refine ⟨(List.range len).map f, ?_, ?_⟩
    · by_cases h0 : len = 0
      · subst h0
        exact ⟨.inl ⟨rfl, _, _, rfl⟩⟩
      · obtain ⟨a1, c1, a2, c2, h1, _⟩ := (hfq 0 (by omega)).1
        obtain ⟨g, o, rfl⟩ := lit_of (u := .slice a1 (f 0).1.length c1) (by simpa using h1)
        refine ⟨.inr ⟨g, o, cap, by rw [hlen], fun i p hp => ?_⟩⟩
        obtain ⟨hi, rfl⟩ := range_get hp
        obtain ⟨⟨a1, c1, a2, c2, k1, k2, k3, k4, k5, k6⟩, _⟩ := hfq i hi
        rw [Addr.add_lit] at k1 k2
        exact ⟨a1, c1, a2, c2, k1, k2, k3, k4, k5, k6⟩
    · rw [hx]
      have := bulk_sum (fun i => bulkH (f i).1 + (f i).2.length + 1) (fun i => DataW.agg [D0 i, D1 i]) (List.range len) (fun i hi => (hfq i (List.mem_range.1 hi)).2)
      unfold bulkP
      rw [List.map_map]
      simp only [Rows.uptoBulk]
      have e : ((fun p : HL × Bytes => bulkH p.1 + p.2.length + 1) ∘ f) = fun i => bulkH (f i).1 + (f i).2.length + 1 := rfl
      rw [e]
      omega
theorem fields4 {t a b c d : TypeId} {k l m n : Nat} (h : fieldsOf t = some [(a, k), (b, l), (c, m), (d, n)]) : ∃ f0 f1 f2 f3 : Field, Tryz.prog.underlying t = some (.struct #[f0, f1, f2, f3]) ∧ (f0.offset = k ∧ f1.offset = l ∧ f2.offset = m ∧ f3.offset = n) ∧ f0.type = a ∧ f1.type = b ∧ f2.type = c ∧ f3.type = d := by
  obtain ⟨⟨l⟩, hu, hl⟩ := fields_of h
  match l, hl, hu with
  | [f0, f1, f2, f3], hl, hu =>
    simp only [List.map_cons, List.map_nil, List.cons.injEq, Prod.mk.injEq, and_true] at hl
    obtain ⟨⟨t0, o0⟩, ⟨t1, o1⟩, ⟨t2, o2⟩, ⟨t3, o3⟩⟩ := hl
    exact ⟨f0, f1, f2, f3, hu, ⟨o0, o1, o2, o3⟩, t0, t1, t2, t3⟩
theorem under48 : ∃ f0 f1 f2 f3 : Field, Tryz.prog.underlying 48 = some (.struct #[f0, f1, f2, f3]) ∧ f0.type = 41 ∧ f1.type = 24 ∧ f2.type = 41 ∧ f3.type = 22 ∧ Go.Deep.oneCellFields Tryz.prog #[f0, f1, f2, f3] = true := by
  obtain ⟨f0, f1, f2, f3, hu, ⟨o0, o1, o2, o3⟩, t0, t1, t2, t3⟩ := fields4 (t := 48) (a := 41) (b := 24) (c := 41) (d := 22) (k := 0) (l := 1) (m := 2) (n := 3) (by kernel_rfl)
  refine ⟨f0, f1, f2, f3, hu, t0, t1, t2, t3, ?_⟩
  clear hu
  unfold Go.Deep.oneCellFields
  have e : List.range (#[f0, f1, f2, f3] : Array Field).size = [0, 1, 2, 3] := rfl
  rw [e]
  simp [o0, o1, o2, o3, t0, t1, t2, t3, cells41, cells24, cells22]
theorem cells48 : Tryz.prog.cellsOf 48 = 4 := by kernel_rfl
set_option maxRecDepth 20000 in
/-- A body. -/
theorem open_bodyB {r : Reach} {b0 : Nat} {v : Value} {d : DataW H} {p : List MemPlace} (hv : Value.okWide Tryz.prog W r b0 48 v) (h : DataW.Trod enc Tryz.prog W 0 (fun _ => true) true 48 v d p) :
    ∃ cs ls ps pads after, v = .agg cs ∧ BdV W cs ls ps pads after ∧ bulkT ls + bulkP ps + bulkT pads + after.length ≤ Rows.uptoBulk d := by
  obtain ⟨f0, f1, f2, f3, u, t0, t1, t2, t3, hone⟩ := under48
  obtain ⟨v0, v1, v2, v3, y0, y1, y2, y3, n, rfl, rfl, rfl, k0, k1, k2, k3⟩ := Go.Joins.open_agg4 u hone cells48 hv h
  rw [t0] at k0
  rw [t1] at k1
  rw [t2] at k2
  rw [t3] at k3
  obtain ⟨ls, al, cl, rfl, q1, q2, q3, q4⟩ := open_textsB k0
  obtain ⟨ps, q5, q6⟩ := open_partsB k1
  obtain ⟨pads, ad, cd, rfl, q7, q8, q9, q10⟩ := open_textsB k2
  obtain ⟨after, aa, ca, rfl, q11, q12, q13, q14⟩ := open_bytesB k3
  refine ⟨_, ls, ps, pads, after, rfl, ⟨al, cl, v1, ad, cd, aa, ca, rfl, q1, q5, q7, q11, q12, q13⟩, ?_⟩
  simp only [Rows.uptoBulk, Rows.uptoBulkAll]
  omega
end
end Go.Proofs.YtkbgnplknifmhaaGreatDoor
namespace Go.Proofs.YtkbgnplknifmhaaGreatDoor.fnExactBodyUpto
open Go.ChangeShapes Go.WideShapes Go.ChangeAt Go.RowKit
open Go.ChangeMaps (open_string)
theorem readable : ∀ t ∈ Tryz.f6.params.toList, Tryz.prog.readableRec t = true ∧ t < Tryz.prog.types.size := by
  have h : Tryz.f6.params = #[48, 9] := Tryz.params6
  rw [h]
  intro t ht
  simp at ht
  have hm : t = 48 ∨ t = 9 := by omega
  rcases hm with rfl | rfl
  · exact ⟨by kernel_rfl, of_decide_eq_true (by kernel_rfl)⟩
  · exact ⟨by kernel_rfl, of_decide_eq_true (by kernel_rfl)⟩
theorem vars : ∀ n ∈ Rows.fnExactBodySpec.vars, ∃ g, Tryz.prog.globalNamed n = some g ∧ (Tryz.prog.globals[g]?).map (·.type) = some 69 := by
  intro n hn
  simp [Rows.fnExactBodySpec] at hn
  rcases hn with rfl | rfl
  · exact ⟨4, by kernel_rfl, by kernel_rfl⟩
  · exact ⟨11, by kernel_rfl, by kernel_rfl⟩

set_option maxRecDepth 100000 in
theorem contract (H : Type) (enc : TypeId × Value → H) (W : World) (base : Nat) (args : Array Value) (ds gs : List (DataW H)) (before : List MemPlace)
    (hval : ∀ (j : Nat) t v, Tryz.f6.params[j]? = some t → args[j]? = some v → Value.okWide Tryz.prog W .any base t v)
    (hW : DataW.Whole enc Tryz.prog Tryz.f6.params.toList Rows.fnExactBodySpec.vars false W args.toList ds gs before) (hk : Rows.uptoSmall H (ds ++ gs) = true) (hL : laidMetH Tryz.prog Rows.fnExactBodyUptoRow.laid W) :
    Calls Tryz.prog 6 args W fun e W' => ∃ v, e = .returned v ∧ Rows.fnExactBodySpec.post enc Tryz.prog Tryz.f6 false true false false W args v W' := by
  have hW' := hW
  obtain ⟨p, q, hA0, hV, rfl, _, _⟩ := hW
  have hA : DataW.TrodAll enc Tryz.prog W 0 (fun _ => true) true Tryz.f6.params.toList args.toList ds p := hA0
  rw [Tryz.params6] at hA hval
  obtain ⟨v0, v1, d0, d1, p0, p1, rfl, rfl, rfl, h0, h1⟩ := trodAll_two hA
  obtain ⟨s1, rfl, rfl, rfl, hsz1⟩ := open_string Tryz.underlying9 (hval 1 9 v1 rfl rfl) h1
  obtain ⟨cs, ls, ps, pads, after, rfl, hb, hbk⟩ := open_bodyB (hval 0 48 v0 rfl rfl) h0
  have hsm := of_decide_eq_true hk
  simp only [List.cons_append, Rows.uptoBulkAll, Rows.uptoBulk] at hsm
  have hL' : laidMetH Tryz.prog Rows.fnReadsRow.laid W := hL
  obtain ⟨E, hE⟩ := env_of_laid hL'
  have walk := fnExactBody_walk (b := s1.data.toList) hE hb (by omega) (by omega)
  rw [← str_of s1] at walk
  refine walk.mono fun e W' ⟨he, hkp⟩ => ?_
  subst he
  have hg : ∃ g1 g2, gs = [g1, g2] := by
    have hV' : DataW.TrodVars enc Tryz.prog W (fun _ => true) ["loop.example/pub-mailparts/pub/multipart.ErrMessageTooLarge", "loop.example/pub-mailparts/pub/textproto.errMessageTooLarge"] gs q := hV
    cases gs with
    | nil => cases hV'
    | cons g1 gs =>
      obtain ⟨_, _, _, _, _, q1, _, _, _, _, h5, _⟩ := hV'
      cases gs with
      | nil => cases h5
      | cons g2 gs =>
        obtain ⟨_, _, _, _, _, q2, _, _, _, _, h6, _⟩ := h5
        cases gs with
        | nil => exact ⟨g1, g2, rfl⟩
        | cons g3 gs => cases h6
  obtain ⟨g1, g2, rfl⟩ := hg
  exact ⟨_, rfl, post_true readable vars (by kernel_rfl) hW' hkp rfl⟩

end Go.Proofs.YtkbgnplknifmhaaGreatDoor.fnExactBodyUpto
