/-
  Walks and facts for the mailparts program.
-/
import Derived.Test.YtkbgnplknifmhaaGreatDoorKOwn1
import Derived.Maps.Own
namespace Go.Proofs.YtkbgnplknifmhaaGreatDoor
open Go.RowKit
open Go.Maps (Keyed)

/-! ### A map of texts to slices, its values as the machine has them -/
def RV (v : Value) : Option (DataW Value × List MemPlace) := some (.held v, [])
def mapD (kvs : List (Bytes × Value)) : DataW Value := .map (kvs.map fun p => (.string p.1, .held p.2))
def MP (w : World) (b n : Nat) (kvs : List (Bytes × Value)) : Prop := w.ownsMap Tryz.prog 9 RV b n (mapD kvs)
section
variable {α β : Type}
def kvIns (p : Bytes × α) : List (Bytes × α) → List (Bytes × α)
  | [] => [p]
  | y :: r => if bytesBefore p.1 y.1 then p :: y :: r else y :: kvIns p r
def kvPut (k : Bytes) (v : α) (l : List (Bytes × α)) : List (Bytes × α) := kvIns (k, v) (l.filter fun p => !(p.1 == k))
def kvGet (k : Bytes) (l : List (Bytes × α)) : Option α := (l.find? fun p => p.1 == k).map (·.2)
/-- Two lists of keys with something, the keys the same one by one. -/
inductive Two (r : α → β → Prop) : List (Bytes × α) → List (Bytes × β) → Prop
  | nil : Two r [] []
  | cons (k : Bytes) (a : α) (b : β) (l : List (Bytes × α)) (m : List (Bytes × β)) (h : r a b) (t : Two r l m) : Two r ((k, a) :: l) ((k, b) :: m)
theorem Two.mono {r r' : α → β → Prop} {l : List (Bytes × α)} {m : List (Bytes × β)} (h : Two r l m) (hr : ∀ p ∈ l, ∀ b, r p.2 b → r' p.2 b) : Two r' l m := by
  induction h with
  | nil => exact .nil
  | cons k a b l m h t ih => exact .cons k a b l m (hr (k, a) (by simp) _ h) (ih (fun p hp => hr p (by simp [hp])))
theorem Two.filter {r : α → β → Prop} {l : List (Bytes × α)} {m : List (Bytes × β)} (h : Two r l m) (f : Bytes → Bool) : Two r (l.filter fun p => f p.1) (m.filter fun p => f p.1) := by
  induction h with
  | nil => exact .nil
  | cons k a b l m h t ih =>
    simp only [List.filter_cons]
    cases f k
    · simpa using ih
    · simpa using .cons k a b _ _ h ih
theorem Two.ins {r : α → β → Prop} {l : List (Bytes × α)} {m : List (Bytes × β)} (h : Two r l m) (k : Bytes) (a : α) (b : β) (hab : r a b) : Two r (kvIns (k, a) l) (kvIns (k, b) m) := by
  induction h with
  | nil => exact .cons k a b _ _ hab .nil
  | cons k' a' b' l m h t ih =>
    by_cases hc : bytesBefore k k' = true
    · have e1 : kvIns (k, a) ((k', a') :: l) = (k, a) :: (k', a') :: l := if_pos hc
      have e2 : kvIns (k, b) ((k', b') :: m) = (k, b) :: (k', b') :: m := if_pos hc
      rw [e1, e2]
      exact .cons k a b _ _ hab (.cons k' a' b' l m h t)
    · have e1 : kvIns (k, a) ((k', a') :: l) = (k', a') :: kvIns (k, a) l := if_neg hc
      have e2 : kvIns (k, b) ((k', b') :: m) = (k', b') :: kvIns (k, b) m := if_neg hc
      rw [e1, e2]
      exact .cons k' a' b' _ _ h ih
theorem Two.put {r : α → β → Prop} {l : List (Bytes × α)} {m : List (Bytes × β)} (h : Two r l m) (k : Bytes) (a : α) (b : β) (hab : r a b) : Two r (kvPut k a l) (kvPut k b m) :=
  (h.filter (fun x => !(x == k))).ins k a b hab
theorem Two.get {r : α → β → Prop} {l : List (Bytes × α)} {m : List (Bytes × β)} (h : Two r l m) (k : Bytes) : (kvGet k l = none ∧ kvGet k m = none) ∨ ∃ a b, kvGet k l = some a ∧ kvGet k m = some b ∧ r a b ∧ (k, a) ∈ l := by
  induction h with
  | nil => exact .inl ⟨rfl, rfl⟩
  | cons k' a' b' l m h t ih =>
    by_cases hc : k' = k
    · subst hc
      exact .inr ⟨a', b', by simp [kvGet], by simp [kvGet], h, by simp⟩
    · have hc' : (k' == k) = false := by simp [hc]
      have e1 : kvGet k ((k', a') :: l) = kvGet k l := by unfold kvGet; rw [List.find?_cons, hc']
      have e2 : kvGet k ((k', b') :: m) = kvGet k m := by unfold kvGet; rw [List.find?_cons, hc']
      rw [e1, e2]
      rcases ih with h | ⟨a, b, h1, h2, h3, h4⟩
      · exact .inl h
      · exact .inr ⟨a, b, h1, h2, h3, by simp [h4]⟩
theorem mem_kvIns {p q : Bytes × α} {l : List (Bytes × α)} : q ∈ kvIns p l ↔ q = p ∨ q ∈ l := by
  induction l with
  | nil => simp [kvIns]
  | cons y r ih =>
    unfold kvIns
    split
    · simp
    · simp [ih]
      constructor
      · rintro (h | h | h) <;> simp [h]
      · rintro (h | h | h) <;> simp [h]
theorem mem_kvPut {k : Bytes} {v : α} {q : Bytes × α} {l : List (Bytes × α)} : q ∈ kvPut k v l ↔ q = (k, v) ∨ (q ∈ l ∧ q.1 ≠ k) := by
  unfold kvPut
  rw [mem_kvIns]
  simp
end
theorem kvIns_map (p : Bytes × Value) (l : List (Bytes × Value)) : DataW.insert (Lit.string p.1, DataW.held p.2) (l.map fun p => (Lit.string p.1, DataW.held p.2)) = (kvIns p l).map fun p => (Lit.string p.1, DataW.held p.2) := by
  induction l with
  | nil => rfl
  | cons y r ih =>
    by_cases h : bytesBefore p.1 y.1 = true
    · have e1 : kvIns p (y :: r) = p :: y :: r := by unfold kvIns; rw [if_pos h]
      rw [e1, List.map_cons, DataW.insert]
      exact if_pos h
    · have e1 : kvIns p (y :: r) = y :: kvIns p r := by conv => lhs; unfold kvIns; rw [if_neg h]
      rw [e1, List.map_cons, DataW.insert, List.map_cons, ← ih]
      exact if_neg h
theorem mapD_put (k : Bytes) (v : Value) (l : List (Bytes × Value)) : (mapD l).put (.string k) (.held v) = mapD (kvPut k v l) := by
  unfold mapD DataW.put kvPut
  simp only
  rw [← kvIns_map]
  congr 2
  rw [List.filter_map]
  rfl
theorem mapD_at (k : Bytes) (d : DataW Value) (l : List (Bytes × Value)) : (mapD l).atKey (.string k) d = match kvGet k l with | some v => .held v | none => d := by
  unfold mapD DataW.atKey kvGet
  simp only
  rw [List.find?_map]
  have : ((fun p : Lit × DataW Value => p.1.sameKey (Lit.string k)) ∘ fun p : Bytes × Value => (Lit.string p.1, DataW.held p.2)) = fun p => p.1 == k := rfl
  rw [this]
  cases l.find? (fun p => p.1 == k) <;> rfl

theorem keyed9 : Keyed Tryz.prog 9 := Maps.string_keyed Tryz.underlying9
theorem key_str (k : Bytes) (hk : k.length ≤ maxLen) : keyOf Tryz.prog 9 (.string (str k)) = some (.string k) := by
  have := WideMaps.keyOf_string_mk (P := Tryz.prog) (k := 9) Tryz.underlying9 (s := str k) (by rw [str_size]; exact hk)
  rw [this]; rfl
theorem zero41 (w : World) : (zeroValue 41).run Tryz.prog w = .ok (.slice none 0 0) w := by kernel_rfl
theorem MP.made (w : World) : MP (w.alloc (.map #[] 0)) w.heap.size 0 [] := World.ownsMap_made w Tryz.prog 9 RV
theorem MP.lookup {w : World} {b n : Nat} {kvs : List (Bytes × Value)} (h : MP w b n kvs) (k : Bytes) (hk : k.length ≤ maxLen) :
    (Instr.lookup 114 (.map (some b)) (.string (str k)) false).run Tryz.prog w = .ok ((kvGet k kvs).getD (.slice none 0 0)) w := by
  obtain ⟨v, ps, h1, h2⟩ := World.ownsMap.lookup h keyed9 (t := 114) (e := 41) Tryz.underlying114 (zero41 w) (zd := .held (.slice none 0 0)) (zp := []) rfl (key_str k hk)
  rw [h1]
  rw [mapD_at] at h2
  have h3 : DataW.held v = (match kvGet k kvs with | some v => DataW.held v | none => DataW.held (.slice none 0 0)) := (Prod.mk.inj (Option.some.inj h2)).1
  clear h2
  cases hg : kvGet k kvs with
  | none => rw [hg] at h3; rw [DataW.held.inj h3]; rfl
  | some u => rw [hg] at h3; rw [DataW.held.inj h3]; rfl
theorem wpList_put {w : World} {ops : Array Oper} {rest : List Oper} {o : Oper} {a : Act} {Q : Exit → Act → World → Prop} (hg : o.guard = none) (m x v : Operand) (hop : o.op = Op.mapUpdate 114 m x v)
    (b n : Nat) (kvs : List (Bytes × Value)) (hm : a.eval m = .map (some b)) (h : MP w b n kvs) (hn : n < maxLen) (k : Bytes) (val : Value) (hx : a.eval x = .string (str k)) (hv : a.eval v = val) (hk : k.length ≤ maxLen)
    (hK : ∀ w', MP w' b (n + 1) (kvPut k val kvs) → w.grownBy w' (some b) → wpList Tryz.prog ops Q rest (a.put o.dst undef) w') : wpList Tryz.prog ops Q (o :: rest) a w :=
  wpList_mapUpdate_own w hg m x v 114 hop 9 41 keyed9 Tryz.underlying114 RV b n (mapD kvs) hm h hn (.string (str k)) val (.string k) hx hv (key_str k hk) (.held val) [] rfl (fun w' h1 h2 => hK w' (by unfold MP; rw [← mapD_put]; exact h1) h2)
theorem MP.kp {S : List Nat} {w w' : World} {b n : Nat} {kvs : List (Bytes × Value)} (h : MP w b n kvs) (k : Kp S w w') (hb : b ∉ S) : MP w' b n kvs := by
  obtain ⟨es, clock, h1, rest⟩ := h
  refine ⟨es, clock, ?_, rest⟩
  rw [k.block b (Array.getElem?_eq_some_iff.1 h1).1 hb]; exact h1
theorem MP.lt {w : World} {b n : Nat} {kvs : List (Bytes × Value)} (h : MP w b n kvs) : b < w.heap.size := World.ownsMap.lt h
end Go.Proofs.YtkbgnplknifmhaaGreatDoor
namespace Go.Proofs.YtkbgnplknifmhaaGreatDoor
open Go.RowKit

/-! ### Rows of texts (type 41, elements of type 9) -/
def S1 (s : Bytes) : Value := .string (str s)
def OV (w : World) (base : Nat) (v : Value) (vs : List Bytes) : Prop := w.ownsRow base 9 1 v vs.length (vs.map S1)
theorem elem41 : Tryz.prog.underlying 41 = some (.slice 9) := Tryz.underlying41
theorem ti9 : ∃ i, Tryz.prog.info? 9 = some i ∧ i.zero = some (.string ⟨#[]⟩) ∧ i.size = 1 ∧ i.bytes = 16 := by
  have h : (Tryz.prog.info? 9).map (fun i => (i.zero, i.size, i.bytes)) = some (some (.string ⟨#[]⟩), 1, 16) := by kernel_rfl
  obtain ⟨i, h1, h2⟩ := Option.map_eq_some_iff.1 h
  injection h2 with h2 h3
  injection h3 with h3 h4
  exact ⟨i, h1, h2, h3, h4⟩
/-- The slice shows these texts. -/
structure SV (w : World) (v : Value) (vs : List Bytes) : Prop where
  ex : ∃ a c, v = .slice a vs.length c ∧ vs.length ≤ c ∧ (a = none → c = 0) ∧ (∀ x, a = some x → ∃ b o, x = ⟨b, o, none⟩) ∧ ∀ i, i < vs.length → w.cell? (at_ a i) = some (S1 (vs.getD i []))
/-- How a header's values lie: a row of their own, or one place of the block sb that all share. -/
inductive VV (w : World) (sb used : Nat) (v : Value) (vs : List Bytes) : Prop
  | own (h : OV w 0 v vs) (hb : v.ownBlock ≠ some sb)
  | sh (o : Nat) (hv : v = .slice (some ⟨sb, o, none⟩) 1 1) (ho : o < used) (s : Bytes) (hvs : vs = [s]) (hc : w.cell? ⟨sb, o, none⟩ = some (S1 s))
/-- The blocks that an append to v may turn. -/
def turns (sb : Nat) (v : Value) : List Nat := v.ownBlock.toList.filter (· ≠ sb)
theorem mem_turns {sb b : Nat} {v : Value} : b ∈ turns sb v ↔ v.ownBlock = some b ∧ b ≠ sb := by
  unfold turns; simp
theorem OV.kp {S : List Nat} {w w' : World} {base : Nat} {v : Value} {vs : List Bytes} (h : OV w base v vs) (k : Kp S w w') (hS : ∀ b ∈ S, v.ownBlock ≠ some b) : OV w' base v vs := by
  refine ⟨h.1, ?_⟩
  rcases h.2 with h0 | ⟨g, cap, cur, rfl, hb, hg, rest⟩
  · exact .inl h0
  · refine .inr ⟨g, cap, cur, rfl, hb, ?_, rest⟩
    rw [k.block g (Array.getElem?_eq_some_iff.1 hg).1 (fun e => hS g e rfl)]; exact hg
theorem OV.base {w : World} {base base' : Nat} {v : Value} {vs : List Bytes} (h : OV w base v vs) (hb : base' ≤ base) : OV w base' v vs := by
  refine ⟨h.1, ?_⟩
  rcases h.2 with h0 | ⟨g, cap, cur, rfl, hb2, rest⟩
  · exact .inl h0
  · exact .inr ⟨g, cap, cur, rfl, Nat.le_trans hb hb2, rest⟩
theorem VV.kp {S : List Nat} {w w' : World} {sb used : Nat} {v : Value} {vs : List Bytes} (h : VV w sb used v vs) (k : Kp S w w') (hS : ∀ b ∈ S, v.ownBlock ≠ some b) : VV w' sb used v vs := by
  cases h with
  | own h hb => exact .own (h.kp k hS) hb
  | sh o hv ho s hvs hc =>
    subst hv
    exact .sh o rfl ho s hvs (cell_kp' hc k (fun e => hS sb e rfl))
where
  cell_kp' {S : List Nat} {w w' : World} {b o : Nat} {v : Value} (h : w.cell? ⟨b, o, none⟩ = some v) (k : Kp S w w') (hb : b ∉ S) : w'.cell? ⟨b, o, none⟩ = some v := by
    rw [← h]; exact World.cell?_of_block (w := w) (k.block b (World.block_lt_of_cell? w _ h) hb)
theorem VV.sv {w : World} {sb used : Nat} {v : Value} {vs : List Bytes} (h : VV w sb used v vs) : SV w v vs := by
  cases h with
  | own h hb =>
    rcases h.2 with ⟨rfl, h0⟩ | ⟨g, cap, cur, rfl, hb, hg, hnc, hcm, hcs, htake⟩
    · have : vs = [] := List.eq_nil_of_length_eq_zero h0
      subst this
      exact ⟨none, 0, rfl, Nat.le_refl _, fun _ => rfl, by simp, by simp⟩
    · refine ⟨_, cap, rfl, hnc, by simp, by intro x hx; injection hx with hx; exact ⟨_, _, hx.symm⟩, fun i hi => ?_⟩
      have := World.ownsRow.cellAt h (j := i) (by omega)
      rw [at_mk, Nat.zero_add, this, List.getElem?_map, List.getElem?_eq_getElem hi, List.getD_eq_getElem?_getD, List.getElem?_eq_getElem hi]
      rfl
  | sh o hv ho s hvs hc =>
    subst hv; subst hvs
    refine ⟨_, 1, rfl, Nat.le_refl _, by simp, by intro x hx; injection hx with hx; exact ⟨_, _, hx.symm⟩, fun i hi => ?_⟩
    have : i = 0 := by simp at hi; exact hi
    subst this
    rw [at_mk]; exact hc

theorem run_append_VV (w : World) (ty : TypeId) (sb used : Nat) (v : Value) (vs : List Bytes) (h : VV w sb used v vs) (hsb : sb < w.heap.size) (g : Nat) (s : Bytes) (hs : w.cell? ⟨g, 0, none⟩ = some (S1 s)) (hl : vs.length ≤ 100000) :
    ∃ v' w', (Builtin.append_ #[41, 41] ty #[v, .slice (some ⟨g, 0, none⟩) 1 1]).run Tryz.prog w = .ok v' w' ∧ VV w' sb used v' (vs ++ [s]) ∧ Kp (turns sb v) w w' ∧ (∀ b, v'.ownBlock = some b → b ≠ sb ∧ (v.ownBlock = some b ∨ w.heap.size ≤ b)) := by
  obtain ⟨i, h1, h2, h3, h4⟩ := ti9
  have hnews : ∀ j u, ([S1 s] : List Value)[j]? = some u → w.cell? ((⟨g, 0, none⟩ : Addr).add j) = some u := by
    intro j u hj
    cases j with
    | zero => simp at hj; subst hj; simpa [Addr.add] using hs
    | succ j => simp at hj
  have hone : ∀ u ∈ ([S1 s] : List Value), u.oneCell' = true := by intro u hu; simp at hu; subst hu; rfl
  have big : ∀ (v : Value) (n cap : Nat) (gg oo : Nat) (olds : List Value), olds.length = n → (∀ j u, olds[j]? = some u → w.cell? ((⟨gg, oo, none⟩ : Addr).add j) = some u) → cap < n + 1 → n ≤ 100000 → olds = vs.map S1 → n = vs.length → v = .slice (some ⟨gg, oo, none⟩) n cap →
      ∃ v' w', (Builtin.append_ #[41, 41] ty #[v, .slice (some ⟨g, 0, none⟩) 1 1]).run Tryz.prog w = .ok v' w' ∧ VV w' sb used v' (vs ++ [s]) ∧ Kp (turns sb v) w w' ∧ (∀ b, v'.ownBlock = some b → b ≠ sb ∧ (v.ownBlock = some b ∨ w.heap.size ≤ b)) := by
    intro v n cap gg oo olds hlo holds hfull hn ho hnv hv
    obtain ⟨v', w', e1, e2, e3⟩ := run_append_arg_grows (P := Tryz.prog) w 41 ty 9 i _ 1 16 elem41 h1 h2 h3 h4 rfl (by decide) ⟨gg, oo, none⟩ n cap olds (by simpa using hlo) holds ⟨g, 0, none⟩ 1 1 [S1 s] rfl hnews hfull (by unfold maxLen; omega) (by omega)
    have hkeep : OV w' w.heap.size v' (vs ++ [s]) := by
      unfold OV
      rw [List.length_append, List.map_append, ← ho, ← hnv]
      exact e2
    have hnew : ∀ b, v'.ownBlock = some b → w.heap.size ≤ b := fun b hb => (World.ownsRow.lt hkeep b hb).1
    exact ⟨v', w', by rw [hv]; exact e1, .own (hkeep.base (Nat.zero_le _)) (fun e => by have := hnew _ e; omega), (Kp.refl _ w).grown e3 (by simp), fun b hb => ⟨by have := hnew b hb; omega, .inr (hnew b hb)⟩⟩
  cases h with
  | own h hb =>
    rcases h.2 with ⟨hv, h0⟩ | ⟨gg, cap, cur, hv, hbb, hg, hnc, hcm, hcs, htake⟩
    · have : vs = [] := List.eq_nil_of_length_eq_zero h0
      subst this; subst hv
      obtain ⟨v', w', e1, e2, e3, _⟩ := run_append_own (P := Tryz.prog) w w.heap.size 41 ty 9 i _ 1 16 elem41 h1 h2 h3 h4 rfl (by decide) (.slice none 0 0) 0 [] (World.ownsRow_nil w _ 9 1) ⟨g, 0, none⟩ 1 1 [S1 s] rfl hnews hone (by unfold maxLen; omega) (by omega) (Nat.le_refl _)
      have hkeep : OV w' w.heap.size v' ([] ++ [s]) := by unfold OV; simpa using e2
      have hnew : ∀ b, v'.ownBlock = some b → w.heap.size ≤ b := fun b hb => (World.ownsRow.lt hkeep b hb).1
      exact ⟨v', w', e1, .own (hkeep.base (Nat.zero_le _)) (fun e => by have := hnew _ e; omega), (Kp.refl _ w).grown e3 (by intro k hk; simp [Value.ownBlock] at hk), fun b hb => ⟨by have := hnew b hb; omega, .inr (hnew b hb)⟩⟩
    · have hown' : w.ownsRow 0 9 1 (.slice (some ⟨gg, 0, none⟩) vs.length cap) vs.length (vs.map S1) := hv ▸ h
      by_cases hfit : vs.length + 1 ≤ cap
      · obtain ⟨w', e1, e2, e3⟩ := run_append_fits (P := Tryz.prog) w 0 41 ty 9 i 1 elem41 h1 h3 gg vs.length cap _ hown' ⟨g, 0, none⟩ 1 1 [S1 s] rfl hnews hone hfit
        subst hv
        have hgs : gg ≠ sb := fun e => hb (by rw [← e]; rfl)
        refine ⟨_, w', e1, .own ?_ (by intro e; apply hgs; injection e), (Kp.refl _ w).grown e3 (by intro k hk; left; exact mem_turns.2 ⟨hk, by injection hk with hk; rw [← hk]; exact hgs⟩), fun b hb => ⟨by injection hb with hb; rw [← hb]; exact hgs, .inl hb⟩⟩
        unfold OV
        rw [List.length_append, List.map_append]
        exact e2
      · refine big v vs.length cap gg 0 (vs.map S1) (by simp) (fun j u hj => ?_) (by omega) hl rfl rfl hv
        have hj' : j < vs.length := by have := (List.getElem?_eq_some_iff.1 hj).1; simpa using this
        have := World.ownsRow.cellAt hown' j (by omega)
        rw [Addr.add_lit, Nat.zero_add, this]; exact hj
  | sh o hv ho s0 hvs hc =>
    subst hvs
    refine big v 1 1 sb o [S1 s0] rfl (fun j u hj => ?_) (by omega) (by omega) rfl rfl hv
    cases j with
    | zero => simp at hj; subst hj; simpa [Addr.add] using hc
    | succ j => simp at hj
end Go.Proofs.YtkbgnplknifmhaaGreatDoor
namespace Go.Proofs.YtkbgnplknifmhaaGreatDoor
open Go.RowKit

/-- A header with a value more. -/
def hAdd (k s : Bytes) (hs : List (Bytes × List Bytes)) : List (Bytes × List Bytes) := kvPut k ((kvGet k hs).getD [] ++ [s]) hs
/-- What a header's map and its values' rows are, while it is built. -/
structure HI (w : World) (mb sb used cnt base : Nat) (vb : Value) (kvs : List (Bytes × Value)) (hs : List (Bytes × List Bytes)) : Prop where
  mp : MP w mb cnt kvs
  two : Two (fun v vs => VV w sb used v vs ∧ vs ≠ [] ∧ vs.length ≤ cnt) kvs hs
  sep : ∀ p ∈ kvs, ∀ q ∈ kvs, p.1 ≠ q.1 → ∀ b, p.2.ownBlock = some b → q.2.ownBlock = some b → b = sb
  new : ∀ p ∈ kvs, ∀ b, p.2.ownBlock = some b → base ≤ b ∧ b ≠ mb
  ms : mb ≠ sb
  mbase : base ≤ mb
  slt : sb < w.heap.size
  vsep : ∀ b, vb.ownBlock = some b → b ≠ mb ∧ b ≠ sb ∧ ∀ p ∈ kvs, p.2.ownBlock ≠ some b
theorem VV.lt {w : World} {sb used : Nat} {v : Value} {vs : List Bytes} (h : VV w sb used v vs) (hs : sb < w.heap.size) : ∀ b, v.ownBlock = some b → b < w.heap.size := by
  intro b hb
  cases h with
  | own h _ => exact (World.ownsRow.lt h b hb).2
  | sh o hv ho s hvs hc => subst hv; injection hb with hb; rw [← hb]; exact hs
theorem Two.mem {α β : Type} {r : α → β → Prop} {l : List (Bytes × α)} {m : List (Bytes × β)} (h : Two r l m) : ∀ p ∈ l, ∃ b, r p.2 b := by
  induction h with
  | nil => intro p hp; simp at hp
  | cons k a b l m h t ih =>
    intro p hp
    simp at hp
    rcases hp with rfl | hp
    · exact ⟨b, h⟩
    · exact ih p hp
section
variable {w w' : World} {mb sb used cnt base : Nat} {vb : Value} {kvs : List (Bytes × Value)} {hs : List (Bytes × List Bytes)}
theorem HI.lts (h : HI w mb sb used cnt base vb kvs hs) : ∀ p ∈ kvs, ∀ b, p.2.ownBlock = some b → b < w.heap.size := by
  intro p hp b hb
  obtain ⟨vs, hv, _⟩ := h.two.mem p hp
  exact hv.lt h.slt b hb
theorem HI.kp {S : List Nat} (h : HI w mb sb used cnt base vb kvs hs) (k : Kp S w w') (hm : mb ∉ S) (hS : ∀ b ∈ S, ∀ p ∈ kvs, p.2.ownBlock ≠ some b) {vb' : Value}
    (hv : ∀ b, vb'.ownBlock = some b → vb.ownBlock = some b ∨ w.heap.size ≤ b) : HI w' mb sb used cnt base vb' kvs hs := by
  have hml := h.mp.lt
  have hsl := h.slt
  refine ⟨h.mp.kp k hm, h.two.mono (fun p hp b ⟨h1, h2, h3⟩ => ⟨h1.kp k (fun x hx => hS x hx p hp), h2, h3⟩), h.sep, h.new, h.ms, h.mbase, Nat.lt_of_lt_of_le h.slt k.size, fun b hb => ?_⟩
  rcases hv b hb with h1 | h1
  · exact h.vsep b h1
  · exact ⟨by omega, by omega, fun p hp e => by have := h.lts p hp b e; omega⟩
/-- No key yet: the value goes into the next place of the shared block. -/
theorem HI.addS (h : HI w mb sb used cnt base vb kvs hs) (k s : Bytes) (_hk : kvGet k kvs = none) (k1 : Kp [sb] w w') (hsame : ∀ o, o < used → w'.cell? ⟨sb, o, none⟩ = w.cell? ⟨sb, o, none⟩) (hc : w'.cell? ⟨sb, used, none⟩ = some (S1 s)) :
    HI w' mb sb (used + 1) cnt base vb kvs hs ∧ VV w' sb (used + 1) (.slice (some ⟨sb, used, none⟩) 1 1) [s] := by
  have hcv : ∀ p ∈ kvs, ∀ vs, VV w sb used p.2 vs → VV w' sb (used + 1) p.2 vs := by
    intro p hp vs hv
    cases hv with
    | own h1 hb => exact .own (h1.kp k1 (fun b hb' e => by simp at hb'; subst hb'; exact hb e)) hb
    | sh o hv ho s' hvs hc' => exact .sh o hv (by omega) s' hvs (by rw [hsame o ho]; exact hc')
  refine ⟨⟨h.mp.kp k1 (by simp; exact h.ms), h.two.mono (fun p hp b ⟨h1, h2, h3⟩ => ⟨hcv p hp b h1, h2, h3⟩), h.sep, h.new, h.ms, h.mbase, Nat.lt_of_lt_of_le h.slt k1.size, h.vsep⟩, .sh used rfl (Nat.lt_succ_self _) s rfl hc⟩
/-- The map's turn: a key gets a value's slice that lies apart from all others. -/
theorem HI.put (h : HI w mb sb used cnt base vb kvs hs) (k : Bytes) (v : Value) (vs : List Bytes) (hv : VV w sb used v vs) (hvs : vs ≠ []) (hlen : vs.length ≤ cnt + 1)
    (hap : ∀ b, v.ownBlock = some b → base ≤ b ∧ b ≠ mb ∧ (∀ q ∈ kvs, q.1 ≠ k → q.2.ownBlock = some b → b = sb) ∧ vb.ownBlock ≠ some b)
    (hmp : MP w' mb (cnt + 1) (kvPut k v kvs)) (hk : Kp [mb] w w') : HI w' mb sb used (cnt + 1) base vb (kvPut k v kvs) (kvPut k vs hs) := by
  have hmb : ∀ p ∈ kvs, p.2.ownBlock ≠ some mb := fun p hp e => (h.new p hp mb e).2 rfl
  have htwo : Two (fun v vs => VV w' sb used v vs ∧ vs ≠ [] ∧ vs.length ≤ cnt + 1) kvs hs := h.two.mono (fun p hp b ⟨h1, h2, h3⟩ => ⟨h1.kp hk (fun x hx => by simp at hx; subst hx; exact hmb p hp), h2, by omega⟩)
  have hv' : VV w' sb used v vs := hv.kp hk (fun x hx e => by simp at hx; subst hx; exact (hap _ e).2.1 rfl)
  refine ⟨hmp, htwo.put k v vs ⟨hv', hvs, hlen⟩, ?_, ?_, h.ms, h.mbase, Nat.lt_of_lt_of_le h.slt hk.size, ?_⟩
  · intro p hp q hq hpq b h1 h2
    rw [mem_kvPut] at hp hq
    rcases hp with rfl | ⟨hp, hpk⟩
    · rcases hq with rfl | ⟨hq, hqk⟩
      · exact absurd rfl hpq
      · exact (hap b h1).2.2.1 q hq hqk h2
    · rcases hq with rfl | ⟨hq, hqk⟩
      · exact (hap b h2).2.2.1 p hp hpk h1
      · exact h.sep p hp q hq hpq b h1 h2
  · intro p hp b hb
    rw [mem_kvPut] at hp
    rcases hp with rfl | ⟨hp, _⟩
    · exact ⟨(hap b hb).1, (hap b hb).2.1⟩
    · exact h.new p hp b hb
  · intro b hb
    obtain ⟨h1, h2, h3⟩ := h.vsep b hb
    refine ⟨h1, h2, fun p hp e => ?_⟩
    rw [mem_kvPut] at hp
    rcases hp with rfl | ⟨hp, _⟩
    · exact (hap b e).2.2.2 hb
    · exact h3 p hp e
/-- The values of a key so far, as a slice. -/
theorem HI.get (h : HI w mb sb used cnt base vb kvs hs) (k : Bytes) : VV w sb used ((kvGet k kvs).getD (.slice none 0 0)) ((kvGet k hs).getD []) ∧ ((kvGet k hs).getD []).length ≤ cnt ∧ (∀ b, ((kvGet k kvs).getD (.slice none 0 0)).ownBlock = some b → base ≤ b ∧ b ≠ mb ∧ b < w.heap.size ∧ (∀ q ∈ kvs, q.1 ≠ k → q.2.ownBlock = some b → b = sb) ∧ vb.ownBlock ≠ some b) ∧
    (kvGet k kvs = none → kvGet k hs = none) ∧ (∀ v, kvGet k kvs = some v → ∃ a n c, v = .slice (some a) n c) := by
  rcases h.two.get k with ⟨h1, h2⟩ | ⟨v, vs, h1, h2, ⟨h3, h4, h5⟩, h6⟩
  · rw [h1, h2]
    exact ⟨.own (World.ownsRow_nil w 0 9 1) (by simp [Value.ownBlock]), Nat.zero_le _, by simp [Value.ownBlock], fun _ => rfl, by simp⟩
  · rw [h1, h2]
    refine ⟨h3, h5, fun b hb => ⟨(h.new _ h6 b hb).1, (h.new _ h6 b hb).2, h.lts _ h6 b hb, fun q hq hqk e => h.sep _ h6 q hq (fun e2 => hqk e2.symm) b hb e, fun e => (h.vsep b e).2.2 _ h6 hb⟩, by simp, fun v' hv' => ?_⟩
    injection hv' with hv'
    subst hv'
    obtain ⟨a, c, e1, e2, e3, e4, e5⟩ := h3.sv.ex
    cases a with
    | none =>
      exfalso
      cases h3 with
      | own ho hb =>
        rcases ho.2 with ⟨_, h0⟩ | ⟨g, cap, cur, hv, _⟩
        · exact h4 (List.eq_nil_of_length_eq_zero h0)
        · rw [e1] at hv; injection hv with hv; cases hv
      | sh o hv => rw [e1] at hv; injection hv with hv; cases hv
    | some x => exact ⟨x, _, _, e1⟩
end
end Go.Proofs.YtkbgnplknifmhaaGreatDoor
