/-
  Walks and facts for the mailparts program.
-/
import Derived.Test.YtkbgnplknifmhaaGreatDoorKRd1ToPure7
import Derived.Test.YtkbgnplknifmhaaGreatDoorKSp5ToPure6
import Derived.Test.YtkbgnplknifmhaaGreatDoorKNr1ToSp3
namespace Go.Proofs.YtkbgnplknifmhaaGreatDoor
open Go.RowKit
/-! ### What the comparisons read -/
theorem SV.kp0 {w w' : World} {v : Value} {vs : List Bytes} (h : SV w v vs) (k : Kp [] w w') : SV w' v vs := by
  obtain ⟨a, c, e, h1, h2, h3, h4⟩ := h.ex
  exact ⟨a, c, e, h1, h2, h3, fun i hi => by
    have := h4 i hi
    rw [← this]
    exact World.cell?_of_block (w := w) (k.block _ (World.block_lt_of_cell? w _ this) (by simp))⟩
theorem OV.sv {w : World} {base : Nat} {v : Value} {vs : List Bytes} (h : OV w base v vs) : SV w v vs :=
  (VV.own (sb := w.heap.size) (used := 0) (h.base (Nat.zero_le _)) (fun e => by have := (h.type _ e).1; omega)).sv
theorem SV.open {w : World} {v : Value} {vs : List Bytes} (h : SV w v vs) : ∃ a c, v = .slice a vs.length c ∧ (∀ i, i < vs.length → w.cell? (at_ a i) = some (.string (str (vs.getD i [])))) ∧
    ∀ i, i < vs.length → ∀ w : World, (Instr.indexAt 41 (.slice a vs.length c) (.int .i64 (i : Int))).run Tryz.prog w = .ok (.pointer (some (at_ a i))) w := by
  obtain ⟨a, c, e, h1, h2, h3, h4⟩ := h.ex
  refine ⟨a, c, e, h4, fun i hi w => ?_⟩
  cases a with
  | none => have := h2 rfl; omega
  | some x =>
    rw [run_indexAt_slice _ _ _ _ _ _ _ isSlice41]
    simp [hi, elem41_eq, at_]
/-- A header, as it is read. -/
structure HView (w : World) (v : Value) (hs : HL) : Prop where
  ex : (hs = [] ∧ ∃ a c, v = .slice a 0 c) ∨ ∃ g c, v = .slice (some ⟨g, 0, none⟩) hs.length c ∧ ∀ i p, hs[i]? = some p → ∃ u, w.cell? ⟨g, i * 2, none⟩ = some (S1 p.1) ∧ w.cell? ⟨g, i * 2 + 1, none⟩ = some u ∧ SV w u p.2
theorem HView.kp0 {w w' : World} {v : Value} {hs : HL} (h : HView w v hs) (k : Kp [] w w') : HView w' v hs := by
  rcases h.ex with h0 | ⟨g, c, e, h1⟩
  · exact ⟨.inl h0⟩
  · have hc : ∀ {x : Addr} {u : Value}, w.cell? x = some u → w'.cell? x = some u := fun {x u} hx => by
      rw [← hx]; exact World.cell?_of_block (w := w) (k.block _ (World.block_lt_of_cell? w _ hx) (by simp))
    exact ⟨.inr ⟨g, c, e, fun i p hp => by
      obtain ⟨u, h2, h3, h4⟩ := h1 i p hp
      exact ⟨u, hc h2, hc h3, h4.kp0 k⟩⟩⟩
theorem HLx.view {w : World} {base : Nat} {v : Value} {svs : List (Bytes × Value)} {hs : HL} (h : HLx w base v svs hs) : HView w v hs := by
  have hl := h.two.len
  rcases h.row.2 with ⟨rfl, h0⟩ | ⟨g, cap, cur, rfl, hb, rest⟩
  · exact ⟨.inl ⟨List.eq_nil_of_length_eq_zero (by omega), none, 0, rfl⟩⟩
  · refine ⟨.inr ⟨g, cap, by rw [hl], fun i p hp => ?_⟩⟩
    have hi : i < svs.length := by rw [hl]; exact (List.getElem?_eq_some_iff.1 hp).1
    obtain ⟨q, hq⟩ : ∃ q, svs[i]? = some q := ⟨_, List.getElem?_eq_getElem hi⟩
    obtain ⟨vs, h1, h2⟩ := h.two.at_ i q hq
    rw [hp] at h1
    injection h1 with h1
    obtain ⟨h3, h4⟩ := flat_get svs i q hq
    refine ⟨q.2, ?_, ?_, ?_⟩
    · have := World.ownsRow.cellAt h.row (i * 2) (by omega)
      rw [this, h3, h1]
    · have := World.ownsRow.cellAt h.row (i * 2 + 1) (by omega)
      rw [this, h4]
    · rw [h1]; exact h2.sv
/-- Bytes, as they are read. -/
structure BView (w : World) (v : Value) (l : Bytes) : Prop where
  ex : ∃ a c, v = .slice a l.length c ∧ HB w a l ∧ (a = none → c = 0)
theorem BView.kp0 {w w' : World} {v : Value} {l : Bytes} (h : BView w v l) (k : Kp [] w w') : BView w' v l := by
  obtain ⟨a, c, e, h1, h2⟩ := h.ex
  exact ⟨a, c, e, h1.kp k (by simp), h2⟩
theorem Sub.view {w : World} {a0 : Option Addr} {l : Bytes} {v : Value} (h : Sub w a0 l v) : BView w v l := by
  obtain ⟨a, c, h1, h2, h3, h4, h5⟩ := h.ex
  exact ⟨a, c, h1, h2, h5⟩
/-- Parts, as they are read. -/
structure PView (w : World) (v : Value) (ps : PL) : Prop where
  ex : (ps = [] ∧ ∃ a c, v = .slice a 0 c) ∨ ∃ g c, v = .slice (some ⟨g, 0, none⟩) ps.length c ∧ ∀ i p, ps[i]? = some p → ∃ hv bv, w.cell? ⟨g, i * 2, none⟩ = some hv ∧ w.cell? ⟨g, i * 2 + 1, none⟩ = some bv ∧ HView w hv p.1 ∧ BView w bv p.2
theorem PView.kp0 {w w' : World} {v : Value} {ps : PL} (h : PView w v ps) (k : Kp [] w w') : PView w' v ps := by
  rcases h.ex with h0 | ⟨g, c, e, h1⟩
  · exact ⟨.inl h0⟩
  · have hc : ∀ {x : Addr} {u : Value}, w.cell? x = some u → w'.cell? x = some u := fun {x u} hx => by
      rw [← hx]; exact World.cell?_of_block (w := w) (k.block _ (World.block_lt_of_cell? w _ hx) (by simp))
    exact ⟨.inr ⟨g, c, e, fun i p hp => by
      obtain ⟨hv, bv, h2, h3, h4, h5⟩ := h1 i p hp
      exact ⟨hv, bv, hc h2, hc h3, h4.kp0 k, h5.kp0 k⟩⟩⟩
theorem PR.view {w : World} {base : Nat} {v : Value} {xs : List (Value × Value)} {ps : PL} (h : PR w base v xs) (h2 : All2 (fun x p => HView w x.1 p.1 ∧ BView w x.2 p.2) xs ps) : PView w v ps := by
  have hl := h2.len
  rcases h.2 with ⟨rfl, h0⟩ | ⟨g, cap, cur, rfl, hb, rest⟩
  · exact ⟨.inl ⟨List.eq_nil_of_length_eq_zero (by omega), none, 0, rfl⟩⟩
  · refine ⟨.inr ⟨g, cap, by rw [hl], fun i p hp => ?_⟩⟩
    obtain ⟨q, hq, h3, h4⟩ := h2.at_ i p hp
    have hi : i < xs.length := (List.getElem?_eq_some_iff.1 hq).1
    obtain ⟨h5, h6⟩ := flatP_get xs i q hq
    refine ⟨q.1, q.2, ?_, ?_, h3, h4⟩
    · have := World.ownsRow.cellAt h (i * 2) (by omega)
      rw [this, h5]
    · have := World.ownsRow.cellAt h (i * 2 + 1) (by omega)
      rw [this, h6]
theorem PVx.view {w0 w : World} {a0 : Option Addr} {v : Value} {ps : PL} (h : PVx w0 w a0 v ps) {S : List Nat} (k : Kp S w0 w) (hS : ∀ x ∈ S, w0.heap.size ≤ x) : PView w v ps := by
  obtain ⟨xs, h1, h2⟩ := h.ex
  refine h1.view (h2.mono (fun x hx p ⟨⟨svs, h3⟩, h4⟩ => ⟨h3.view, ?_⟩))
  obtain ⟨a, c, e1, e2, e3, e4, e5⟩ := h4.ex
  exact ⟨a, c, e1, e2.fwd k hS, e5⟩
end Go.Proofs.YtkbgnplknifmhaaGreatDoor
namespace Go.Proofs.YtkbgnplknifmhaaGreatDoor
open Go.RowKit
/-! ### The parts that the program gives -/
/-- Blocks that are older than the base, newer than the world, or a part's own. -/
def Clr (w : World) (base : Nat) (S : List Nat) : Prop := ∀ x ∈ S, x < base ∨ w.heap.size ≤ x ∨ ∃ cur, w.heap[x]? = some (.cells cur 117 (0, 0))
theorem Clr.off {w : World} {base : Nat} {S : List Nat} (h : Clr w base S) {x : Nat} (hx : x ∈ S) {cur : Array Value} {t : TypeId} (h1 : base ≤ x) (h2 : w.heap[x]? = some (.cells cur t (0, 0))) (ht : t ≠ 117) : False := by
  rcases h x hx with h | h | ⟨c, h⟩
  · omega
  · have := (Array.getElem?_eq_some_iff.1 h2).1
    omega
  · rw [h] at h2
    injection h2 with h2
    injection h2 with _ h2
    exact ht h2.symm
/-- Bytes in a block of the call's own. -/
structure BVw (w : World) (base : Nat) (v : Value) (l : Bytes) : Prop where
  ex : ∃ a c, v = .slice a l.length c ∧ HB w a l ∧ (a = none → c = 0) ∧ ∀ x, a = some x → base ≤ x.block ∧ ∃ cur, w.heap[x.block]? = some (.cells cur 5 (0, 0))
theorem BVw.view {w : World} {base : Nat} {v : Value} {l : Bytes} (h : BVw w base v l) : BView w v l := by
  obtain ⟨a, c, e, h1, h2, _⟩ := h.ex
  exact ⟨a, c, e, h1, h2⟩
theorem BVw.keep {S : List Nat} {w w' : World} {base : Nat} {v : Value} {l : Bytes} (h : BVw w base v l) (k : Kp S w w') (hS : ∀ x ∈ S, ∀ cur, base ≤ x → w.heap[x]? = some (.cells cur 5 (0, 0)) → False) : BVw w' base v l := by
  obtain ⟨a, c, e, h1, h2, h3⟩ := h.ex
  refine ⟨a, c, e, h1.kp k (fun x hx hm => ?_), h2, fun x hx => ?_⟩
  · obtain ⟨h4, cur, h5⟩ := h3 x hx
    exact hS _ hm cur h4 h5
  · obtain ⟨h4, cur, h5⟩ := h3 x hx
    refine ⟨h4, cur, ?_⟩
    rw [k.block _ (Array.getElem?_eq_some_iff.1 h5).1 (fun hm => hS _ hm cur h4 h5)]
    exact h5
theorem BVw.one {w : World} {base : Nat} {v : Value} {l : Bytes} (h : BVw w base v l) : v.oneCell' = true := by
  obtain ⟨a, c, rfl, _⟩ := h.ex
  rfl
theorem OB.bvw {w : World} {base : Nat} {v : Value} {l : Bytes} (h : OB w base v l) : BVw w base v l := by
  obtain ⟨a, c, e, h1, h2, h3, h4⟩ := h.len
  subst e
  rcases h.2 with ⟨e, h0⟩ | ⟨g, cap, cur, e, hb, hg, _⟩
  · injection e with e1 e2 e3
    subst e1; subst e3
    exact ⟨_, _, rfl, h3, fun _ => rfl, by simp⟩
  · injection e with e1 e2 e3
    subst e1; subst e3
    refine ⟨_, _, rfl, h3, by simp, fun x hx => ?_⟩
    injection hx with hx
    subst hx
    exact ⟨hb, cur, hg⟩
theorem HLx.keep {S : List Nat} {w w' : World} {base : Nat} {v : Value} {svs : List (Bytes × Value)} {hs : HL} (h : HLx w base v svs hs) (k : Kp S w w') (hS : ∀ x ∈ S, ∀ cur t, base ≤ x → w.heap[x]? = some (.cells cur t (0, 0)) → t = 43 ∨ t = 9 → False) : HLx w' base v svs hs :=
  h.kp k (fun b hb e => by
    obtain ⟨_, h1, cur, h2⟩ := h.row.type b e
    exact hS b hb cur 43 h1 h2 (.inl rfl)) (fun p hp b hb e => by
    obtain ⟨vs, hov⟩ := h.two.mem p hp
    obtain ⟨_, h1, cur, h2⟩ := hov.type b e
    exact hS b hb cur 9 h1 h2 (.inr rfl))
def HsEnd (w : World) (hs : HL) (e : Ending) (w' : World) : Prop := ∃ v svs, e = .returned v ∧ HLx w' w.heap.size v svs hs ∧ Kp [] w w'
/-- What impl.headers does. -/
def HeadersOk : Prop := ∀ (w : World) (pb mb b0 : Nat) (hs : HL), HDR w b0 mb hs → KS hs → hs.length ≤ 1000 → (∀ p ∈ hs, p.2.length ≤ 1000) → w.cell? ⟨pb, 0, none⟩ = some (.map (some mb)) → Calls Tryz.prog 56 #[.pointer (some ⟨pb, 0, none⟩)] w fun e w' => HsEnd w hs e w'
/-- The list of parts, in memory of the call's own. -/
structure GPx (w : World) (base : Nat) (v : Value) (ps : PL) : Prop where
  ex : ∃ xs, PR w base v xs ∧ All2 (fun x p => (∃ svs, HLx w base x.1 svs p.1) ∧ BVw w base x.2 p.2) xs ps
section
variable {w w' : World} {base : Nat} {v : Value} {ps : PL}
theorem GPx.nil (w : World) (base : Nat) : GPx w base (.slice none 0 0) [] := ⟨[], PR.nil _ _, .nil⟩
theorem GPx.view (h : GPx w base v ps) : PView w v ps := by
  obtain ⟨xs, h1, h2⟩ := h.ex
  exact h1.view (h2.mono (fun x hx p ⟨⟨svs, h3⟩, h4⟩ => ⟨h3.view, h4.view⟩))
theorem GPx.kp {S : List Nat} (h : GPx w base v ps) (k : Kp S w w') (hS : Clr w base S) : GPx w' base v ps := by
  obtain ⟨xs, h1, h2⟩ := h.ex
  refine ⟨xs, h1.kp k (fun b hb e => ?_), h2.mono (fun x hx p ⟨⟨svs, h3⟩, h4⟩ => ⟨⟨svs, h3.keep k (fun y hy cur t hb hc ht => hS.off hy hb hc (by rcases ht with rfl | rfl <;> decide))⟩, h4.keep k (fun y hy cur hb hc => hS.off hy hb hc (by decide))⟩)⟩
  obtain ⟨_, h3, cur, h4⟩ := h1.type b e
  exact hS.off hb h3 h4 (by decide)
/-- A part more. -/
theorem GPx.add (h : GPx w base v ps) (hv bv : Value) (svs : List (Bytes × Value)) (hs : HL) (body : Bytes) (hh : HLx w base hv svs hs) (hb : BVw w base bv body) (hbase : base ≤ w.heap.size) (hl : ps.length ≤ 1000000000) :
    ∃ v' w', (Builtin.append_ #[24, 24] 24 #[v, .slice (some ⟨w.heap.size, 0, none⟩) 1 1]).run Tryz.prog (w.alloc (.cells #[hv, bv] 29)) = .ok v' w' ∧ GPx w' base v' (ps ++ [(hs, body)]) ∧ ∃ S, Kp S w w' ∧ ∀ x ∈ S, base ≤ x ∧ ∃ cur, w.heap[x]? = some (.cells cur 29 (0, 0)) := by
  have hka : Kp [] w (w.alloc (.cells #[hv, bv] 29)) := (Kp.refl _ _).alloc _
  have h0 := h
  have hcl : Clr w base [] := fun x hx => by simp at hx
  obtain ⟨xs0, h01, _⟩ := h0.ex
  obtain ⟨xs, h1, h2⟩ := (h.kp hka hcl).ex
  have hh1 := hh.kp hka (by simp) (by simp)
  have hb1 := hb.keep hka (fun x hx => by simp at hx)
  obtain ⟨v', w', e1, e2, e3, e4⟩ := append_one29 (w.alloc (.cells #[hv, bv] 29)) base xs v 24 w.heap.size (hv, bv) h1 (Blk.new _ _ _) hh1.oneV hb1.one (by simp; omega) (by have := h2.len; omega)
  have ht : ∀ x ∈ v.ownBlock.toList, ∃ cur, (w.alloc (.cells #[hv, bv] 29)).heap[x]? = some (.cells cur 29 (0, 0)) := fun x hx => by
    obtain ⟨_, _, cur, h5⟩ := h1.type x (by simpa using hx)
    exact ⟨cur, h5⟩
  have hoff : ∀ x ∈ v.ownBlock.toList, ∀ cur t, (w.alloc (.cells #[hv, bv] 29)).heap[x]? = some (.cells cur t (0, 0)) → t ≠ 29 → False := fun x hx cur t hc hne => by
    obtain ⟨c, h5⟩ := ht x hx
    rw [h5] at hc
    injection hc with hc
    injection hc with _ hc
    exact hne hc.symm
  refine ⟨v', w', e1, ⟨xs ++ [(hv, bv)], e2, ?_⟩, v.ownBlock.toList, (hka.mono (by simp)).trans e3, fun x hx => ?_⟩
  · exact (h2.mono (fun x hx p ⟨⟨sv, h3⟩, h4⟩ => ⟨⟨sv, h3.keep e3 (fun y hy cur t _ hc htt => hoff y hy cur t hc (by rcases htt with rfl | rfl <;> decide))⟩, h4.keep e3 (fun y hy cur _ hc => hoff y hy cur 5 hc (by decide))⟩)).snoc _ _ ⟨⟨svs, hh1.keep e3 (fun y hy cur t _ hc htt => hoff y hy cur t hc (by rcases htt with rfl | rfl <;> decide))⟩, hb1.keep e3 (fun y hy cur _ hc => hoff y hy cur 5 hc (by decide))⟩
  · obtain ⟨_, h5, cur, h6⟩ := h01.type x (by simpa using hx)
    exact ⟨h5, cur, h6⟩
end
theorem GPx.base {w : World} {base base' : Nat} {v : Value} {ps : PL} (h : GPx w base v ps) (hb : base' ≤ base) : GPx w base' v ps := by
  obtain ⟨xs, h1, h2⟩ := h.ex
  refine ⟨xs, ⟨h1.1, ?_⟩, h2.mono (fun x hx p ⟨⟨svs, h3⟩, h4⟩ => ⟨⟨svs, h3.base hb⟩, ?_⟩)⟩
  · rcases h1.2 with h0 | ⟨g, cap, cur, rfl, hb2, rest⟩
    · exact .inl h0
    · exact .inr ⟨g, cap, cur, rfl, Nat.le_trans hb hb2, rest⟩
  · obtain ⟨a, c, e, h5, h6, h7⟩ := h4.ex
    exact ⟨a, c, e, h5, h6, fun x hx => ⟨Nat.le_trans hb (h7 x hx).1, (h7 x hx).2⟩⟩
end Go.Proofs.YtkbgnplknifmhaaGreatDoor
namespace Go.Proofs.YtkbgnplknifmhaaGreatDoor
open Go.RowKit
/-! ### From part to part -/
theorem Lines.lt {whole fin : Bytes} {items : List (Bytes × Bytes)} (h : Lines whole items fin) : fin.length < whole.length := by
  induction h with
  | done l rest hl hl2 hd => simp; omega
  | more whole kv rest k vt fin items hL hkv hk hk0 hv hlen t ih =>
    have := hL.lt
    omega
theorem hdrs_addP (items : List (Bytes × Bytes)) : hdrs items = items.foldl (fun h p => addP p.1 p.2 h) [] := (foldl_addP items [] List.Pairwise.nil).1.symm
theorem hdrs_KS (items : List (Bytes × Bytes)) : KS (hdrs items) := by
  rw [hdrs_addP]; exact (foldl_addP items [] List.Pairwise.nil).2
theorem foldl_few (items : List (Bytes × Bytes)) : ∀ (hs : HL) (n : Nat), hs.length ≤ n → (∀ p ∈ hs, p.2.length ≤ n) → (items.foldl (fun h p => addP p.1 p.2 h) hs).length ≤ n + items.length ∧ ∀ p ∈ items.foldl (fun h p => addP p.1 p.2 h) hs, p.2.length ≤ n + items.length := by
  induction items with
  | nil => intro hs n h1 h2; exact ⟨by simpa using h1, by simpa using h2⟩
  | cons x r ih =>
    intro hs n h1 h2
    have h3 := addP_len x.1 x.2 hs
    have := ih (addP x.1 x.2 hs) (n + 1) (by omega) (addP_vals x.1 x.2 hs n h2)
    rw [List.length_cons, show n + (r.length + 1) = n + 1 + r.length from by omega]
    exact this
theorem hdrs_few {items : List (Bytes × Bytes)} (h : items.length ≤ 100) : (hdrs items).length ≤ 1000 ∧ ∀ p ∈ hdrs items, p.2.length ≤ 1000 := by
  rw [hdrs_addP]
  obtain ⟨h1, h2⟩ := foldl_few items [] 0 (by simp) (by simp)
  exact ⟨by omega, fun p hp => by have := h2 p hp; omega⟩
inductive Nxt (b nl : Bytes) : Option (Bool × Bytes) → PL → Prop
  | fin : Nxt b nl none []
  | part (lf : Bool) (rest0 : Bytes) (ps : PL) (h : PartsAt b (nlOf nl lf) rest0 ps) : Nxt b nl (some (lf, rest0)) ps
theorem PartsAt.open {b nl rest0 : Bytes} {ps : PL} (h : PartsAt b nl rest0 ps) : ∃ items body tail out ps', PartAt b nl rest0 items body tail ∧ ps = (hdrs items, body) :: ps' ∧ (∀ pr, pr ≠ 0 → NP b nl pr false (nl ++ dlm b ++ tail) out) ∧ Nxt b nl out ps' := by
  cases h with
  | last rest0 items body tail h hn => exact ⟨items, body, tail, none, [], h, rfl, hn, .fin⟩
  | more rest0 items body tail rest1 ps h hn t => exact ⟨items, body, tail, _, ps, h, rfl, hn, .part false rest1 ps t⟩
theorem PartsAt.count {b nl rest0 : Bytes} {ps : PL} (h : PartsAt b nl rest0 ps) : ps.length ≤ rest0.length := by
  induction h with
  | last rest0 items body tail h hn => have := h.lines.lt; simp; omega
  | more rest0 items body tail rest1 ps h hn t ih =>
    have h1 := h.lines.lt
    have h2 := (hn 1 (by decide)).le (false, rest1) rfl
    simp only [List.length_append, List.length_cons] at h1 h2 ⊢
    omega
/-- How the next call finds the reader. -/
inductive PsSt (w : World) (E : Value) (R : RS) (M : MS) (b nl : Bytes) : Int → List Nat → Option (Bool × Bytes) → Prop
  | first (whole : Bytes) (out : Option (Bool × Bytes)) (h : RD w E R M b nl (.pointer none) 0 whole) (hn : NP b nl 0 false whole out) (hl : whole.length ≤ 281474976710656) : PsSt w E R M b nl 0 [] out
  | next (pr : Int) (pb : Nat) (hd : Value) (body tail : Bytes) (n tot : Nat) (fin : Bool) (out : Option (Bool × Bytes)) (h : PRd w E R M b nl (.pointer (some ⟨pb, 0, none⟩)) pr pb hd body tail n tot fin) (hn : NP b nl pr false (nl ++ dlm b ++ tail) out) : PsSt w E R M b nl pr [pb] out
/-- The function that gives the next part: NextRawPart, or NextPart over parts of some kind. -/
structure Nxg (E : Value) (R : RS) (g : Nat) (rp : Bool) (ok : HL → Prop) : Prop where
  go : ∀ {w : World} {M : MS} {b nl : Bytes} {pr : Int} {out : Option (Bool × Bytes)} {rest : Bytes} {HF : HL} {S : List Nat}, Calls Tryz.prog 73 #[.pointer (some ⟨M.m, 0, none⟩), .bool rp, .int .i64 10485760, .int .i64 10000] w (fun e w' => NextEnd w E R M b nl pr out rest HF S e w') →
    Calls Tryz.prog g #[.pointer (some ⟨M.m, 0, none⟩)] w fun e w' => NextEnd w E R M b nl pr out rest HF S e w'
  new : ∀ {M : MS} {b nl rest0 rest : Bytes} {items : List (Bytes × Bytes)}, Lines rest0 items rest → items.length ≤ 100 → ok (hdrs items) → NewC E R M b nl rp rest0 rest (hdrs items)
/-- Where the reader's blocks lie. -/
structure Lo (w : World) (R : RS) (M : MS) : Prop where
  own : ∀ x ∈ R.own, 15 ≤ x ∧ x < w.heap.size
  da : R.da < w.heap.size
  m : 15 ≤ M.m ∧ M.m < w.heap.size
  bd : M.bd < w.heap.size
theorem RD.lo {w : World} {E : Value} {R : RS} {M : MS} {b nl : Bytes} {cur : Value} {pr : Int} {whole : Bytes} (h : RD w E R M b nl cur pr whole) : Lo w R M :=
  ⟨fun x hx => ⟨h.rg x hx, h.own_lt x hx⟩, h.dl, ⟨h.mo.2.2, h.mr.blk.lt⟩, h.bo.2.2.2⟩
theorem PsSt.lo {w : World} {E : Value} {R : RS} {M : MS} {b nl : Bytes} {pr : Int} {S : List Nat} {out : Option (Bool × Bytes)} (h : PsSt w E R M b nl pr S out) : Lo w R M := by
  cases h with
  | first whole out h hn => exact h.lo
  | next pr pb hd body tail n tot fin out h hn => exact h.rd.lo
theorem NextPost.prd2 {w w' : World} {E : Value} {R : RS} {M M0 : MS} {b nl c rest0 body tail : Bytes} {pr : Int} {items : List (Bytes × Bytes)} {HF : HL} {pb mb : Nat} {S : List Nat} (h : NextPost w w' E R M b nl pr (body ++ (nl ++ dlm b) ++ tail) HF pb mb S)
    (h0 : Lo w R M0) (hm : M.m = M0.m) (hd : M.bd = M0.bd) (hk : NLk nl c) (hb : boundaryB b = true) (hp : PartAt b nl rest0 items body tail) (hlen : (body ++ (nl ++ dlm b) ++ tail).length ≤ 281474976710656) :
    PRd w' E R M b nl (.pointer (some ⟨pb, 0, none⟩)) (pr + 1) pb (.map (some mb)) body tail 0 0 false := by
  have hnew := h.new
  have hno := dlm_no hb
  refine ⟨h.rd, ?_, h.blk, ⟨fun e => by have := (h0.own _ e).2; omega, by have := h0.da; omega, by have := h0.m; omega, by have := h0.bd; omega, by have := h0.m; omega⟩, hp.fnd, hp.tl, ?_, ?_, fun _ _ _ => hp.fst, Nat.zero_le _, by simp, by omega⟩
  · obtain ⟨r, n, bs, src, lb, lr, hb, he⟩ := h.rd.br
    exact ⟨r, n, bs, src, lb, lr, hb, he, Nat.zero_le _⟩
  · cases hk with
    | crlf =>
      show (13 : UInt8) ∉ 10 :: dlm b
      simp only [List.mem_cons, not_or]
      exact ⟨by decide, hno.2⟩
    | lf => exact hno.1
  · cases hk <;> decide
/-- What a call for the next part leaves. -/
structure Given (w w' : World) (E : Value) (R : RS) (M : MS) (b : Bytes) (pr : Int) (S : List Nat) (hs : HL) (body : Bytes) (ps' : PL) (pb mb : Nat) (M' : MS) (nl' c' tail : Bytes) (out' : Option (Bool × Bytes)) : Prop where
  mm : M'.m = M.m
  mbd : M'.bd = M.bd
  nlk : NLk nl' c'
  prd : PRd w' E R M' b nl' (.pointer (some ⟨pb, 0, none⟩)) (pr + 1) pb (.map (some mb)) body tail 0 0 false
  hdr : HDR w' w.heap.size mb hs
  kp : Kp (S ++ M.m :: R.own) w w'
  new : w.heap.size ≤ pb
  np : ∀ pr, pr ≠ 0 → NP b nl' pr false (nl' ++ dlm b ++ tail) out'
  nxt : Nxt b nl' out' ps'
  ks : KS hs
  few : hs.length ≤ 1000 ∧ ∀ p ∈ hs, p.2.length ≤ 1000
def StepEnd (w : World) (E : Value) (R : RS) (M : MS) (b : Bytes) (pr : Int) (S : List Nat) (e : Ending) (w' : World) : PL → Prop
  | [] => e = .returned (.tuple #[.pointer none, E]) ∧ Kp (S ++ M.m :: R.own) w w'
  | (hs, body) :: ps' => ∃ pb mb M' nl' c' tail out', e = .returned (.tuple #[.pointer (some ⟨pb, 0, none⟩), .nilIface]) ∧ Given w w' E R M b pr S hs body ps' pb mb M' nl' c' tail out'
section
variable {w : World} {E : Value} {R : RS} {M : MS} {b nl c : Bytes} {pr : Int} {S : List Nat} {out : Option (Bool × Bytes)} {ps : PL} {g : Nat} {rp : Bool} {ok : HL → Prop}
theorem next_calls (h : PsSt w E R M b nl pr S out) (hE : EqE E) (hb0 : b ≠ []) (hpr : 0 ≤ pr ∧ pr ≤ 4611686018427387904) {rest : Bytes} {HF : HL} (hO : OutC E R M b nl rp out rest HF) :
    Calls Tryz.prog 73 #[.pointer (some ⟨M.m, 0, none⟩), .bool rp, .int .i64 10485760, .int .i64 10000] w fun e w' => NextEnd w E R M b nl pr out rest HF S e w' := by
  cases h with
  | first whole out h hn => exact nextPart_first rp h hE hb0 hpr hn hO
  | next pr pb hd body tail n tot fin out h hn => exact nextPart_next rp h hE hb0 hpr hn hO
theorem PsSt.size (h : PsSt w E R M b nl pr S out) : ∀ p ∈ out, p.2.length ≤ 281474976710656 := by
  intro p hp
  cases h with
  | first whole out h hn hl => have := hn.le p hp; omega
  | next pr pb hd body tail n tot fin out h hn =>
    have h1 := hn.le p hp
    have h2 := h.len
    simp only [List.length_append] at h1 h2
    omega
theorem nlk_of (hk : NLk nl c) (lf : Bool) : ∃ c', NLk (nlOf nl lf) c' := by
  cases lf with
  | true => exact ⟨[], .lf⟩
  | false => exact ⟨c, hk⟩
theorem next_step (G : Nxg E R g rp ok) (h : PsSt w E R M b nl pr S out) (hx : Nxt b nl out ps) (hok : ∀ p ∈ ps, ok p.1) (hk : NLk nl c) (hE : EqE E) (hb : boundaryB b = true) (hpr : 0 ≤ pr ∧ pr ≤ 4611686018427387904) :
    Calls Tryz.prog g #[.pointer (some ⟨M.m, 0, none⟩)] w fun e w' => StepEnd w E R M b pr S e w' ps := by
  have hb0 : b ≠ [] := fun e => by rw [e] at hb; simp [boundaryB] at hb
  have hlo := h.lo
  have hsz := h.size
  cases hx with
  | fin =>
    have h1 := G.go (next_calls (rest := []) (HF := []) h hE hb0 hpr trivial)
    exact h1.mono fun e w' hh => hh
  | part lf rest0 ps hpa =>
    obtain ⟨items, body, tail, out', ps', hp, rfl, hn, hx'⟩ := hpa.open
    have hO : OutC E R M b nl rp (some (lf, rest0)) (body ++ (nlOf nl lf ++ dlm b) ++ tail) (hdrs items) := G.new hp.lines hp.few (hok (hdrs items, body) (by simp))
    have h1 := G.go (next_calls h hE hb0 hpr hO)
    refine h1.mono fun e w' hh => ?_
    obtain ⟨pb, mb, rfl, hN⟩ := hh
    obtain ⟨c', hk'⟩ := nlk_of hk lf
    have hl := hsz (lf, rest0) rfl
    have hll := hp.lines.le
    have hm : (msOf M lf).m = M.m := by cases lf <;> rfl
    have hbd : (msOf M lf).bd = M.bd := by cases lf <;> rfl
    exact ⟨pb, mb, msOf M lf, nlOf nl lf, c', tail, out', rfl, hm, hbd, hk', hN.prd2 hlo hm hbd hk' hb hp (by simp only at hl; omega), hN.hdr, by have := hN.kp; rw [hm] at this; exact this, hN.new, hn, hx', hdrs_KS items, hdrs_few hp.few⟩
/-- NextRawPart. -/
theorem nxgRaw : Nxg E R 46 true (fun _ => True) := ⟨fun h => nextRaw_of h, fun hL hl _ => newC_raw _ _ hL (by omega) _ rfl⟩
end
end Go.Proofs.YtkbgnplknifmhaaGreatDoor
namespace Go.Proofs.YtkbgnplknifmhaaGreatDoor
open Go.RowKit
attribute [local go_sem ↓] Go.wp_at_zero Go.wp_at_succ
/-! ### impl.all (76), impl.state (55) -/
section
variable {w : World} {E : Value} {R : RS} {M : MS} {b nl : Bytes} {cur : Value} {pr : Int} {pb : Nat} {hd : Value} {body tail : Bytes} {n tot : Nat} {fin : Bool}
def AlRel (w0 : World) (E : Value) (R : RS) (M : MS) (b nl : Bytes) (cur : Value) (pr : Int) (pb : Nat) (hd : Value) (body tail : Bytes) (w : World) (v4 : Value) (q : Nat) : Prop :=
  ∃ done body' n' tot' fin' dbs, body = done ++ body' ∧ OB w (w0.heap.size + 1) v4 done ∧ PRd w E R M b nl cur pr pb hd body' tail n' tot' fin' ∧ Blk w w0.heap.size (encB dbs) 5 ∧ dbs.length = 500 ∧ body'.length = q ∧ Kp (pb :: R.own) w0 w
def AllEnd (w : World) (E : Value) (R : RS) (M : MS) (b nl : Bytes) (cur : Value) (pr : Int) (pb : Nat) (hd : Value) (body tail : Bytes) (e : Ending) (w' : World) : Prop :=
  ∃ v tot', e = .returned (.tuple #[v, .bool true]) ∧ OB w' w.heap.size v body ∧ PRd w' E R M b nl cur pr pb hd [] tail 0 tot' true ∧ Kp (pb :: R.own) w w'
set_option maxRecDepth 20000 in
set_option maxHeartbeats 2000000 in
theorem all_any (h : PRd w E R M b nl cur pr pb hd body tail n tot fin) (hE : Env w E) (hbl : body.length ≤ 140737488355328) :
    Calls Tryz.prog 76 #[.iface 67 (.pointer (some ⟨pb, 0, none⟩))] w fun e w' => AllEnd w E R M b nl cur pr pb hd body tail e w' := by
  obtain ⟨dbs, hdbs⟩ : ∃ dbs : Bytes, List.replicate 500 0 = dbs := ⟨_, rfl⟩
  have hdl : dbs.length = 500 := by rw [← hdbs]; simp
  have hmk : ∀ w, (Instr.makeSlice 22 (.int .i64 500) (.int .i64 500)).run Tryz.prog w = .ok (.slice (some ⟨w.heap.size, 0, none⟩) 500 500) (w.alloc (.cells (encB dbs) 5)) := by
    have := make22 500 (by omega)
    rw [hdbs] at this
    exact this
  have hK1 : Kp [] w (w.alloc (.cells (encB dbs) 5)) := (Kp.refl _ _).alloc _
  have h1 := h.kp hK1 (by simp) (by simp) (by simp) (by simp) (by simp) (by simp)
  have hR0 : AlRel w E R M b nl cur pr pb hd body tail (w.alloc (.cells (encB dbs) 5)) (.slice none 0 0) body.length := ⟨[], body, n, tot, fin, dbs, rfl, OB.nil _ _, h1, Blk.new _ _ _, hdl, rfl, hK1.mono (by simp)⟩
  have hd1 : (∀ x ∈ R.own, x < w.heap.size) ∧ R.da < w.heap.size ∧ M.m < w.heap.size ∧ M.bd < w.heap.size ∧ pb < w.heap.size ∧ 15 ≤ w.heap.size := ⟨h.rd.own_lt, h.rd.dl, h.rd.mr.blk.lt, h.rd.bo.2.2.2, h.blk.lt, hE.sz⟩
  have HD := Lib.hid (And.intro hd1 (And.intro hE hbl))
  have HP0 : Hid (∀ x ∈ pb :: R.own, 15 ≤ x) := fun x hx => by
    rcases List.mem_cons.1 hx with rfl | hx
    · exact h.po.2.2.2.2
    · exact h.rd.rg x hx
  obtain ⟨tE, vE, hEE⟩ := hE.isE
  clear h h1 hK1 hd1 hE hdl hdbs hbl
  have mt := method67' pb
  have mn := nilAhead67 pb
  go_enter Tryz.func76, Tryz.ntmps76
  go_wp2
  go_loopg [4] body.length (fun q v4 w' => AlRel w E R M b nl cur pr pb hd body tail w' v4 q)
  case atStart => exact hR0
  case round =>
    clear hR0
    obtain ⟨done, body', n', tot', fin', dbs', hbo, hown, hP, hB, hdl, hq, hK⟩ := hrel
    obtain ⟨⟨hb1, hb2, hb3, hb4, hb5, hb6⟩, hE, hlen⟩ := HD.out
    have hcon := partRead_any hP 500 500 w.heap.size dbs' 5 hB (by omega) (Nat.le_refl _) (by omega) ⟨fun e => by have := hb1 _ e; omega, by omega, by omega, by omega, by omega, by omega⟩
    have HH := Lib.hid (And.intro hbo (And.intro hown (And.intro hdl (And.intro hq hK))))
    clear hP hB hdl hq hK hbo hown hb1 hb2 hb3 hb4 hb5 hb6 hE hlen
    go_wp2_with fail
    (with_reducible refine hcon.mono ?_)
    rintro e w1 ⟨k, x, rfl, hp⟩
    clear hcon
    obtain ⟨⟨hb1, hb2, hb3, hb4, hb5, hb6⟩, hE, hlen⟩ := HD.out
    obtain ⟨hbo, hown, hdl, hq, hK⟩ := HH.out
    obtain ⟨n2, f2, hP2, hx2⟩ := hp.prd
    have hkm : k ≤ 500 := hp.km
    have hkb := hp.kb
    have hkI : (k : Int) ≤ 500 := by omega
    have htl : (body'.take k).length = k := by rw [List.length_take]; omega
    have hbl : ∀ blk, u4.ownBlock = some blk → w.heap.size + 1 ≤ blk ∧ blk < wr.heap.size := fun blk e => World.ownsRow.lt hown blk e
    have hS1 : ∀ y ∈ w.heap.size :: pb :: R.own, u4.ownBlock ≠ some y := fun y hy e => by
      have h1 := (hbl y e).1
      simp only [List.mem_cons] at hy
      rcases hy with rfl | rfl | hy
      · omega
      · omega
      · have := hb1 y hy; omega
    have hown1 := hown.kp hp.kp hS1
    have hsrc : HB w1 (some ⟨w.heap.size, 0, none⟩) (body'.take k) := by
      refine HB.of_cells (fun i hi => ?_)
      rw [Nat.zero_add, hp.blk.cell, encB_get _ i (by rw [length_spliceB _ _ _ (by omega)]; omega)]
      have : byt (spliceB dbs' 0 (body'.take k)) i = byt (body'.take k) i := by
        unfold spliceB
        rw [List.take_zero, List.nil_append]
        unfold byt
        rw [List.getD, List.getD, List.getElem?_append_left hi]
      rw [this]
    have hlen2 : done.length + k ≤ 140737488355328 := by
      have := congrArg List.length hbo
      simp only [List.length_append] at this hlen
      omega
    have hdl2 : (spliceB dbs' 0 (body'.take k)).length = 500 := by rw [length_spliceB _ _ _ (by omega)]; exact hdl
    have hkp1 : Kp (pb :: R.own) w w1 := hK.trans' hp.kp (fun y hy => by
      simp only [List.mem_cons] at hy
      rcases hy with rfl | rfl | hy
      · exact .inr (Nat.le_refl _)
      · exact .inl (by simp)
      · exact .inl (by simp [hy]))
    have hbo2 : body = (done ++ body'.take k) ++ body'.drop k := by rw [List.append_assoc, List.take_append_drop]; exact hbo
    have hsz : w.heap.size + 1 ≤ w1.heap.size := by have := hp.blk.lt; omega
    have HFIN : Hid (∀ v' w2, OB w2 (w.heap.size + 1) v' (done ++ body'.take k) → w1.grownBy w2 u4.ownBlock → Kp (pb :: R.own) w w2 ∧ PRd w2 E R M b nl cur pr pb hd (body'.drop k) tail n2 (tot' + k) f2 ∧ Blk w2 w.heap.size (encB (spliceB dbs' 0 (body'.take k))) 5) := by
      intro v' w2 ho hg
      have hk2 : Kp u4.ownBlock.toList w1 w2 := (Kp.refl _ _).grown hg (by intro y hy; simp [hy])
      have hlo : ∀ y ∈ u4.ownBlock.toList, w.heap.size + 1 ≤ y := fun y hy => (hbl y (by simpa using hy)).1
      refine ⟨hkp1.trans' hk2 (fun y hy => .inr (by have := hlo y hy; omega)), hP2.kp hk2 (fun y hy e => by have := hb1 y hy; have := hlo y e; omega) (fun e => by have := hlo _ e; omega) (fun e => by have := hlo _ e; omega) (fun e => by have := hlo _ e; omega) (fun y e => by have := hlo _ e; omega) (fun e => by have := hlo _ e; omega), hp.blk.kp hk2 (fun e => by have := hlo _ e; omega)⟩
    have HD2 := Lib.hid hdl2
    have HQ := Lib.hid hq
    have HBO := Lib.hid hbo2
    have HX := Lib.hid (And.intro hp.fin (And.intro hp.prog hx2))
    have HKB := Lib.hid hkb
    clear hp hP2 hx2 hdl hdl2 hq hK hkp1 hbo hbo2 hown hS1 hbl hb1 hb2 hb3 hb4 hb5 hb6 hlen hkb HH
    cases x with
    | true =>
      have hg0 : ∀ w2, Kp (pb :: R.own) w w2 → w2.cell? ⟨0, 0, none⟩ = some (.iface tE vE) := fun w2 k2 => by rw [← hEE]; exact (hE.kp k2 HP0.out).g0
      have heq : ∀ w, (binOp .eql 69 (.iface tE vE) (.iface tE vE)).run Tryz.prog w = .ok (.bool true) w := by rw [← hEE]; exact hE.eq
      rw [errV_t, hEE]
      clear hE hEE
      go_wp2_with (at_builtin; refine wpList_append_OB rfl (.tmp 15) (.tmp 18) rfl (w.heap.size + 1) u4 done rfl hown1 (some ⟨w.heap.size, 0, none⟩) k 500 (body'.take k) rfl hsrc htl.symm (fun e => by cases e) hlen2 hsz ?_; intro v' w2 hown2 hg2 hnw2)
      obtain ⟨hkw, hP3, hB3⟩ := HFIN.out v' w2 hown2 hg2
      have hc0 := hg0 w2 hkw
      obtain ⟨hf1, hf2, hf3⟩ := HX.out
      obtain ⟨e1, e2⟩ := hf3 (by trivial)
      subst e1; subst e2
      have hk0 : body'.drop k = [] := by rw [hf1 (by trivial)]; simp
      have hbody : done ++ body'.take k = body := by have := HBO.out; rw [hk0, List.append_nil] at this; exact this.symm
      rw [hk0] at hP3
      rw [hbody] at hown2
      have HEND : Hid (∀ j, AllEnd w E R M b nl cur pr pb hd body tail (.returned (.tuple #[v', .bool true])) (w2.drewN j)) := fun j => ⟨v', _, rfl, (hown2.base (Nat.le_succ _)).kp (Kp.drewN [] w2 j) (by simp), hP3.drewN j, hkw.drewN' j⟩
      clear hown1 hsrc hown2 hg2 hnw2 hP3 hB3 hkw hg0 HFIN HX hf1 hf3 hbody hk0 HBO HQ HD2 hf2
      go_wp2
      go_quiet (fail)
      go_wp2
      go_ret2
      exact HEND.out _
    | false =>
      rw [errV_f]
      clear hE hEE
      go_wp2_with (at_builtin; refine wpList_append_OB rfl (.tmp 15) (.tmp 18) rfl (w.heap.size + 1) u4 done rfl hown1 (some ⟨w.heap.size, 0, none⟩) k 500 (body'.take k) rfl hsrc htl.symm (fun e => by cases e) hlen2 hsz ?_; intro v' w2 hown2 hg2 hnw2)
      obtain ⟨hkw, hP3, hB3⟩ := HFIN.out v' w2 hown2 hg2
      have hk0 : 0 < k := by
        rcases HX.out.2.1 (by omega) with h | h
        · exact h
        · cases h
      have HREL : Hid (AlRel w E R M b nl cur pr pb hd body tail w2 v' (body'.drop k).length) := ⟨_, _, _, _, _, _, HBO.out, hown2, hP3, hB3, HD2.out, rfl, hkw⟩
      have HMM : Hid ((body'.drop k).length < gk) := by have := HQ.out; have := HKB.out; show _ < _; rw [List.length_drop]; omega
      clear hown1 hsrc hown2 hg2 hnw2 hP3 hB3 hkw HFIN HX HBO HQ HD2
      go_wp2
      go_roundg (body'.drop k).length
      case measure => exact HMM.out
      case rel => exact HREL.out
set_option maxHeartbeats 400000 in
theorem state_end (hE : Env w E) : Calls Tryz.prog 55 #[E] w fun e w' => e = .returned (.int .i64 1) ∧ w = w' := by
  obtain ⟨tE, vE, rfl⟩ := hE.isE
  have h0 := hE.g0
  have heq : ∀ w, (binOp .eql 69 (.iface tE vE) (.iface tE vE)).run Tryz.prog w = .ok (.bool true) w := hE.eq
  clear hE
  go_enter Tryz.func55, Tryz.ntmps55
  go_wp2
  go_ret
  exact ⟨rfl, rfl⟩
end
end Go.Proofs.YtkbgnplknifmhaaGreatDoor
namespace Go.Proofs.YtkbgnplknifmhaaGreatDoor
open Go.RowKit
attribute [local go_sem ↓] Go.wp_at_zero Go.wp_at_succ
/-! ### impl.parts (52) -/
structure PsRel (w wr : World) (E : Value) (R : RS) (m bd : Nat) (b : Bytes) (ps : PL) (lim : Int) (v4 : Value) (q : Nat) : Prop where
  ex : ∃ M nl c pr S out done rest, M.m = m ∧ M.bd = bd ∧ NLk nl c ∧ PsSt wr E R M b nl pr S out ∧ Nxt b nl out rest ∧ ps = done ++ rest ∧ rest.length = q ∧ 0 ≤ pr ∧ pr + q ≤ lim ∧ GPx wr w.heap.size v4 done ∧ Kp (m :: R.own) w wr ∧ (∀ x ∈ S, w.heap.size ≤ x ∧ ∃ cur, wr.heap[x]? = some (.cells cur 117 (0, 0)))
def PsEnd (w : World) (R : RS) (m : Nat) (ps : PL) (e : Ending) (w' : World) : Prop := ∃ v, e = .returned (.tuple #[v, .int .i64 1]) ∧ GPx w' w.heap.size v ps ∧ Kp (m :: R.own) w w'
section
variable {w : World} {E : Value} {R : RS} {M : MS} {b nl c : Bytes} {pr : Int} {S : List Nat} {out : Option (Bool × Bytes)} {ps : PL} {g : Nat} {rp : Bool} {ok : HL → Prop}
set_option maxRecDepth 20000 in
set_option maxHeartbeats 4000000 in
theorem parts_any (HH : HeadersOk) (G : Nxg E R g rp ok) (eg : ∀ args w, (callFunc g args).run Tryz.prog w = .ok (.enter g args) w) (h : PsSt w E R M b nl 0 [] out) (hx : Nxt b nl out ps) (hok : ∀ p ∈ ps, ok p.1) (hk : NLk nl c) (hE : Env w E) (hb : boundaryB b = true) (hbody : ∀ p ∈ ps, p.2.length ≤ 140737488355328) (hps : ps.length ≤ 1000000000) :
    Calls Tryz.prog 52 #[.func (.func g) #[.pointer (some ⟨M.m, 0, none⟩)] #[]] w fun e w' => PsEnd w R M.m ps e w' := by
  have hlo : (∀ x ∈ M.m :: R.own, 15 ≤ x ∧ x < w.heap.size) ∧ R.da < w.heap.size := ⟨fun x hx => by
    rcases List.mem_cons.1 hx with rfl | hx
    · exact h.lo.m
    · exact h.lo.own x hx, h.lo.da⟩
  have hR0 : PsRel w w E R M.m M.bd b ps 4611686018427387904 (.slice none 0 0) ps.length := ⟨M, nl, c, 0, [], out, [], ps, rfl, rfl, hk, h, hx, rfl, rfl, by omega, by omega, GPx.nil _ _, Kp.refl _ _, by simp⟩
  have hbdl : Hid (M.bd < w.heap.size) := h.lo.bd
  generalize M.m = m at hR0 hlo
  generalize M.bd = bd at hR0 hbdl
  have HR0 := Lib.hid hR0
  have HEnv := Lib.hid hE
  have HOK := Lib.hid (And.intro hok (And.intro hbody hps))
  have HLO := Lib.hid hlo
  clear h hx hk hR0 hE hok hbody hps hlo
  go_enter Tryz.func52, Tryz.ntmps52
  go_wp2
  go_loopg [4] ps.length (fun q v4 wr => PsRel w wr E R m bd b ps 4611686018427387904 v4 q)
  case atStart => exact HR0.out
  case round =>
    clear HR0
    obtain ⟨M, nl, c, pr, S, out, done, rest, rfl, rfl, hk, hst, hnx, hps, hq, hp0, hpl, hgp, hkw, hS⟩ := hrel.ex
    obtain ⟨hok, hbody, hpsl⟩ := HOK.out
    have hcon := next_step G hst hnx (fun p hp => hok p (by rw [hps]; simp [hp])) hk HEnv.out.eq hb ⟨hp0, by omega⟩
    obtain ⟨tE, vE, hEE⟩ := HEnv.out.isE
    have hnn := nil_eq_iface tE vE
    have hEnv := HEnv.out.kp hkw (fun x hx => (HLO.out.1 x hx).1)
    have heqE := HEnv.out.eq
    rw [hEE] at heqE
    cases rest with
    | nil =>
      have hdone : done = ps := by rw [hps]; simp
      subst hdone
      have HX := Lib.hid (And.intro hgp (And.intro hkw hS))
      have hg0 := hEnv.g0
      have hst1 := fun wx => state_end (E := E) (w := wx)
      clear hgp hkw hS hst hnx hrel hq hpl hps hok hbody hpsl
      have hEnv0 := Lib.hid hEnv
      clear hEnv
      go_wp2_with fail
      refine hcon.mono ?_
      rintro e w1 ⟨rfl, hk1⟩
      obtain ⟨hgp, hkw, hS⟩ := HX.out
      have hcl : Clr wr w.heap.size (S ++ M.m :: R.own) := fun x hx => by
        rcases List.mem_append.1 hx with hx | hx
        · exact .inr (.inr (hS x hx).2)
        · exact .inl (HLO.out.1 x hx).2
      have hgp1 := hgp.kp hk1 hcl
      have hkw1 : Kp (M.m :: R.own) w w1 := hkw.trans' hk1 (fun x hx => by
        rcases List.mem_append.1 hx with hx | hx
        · exact .inr (hS x hx).1
        · exact .inl hx)
      have hE1 := HEnv.out.kp hkw1 (fun x hx => (HLO.out.1 x hx).1)
      have hs := state_end hE1
      rw [hEE] at hs
      have HFIN : Hid (PsEnd w R M.m done (.returned (.tuple #[u4, .int .i64 1])) w1) := ⟨_, rfl, hgp1, hkw1⟩
      clear hgp hkw hS hcl hgp1 hkw1 hE1 hk1 hcon HX
      rw [hEE]
      go_wp2_with fail
      refine hs.mono ?_
      rintro e w2 ⟨rfl, rfl⟩
      go_wp2
      go_ret2
      exact HFIN.out
    | cons p rest =>
      obtain ⟨hs, body⟩ := p
      have HX := Lib.hid (And.intro hgp (And.intro hkw (And.intro hS (And.intro hps (And.intro hq hpl)))))
      have HE0 := Lib.hid hEnv
      have HB0 := Lib.hid (And.intro hok (And.intro hbody hpsl))
      clear hgp hkw hS hst hnx hrel hq hpl hEnv hok hbody hpsl hps heqE
      go_wp2_with fail
      refine hcon.mono ?_
      rintro e w1 ⟨pb, mb, M', nl', c', tail, out', rfl, hG⟩
      clear hcon
      have hh := HH w1 pb mb _ hs hG.hdr hG.ks hG.few.1 hG.few.2 (by rw [hG.prd.blk.cell]; rfl)
      have HG := Lib.hid hG
      clear hG
      go_wp2_with fail
      refine hh.mono ?_
      rintro e w2 ⟨hv, svs, rfl, hhl, hk2⟩
      clear hh
      obtain ⟨a1, n1, c1, rfl⟩ := hhl.shape
      obtain ⟨hgp, hkw, hS, hps, hq, hpl⟩ := HX.out
      obtain ⟨hok, hbody, hpsl⟩ := HB0.out
      have hcl : Clr wr w.heap.size (S ++ M.m :: R.own) := fun x hx => by
        rcases List.mem_append.1 hx with hx | hx
        · exact .inr (.inr (hS x hx).2)
        · exact .inl (HLO.out.1 x hx).2
      have hkw1 : Kp (M.m :: R.own) w w1 := hkw.trans' HG.out.kp (fun x hx => by
        rcases List.mem_append.1 hx with hx | hx
        · exact .inr (hS x hx).1
        · exact .inl hx)
      have hkw2 : Kp (M.m :: R.own) w w2 := hkw1.trans (hk2.mono (by simp))
      have hE2 := HEnv.out.kp hkw2 (fun x hx => (HLO.out.1 x hx).1)
      have hprd2 := HG.out.prd.kp hk2 (by simp) (by simp) (by simp) (by simp) (by simp) (by simp)
      have hgp2 : GPx w2 w.heap.size u4 done := (hgp.kp HG.out.kp hcl).kp hk2 (fun x hx => by simp at hx)
      have hal := all_any hprd2 hE2 (hbody (hs, body) (by rw [hps]; simp))
      have HX2 := Lib.hid (And.intro hgp2 (And.intro hkw2 hhl))
      have HP2 := Lib.hid hprd2
      have hsz1 : w.heap.size ≤ w1.heap.size ∧ wr.heap.size ≤ w1.heap.size ∧ w1.heap.size ≤ w2.heap.size ∧ w.heap.size ≤ wr.heap.size := ⟨hkw1.size, HG.out.kp.size, hk2.size, hkw.size⟩
      have HSZ := Lib.hid hsz1
      clear hgp hkw hS hps hq hpl hok hbody hpsl hcl hkw1 hkw2 hE2 hprd2 hgp2 hhl hk2 hsz1
      go_wp2_with fail
      (with_reducible refine hal.mono ?_)
      rintro e w3 ⟨bv, tot', rfl, hob, hprd3, hk3⟩
      clear hal
      obtain ⟨a2, c2, rfl, _⟩ := hob.len
      obtain ⟨hgp2, hkw2, hhl⟩ := HX2.out
      obtain ⟨hgp, hkw, hS, hps, hq, hpl⟩ := HX.out
      obtain ⟨hok, hbody, hpsl⟩ := HB0.out
      obtain ⟨hz1, hz2, hz3, hz4⟩ := HSZ.out
      have hpb := HG.out.new
      have hpbl : pb < w2.heap.size := HP2.out.blk.lt
      have hlow : ∀ x ∈ R.own, x < w.heap.size := fun x hx => (HLO.out.1 x (by simp [hx])).2
      have hcl3 : Clr w2 w.heap.size (pb :: R.own) := fun x hx => by
        rcases List.mem_cons.1 hx with rfl | hx
        · exact .inr (.inr ⟨_, HP2.out.blk⟩)
        · exact .inl (hlow x hx)
      have hgp3 := hgp2.kp hk3 hcl3
      have hhl3 : HLx w3 w.heap.size (.slice a1 n1 c1) svs hs := (hhl.base hz1).keep hk3 (fun x hx cur t hb hc ht => hcl3.off hx hb hc (by rcases ht with rfl | rfl <;> decide))
      have hbv3 : BVw w3 w.heap.size (.slice a2 body.length c2) body := by
        obtain ⟨a, c, e1, e2, e3, e4⟩ := hob.bvw.ex
        exact ⟨a, c, e1, e2, e3, fun x hx => ⟨by have := (e4 x hx).1; omega, (e4 x hx).2⟩⟩
      have hkw3 : Kp (M.m :: R.own) w w3 := hkw2.trans' hk3 (fun x hx => by
        rcases List.mem_cons.1 hx with rfl | hx
        · exact .inr (by omega)
        · exact .inl (by simp [hx]))
      have hlen := congrArg List.length hps
      simp only [List.length_append, List.length_cons] at hlen
      obtain ⟨v', w4, e1, hgp4, S4, hk4, hS4⟩ := hgp3.add _ _ svs hs body hhl3 hbv3 hkw3.size (by omega)
      have hkw4 : Kp (M.m :: R.own) w w4 := hkw3.trans' hk4 (fun x hx => .inr (hS4 x hx).1)
      have hn4 : ∀ y, y < w.heap.size → y ∉ S4 := fun y hy e => by have := (hS4 y e).1; omega
      have hpb4 : pb ∉ S4 := fun e => by
        obtain ⟨_, cur, h5⟩ := hS4 pb e
        have h6 : w3.heap[pb]? = _ := hprd3.blk
        rw [h5] at h6
        injection h6 with h6
        injection h6 with _ h6
        cases h6
      have hda := HLO.out.2
      have hm := (HLO.out.1 M.m (by simp)).2
      have hm' : M'.m = M.m := HG.out.mm
      have hbd' : M'.bd < w.heap.size := by
        rw [HG.out.mbd]
        exact hbdl.out
      have hprd4 := hprd3.kp hk4 (fun x hx => hn4 x (hlow x hx)) (hn4 _ hda) (by rw [hm']; exact hn4 _ hm) (hn4 _ hbd') (fun x hx => by have := (hS4 x hx).1; have := (HLO.out.1 M.m (by simp)).1; omega) hpb4
      have hrel : PsRel w w4 E R M.m M.bd b ps 4611686018427387904 v' rest.length := by
        simp only [List.length_cons] at hq
        exact ⟨M', nl', c', pr + 1, [pb], out', done ++ [(hs, body)], rest, hm', HG.out.mbd, HG.out.nlk, .next _ _ _ _ _ _ _ _ _ hprd4 (HG.out.np _ (by omega)), HG.out.nxt, by rw [hps]; simp, rfl, by omega, by omega, hgp4, hkw4, fun x hx => by
          simp at hx
          subst hx
          exact ⟨by omega, _, hprd4.blk⟩⟩
      have HREL := Lib.hid hrel
      have HMM : Hid (rest.length < gk) := by simp only [List.length_cons] at hq; show _ < _; omega
      clear hrel hprd4 hbd' hm' hm hda hpb4 hn4 hkw4 hgp4 hS4 hk4 hlen hkw3 hbv3 hhl3 hgp3 hcl3 hlow hpbl hpb hz1 hz2 hz3 hz4 hok hbody hpsl hgp hkw hS hps hq hpl hgp2 hkw2 hhl hob hprd3 hk3 HX HX2 HP2 HSZ HG HB0 HE0
      go_wp2_with (at_builtin; refine wpList_append_run2 _ rfl (.tmp 28) (.tmp 32) 24 24 rfl u4 (.slice (some ⟨w3.heap.size, 0, none⟩) 1 1) rfl rfl e1 ?_)
      go_roundg rest.length
      case measure => exact HMM.out
      case rel => exact HREL.out
end
end Go.Proofs.YtkbgnplknifmhaaGreatDoor
namespace Go.Proofs.YtkbgnplknifmhaaGreatDoor
open Go.RowKit
attribute [local go_sem ↓] Go.wp_at_zero Go.wp_at_succ
/-! ### impl.Parts (21), impl.Next (34) -/
def GotEnd (w : World) (ps : PL) (e : Ending) (w' : World) : Prop := ∃ v, e = .returned (.tuple #[v, .int .i64 1]) ∧ GPx w' w.heap.size v ps ∧ Kp [] w w'
theorem NP.few {b nl : Bytes} {pr : Int} {flag : Bool} {whole : Bytes} {out : Option (Bool × Bytes)} {ps : PL} (h : NP b nl pr flag whole out) (hx : Nxt b nl out ps) : ps.length ≤ whole.length := by
  cases hx with
  | fin => simp
  | part lf rest0 ps hp =>
    have h1 := hp.count
    have h2 := h.le (lf, rest0) rfl
    simp only at h2
    omega
section
variable {w : World} {E : Value} {a : Option Addr} {c : Nat} {src b : Bytes} {out : Option (Bool × Bytes)} {ps : PL} {ok : HL → Prop}
/-- The reader over the source stands at its beginning. -/
theorem fresh_st {ur da : Nat} {R : RS} {M : MS} {w1 w2 : World} (hF : FreshR w1 w2 E R M b src ur da) (hn : NP b [13, 10] 0 false src out) (hl : src.length ≤ 281474976710656) : PsSt w2 E R M b [13, 10] 0 [] out :=
  .first src out hF.rd hn hl
set_option maxRecDepth 20000 in
set_option maxHeartbeats 2000000 in
theorem parts21 (HH : HeadersOk) (hE : Env w E) (h : HB w a src) (hnone : a = none → c = 0) (hl : src.length ≤ 1000000000) (hb : boundaryB b = true) (hn : NP b [13, 10] 0 false src out) (hx : Nxt b [13, 10] out ps) (hbody : ∀ p ∈ ps, p.2.length ≤ 140737488355328) :
    Calls Tryz.prog 21 #[.slice a src.length c, .string (str b)] w fun e w' => GotEnd w ps e w' := by
  have hbl := boundaryB_len hb
  have hfew := hn.few hx
  have hsrc := source_any a src.length c src w h rfl hnone (by omega)
  have HE := Lib.hid hE
  clear h hnone hE
  go_enter Tryz.func21, Tryz.ntmps21
  go_wp2_with fail
  refine hsrc.mono ?_
  rintro e w1 ⟨ur, da, a', c', rfl, hsp⟩
  clear hsrc
  have hE1 := HE.out.kp hsp.kp (by simp)
  have hnr := newReader44 109 ur da b src E w1 (srcPost_src hsp (by omega)) hE1.g0 hE1.isE hE1.gv ⟨by have := hsp.nu; have := HE.out.sz; omega, hsp.blk.lt, hsp.nd.2.2, hsp.nd.2.1, by have := hsp.nd; have := HE.out.sz; omega⟩ hbl
  have HSP := Lib.hid hsp
  clear hsp hE1
  go_wp2_with fail
  refine hnr.mono ?_
  rintro e w2 ⟨R, M, rfl, hF⟩
  clear hnr
  have hE2 := (HE.out.kp HSP.out.kp (by simp)).kp hF.kp (by simp)
  have hps := parts_any (rp := true) HH nxgRaw (enters_of Tryz.func46 (by kernel_rfl) rfl) (fresh_st hF hn (by omega)) hx (fun _ _ => trivial) NLk.crlf hE2 hb hbody (by omega)
  have HF := Lib.hid hF
  clear hF hn hE2 hx
  go_wp2_with fail
  refine hps.mono ?_
  rintro e w3 ⟨v, rfl, hgp, hk⟩
  clear hps
  have hlo : ∀ x ∈ M.m :: R.own, w.heap.size ≤ x := by
    intro x hx
    have hF := HF.out
    have hs := HSP.out
    have h1 := hs.kp.size
    have h2 := hF.nw
    have h3 : w.heap.size ≤ R.ur := by rw [hF.hur]; exact hs.nu
    have hx' : x = M.m ∨ x = R.rb ∨ x = R.bb ∨ x = R.st ∨ x = R.ur := by simpa [RS.own] using hx
    omega
  have hk3 : Kp [] w w3 := (HSP.out.kp.trans HF.out.kp).trans' hk (fun x hx => .inr (hlo x hx))
  have HFIN : Hid (GotEnd w ps (.returned (.tuple #[v, .int .i64 1])) w3) := ⟨v, rfl, hgp.base (HSP.out.kp.trans HF.out.kp).size, hk3⟩
  clear hgp hk hlo hk3 HF HSP
  go_wp2
  go_ret2
  exact HFIN.out
end
end Go.Proofs.YtkbgnplknifmhaaGreatDoor
namespace Go.Proofs.YtkbgnplknifmhaaGreatDoor
open Go.RowKit
attribute [local go_sem ↓] Go.wp_at_zero Go.wp_at_succ
/-! ### impl.Slow (32) -/
/-- A slow reader over a copy of the bytes. -/
structure SlowPost (w w' : World) (l : Bytes) (ur da m : Nat) (a : Option Addr) (c : Nat) : Prop where
  blk : Blk w' ur #[.slice a l.length c, .int .i64 m] 97
  hb : HB w' a l
  lc : l.length ≤ c
  nu : w.heap.size ≤ ur
  nd : w.heap.size ≤ da ∧ da ≠ ur ∧ da < w'.heap.size
  ha : ∀ x, a = some x → x.block = da
  kp : Kp [] w w'
theorem slowPost_src {w w1 : World} {l : Bytes} {ur da m : Nat} {a : Option Addr} {c : Nat} {E : Value} (h : SlowPost w w1 l ur da m a c) (hl : l.length ≤ 281474976710656) (h1 : 1 ≤ m) (h2 : m ≤ 9223372036854775807) :
    ∀ w' st, Kp [] w1 w' → w1.heap.size ≤ st → Blk w' st #[.iface 95 (.pointer (some ⟨ur, 0, none⟩)), .nilIface] 106 → Src w' E st ur ⟨da⟩ l := by
  intro w' st k hst hb
  exact Src.slow (w := w') (E := E) (st := st) (ur := ur) (own := ⟨da⟩) a c m l .nilIface hb (h.blk.kp k (by simp)) (h.hb.kp k (by simp)) h.lc hl h2 h1 (fun x hx => by
    rw [h.ha x hx]
    intro e
    exact e rfl) (.inl rfl)
section
variable {w : World} {E : Value} {a : Option Addr} {c : Nat} {src b : Bytes} {out : Option (Bool × Bytes)} {ps : PL}
set_option maxRecDepth 20000 in
set_option maxHeartbeats 2000000 in
theorem slow32 (HH : HeadersOk) (piece : Int) (hpi : piece ≤ 9223372036854775807) (hE : Env w E) (h : HB w a src) (hnone : a = none → c = 0) (hl : src.length ≤ 1000000000) (hb : boundaryB b = true) (hn : NP b [13, 10] 0 false src out) (hx : Nxt b [13, 10] out ps) (hbody : ∀ p ∈ ps, p.2.length ≤ 140737488355328) :
    Calls Tryz.prog 32 #[.slice a src.length c, .string (str b), .int .i64 piece] w fun e w' => GotEnd w ps e w' := by
  have hbl := boundaryB_len hb
  have hfew := hn.few hx
  obtain ⟨m, hm⟩ : ∃ m : Nat, max (1 : Int) piece = (m : Int) := ⟨(max (1 : Int) piece).toNat, by omega⟩
  have hm1 : 1 ≤ m := by omega
  have hm2 : m ≤ 9223372036854775807 := by omega
  have hK1 : Kp [] w (w.alloc (.cells (encB []) 5)) := (Kp.refl _ _).alloc _
  have hb1 := h.kp hK1 (by simp)
  have hown : OB (w.alloc (.cells #[] 5)) w.heap.size (.slice (some ⟨w.heap.size, 0, none⟩) 0 0) [] := OB.lit w w.heap.size [] (Nat.le_refl _) (by simp)
  have HB1 := Lib.hid hb1
  have HK1 := Lib.hid hK1
  have HOWN := Lib.hid hown
  have HE := Lib.hid hE
  clear h hE hb1 hK1 hown
  go_enter Tryz.func32, Tryz.ntmps32
  go_wp2_with (at_builtin; refine wpList_append_OB rfl (.tmp 8) (.tmp 9) rfl w.heap.size (.slice (some ⟨w.heap.size, 0, none⟩) 0 0) [] rfl HOWN.out a src.length c src rfl HB1.out rfl hnone (by simp; omega) (by simp) ?_; intro v' w1 hown1 hg1 hnw1; rw [List.nil_append] at hown1; obtain ⟨a', c', rfl, hlc, ha, hbb, hob⟩ := hown1.len)
  have hsz : w.heap.size + 1 ≤ w1.heap.size := by have := hg1.size; simpa using this
  have hK2 : Kp [] w w1 := HK1.out.trans' ((Kp.refl [w.heap.size] _).grown hg1 (by intro k hk; injection hk with hk; subst hk; simp)) (by intro x hx; simp at hx; subst hx; exact .inr (Nat.le_refl _))
  have hK3 : Kp [] w1 (w1.alloc (.cells #[.slice a' src.length c', .int .i64 m] 97)) := (Kp.refl _ _).alloc _
  have hsp : ∃ da, SlowPost w (w1.alloc (.cells #[.slice a' src.length c', .int .i64 m] 97)) src w1.heap.size da m a' c' := by
    cases a' with
    | none => exact ⟨w.heap.size, Blk.new _ _ _, hbb.kp hK3 (by simp), hlc, by omega, ⟨Nat.le_refl _, by omega, by simp; omega⟩, by simp, hK2.trans hK3⟩
    | some x => exact ⟨x.block, Blk.new _ _ _, hbb.kp hK3 (by simp), hlc, by omega, ⟨(ha x rfl).1, by have := (ha x rfl).2; omega, by have := (ha x rfl).2; simp; omega⟩, by intro y hy; injection hy with hy; rw [hy], hK2.trans hK3⟩
  obtain ⟨da, hsp⟩ := hsp
  have hE1 := HE.out.kp hsp.kp (by simp)
  have hnr := newReader44 95 w1.heap.size da b src E _ (slowPost_src hsp (by omega) hm1 hm2) hE1.g0 hE1.isE hE1.gv ⟨by have := hsp.nu; have := HE.out.sz; omega, hsp.blk.lt, hsp.nd.2.2, hsp.nd.2.1, by have := hsp.nd; have := HE.out.sz; omega⟩ hbl
  have HSP := Lib.hid hsp
  clear hsp hE1 hK2 hK3 hown1 hg1 hnw1 ha hbb hob
  generalize hw1 : w1.alloc (.cells #[.slice a' src.length c', .int .i64 m] 97) = wS at HSP hnr ⊢
  refine hnr.mono ?_
  rintro e w2 ⟨R, M, rfl, hF⟩
  clear hnr hw1
  have hE2 := (HE.out.kp HSP.out.kp (by simp)).kp hF.kp (by simp)
  have hps := parts_any (rp := true) HH nxgRaw (enters_of Tryz.func46 (by kernel_rfl) rfl) (fresh_st hF hn (by omega)) hx (fun _ _ => trivial) NLk.crlf hE2 hb hbody (by omega)
  have HF := Lib.hid hF
  clear hF hn hE2 hx
  go_wp2_with fail
  refine hps.mono ?_
  rintro e w3 ⟨v, rfl, hgp, hk⟩
  clear hps
  have hlo : ∀ x ∈ M.m :: R.own, w.heap.size ≤ x := by
    intro x hx
    have hF := HF.out
    have hs := HSP.out
    have h1 := hs.kp.size
    have h2 := hF.nw
    have h3 : w.heap.size ≤ R.ur := by rw [hF.hur]; exact hs.nu
    have hx' : x = M.m ∨ x = R.rb ∨ x = R.bb ∨ x = R.st ∨ x = R.ur := by simpa [RS.own] using hx
    omega
  have hk3 : Kp [] w w3 := (HSP.out.kp.trans HF.out.kp).trans' hk (fun x hx => .inr (hlo x hx))
  have HFIN : Hid (GotEnd w ps (.returned (.tuple #[v, .int .i64 1])) w3) := ⟨v, rfl, hgp.base (HSP.out.kp.trans HF.out.kp).size, hk3⟩
  clear hgp hk hlo hk3 HF HSP
  go_wp2
  go_ret2
  exact HFIN.out
end
end Go.Proofs.YtkbgnplknifmhaaGreatDoor
namespace Go.Proofs.YtkbgnplknifmhaaGreatDoor
open Go.RowKit
attribute [local go_sem ↓] Go.wp_at_zero Go.wp_at_succ
/-! ### slices.Equal at texts (59) -/
def IxRel (w wr : World) (n : Nat) (v : Value) (q : Nat) : Prop := ∃ i : Nat, v = .int .i64 (i : Int) ∧ i + q = n ∧ Kp [] w wr
section
variable {w : World} {v u : Value}
set_option maxHeartbeats 1000000 in
theorem equal59 {vs : List Bytes} (h : SV w v vs) (k : SV w u vs) (hl : vs.length ≤ 1000000000) : Calls Tryz.prog 59 #[v, u] w fun e w' => e = .returned (.bool true) ∧ Kp [] w w' := by
  obtain ⟨a, c, rfl, _, _⟩ := h.open
  obtain ⟨a', c', rfl, _, _⟩ := k.open
  have HA := Lib.hid h
  have HB := Lib.hid k
  have HR0 : Hid (IxRel w w vs.length (.int .i64 ((0 : Nat) : Int)) vs.length) := ⟨0, rfl, by omega, Kp.refl _ _⟩
  clear h k
  go_enter Tryz.func59, Tryz.ntmps59
  go_wp2
  go_loopg [13] vs.length (fun q v13 wr => IxRel w wr vs.length v13 q)
  case atStart => exact HR0.out
  case round =>
    clear HR0
    obtain ⟨i, rfl, hq, hk⟩ := hrel
    by_cases hi : i < vs.length
    · have hi' : (i : Int) < (vs.length : Int) := by omega
      obtain ⟨a1, c1, e, hc1, hx1⟩ := (HA.out.kp0 hk).open
      cases e
      obtain ⟨a2, c2, e, hc2, hx2⟩ := (HB.out.kp0 hk).open
      cases e
      have hc1 := hc1 i hi
      have hc2 := hc2 i hi
      have hx1 := hx1 i hi
      have hx2 := hx2 i hi
      have HREL : Hid (∀ j, IxRel w (wr.drewN j) vs.length (.int .i64 ((i : Int) + 1)) (vs.length - (i + 1))) := fun j => ⟨i + 1, by simp, by omega, hk.drewN' j⟩
      have HMM : Hid (vs.length - (i + 1) < gk) := by show _ < _; omega
      have heq : (binOp .neq 9 (.string (str (vs.getD i []))) (.string (str (vs.getD i [])))).run Tryz.prog wr = .ok (.bool false) wr := by simp [binOp, Op.stringOp]
      clear hq hk
      go_wp2
      go_quiet (fail)
      go_wp2
      go_roundg (vs.length - (i + 1))
      case measure => exact HMM.out
      case rel => exact HREL.out _
    · have hge : ¬ (i : Int) < (vs.length : Int) := by omega
      have HFIN := Lib.hid hk
      clear hq hk
      go_wp2
      go_ret
      exact ⟨rfl, HFIN.out⟩
end
end Go.Proofs.YtkbgnplknifmhaaGreatDoor
namespace Go.Proofs.YtkbgnplknifmhaaGreatDoor
open Go.RowKit
attribute [local go_sem ↓] Go.wp_at_zero Go.wp_at_succ
/-! ### slices.EqualFunc at headers (57), its closure (58), spec.SameHead (25) -/
section
variable {w : World} {v u : Value}
set_option maxHeartbeats 1000000 in
theorem closure58 (k : Bytes) {vs : List Bytes} (h : SV w v vs) (h' : SV w u vs) (hl : vs.length ≤ 1000000000) : Calls Tryz.prog 58 #[.agg #[.string (str k), v], .agg #[.string (str k), u]] w fun e w' => e = .returned (.bool true) ∧ Kp [] w w' := by
  obtain ⟨a, c, rfl, _⟩ := h.open
  obtain ⟨a', c', rfl, _⟩ := h'.open
  have hk1 : Kp [] w ((w.alloc (.cells #[.string (str k), .slice a vs.length c] 43)).alloc (.cells #[.string (str k), .slice a' vs.length c'] 43)) := ((Kp.refl _ _).alloc _).alloc _
  have hcon := equal59 (h.kp0 hk1) (h'.kp0 hk1) hl
  have HK := Lib.hid hk1
  clear h h' hk1
  go_enter Tryz.func58, Tryz.ntmps58
  go_wp2_with fail
  refine hcon.mono ?_
  rintro e w1 ⟨rfl, hk⟩
  have HF := Lib.hid (HK.out.trans hk)
  clear hk hcon
  go_wp2
  go_ret
  exact ⟨rfl, HF.out⟩
theorem len0_57 (a a' : Option Addr) (c c' : Nat) : Calls Tryz.prog 57 #[.slice a 0 c, .slice a' 0 c', .func (.func 58) #[] #[]] w fun e w' => e = .returned (.bool true) ∧ Kp [] w w' := by
  go_enter Tryz.func57, Tryz.ntmps57
  go_wp2
  refine wp_loop_rounds 1 ?_
  rw [rounds_succ]
  go_wp2
  go_ret
  exact ⟨rfl, Kp.refl _ _⟩
set_option maxRecDepth 20000 in
set_option maxHeartbeats 2000000 in
theorem equalH {hs : HL} (h : HView w v hs) (k : HView w u hs) (hl : hs.length ≤ 1000000000) (hv : ∀ p ∈ hs, p.2.length ≤ 1000000000) : Calls Tryz.prog 57 #[v, u, .func (.func 58) #[] #[]] w fun e w' => e = .returned (.bool true) ∧ Kp [] w w' := by
  by_cases h0 : hs = []
  · subst h0
    rcases h.ex with ⟨_, a, c, rfl⟩ | ⟨g, c, rfl, _⟩ <;> rcases k.ex with ⟨_, a', c', rfl⟩ | ⟨g', c', rfl, _⟩ <;> exact len0_57 _ _ _ _
  · rcases h.ex with ⟨e, _⟩ | ⟨g, c, rfl, hc1⟩
    · exact absurd e h0
    rcases k.ex with ⟨e, _⟩ | ⟨g', c', rfl, hc2⟩
    · exact absurd e h0
    have HA := Lib.hid hc1
    have HB := Lib.hid hc2
    have HV := Lib.hid hv
    have HR0 : Hid (IxRel w w hs.length (.int .i64 ((0 : Nat) : Int)) hs.length) := ⟨0, rfl, by omega, Kp.refl _ _⟩
    have hix1 := ix27 g hs.length c
    have hix2 := ix27 g' hs.length c'
    clear h k hc1 hc2 hv
    go_enter Tryz.func57, Tryz.ntmps57
    go_wp2
    go_loopg [17] hs.length (fun q v17 wr => IxRel w wr hs.length v17 q)
    case atStart => exact HR0.out
    case round =>
      clear HR0
      obtain ⟨i, rfl, hq, hk⟩ := hrel
      by_cases hi : i < hs.length
      · have hi' : (i : Int) < (hs.length : Int) := by omega
        obtain ⟨p, hp⟩ : ∃ p, hs[i]? = some p := ⟨_, List.getElem?_eq_getElem hi⟩
        obtain ⟨u1, ec1, ed1, hs1⟩ := HA.out i p hp
        obtain ⟨u2, ec2, ed2, hs2⟩ := HB.out i p hp
        have hkc : ∀ {x : Addr} {u : Value}, w.cell? x = some u → wr.cell? x = some u := fun {x u} hx => by
          rw [← hx]; exact World.cell?_of_block (w := w) (hk.block _ (World.block_lt_of_cell? w _ hx) (by simp))
        have hc1 : wr.cell? ⟨g, i * 2, none⟩ = some (.string (str p.1)) := hkc ec1
        have hd1 := hkc ed1
        have hc2 : wr.cell? ⟨g', i * 2, none⟩ = some (.string (str p.1)) := hkc ec2
        have hd2 := hkc ed2
        clear ec1 ed1 ec2 ed2 hkc
        have hs1 := hs1.kp0 hk
        have hs2 := hs2.kp0 hk
        obtain ⟨a1, z1, rfl, _⟩ := hs1.open
        obtain ⟨a2, z2, rfl, _⟩ := hs2.open
        have hal : ∀ {x : Addr} {u : Value}, wr.cell? x = some u → ∀ o, (wr.alloc o).cell? x = some u := fun {x u} hx o => by
          rw [← hx]; exact World.cell?_of_block (w := wr) (((Kp.refl [] wr).alloc o).block _ (World.block_lt_of_cell? wr _ hx) (by simp))
        have hc2 := hal hc2
        have hd2 := hal hd2
        clear hal
        have hix1 := fun w => hix1 w i hi
        have hix2 := fun w => hix2 w i hi
        have HX := Lib.hid (And.intro hk (And.intro hq (And.intro hs1 (And.intro hs2 (HV.out p (List.mem_of_getElem? hp))))))
        clear hk hq hs1 hs2 hp
        have hka : Kp [] wr ((wr.alloc (.cells #[.string (str p.1), .slice a1 p.2.length z1] 43)).alloc (.cells #[.string (str p.1), .slice a2 p.2.length z2] 43)) := ((Kp.refl _ _).alloc _).alloc _
        have HKA := Lib.hid hka
        clear hka
        go_wp2_with fail
        obtain ⟨hk, hq, hs1, hs2, hpl⟩ := HX.out
        refine (closure58 p.1 (hs1.kp0 HKA.out) (hs2.kp0 HKA.out) hpl).mono ?_
        rintro e w1 ⟨rfl, hk1⟩
        have HREL : Hid (IxRel w w1 hs.length (.int .i64 ((i : Int) + 1)) (hs.length - (i + 1))) := ⟨i + 1, by simp, by omega, (hk.trans HKA.out).trans hk1⟩
        have HMM : Hid (hs.length - (i + 1) < gk) := by show _ < _; omega
        clear hk hq hs1 hs2 hk1 HKA
        go_wp2
        go_roundg (hs.length - (i + 1))
        case measure => exact HMM.out
        case rel => exact HREL.out
      · have hge : ¬ (i : Int) < (hs.length : Int) := by omega
        have HFIN := Lib.hid hk
        clear hq hk
        go_wp2
        go_ret
        exact ⟨rfl, HFIN.out⟩
set_option maxHeartbeats 1000000 in
theorem sameHead {hs : HL} (h : HView w v hs) (k : HView w u hs) (hl : hs.length ≤ 1000000000) (hv : ∀ p ∈ hs, p.2.length ≤ 1000000000) : Calls Tryz.prog 25 #[v, u] w fun e w' => e = .returned (.bool true) ∧ Kp [] w w' := by
  have hcon := equalH h k hl hv
  obtain ⟨a, n, c, rfl⟩ : ∃ a n c, v = .slice a n c := by
    rcases h.ex with ⟨_, a, c, rfl⟩ | ⟨g, c, rfl, _⟩ <;> exact ⟨_, _, _, rfl⟩
  obtain ⟨a', n', c', rfl⟩ : ∃ a n c, u = .slice a n c := by
    rcases k.ex with ⟨_, a, c, rfl⟩ | ⟨g, c, rfl, _⟩ <;> exact ⟨_, _, _, rfl⟩
  clear h k hv
  go_enter Tryz.func25, Tryz.ntmps25
  go_wp2_with fail
  refine hcon.mono ?_
  rintro e w1 ⟨rfl, hk⟩
  have HF := Lib.hid hk
  clear hk hcon
  go_wp2
  go_ret
  exact ⟨rfl, HF.out⟩
end
end Go.Proofs.YtkbgnplknifmhaaGreatDoor
namespace Go.Proofs.YtkbgnplknifmhaaGreatDoor
open Go.RowKit
attribute [local go_sem ↓] Go.wp_at_zero Go.wp_at_succ
/-! ### slices.EqualFunc at parts (53), its closure (54), spec.Same (22) -/
theorem isSlice24s : Tryz.prog.underlying 24 = some (.slice (Tryz.prog.elem 24)) := by kernel_rfl
theorem elem24_eqs : Tryz.prog.elem 24 = 29 := by kernel_rfl
theorem sizeOf29s (w : World) : (sizeOf 29).run Tryz.prog w = .ok 2 w := by kernel_rfl
theorem ix24s (g n c : Nat) : ∀ (w : World) (i : Nat), i < n → (Instr.indexAt 24 (.slice (some ⟨g, 0, none⟩) n c) (.int .i64 (i : Int))).run Tryz.prog w = .ok (.pointer (some ⟨g, i * 2, none⟩)) w := by
  intro w i h1
  rw [run_indexAt_slice _ _ _ _ _ _ _ isSlice24s]
  simp [h1, elem24_eqs, Addr.add_lit]
theorem HView.shape {w : World} {v : Value} {hs : HL} (h : HView w v hs) : ∃ a n c, v = .slice a n c := by
  rcases h.ex with ⟨_, a, c, rfl⟩ | ⟨g, c, rfl, _⟩ <;> exact ⟨_, _, _, rfl⟩
section
variable {w : World} {v u : Value}
set_option maxHeartbeats 1000000 in
theorem closure54 {v' u' : Value} {p : HL × Bytes} (h : HView w v p.1) (h' : HView w u p.1) (hb : BView w v' p.2) (hb' : BView w u' p.2) (hl : p.1.length ≤ 1000000000 ∧ (∀ q ∈ p.1, q.2.length ≤ 1000000000) ∧ p.2.length ≤ 281474976710656) : Calls Tryz.prog 54 #[.agg #[v, v'], .agg #[u, u']] w fun e w' => e = .returned (.bool true) ∧ Kp [] w w' := by
  obtain ⟨a, n, c, rfl⟩ := h.shape
  obtain ⟨a', n', c', rfl⟩ := h'.shape
  obtain ⟨b1, z1, rfl, hb1, hn1⟩ := hb.ex
  obtain ⟨b2, z2, rfl, hb2, hn2⟩ := hb'.ex
  have hk1 : Kp [] w ((w.alloc (.cells #[.slice a n c, .slice b1 p.2.length z1] 29)).alloc (.cells #[.slice a' n' c', .slice b2 p.2.length z2] 29)) := ((Kp.refl _ _).alloc _).alloc _
  have hcon := sameHead (h.kp0 hk1) (h'.kp0 hk1) hl.1 hl.2.1
  have HK := Lib.hid hk1
  have HB := Lib.hid (And.intro hb1 hb2)
  have hblk1 : Hid (((w.alloc (.cells #[.slice a n c, .slice b1 p.2.length z1] 29)).alloc (.cells #[.slice a' n' c', .slice b2 p.2.length z2] 29)).cell? ⟨w.heap.size, 1, none⟩ = some (.slice b1 p.2.length z1)) := ((Blk.new w _ 29).kp (S := []) ((Kp.refl _ _).alloc _) (by simp)).cell 1
  have hblk2 : Hid (((w.alloc (.cells #[.slice a n c, .slice b1 p.2.length z1] 29)).alloc (.cells #[.slice a' n' c', .slice b2 p.2.length z2] 29)).cell? ⟨w.heap.size + 1, 1, none⟩ = some (.slice b2 p.2.length z2)) := by
    have := (Blk.new (w.alloc (.cells #[.slice a n c, .slice b1 p.2.length z1] 29)) #[.slice a' n' c', .slice b2 p.2.length z2] 29).cell 1
    refine Lib.hid ?_
    simp
  clear h h' hk1 hb hb' hb1 hb2
  go_enter Tryz.func54, Tryz.ntmps54
  go_wp2_with fail
  refine hcon.mono ?_
  rintro e w1 ⟨rfl, hk⟩
  have hkc : ∀ {x : Addr} {u : Value}, ((w.alloc (.cells #[.slice a n c, .slice b1 p.2.length z1] 29)).alloc (.cells #[.slice a' n' c', .slice b2 p.2.length z2] 29)).cell? x = some u → w1.cell? x = some u := fun {x u} hx => by
    rw [← hx]; exact World.cell?_of_block (hk.block _ (World.block_lt_of_cell? _ _ hx) (by simp))
  have hc1 := hkc hblk1.out
  have hc2 := hkc hblk2.out
  have hs1 := run_str w1 b1 p.2 p.2.length z1 ((HB.out.1.kp HK.out (by simp)).kp hk (by simp)) rfl
  have hs2 := run_str w1 b2 p.2 p.2.length z2 ((HB.out.2.kp HK.out (by simp)).kp hk (by simp)) rfl
  have HF := Lib.hid (HK.out.trans hk)
  clear hk hcon hkc hblk1 hblk2
  go_wp2
  go_ret
  exact ⟨rfl, HF.out⟩
end
section
variable {w : World} {v u : Value}
theorem len0_53 (a a' : Option Addr) (c c' : Nat) : Calls Tryz.prog 53 #[.slice a 0 c, .slice a' 0 c', .func (.func 54) #[] #[]] w fun e w' => e = .returned (.bool true) ∧ Kp [] w w' := by
  go_enter Tryz.func53, Tryz.ntmps53
  go_wp2
  refine wp_loop_rounds 1 ?_
  rw [rounds_succ]
  go_wp2
  go_ret
  exact ⟨rfl, Kp.refl _ _⟩
set_option maxRecDepth 20000 in
set_option maxHeartbeats 2000000 in
theorem equalP {hs : PL} (h : PView w v hs) (k : PView w u hs) (hl : hs.length ≤ 1000000000) (hv : ∀ p ∈ hs, p.1.length ≤ 1000000000 ∧ (∀ q ∈ p.1, q.2.length ≤ 1000000000) ∧ p.2.length ≤ 281474976710656) : Calls Tryz.prog 53 #[v, u, .func (.func 54) #[] #[]] w fun e w' => e = .returned (.bool true) ∧ Kp [] w w' := by
  by_cases h0 : hs = []
  · subst h0
    rcases h.ex with ⟨_, a, c, rfl⟩ | ⟨g, c, rfl, _⟩ <;> rcases k.ex with ⟨_, a', c', rfl⟩ | ⟨g', c', rfl, _⟩ <;> exact len0_53 _ _ _ _
  · rcases h.ex with ⟨e, _⟩ | ⟨g, c, rfl, hc1⟩
    · exact absurd e h0
    rcases k.ex with ⟨e, _⟩ | ⟨g', c', rfl, hc2⟩
    · exact absurd e h0
    have HA := Lib.hid hc1
    have HB := Lib.hid hc2
    have HV := Lib.hid hv
    have HR0 : Hid (IxRel w w hs.length (.int .i64 ((0 : Nat) : Int)) hs.length) := ⟨0, rfl, by omega, Kp.refl _ _⟩
    have hix1 := ix24s g hs.length c
    have hix2 := ix24s g' hs.length c'
    clear h k hc1 hc2 hv
    go_enter Tryz.func53, Tryz.ntmps53
    go_wp2
    go_loopg [17] hs.length (fun q v17 wr => IxRel w wr hs.length v17 q)
    case atStart => exact HR0.out
    case round =>
      clear HR0
      obtain ⟨i, rfl, hq, hk⟩ := hrel
      by_cases hi : i < hs.length
      · have hi' : (i : Int) < (hs.length : Int) := by omega
        obtain ⟨p, hp⟩ : ∃ p, hs[i]? = some p := ⟨_, List.getElem?_eq_getElem hi⟩
        obtain ⟨t1, u1, ec1, ed1, hh1, hs1⟩ := HA.out i p hp
        obtain ⟨t2, u2, ec2, ed2, hh2, hs2⟩ := HB.out i p hp
        have hkc : ∀ {x : Addr} {u : Value}, w.cell? x = some u → wr.cell? x = some u := fun {x u} hx => by
          rw [← hx]; exact World.cell?_of_block (w := w) (hk.block _ (World.block_lt_of_cell? w _ hx) (by simp))
        have hc1 := hkc ec1
        have hd1 := hkc ed1
        have hc2 := hkc ec2
        have hd2 := hkc ed2
        clear ec1 ed1 ec2 ed2 hkc
        have hs1 := hs1.kp0 hk
        have hs2 := hs2.kp0 hk
        have hh1 := hh1.kp0 hk
        have hh2 := hh2.kp0 hk
        obtain ⟨a1, z1, rfl, _⟩ := hs1.ex
        obtain ⟨a2, z2, rfl, _⟩ := hs2.ex
        obtain ⟨b1, n1, y1, rfl⟩ := hh1.shape
        obtain ⟨b2, n2, y2, rfl⟩ := hh2.shape
        have hal : ∀ {x : Addr} {u : Value}, wr.cell? x = some u → ∀ o, (wr.alloc o).cell? x = some u := fun {x u} hx o => by
          rw [← hx]; exact World.cell?_of_block (w := wr) (((Kp.refl [] wr).alloc o).block _ (World.block_lt_of_cell? wr _ hx) (by simp))
        have hc2 := hal hc2
        have hd2 := hal hd2
        clear hal
        have hix1 := fun w => hix1 w i hi
        have hix2 := fun w => hix2 w i hi
        have HX := Lib.hid (And.intro hk (And.intro hq (And.intro hs1 (And.intro hs2 (And.intro hh1 (And.intro hh2 (HV.out p (List.mem_of_getElem? hp))))))))
        clear hk hq hs1 hs2 hh1 hh2 hp
        have hka : Kp [] wr ((wr.alloc (.cells #[.slice b1 n1 y1, .slice a1 p.2.length z1] 29)).alloc (.cells #[.slice b2 n2 y2, .slice a2 p.2.length z2] 29)) := ((Kp.refl _ _).alloc _).alloc _
        have HKA := Lib.hid hka
        clear hka
        go_wp2_with fail
        obtain ⟨hk, hq, hs1, hs2, hh1, hh2, hpl⟩ := HX.out
        refine (closure54 (hh1.kp0 HKA.out) (hh2.kp0 HKA.out) (hs1.kp0 HKA.out) (hs2.kp0 HKA.out) hpl).mono ?_
        rintro e w1 ⟨rfl, hk1⟩
        have HREL : Hid (IxRel w w1 hs.length (.int .i64 ((i : Int) + 1)) (hs.length - (i + 1))) := ⟨i + 1, by simp, by omega, (hk.trans HKA.out).trans hk1⟩
        have HMM : Hid (hs.length - (i + 1) < gk) := by show _ < _; omega
        clear hk hq hs1 hs2 hh1 hh2 hk1 HKA
        go_wp2
        go_roundg (hs.length - (i + 1))
        case measure => exact HMM.out
        case rel => exact HREL.out
      · have hge : ¬ (i : Int) < (hs.length : Int) := by omega
        have HFIN := Lib.hid hk
        clear hq hk
        go_wp2
        go_ret
        exact ⟨rfl, HFIN.out⟩
set_option maxHeartbeats 1000000 in
theorem same_any {hs : PL} (h : PView w v hs) (k : PView w u hs) (hl : hs.length ≤ 1000000000) (hv : ∀ p ∈ hs, p.1.length ≤ 1000000000 ∧ (∀ q ∈ p.1, q.2.length ≤ 1000000000) ∧ p.2.length ≤ 281474976710656) : Calls Tryz.prog 22 #[v, u] w fun e w' => e = .returned (.bool true) ∧ Kp [] w w' := by
  have hcon := equalP h k hl hv
  obtain ⟨a, n, c, rfl⟩ : ∃ a n c, v = .slice a n c := by
    rcases h.ex with ⟨_, a, c, rfl⟩ | ⟨g, c, rfl, _⟩ <;> exact ⟨_, _, _, rfl⟩
  obtain ⟨a', n', c', rfl⟩ : ∃ a n c, u = .slice a n c := by
    rcases k.ex with ⟨_, a, c, rfl⟩ | ⟨g, c, rfl, _⟩ <;> exact ⟨_, _, _, rfl⟩
  clear h k hv
  go_enter Tryz.func22, Tryz.ntmps22
  go_wp2_with fail
  refine hcon.mono ?_
  rintro e w1 ⟨rfl, hk⟩
  have HF := Lib.hid hk
  clear hk hcon
  go_wp2
  go_ret
  exact ⟨rfl, HF.out⟩
end
end Go.Proofs.YtkbgnplknifmhaaGreatDoor
namespace Go.Proofs.YtkbgnplknifmhaaGreatDoor
open Go.RowKit
attribute [local go_sem ↓] Go.wp_at_zero Go.wp_at_succ
/-! ### laws.FnExactParse (10), laws.FnExactSlow (8) -/
theorem PartsAt.bounds {b nl rest0 : Bytes} {ps : PL} (h : PartsAt b nl rest0 ps) : ∀ p ∈ ps, (p.1.length ≤ 1000 ∧ ∀ q ∈ p.1, q.2.length ≤ 1000) ∧ p.2.length ≤ rest0.length := by
  induction h with
  | last rest0 items body tail h hn =>
    intro p hp
    simp at hp
    subst hp
    have := h.lines.le
    exact ⟨hdrs_few h.few, by show body.length ≤ _; simp only [List.length_append] at this; omega⟩
  | more rest0 items body tail rest1 ps h hn t ih =>
    have h1 := h.lines.le
    have h2 := (hn 1 (by decide)).le (false, rest1) rfl
    simp only [List.length_append] at h1 h2
    intro p hp
    rcases List.mem_cons.1 hp with rfl | hp
    · exact ⟨hdrs_few h.few, by show body.length ≤ _; omega⟩
    · have := ih p hp
      exact ⟨this.1, by have := this.2; omega⟩
theorem parse_facts {src b : Bytes} {ps : PL} (h : parseP src b = some ps) (hl : src.length ≤ 1000000000) : boundaryB b = true ∧ ∃ out, NP b [13, 10] 0 false src out ∧ Nxt b [13, 10] out ps ∧ ps.length ≤ 1000000000 ∧ (∀ p ∈ ps, p.2.length ≤ 140737488355328) ∧ ∀ p ∈ ps, p.1.length ≤ 1000000000 ∧ (∀ q ∈ p.1, q.2.length ≤ 1000000000) ∧ p.2.length ≤ 281474976710656 := by
  obtain ⟨hb, rest0, hn, hp⟩ := parseP_at h
  have hle := hn.le (false, rest0) rfl
  have hx : Nxt b [13, 10] (some (false, rest0)) ps := .part false rest0 ps hp
  have hf := hn.few hx
  have hbd := hp.bounds
  simp only at hle
  refine ⟨hb, _, hn, hx, by omega, fun p hp => by have := (hbd p hp).2; omega, fun p hp => ?_⟩
  obtain ⟨⟨h1, h2⟩, h3⟩ := hbd p hp
  exact ⟨by omega, fun q hq => by have := h2 q hq; omega, by omega⟩
section
variable {w : World} {E : Value} {a : Option Addr} {c : Nat} {src b : Bytes}
set_option maxRecDepth 20000 in
set_option maxHeartbeats 2000000 in
theorem exactParse_walk (HH : HeadersOk) (hE : Env w E) (h : HB w a src) (hc : src.length ≤ c) (hnone : a = none → c = 0) (hs : src.length ≤ 16777216) (hbl : b.length ≤ 16777216) :
    Calls Tryz.prog 10 #[.slice a src.length c, .string (str b)] w fun e w' => e = .returned (.bool true) ∧ Kp [] w w' := by
  have hs1 : (src.length : Int) ≤ 2147483647 := by omega
  have hs2 : (src.length : Int) ≤ 16777216 := by omega
  have hs3 : (b.length : Int) ≤ 2147483647 := by omega
  have hs4 : (b.length : Int) ≤ 16777216 := by omega
  have hpar := parse_any h hc hnone (by omega) (b := b) (by omega)
  have HX := Lib.hid (And.intro hE (And.intro h (And.intro hc (And.intro hnone hs))))
  clear hE h hc hnone hbl
  cases hpp : parseP src b with
  | none =>
    rw [hpp] at hpar
    go_enter Tryz.func10, Tryz.ntmps10
    go_wp2_with fail
    refine hpar.mono ?_
    rintro e w1 ⟨rfl, S, hk, hS⟩
    have HK : Hid (Kp [] w w1) := hk.trans' (Kp.refl [] _) (by simp) |>.mono (by
      intro x hx hlt; have := hS x hx; omega)
    clear hk hS hpar hpp
    go_wp2
    go_ret
    exact ⟨rfl, HK.out⟩
  | some ps =>
    rw [hpp] at hpar
    go_enter Tryz.func10, Tryz.ntmps10
    go_wp2_with fail
    refine hpar.mono ?_
    rintro e w1 ⟨v, rfl, hpv, S, hk, hS⟩
    clear hpar
    obtain ⟨hE, h, hc, hnone, hs⟩ := HX.out
    obtain ⟨hbd, out, hn, hx, hpl, hbody, hbnd⟩ := parse_facts hpp (by omega)
    have hpt := parts21 (c := c) HH (hE.kp hk (fun x hx => by have := hS x hx; have := hE.sz; omega)) (h.fwd hk hS) hnone (by omega) hbd hn hx hbody
    have hpv1 := hpv.view hk hS
    obtain ⟨av, nv, cv, rfl⟩ : ∃ a n c, v = .slice a n c := by
      rcases hpv1.ex with ⟨_, a, c, rfl⟩ | ⟨g, c, rfl, _⟩ <;> exact ⟨_, _, _, rfl⟩
    have HP := Lib.hid (And.intro hpv1 (And.intro hpl (And.intro hbnd (And.intro hk hS))))
    clear hE h hc hnone hs hpp hbd hn hx hbody hbnd hk hS hpv1 hpv hpl HX
    go_wp2_with fail
    refine hpt.mono ?_
    rintro e w2 ⟨v2, rfl, hgp, hk2⟩
    clear hpt
    obtain ⟨hpv1, hpl, hbnd, hk, hS⟩ := HP.out
    have hsm := same_any hgp.view (hpv1.kp0 hk2) hpl hbnd
    have hkw : Kp [] w w2 := ((hk.trans (hk2.mono (by simp))).mono (S' := []) (by
      intro x hx hlt; have := hS x hx; omega))
    have HK := Lib.hid hkw
    clear hgp hk2 hkw hpv1 hpl hbnd hk hS HP
    go_wp2_with fail
    refine hsm.mono ?_
    rintro e w3 ⟨rfl, hk3⟩
    have HF := Lib.hid (HK.out.trans hk3)
    clear hk3 hsm
    go_wp2
    go_ret
    exact ⟨rfl, HF.out⟩
set_option maxRecDepth 20000 in
set_option maxHeartbeats 2000000 in
theorem exactSlow_walk (HH : HeadersOk) (piece : Int) (hpi : piece ≤ 9223372036854775807) (hE : Env w E) (h : HB w a src) (hc : src.length ≤ c) (hnone : a = none → c = 0) (hs : src.length ≤ 16777216) (hbl : b.length ≤ 16777216) :
    Calls Tryz.prog 8 #[.slice a src.length c, .string (str b), .int .i64 piece] w fun e w' => e = .returned (.bool true) ∧ Kp [] w w' := by
  have hs1 : (src.length : Int) ≤ 2147483647 := by omega
  have hs2 : (src.length : Int) ≤ 16777216 := by omega
  have hs3 : (b.length : Int) ≤ 2147483647 := by omega
  have hs4 : (b.length : Int) ≤ 16777216 := by omega
  have hpar := parse_any h hc hnone (by omega) (b := b) (by omega)
  have HX := Lib.hid (And.intro hE (And.intro h (And.intro hc (And.intro hnone hs))))
  clear hE h hc hnone hbl
  cases hpp : parseP src b with
  | none =>
    rw [hpp] at hpar
    go_enter Tryz.func8, Tryz.ntmps8
    go_wp2_with fail
    refine hpar.mono ?_
    rintro e w1 ⟨rfl, S, hk, hS⟩
    have HK : Hid (Kp [] w w1) := hk.trans' (Kp.refl [] _) (by simp) |>.mono (by
      intro x hx hlt; have := hS x hx; omega)
    clear hk hS hpar hpp
    go_wp2
    go_ret
    exact ⟨rfl, HK.out⟩
  | some ps =>
    rw [hpp] at hpar
    go_enter Tryz.func8, Tryz.ntmps8
    go_wp2_with fail
    refine hpar.mono ?_
    rintro e w1 ⟨v, rfl, hpv, S, hk, hS⟩
    clear hpar
    obtain ⟨hE, h, hc, hnone, hs⟩ := HX.out
    obtain ⟨hbd, out, hn, hx, hpl, hbody, hbnd⟩ := parse_facts hpp (by omega)
    have hpt := slow32 (c := c) HH piece hpi (hE.kp hk (fun x hx => by have := hS x hx; have := hE.sz; omega)) (h.fwd hk hS) hnone (by omega) hbd hn hx hbody
    have hpv1 := hpv.view hk hS
    obtain ⟨av, nv, cv, rfl⟩ : ∃ a n c, v = .slice a n c := by
      rcases hpv1.ex with ⟨_, a, c, rfl⟩ | ⟨g, c, rfl, _⟩ <;> exact ⟨_, _, _, rfl⟩
    have HP := Lib.hid (And.intro hpv1 (And.intro hpl (And.intro hbnd (And.intro hk hS))))
    clear hE h hc hnone hs hpp hbd hn hx hbody hbnd hk hS hpv1 hpv hpl HX
    go_wp2_with fail
    refine hpt.mono ?_
    rintro e w2 ⟨v2, rfl, hgp, hk2⟩
    clear hpt
    obtain ⟨hpv1, hpl, hbnd, hk, hS⟩ := HP.out
    have hsm := same_any hgp.view (hpv1.kp0 hk2) hpl hbnd
    have hkw : Kp [] w w2 := ((hk.trans (hk2.mono (by simp))).mono (S' := []) (by
      intro x hx hlt; have := hS x hx; omega))
    have HK := Lib.hid hkw
    clear hgp hk2 hkw hpv1 hpl hbnd hk hS HP
    go_wp2_with fail
    refine hsm.mono ?_
    rintro e w3 ⟨rfl, hk3⟩
    have HF := Lib.hid (HK.out.trans hk3)
    clear hk3 hsm
    go_wp2
    go_ret
    exact ⟨rfl, HF.out⟩
end
end Go.Proofs.YtkbgnplknifmhaaGreatDoor
