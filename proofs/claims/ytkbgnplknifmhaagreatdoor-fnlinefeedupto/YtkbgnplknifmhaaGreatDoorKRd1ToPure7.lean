/-
  Walks and facts for the mailparts program.
-/
import Derived.Test.YtkbgnplknifmhaaGreatDoorKNr1ToSp3
import Derived.Test.YtkbgnplknifmhaaGreatDoorKSp5ToPure6
namespace Go.Proofs.YtkbgnplknifmhaaGreatDoor
open Go.RowKit
attribute [local go_sem ↓] Go.wp_at_zero Go.wp_at_succ
/-! ### A reader over bytes, and its first part -/
/-- What the program's start has laid. -/
structure Env (w : World) (E : Value) : Prop where
  g0 : w.cell? ⟨0, 0, none⟩ = some E
  isE : ∃ t v, E = .iface t v
  gv : GV w
  eq : EqE E
  sz : 15 ≤ w.heap.size
theorem Env.kp {S : List Nat} {w w' : World} {E : Value} (h : Env w E) (k : Kp S w w') (hS : ∀ x ∈ S, 15 ≤ x) : Env w' E :=
  ⟨by rw [← h.g0]; exact World.cell?_of_block (w := w) (k.block 0 (by have := h.sz; omega) (fun e => by have := hS _ e; omega)), h.isE, h.gv.kp k hS, h.eq, Nat.le_trans h.sz k.size⟩
theorem srcPost_src {w w1 : World} {l : Bytes} {ur da : Nat} {a : Option Addr} {c : Nat} {E : Value} (h : SrcPost w w1 l ur da a c) (hl : l.length ≤ 281474976710656) :
    ∀ w' st, Kp [] w1 w' → w1.heap.size ≤ st → Blk w' st #[.iface 109 (.pointer (some ⟨ur, 0, none⟩)), .nilIface] 106 → Src w' E st ur ⟨da⟩ l := by
  intro w' st k hst hb
  have := Src.bytes (w := w') (E := E) (st := st) (ur := ur) (own := ⟨da⟩) a c 0 (-1) l .nilIface hb (h.blk.kp k (by simp)) (h.hb.kp k (by simp)) h.lc (Nat.zero_le _) hl (fun x hx => ?_) (.inl rfl)
  · simpa using this
  · rw [h.ha x hx]
    intro e
    exact e rfl
/-- The part that nextPart gives is one that can be read. -/
theorem NextPost.prd {w w' : World} {E : Value} {R : RS} {M : MS} {b nl c rest0 body tail : Bytes} {cur : Value} {pr : Int} {items : List (Bytes × Bytes)} {HF : HL} {pb mb : Nat} {S : List Nat} {whole : Bytes} (h : NextPost w w' E R M b nl pr (body ++ (nl ++ dlm b) ++ tail) HF pb mb S)
    (h0 : RD w E R M b nl cur pr whole) (hk : NLk nl c) (hb : boundaryB b = true) (hp : PartAt b nl rest0 items body tail) (hlen : (body ++ (nl ++ dlm b) ++ tail).length ≤ 281474976710656) :
    PRd w' E R M b nl (.pointer (some ⟨pb, 0, none⟩)) (pr + 1) pb (.map (some mb)) body tail 0 0 false := by
  have hnew := h.new
  have hno := dlm_no hb
  refine ⟨h.rd, ?_, h.blk, ⟨fun e => by have := h0.own_lt _ e; omega, by have := h0.dl; omega, by have := h0.mr.blk.lt; omega, by have := h0.bo.2.2.2; omega, by have := h0.mo.2.2; have := h0.mr.blk.lt; omega⟩, hp.fnd, hp.tl, ?_, ?_, fun _ _ _ => hp.fst, Nat.zero_le _, by simp, by omega⟩
  · obtain ⟨r, n, bs, src, lb, lr, hb, he⟩ := h.rd.br
    exact ⟨r, n, bs, src, lb, lr, hb, he, Nat.zero_le _⟩
  · cases hk with
    | crlf =>
      show (13 : UInt8) ∉ 10 :: dlm b
      simp only [List.mem_cons, not_or]
      exact ⟨by decide, hno.2⟩
    | lf => exact hno.1
  · cases hk <;> decide
/-! ### Rows of byte slices (type 30, elements of type 22) -/
theorem elem30 : Tryz.prog.underlying 30 = some (.slice 22) := by kernel_rfl
theorem ti22 : ∃ i, Tryz.prog.info? 22 = some i ∧ i.zero = some (.slice none 0 0) ∧ i.size = 1 ∧ i.bytes = 24 := by
  have h : (Tryz.prog.info? 22).map (fun i => (i.zero, i.size, i.bytes)) = some (some (.slice none 0 0), 1, 24) := by kernel_rfl
  obtain ⟨i, h1, h2⟩ := Option.map_eq_some_iff.1 h
  injection h2 with h2 h3
  injection h3 with h3 h4
  exact ⟨i, h1, h2, h3, h4⟩
def BR (w : World) (base : Nat) (v : Value) (vs : List Value) : Prop := w.ownsRow base 22 1 v vs.length vs
theorem BR.base {w : World} {base base' : Nat} {v : Value} {vs : List Value} (h : BR w base v vs) (hb : base' ≤ base) : BR w base' v vs := by
  refine ⟨h.1, ?_⟩
  rcases h.2 with h0 | ⟨g, cap, cur, rfl, hb2, rest⟩
  · exact .inl h0
  · exact .inr ⟨g, cap, cur, rfl, Nat.le_trans hb hb2, rest⟩
theorem BR.kp {S : List Nat} {w w' : World} {base : Nat} {v : Value} {xs : List Value} (h : BR w base v xs) (k : Kp S w w') (hS : ∀ b ∈ S, v.ownBlock ≠ some b) : BR w' base v xs := by
  refine ⟨h.1, ?_⟩
  rcases h.2 with h0 | ⟨g, cap, cur, rfl, hb, hg, rest⟩
  · exact .inl h0
  · refine .inr ⟨g, cap, cur, rfl, hb, ?_, rest⟩
    rw [k.block g (Array.getElem?_eq_some_iff.1 hg).1 (fun e => hS g e rfl)]; exact hg
theorem BR.nil (w : World) (base : Nat) : BR w base (.slice none 0 0) [] := World.ownsRow_nil w base 22 1
theorem BR.type {w : World} {base : Nat} {v : Value} {xs : List Value} (h : BR w base v xs) : ∀ b, v.ownBlock = some b → b < w.heap.size ∧ base ≤ b ∧ ∃ cur, w.heap[b]? = some (.cells cur 22 (0, 0)) := by
  intro b hb
  rcases h.2 with ⟨rfl, _⟩ | ⟨g, cap, cur, rfl, hbb, hg, _⟩
  · simp [Value.ownBlock] at hb
  · simp [Value.ownBlock] at hb
    subst hb
    exact ⟨(Array.getElem?_eq_some_iff.1 hg).1, hbb, cur, hg⟩
theorem BR.shape {w : World} {base : Nat} {v : Value} {xs : List Value} (h : BR w base v xs) : ∃ a c, v = .slice a xs.length c := by
  rcases h.2 with ⟨rfl, h0⟩ | ⟨g, cap, cur, rfl, _⟩
  · exact ⟨none, 0, by rw [h0]⟩
  · exact ⟨_, _, rfl⟩
theorem append_one22 (w : World) (base : Nat) (ty : TypeId) (v : Value) (vs : List Value) (h : BR w base v vs) (g : Nat) (s : Value) (hs : w.cell? ⟨g, 0, none⟩ = some s) (h1c : s.oneCell' = true) (hl : vs.length ≤ 1000000000) (hbase : base ≤ w.heap.size) :
    ∃ v' w', (Builtin.append_ #[30, 30] ty #[v, .slice (some ⟨g, 0, none⟩) 1 1]).run Tryz.prog w = .ok v' w' ∧ BR w' base v' (vs ++ [s]) ∧ Kp v.ownBlock.toList w w' ∧ (∀ b, v'.ownBlock = some b → v.ownBlock = some b ∨ w.heap.size ≤ b) := by
  obtain ⟨i, h1, h2, h3, h4⟩ := ti22
  have hnews : ∀ j u, ([s] : List Value)[j]? = some u → w.cell? ((⟨g, 0, none⟩ : Addr).add j) = some u := by
    intro j u hj
    cases j with
    | zero => simp at hj; subst hj; simpa [Addr.add] using hs
    | succ j => simp at hj
  have hone : ∀ u ∈ ([s] : List Value), u.oneCell' = true := by intro u hu; simp at hu; subst hu; exact h1c
  have hll : (vs ++ [s]).length = vs.length + 1 := by simp
  rcases h.2 with ⟨hv, h0⟩ | ⟨gg, cap, cur, hv, hbb, hg, hnc, hcm, hcs, htake⟩
  · have hx : vs = [] := List.eq_nil_of_length_eq_zero h0
    subst hx; subst hv
    obtain ⟨v', w', e1, e2, e3, _⟩ := run_append_own (P := Tryz.prog) w w.heap.size 30 ty 22 i _ 1 24 elem30 h1 h2 h3 h4 rfl (by decide) (.slice none 0 0) 0 [] (World.ownsRow_nil w _ 22 1) ⟨g, 0, none⟩ 1 1 [s] rfl hnews hone (by unfold maxLen; omega) (by omega) (Nat.le_refl _)
    have e2' : BR w' w.heap.size v' ([] ++ [s]) := by unfold BR; simpa using e2
    have hnew : ∀ b, v'.ownBlock = some b → w.heap.size ≤ b := fun b hb => (World.ownsRow.lt e2' b hb).1
    exact ⟨v', w', e1, e2'.base hbase, (Kp.refl _ w).grown e3 (by intro k hk; simp [Value.ownBlock] at hk), fun b hb => .inr (hnew b hb)⟩
  · subst hv
    by_cases hfit : vs.length + 1 ≤ cap
    · obtain ⟨w', e1, e2, e3⟩ := run_append_fits (P := Tryz.prog) w base 30 ty 22 i 1 elem30 h1 h3 gg vs.length cap _ h ⟨g, 0, none⟩ 1 1 [s] rfl hnews hone hfit
      refine ⟨_, w', e1, ?_, (Kp.refl _ w).grown e3 (by intro k hk; left; simpa [Value.ownBlock] using hk.symm), fun b hb => .inl hb⟩
      unfold BR
      rw [hll]; exact e2
    · obtain ⟨v', w', e1, e2, e3⟩ := run_append_arg_grows (P := Tryz.prog) w 30 ty 22 i _ 1 24 elem30 h1 h2 h3 h4 rfl (by decide) ⟨gg, 0, none⟩ vs.length cap vs (by simp) (World.ownsRow.cells h rfl) ⟨g, 0, none⟩ 1 1 [s] rfl hnews (by omega) (by unfold maxLen; omega) (by omega)
      have e2' : BR w' w.heap.size v' (vs ++ [s]) := by unfold BR; rw [hll]; exact e2
      have hnew : ∀ b, v'.ownBlock = some b → w.heap.size ≤ b := fun b hb => (World.ownsRow.lt e2' b hb).1
      exact ⟨v', w', e1, e2'.base hbase, (Kp.refl _ w).grown e3 (by simp), fun b hb => .inr (hnew b hb)⟩
/-- A slice of the beginning of a buffer of its own. -/
def ChB (w : World) (base : Nat) (u : Value) (l : Bytes) : Prop := ∃ db cap dbs, u = .slice (some ⟨db, 0, none⟩) l.length cap ∧ Blk w db (encB dbs) 5 ∧ dbs.take l.length = l ∧ l.length ≤ cap ∧ base ≤ db
theorem ChB.kp {S : List Nat} {w w' : World} {base : Nat} {u : Value} {l : Bytes} (h : ChB w base u l) (k : Kp S w w') (hS : ∀ db, u.ownBlock = some db → db ∉ S) : ChB w' base u l := by
  obtain ⟨db, cap, dbs, rfl, h1, h2⟩ := h
  exact ⟨db, cap, dbs, rfl, h1.kp k (hS db rfl), h2⟩
theorem encB_cell (dbs : Bytes) (i : Nat) (hi : i < dbs.length) : (encB dbs)[i]? = some (.int .u8 (byt dbs i).toNat) := encB_get dbs i hi
theorem ChB.hb {w : World} {base : Nat} {u : Value} {l : Bytes} (h : ChB w base u l) : ∃ a cap, u = .slice a l.length cap ∧ HB w a l ∧ l.length ≤ cap := by
  obtain ⟨db, cap, dbs, rfl, h1, h2, h3, h4⟩ := h
  refine ⟨_, cap, rfl, HB.of_cells (fun i hi => ?_), h3⟩
  have hlen : l.length ≤ dbs.length := by have := congrArg List.length h2; rw [List.length_take] at this; omega
  rw [Nat.zero_add, h1.cell, encB_get dbs i (by omega)]
  have : byt l i = byt dbs i := by rw [← h2]; exact byt_take _ _ _ hi
  rw [this]
/-- A row of such slices. -/
structure ChR (w : World) (base : Nat) (v : Value) (cs : List Bytes) : Prop where
  ex : ∃ vs, BR w base v vs ∧ All2 (ChB w base) vs cs
theorem ChR.nil (w : World) (base : Nat) : ChR w base (.slice none 0 0) [] := ⟨[], BR.nil _ _, .nil⟩
theorem All2.mem {α β : Type} {r : α → β → Prop} {l : List α} {m : List β} (h : All2 r l m) (a : α) (ha : a ∈ l) : ∃ b ∈ m, r a b := by
  induction h with
  | nil => cases ha
  | cons a' b' l m h t ih =>
    rcases List.mem_cons.1 ha with rfl | ha
    · exact ⟨b', by simp, h⟩
    · obtain ⟨b, hb, hr⟩ := ih ha
      exact ⟨b, by simp [hb], hr⟩
/-- What turns below the base, or above all of it, leaves the row. -/
theorem ChR.kp {S : List Nat} {w w' : World} {base : Nat} {v : Value} {cs : List Bytes} (h : ChR w base v cs) (k : Kp S w w') (hS : ∀ x ∈ S, x < base ∨ w.heap.size ≤ x) : ChR w' base v cs := by
  obtain ⟨vs, h1, h2⟩ := h.ex
  refine ⟨vs, h1.kp k (fun b hb e => ?_), h2.mono (fun u hu c hc => hc.kp k (fun db e hd => ?_))⟩
  · obtain ⟨h3, h4, _⟩ := h1.type b e
    rcases hS b hb with h | h <;> omega
  · obtain ⟨db', cap, dbs, rfl, h3, _, _, h4⟩ := hc
    injection e with e
    have : db' = db := e
    subst this
    have := h3.lt
    rcases hS _ hd with h | h <;> omega
theorem ChR.add {w : World} {base : Nat} {v : Value} {cs : List Bytes} (h : ChR w base v cs) (u : Value) (l : Bytes) (hu : ChB w base u l) (hl : cs.length ≤ 1000000000) (hbase : base ≤ w.heap.size) :
    ∃ v' w', (Builtin.append_ #[30, 30] 30 #[v, .slice (some ⟨w.heap.size, 0, none⟩) 1 1]).run Tryz.prog (w.alloc (.cells #[u] 22)) = .ok v' w' ∧ ChR w' base v' (cs ++ [l]) ∧ ∃ S, Kp S w w' ∧ ∀ x ∈ S, base ≤ x ∧ x < w.heap.size := by
  have hka : Kp [] w (w.alloc (.cells #[u] 22)) := (Kp.refl _ _).alloc _
  obtain ⟨vs, h1, h2⟩ := (h.kp hka (by simp)).ex
  have hone : u.oneCell' = true := by obtain ⟨_, _, _, rfl, _⟩ := hu; rfl
  have hnew : (w.alloc (.cells #[u] 22)).cell? ⟨w.heap.size, 0, none⟩ = some u := by
    have := (Blk.new w #[u] 22).cell 0
    rw [this]; rfl
  obtain ⟨v', w', e1, e2, e3, e4⟩ := append_one22 (w.alloc (.cells #[u] 22)) base 30 v vs h1 w.heap.size u hnew hone (by have := h2.len; omega) (by simp; omega)
  have hapart : ∀ {x : Value} {c : Bytes}, ChB (w.alloc (.cells #[u] 22)) base x c → ∀ db, x.ownBlock = some db → db ∉ v.ownBlock.toList := by
    intro x c hx db hd e
    obtain ⟨db', cap, dbs, rfl, h3, _⟩ := hx
    injection hd with hd
    have : db' = db := hd
    subst this
    obtain ⟨_, _, cur, h5⟩ := h1.type db' (by simpa using e)
    have h6 : (w.alloc (.cells #[u] 22)).heap[db']? = some (.cells (encB dbs) 5 (0, 0)) := h3
    rw [h5] at h6
    injection h6 with h6
    injection h6 with _ h6
    cases h6
  refine ⟨v', w', e1, ⟨vs ++ [u], e2, ?_⟩, v.ownBlock.toList.filter (· < w.heap.size), ?_, fun x hx => ?_⟩
  · exact (h2.mono (fun x hx c hc => hc.kp e3 (hapart hc))).snoc _ _ ((hu.kp hka (by simp)).kp e3 (hapart (hu.kp hka (by simp))))
  · exact (hka.mono (by simp)).trans' (S' := v.ownBlock.toList) e3 (fun x hx => by
      by_cases hlt : x < w.heap.size
      · exact .inl (List.mem_filter.2 ⟨hx, by simp [hlt]⟩)
      · exact .inr (by omega))
  · obtain ⟨h3, h4⟩ := List.mem_filter.1 hx
    exact ⟨(h1.type x (by simpa using h3)).2.1, by simpa using h4⟩
end Go.Proofs.YtkbgnplknifmhaaGreatDoor
namespace Go.Proofs.YtkbgnplknifmhaaGreatDoor
open Go.RowKit
attribute [local go_sem ↓] Go.wp_at_zero Go.wp_at_succ
/-! ### impl.Reads (14) -/
/-- The slice at a holds the numbers l. -/
structure IB (w : World) (a : Option Addr) (l : List Int) : Prop where
  some_ : l ≠ [] → a.isSome = true
  cell : ∀ i, i < l.length → w.cell? (at_ a i) = some (.int .i64 (l.getD i 0))
theorem IB.fwd {S : List Nat} {w w' : World} {a : Option Addr} {l : List Int} (h : IB w a l) (k : Kp S w w') (hS : ∀ x ∈ S, w.heap.size ≤ x) : IB w' a l := by
  refine ⟨h.some_, fun i hi => ?_⟩
  have hl0 : l ≠ [] := fun e => by rw [e] at hi; exact absurd hi (Nat.not_lt_zero _)
  obtain ⟨x, rfl⟩ := Option.isSome_iff_exists.1 (h.some_ hl0)
  have hx := cell_lt (h.cell i hi)
  rw [at_block] at hx
  rw [← h.cell i hi]
  refine cell_congr ?_
  rw [at_block]
  exact k.block _ hx (fun e => absurd (hS _ e) (by omega))
theorem isSlice23 : Tryz.prog.underlying 23 = some (.slice (Tryz.prog.elem 23)) := by kernel_rfl
theorem elem23_eq : Tryz.prog.elem 23 = 3 := by kernel_rfl
theorem sizeOf3 (w : World) : (sizeOf 3).run Tryz.prog w = .ok 1 w := by kernel_rfl
theorem IB.ix {w : World} {a : Option Addr} {l : List Int} (h : IB w a l) (c i : Nat) (hi : i < l.length) : ∀ w : World, (Instr.indexAt 23 (.slice a l.length c) (.int .i64 (i : Int))).run Tryz.prog w = .ok (.pointer (some (at_ a i))) w := by
  intro w
  obtain ⟨x, rfl⟩ := Option.isSome_iff_exists.1 (h.some_ (fun e => by rw [e] at hi; exact absurd hi (Nat.not_lt_zero _)))
  rw [run_indexAt_slice _ _ _ _ _ _ _ isSlice23]
  simp [hi, elem23_eq, at_]
theorem NP.le {b nl : Bytes} {pr : Int} {flag : Bool} {whole : Bytes} {out : Option (Bool × Bytes)} (h : NP b nl pr flag whole out) : ∀ p ∈ out, p.2.length ≤ whole.length := by
  induction h with
  | skip l rest out hp hl hl2 hd t ih => intro p h; have := ih p h; simp; omega
  | sep l rest out hp hl hl2 hnl hd t ih => intro p h; have := ih p h; simp; omega
  | delim flag l rest hl hl2 hd hlf => intro p h; simp at h; subst h; simp; omega
  | delimLF flag l rest hp hnl hl hl2 hpre hlf => intro p h; simp at h; subst h; simp; omega
  | final flag l rest hl hl2 hd hlf hf => intro p h; simp at h
  | finalE flag l hl hl2 hl3 hf => intro p h; simp at h
theorem Lines.le {whole fin : Bytes} {items : List (Bytes × Bytes)} (h : Lines whole items fin) : fin.length ≤ whole.length := by
  induction h with
  | done l rest hl hl2 hd => simp; omega
  | more whole kv rest k vt fin items hL hkv hk hk0 hv hlen t ih =>
    have := hL.lt
    omega
/-- Sizes and what was read. -/
def SzOk (is : List Int) (cs : List Bytes) : Prop := ∀ j c, cs[j]? = some c → (c.length : Int) ≤ max 0 (is.getD j 0)
theorem SzOk.snoc {is : List Int} {cs : List Bytes} (h : SzOk is cs) (c : Bytes) (hc : (c.length : Int) ≤ max 0 (is.getD cs.length 0)) : SzOk is (cs ++ [c]) := by
  intro j x hx
  rcases Nat.lt_or_ge j cs.length with h1 | h1
  · rw [List.getElem?_append_left h1] at hx; exact h j x hx
  · rw [List.getElem?_append_right h1] at hx
    have : j - cs.length = 0 := by
      rcases Nat.eq_zero_or_pos (j - cs.length) with h2 | h2
      · exact h2
      · rw [List.getElem?_eq_none (by simp; omega)] at hx; cases hx
    rw [this] at hx
    simp at hx
    subst hx
    have : j = cs.length := by omega
    rw [this]; exact hc
structure RRel (w w' : World) (base : Nat) (E : Value) (R : RS) (M : MS) (b : Bytes) (pb : Nat) (hd : Value) (body tail : Bytes) (is : List Int) (v11 v29 : Value) (q : Nat) : Prop where
  ex : ∃ i cs body' n tot fin, v29 = .int .i64 (i : Nat) ∧ i + q = is.length ∧ cs.length = i ∧ ChR w' base v11 cs ∧ body = cs.flatten ++ body' ∧ SzOk is cs ∧ PRd w' E R M b [13, 10] (.pointer (some ⟨pb, 0, none⟩)) 1 pb hd body' tail n tot fin ∧ Kp [] w w' ∧ base ≤ w'.heap.size
def ReadsEnd (w : World) (body : Bytes) (is : List Int) (e : Ending) (w' : World) : Prop :=
  ∃ v cs eof rest, e = .returned (.tuple #[v, .bool eof, .bool eof]) ∧ ChR w' w.heap.size v cs ∧ body = cs.flatten ++ rest ∧ cs.length ≤ is.length ∧ SzOk is cs ∧ (eof = true → rest = []) ∧ (eof = false → cs.length = is.length) ∧ Kp [] w w'
theorem ChR.base {w : World} {base base' : Nat} {v : Value} {cs : List Bytes} (h : ChR w base v cs) (hb : base' ≤ base) : ChR w base' v cs := by
  obtain ⟨vs, h1, h2⟩ := h.ex
  exact ⟨vs, h1.base hb, h2.mono (fun u hu c ⟨db, cap, dbs, h3, h4, h5, h6, h7⟩ => ⟨db, cap, dbs, h3, h4, h5, h6, Nat.le_trans hb h7⟩)⟩
section
variable {w : World} {E : Value} {a : Option Addr} {c : Nat} {src b rest0 body tail : Bytes} {items : List (Bytes × Bytes)} {ai : Option Addr} {ci : Nat} {is : List Int}
set_option maxRecDepth 20000 in
set_option maxHeartbeats 4000000 in
theorem reads_any (hE : Env w E) (h : HB w a src) (hnone : a = none → c = 0) (hl : src.length ≤ 1000000000) (hbd : boundaryB b = true) (hnp : NP b [13, 10] 0 false src (some (false, rest0))) (hpt : PartAt b [13, 10] rest0 items body tail) (hi : IB w ai is) (his : is.length ≤ 1000000000) :
    Calls Tryz.prog 14 #[.slice a src.length c, .string (str b), .slice ai is.length ci] w fun e w' => ReadsEnd w body is e w' := by
  have hr0 := hnp.le (false, rest0) rfl
  have hr1 := hpt.lines.le
  simp only at hr0
  have hbl := boundaryB_len hbd
  have hsrc := source_any a src.length c src w h rfl hnone (by omega)
  have HE := Lib.hid hE
  have HI := Lib.hid hi
  clear h hnone hE hi
  go_enter Tryz.func14, Tryz.ntmps14
  go_wp2_with fail
  refine hsrc.mono ?_
  rintro e w1 ⟨ur, da, a', c', rfl, hsp⟩
  clear hsrc
  have hE1 := HE.out.kp hsp.kp (by simp)
  have hnr := newReader44 109 ur da b src E w1 (srcPost_src hsp (by omega)) hE1.g0 hE1.isE hE1.gv ⟨by have := hsp.nu; have := HE.out.sz; omega, hsp.blk.lt, hsp.nd.2.2, hsp.nd.2.1, by have := hsp.nd; have := HE.out.sz; omega⟩ hbl
  have HSP := Lib.hid hsp
  clear hsp hE1
  go_wp2_with fail
  refine hnr.mono ?_
  rintro e w2 ⟨R, M, rfl, hF⟩
  clear hnr
  have hb0 : b ≠ [] := fun e => by rw [e] at hbd; simp [boundaryB] at hbd
  have hnx := nextRaw_of (nextPart_first true hF.rd HE.out.eq hb0 ⟨by omega, by omega⟩ hnp (newC_raw (E := E) (R := R) (M := M) (b := b) (nl := [13, 10]) items _ hpt.lines (by have := hpt.few; omega) (hdrs items) rfl))
  have HF := Lib.hid hF
  clear hF hnp
  go_wp2_with fail
  refine hnx.mono ?_
  rintro e w3 ⟨pb, mb, rfl, hN⟩
  clear hnx
  have hprd : PRd w3 E R M b [13, 10] (.pointer (some ⟨pb, 0, none⟩)) 1 pb (.map (some mb)) body tail 0 0 false := hN.prd HF.out.rd NLk.crlf hbd hpt (by show (body ++ ([13, 10] ++ dlm b) ++ tail).length ≤ _; omega)
  have hlo : ∀ x ∈ M.m :: R.own, w.heap.size ≤ x := by
    intro x hx
    have hF := HF.out
    have hs := HSP.out
    have h1 := hs.kp.size
    have h2 := hF.nw
    have h3 : w.heap.size ≤ R.ur := by rw [hF.hur]; exact hs.nu
    have hx' : x = M.m ∨ x = R.rb ∨ x = R.bb ∨ x = R.st ∨ x = R.ur := by simpa [RS.own] using hx
    omega
  have hk3 : Kp [] w w3 := (HSP.out.kp.trans HF.out.kp).trans' hN.kp (fun x hx => .inr (hlo x hx))
  have hlo2 : ∀ x ∈ pb :: R.own, w.heap.size ≤ x := fun x hx => by
    rcases List.mem_cons.1 hx with rfl | hx
    · have := hN.new; have := (HSP.out.kp.trans HF.out.kp).size; omega
    · exact hlo x (by simp [hx])
  have hR0 : RRel w w3 w3.heap.size E R M b pb (.map (some mb)) body tail is (.slice none 0 0) (.int .i64 ((0 : Nat) : Int)) is.length :=
    ⟨0, [], body, 0, 0, false, rfl, by omega, rfl, ChR.nil _ _, by simp, fun j c h => by simp at h, hprd, hk3, Nat.le_refl _⟩
  have HBD : Hid ((∀ x ∈ R.own, x < w3.heap.size) ∧ R.da < w3.heap.size ∧ M.m < w3.heap.size ∧ M.bd < w3.heap.size ∧ pb < w3.heap.size ∧ 15 ≤ w3.heap.size ∧ w.heap.size ≤ w3.heap.size) := ⟨hprd.rd.own_lt, hprd.rd.dl, hprd.rd.mr.blk.lt, hprd.rd.bo.2.2.2, hprd.blk.lt, by have := HE.out.sz; have := hk3.size; omega, hk3.size⟩
  obtain ⟨tE, vE, hEE⟩ := HE.out.isE
  have HR0 := Lib.hid hR0
  have HLO := Lib.hid hlo2
  clear hlo hlo2 hN hprd hk3 hR0 HF HSP hr1 hr0 hpt
  generalize hbase : w3.heap.size = base at HR0 HBD
  clear hbase
  go_wp2
  go_loopg [11, 29] is.length (fun q v11 v29 w' => RRel w w' base E R M b pb (.map (some mb)) body tail is v11 v29 q)
  case atStart => exact HR0.out
  case round =>
    clear HR0
    obtain ⟨i, cs, body', n, tot, fin, rfl, hiq, hcs, hch, hbo, hsz, hP, hk, hbs⟩ := hrel
    by_cases hlt : i < is.length
    · have hlt' : (i : Int) < (is.length : Int) := by omega
      obtain ⟨s, hs⟩ : ∃ s, is.getD i 0 = s := ⟨_, rfl⟩
      have hix := HI.out.ix ci i hlt
      have hld : wr.cell? (at_ ai i) = some (.int .i64 s) := by rw [← hs]; exact (HI.out.fwd hk (by simp)).cell i hlt
      obtain ⟨m, hm⟩ : ∃ m : Nat, max (0 : Int) (min s 65536) = (m : Int) := ⟨(max (0 : Int) (min s 65536)).toNat, by omega⟩
      have hm2 : m ≤ 65536 := by omega
      have hm3 : (m : Int) ≤ max 0 s := by omega
      have hmk := make22 m (by omega)
      obtain ⟨dbs, hdbs⟩ : ∃ dbs : Bytes, List.replicate m 0 = dbs := ⟨_, rfl⟩
      have hdl : dbs.length = m := by rw [← hdbs]; simp
      rw [hdbs] at hmk
      have hka : Kp [] wr (wr.alloc (.cells (encB dbs) 5)) := (Kp.refl _ _).alloc _
      obtain ⟨hb1, hb2, hb3, hb4, hb5, hb6, hb7⟩ := HBD.out
      have hP1 := hP.kp hka (by simp) (by simp) (by simp) (by simp) (by simp) (by simp)
      have hcon := partRead_any hP1 m m wr.heap.size dbs 5 (Blk.new _ _ _) (by omega) (Nat.le_refl _) (by omega) ⟨fun e => by have := hb1 _ e; omega, by omega, by omega, by omega, by omega, by omega⟩
      have HCH := Lib.hid hch
      have HKA := Lib.hid hka
      have HK := Lib.hid (hk.trans hka)
      have HBS : Hid (base ≤ wr.heap.size ∧ wr.heap.size < (wr.alloc (.cells (encB dbs) 5)).heap.size) := ⟨hbs, by simp⟩
      have HQ := Lib.hid (And.intro hiq (And.intro hcs (And.intro hbo (And.intro hsz (And.intro hm3 (And.intro hs hdl))))))
      have hmI : (0 : Int) ≤ (m : Int) := by omega
      clear hP hP1 hch hk hka hbs hiq hcs hbo hsz hdbs hm3 hs hdl hb1 hb2 hb3 hb4 hb5 hb6 hb7
      go_wp2_with fail
      (with_reducible refine hcon.mono ?_)
      rintro e w5 ⟨k, x, rfl, hp⟩
      clear hcon hix hld hmk
      obtain ⟨hiq, hcs, hbo, hsz, hm3, hs, hdl⟩ := HQ.out
      obtain ⟨hb1, hb2, hb3, hb4, hb5, hb6, hb7⟩ := HBD.out
      obtain ⟨hbs, hbz⟩ := HBS.out
      obtain ⟨n', fin', hP5, hx5⟩ := hp.prd
      have hkm : k ≤ m := hp.km
      have hkI : (k : Int) ≤ (m : Int) := by omega
      have hkb := hp.kb
      have htl : (body'.take k).length = k := by rw [List.length_take]; omega
      have hk5 : Kp (pb :: R.own) wr w5 := (HKA.out.mono (by simp)).trans' hp.kp (fun x hx => by
        have hx' : x = wr.heap.size ∨ x = pb ∨ x ∈ R.own := by simpa using hx
        rcases hx' with rfl | rfl | hx'
        · exact .inr (Nat.le_refl _)
        · exact .inl (by simp)
        · exact .inl (by simp [hx']))
      have hlow : ∀ x ∈ pb :: R.own, x < base := fun x hx => by
        rcases List.mem_cons.1 hx with rfl | hx
        · exact hb5
        · exact hb1 x hx
      have hch5 : ChR w5 base u11 cs := HCH.out.kp hk5 (fun x hx => .inl (hlow x hx))
      have hnew : ChB w5 base (.slice (some ⟨wr.heap.size, 0, none⟩) k m) (body'.take k) := ⟨wr.heap.size, m, _, by rw [htl], hp.blk, by
        rw [htl]; unfold spliceB
        rw [List.take_zero, List.nil_append, List.take_append_of_le_length (by omega), List.take_of_length_le (by omega)], by rw [htl]; exact hkm, hbs⟩
      obtain ⟨v', w6, e1, hch6, S6, hk6, hS6⟩ := hch5.add _ _ hnew (by omega) (by have := hp.kp.size; omega)
      have hkw6 : Kp [] w w6 := by
        refine (HK.out.trans' hp.kp (fun x hx => .inr ?_)).trans' hk6 (fun x hx => .inr (by have := (hS6 x hx).1; omega))
        rcases List.mem_cons.1 hx with rfl | hx
        · omega
        · exact HLO.out x hx
      have hP6 := hP5.kp hk6 (fun x hx e => by have := hb1 x hx; have := (hS6 x e).1; omega) (fun e => by have := (hS6 _ e).1; omega) (fun e => by have := (hS6 _ e).1; omega) (fun e => by have := (hS6 _ e).1; omega) (fun x e => by have := (hS6 _ e).1; omega) (fun e => by have := (hS6 _ e).1; omega)
      have hbo6 : body = (cs ++ [body'.take k]).flatten ++ body'.drop k := by
        rw [hbo, List.flatten_append, List.append_assoc]
        simp
      have hsz6 : SzOk is (cs ++ [body'.take k]) := hsz.snoc _ (by rw [htl, hcs, hs]; omega)
      cases x with
      | true =>
        have hrest : body'.drop k = [] := by rw [hp.fin rfl]; simp
        have hfin : ∀ j, ReadsEnd w body is (.returned (.tuple #[v', .bool true, .bool true])) (w6.drewN j) := fun j => ⟨v', _, true, _, rfl, (hch6.base hb7).kp (Kp.drewN [] w6 j) (by simp), hbo6, by simp; omega, hsz6, fun _ => hrest, fun e => by simp at e, hkw6.drewN' j⟩
        have HFIN := Lib.hid hfin
        have hg0 : w6.cell? ⟨0, 0, none⟩ = some (.iface tE vE) := by rw [← hEE]; exact (HE.out.kp hkw6 (by simp)).g0
        have heq : ∀ w, (binOp .eql 69 (.iface tE vE) (.iface tE vE)).run Tryz.prog w = .ok (.bool true) w := by rw [← hEE]; exact HE.out.eq
        rw [errV_t, hEE]
        clear hp hP5 hx5 hch5 hnew hch6 hk6 hS6 hkw6 hP6 hbo6 hsz6 hrest hfin hk5 hlow hiq hcs hbo hsz hm3 hs hdl hb1 hb2 hb3 hb4 hb5 hb6 hb7 hbs hbz HCH HKA HK HBS HQ
        go_wp2_with (at_builtin; refine wpList_append_run2 _ rfl (.tmp 43) (.tmp 47) 30 30 rfl u11 (.slice (some ⟨w5.heap.size, 0, none⟩) 1 1) rfl rfl e1 ?_)
        go_quiet (fail)
        go_wp2
        go_ret3
        exact HFIN.out _
      | false =>
        have hrel : RRel w w6 base E R M b pb (.map (some mb)) body tail is v' (.int .i64 ((i : Int) + 1)) (is.length - (i + 1)) := ⟨i + 1, _, _, n', _, fin', by simp, by omega, by simp [hcs], hch6, hbo6, hsz6, hP6, hkw6, by have := hk6.size; have := hk5.size; omega⟩
        have hmm : is.length - (i + 1) < gk := by omega
        have HREL := Lib.hid hrel
        have HMM := Lib.hid hmm
        rw [errV_f]
        clear hp hP5 hx5 hch5 hnew hch6 hk6 hS6 hkw6 hP6 hbo6 hsz6 hk5 hlow hiq hcs hbo hsz hm3 hs hdl hb1 hb2 hb3 hb4 hb5 hb6 hb7 hbs hbz HCH HKA HK HBS HQ hrel hmm hEE
        go_wp2_with (at_builtin; refine wpList_append_run2 _ rfl (.tmp 43) (.tmp 47) 30 30 rfl u11 (.slice (some ⟨w5.heap.size, 0, none⟩) 1 1) rfl rfl e1 ?_)
        go_roundg (is.length - (i + 1))
        case measure => exact HMM.out
        case rel => exact HREL.out
    · have hge : ¬ (i : Int) < (is.length : Int) := by omega
      have hfin : ReadsEnd w body is (.returned (.tuple #[u11, .bool false, .bool false])) wr := ⟨_, cs, false, body', rfl, hch.base HBD.out.2.2.2.2.2.2, hbo, by omega, hsz, fun e => by simp at e, fun _ => by omega, hk⟩
      have HFIN := Lib.hid hfin
      clear hch hbo hsz hP hk hbs hiq hcs hfin
      go_wp2
      go_ret3
      exact HFIN.out
end
end Go.Proofs.YtkbgnplknifmhaaGreatDoor
namespace Go.Proofs.YtkbgnplknifmhaaGreatDoor
open Go.RowKit
attribute [local go_sem ↓] Go.wp_at_zero Go.wp_at_succ
/-! ### spec.Parse (13) -/
section
variable {w : World} {a : Option Addr} {c : Nat} {src b : Bytes}
set_option maxRecDepth 20000 in
set_option maxHeartbeats 4000000 in
theorem parse_any (h : HB w a src) (hc : src.length ≤ c) (hnone : a = none → c = 0) (hl : src.length ≤ 1000000000) (hbl : b.length ≤ 1000000000) :
    Calls Tryz.prog 13 #[.slice a src.length c, .string (str b)] w fun e w' => ParseEnd w a (parseP src b) e w' := by
  have e2 : (⟨#[45, 45]⟩ : ByteArray) = str [45, 45] := rfl
  have e3 : (⟨#[13, 10]⟩ : ByteArray) = str [13, 10] := rfl
  have hbd := boundary_any b w (by omega)
  obtain ⟨d, hd⟩ : ∃ d, (45 :: 45 :: b : Bytes) = d := ⟨_, rfl⟩
  have hdb : dlm b = d := hd
  have hdl : d.length = b.length + 2 := by rw [← hd]; simp
  have hs1 : ¬ (9223372036854775807 < 2 + b.length) := by omega
  have hs2 : ¬ (9223372036854775807 < 2 + d.length) := by omega
  have hs3 : ¬ (9223372036854775807 < d.length + 2) := by omega
  cases hb : boundaryB b with
  | false =>
    rw [hb] at hbd
    have HRES : Hid (parseP src b = none) := by show _ = _; unfold parseP; rw [hb]; rfl
    have HK : Hid (∃ S, Kp S w w ∧ ∀ x ∈ S, w.heap.size ≤ x) := ⟨[], Kp.refl _ _, by simp⟩
    clear h hc hnone hl hb hbl
    go_enter Tryz.func13, Tryz.ntmps13
    go_wp2_with fail
    refine hbd.mono ?_
    rintro e w' ⟨rfl, rfl⟩
    clear hbd
    go_wp2
    go_ret2
    rw [HRES.out]
    exact ⟨rfl, HK.out⟩
  | true =>
    rw [hb] at hbd
    have HRES : Hid (parseP src b = (match preP d (src.length + 1) src with | none => none | some rest => partsP d (src.length + 1) rest [])) := by show _ = _; unfold parseP; rw [hb, hdb]; rfl
    have HR1 : Hid (P1Rel w w a d src (.slice a src.length c) src.length) := ⟨src, src.length + 1, ⟨a, c, rfl, h, hc, SameBlk.refl a, hnone⟩, rfl, by omega, rfl, Kp.refl _ _⟩
    have H0 := Lib.hid h
    have HL := Lib.hid hl
    have HBL := Lib.hid (boundaryB_len hb)
    clear h hc hnone hl hb hbl
    go_enter Tryz.func13, Tryz.ntmps13
    go_wp2_with fail
    refine hbd.mono ?_
    rintro e w' ⟨rfl, rfl⟩
    clear hbd
    go_wp2
    go_loopg [0] src.length (fun q v0 w' => P1Rel w w' a d src v0 q ∧ q ≤ src.length)
    case atStart => exact ⟨HR1.out, Nat.le_refl _⟩
    case round =>
      clear HR1
      obtain ⟨⟨s, f, ⟨a1, c1, rfl, hb, hc1, hsb, hno⟩, hq, hsf, hpre, hk⟩, hql⟩ := hrel
      have hsl : s.length ≤ 281474976710656 := by have := HL.out; omega
      have hdl2 : d.length ≤ 72 := by have := HBL.out; omega
      obtain ⟨f, rfl⟩ : ∃ f', f = f' + 1 := ⟨f - 1, by omega⟩
      have hP := hpre
      conv at hP => rhs; unfold preP
      have hNONE : preP d (src.length + 1) src = none → ∀ w1, Kp [] wr w1 → ParseEnd w a (parseP src b) (.returned (.tuple #[.slice none 0 0, .bool false])) w1 := by
        intro e w1 k1
        rw [HRES.out, e]
        exact ⟨rfl, [], hk.trans k1, by simp⟩
      have HQ := Lib.hid hq
      have HNONE := Lib.hid hNONE
      clear hq hpre hNONE
      cases hf : findL [13, 10] s with
      | none =>
        have hcon := line_none (hb.kp hk (by simp)) hc1 hsl hf
        rw [show lineP s = none from by unfold lineP; rw [hf]; rfl] at hP
        have HP := Lib.hid hP
        clear hf hb hk hno hsb hP
        go_wp2_with fail
        (with_reducible refine hcon.mono ?_)
        rintro e w1 ⟨rfl, hk1⟩
        clear hcon
        have HK1 := Lib.hid hk1
        clear hk1
        go_wp2
        go_ret2
        exact HNONE.out HP.out _ HK1.out
      | some i =>
        have hcon := line_some (hb.kp hk (by simp)) hc1 hsl i hf
        rw [show lineP s = some (s.take i, s.drop (i + 2)) from by unfold lineP; rw [hf]; rfl] at hP
        have hle : i + 2 ≤ s.length := (findL_le hf).1
        have hsub : Sub w a (s.drop (i + 2)) (.slice (cutAt a1 c1 (i + 2)) (s.drop (i + 2)).length (c1 - (i + 2))) := ⟨_, _, rfl, hb.drop hc1 hle, by rw [List.length_drop]; omega, hsb.cut c1 (i + 2), fun e => by
          have : a1 = none := by unfold cutAt at e; split at e; exact e; simpa using e
          have := hno this; omega⟩
        have hrl : (s.drop (i + 2)).length < gk := by have := HQ.out; rw [List.length_drop]; omega
        have hLl : (s.take i).length ≤ 281474976710656 := by rw [List.length_take]; omega
        obtain ⟨L, hL⟩ : ∃ L, L = s.take i := ⟨_, rfl⟩
        obtain ⟨r, hr⟩ : ∃ r, r = s.drop (i + 2) := ⟨_, rfl⟩
        rw [← hL] at hcon hLl
        rw [← hL, ← hr] at hP
        rw [← hr] at hcon hsub hrl
        generalize cutAt a1 c1 (i + 2) = a2 at hcon hsub
        generalize c1 - (i + 2) = c2 at hcon hsub
        have hrf : r.length < f := by have := HQ.out; omega
        generalize hrlen : r.length = rl at hcon hsub hrl hrf
        have HRL := Lib.hid (And.intro hrlen hrl)
        have HRF := Lib.hid hrf
        have HSUB := Lib.hid hsub
        have HK := Lib.hid hk
        clear hf hb hk hno hsb hsub hle hL hr hrl hrlen hc1 hsl hrf
        have hpx := fun w => strPrefix39_any L d w hLl (by omega)
        have hde := fun w => delimiter_any L d w hLl (by omega)
        have hpr := fun w => printable_any L w hLl
        by_cases h998 : 998 < L.length
        · have hlt : decide ((998 : Int) < (L.length : Int)) = true := by simp; omega
          simp only [h998, if_true] at hP
          have HP := Lib.hid hP
          clear hP hpx hde hpr h998
          go_wp2_with fail
          (with_reducible refine hcon.mono ?_)
          rintro e w1 ⟨rfl, hk1⟩
          clear hcon
          have HK1 := Lib.hid hk1
          clear hk1
          go_wp2
          go_ret2
          exact HNONE.out HP.out _ HK1.out
        · have h998' : (L.length : Int) ≤ 998 := by omega
          simp only [h998, if_false] at hP
          clear h998
          cases hpf : d.isPrefixOf L with
          | true =>
            rw [hpf] at hpx hP
            simp only [if_true] at hP
            clear hpr
            cases hdb2 : delimB L d with
            | false =>
              rw [hdb2] at hde hP
              simp only [Bool.false_eq_true, if_false] at hP
              have HP := Lib.hid hP
              clear hP hdb2 hpf
              go_wp2_with fail
              (with_reducible refine hcon.mono ?_)
              rintro e w1 ⟨rfl, hk1⟩
              clear hcon
              have HK1 := Lib.hid hk1
              clear hk1
              go_wp2_with (first | (go_at_call 39; (with_reducible refine (hpx _).mono ?_); rintro e w' ⟨rfl, rfl⟩) | (go_at_call 40; (with_reducible refine (hde _).mono ?_); rintro e w' ⟨rfl, rfl⟩))
              go_ret2
              exact HNONE.out HP.out _ HK1.out
            | true =>
              rw [hdb2] at hde hP
              simp only [if_true] at hP
              have HP := Lib.hid hP
              clear hP hdb2 hpf
              go_wp2_with fail
              (with_reducible refine hcon.mono ?_)
              rintro e w1 ⟨rfl, hk1⟩
              clear hcon
              have HK1 := Lib.hid hk1
              clear hk1
              go_wp2_with (first | (go_at_call 39; (with_reducible refine (hpx _).mono ?_); rintro e w' ⟨rfl, rfl⟩) | (go_at_call 40; (with_reducible refine (hde _).mono ?_); rintro e w' ⟨rfl, rfl⟩))
              have HFIN : Hid (parseP src b = partsP d (src.length + 1) r []) := by have := HRES.out; rw [HP.out] at this; exact this
              have HR2 : Hid (P2Rel w w1 a d src r (.slice a2 rl c2) (.slice none 0 0) rl) := ⟨r, src.length + 1, [], [], HSUB.out, HRL.out.1, by have := HRL.out; omega, PVx.nil _ _ _, by have := HRL.out; simp; omega, rfl, HK.out.trans HK1.out, by simp⟩
              clear HP HRES HNONE HSUB HK HK1 HRL HRF HQ hsf h998' hpx hde hLl
              go_loopg [0, 6] rl (fun q v0 v6 w' => P2Rel w w' a d src r v0 v6 q)
              case atStart => exact HR2.out
              case round =>
                clear HR2
                obtain ⟨s, f, ps, S, ⟨a1, c1, rfl, hb, hc1, hsb, hno⟩, hq, hsf, hpv, hpl, hpp, hk, hS⟩ := hrel
                have hsl : s.length ≤ 281474976710656 := by have := HL.out; omega
                obtain ⟨f, rfl⟩ : ∃ f', f = f' + 1 := ⟨f - 1, by omega⟩
                have hP := HFIN.out.trans hpp
                conv at hP => rhs; unfold partsP
                have hNONE : parseP src b = none → ∀ S1 w1, Kp S1 w w1 → (∀ x ∈ S1, w.heap.size ≤ x) → ParseEnd w a (parseP src b) (.returned (.tuple #[.slice none 0 0, .bool false])) w1 := by
                  intro e S1 w1 k1 h1
                  rw [e]
                  exact ⟨rfl, S1, k1, h1⟩
                have hcon := head_any (hb.fwd hk hS) hc1 hno hsl
                have HNONE := Lib.hid hNONE
                have HQ := Lib.hid hq
                have HK := Lib.hid hk
                have HS := Lib.hid hS
                have HPV := Lib.hid hpv
                have HPL := Lib.hid hpl
                have HSF := Lib.hid hsf
                have HSB := Lib.hid hsb
                clear hNONE hpp hpv hpl hk hS hq hsf hsb hb hno
                cases hh : headP 101 s [] with
                | none =>
                  rw [hh] at hcon hP
                  have HP := Lib.hid hP
                  clear hP hh
                  go_wp2_with fail
                  (with_reducible refine hcon.mono ?_)
                  rintro e w1 ⟨rfl, hk1⟩
                  clear hcon
                  have HK1 := Lib.hid hk1
                  clear hk1
                  go_wp2
                  go_ret2
                  exact HNONE.out HP.out _ _ (HK.out.trans (HK1.out.mono (by simp))) HS.out
                | some p =>
                  obtain ⟨hs, rest⟩ := p
                  have hlt := headP_lt _ hh
                  rw [hh] at hcon hP
                  simp only at hP
                  clear hh
                  go_wp2_with fail
                  (with_reducible refine hcon.mono ?_)
                  rintro e w1 ⟨v, svs, vr, rfl, hx, hxn, ⟨a2, c2, rfl, hb2, hc2, hsb2, hno2⟩, hk1⟩
                  clear hcon
                  obtain ⟨av, nv, cv, rfl⟩ := hx.shape
                  obtain ⟨c3, w2, hcv, hb3, hlc3, hk2, hsz2⟩ := conv_bytes (13 :: 10 :: d) w1
                  have hrl2 : rest.length ≤ 281474976710656 := by omega
                  have hfind := find_any a2 (some ⟨w1.heap.size, 0, none⟩) c2 c3 rest (13 :: 10 :: d) w2 (hb2.kp hk2 (by simp)) hc2 hb3 hrl2 (by simp; omega)
                  generalize hdn : (13 :: 10 :: d : Bytes).length = dn at hcv hfind hlc3
                  have hkk : Kp S w w2 := HK.out.trans ((hk1.trans hk2).mono (by simp))
                  have HB0 := Lib.hid (hb2.back (HK.out.trans (hk1.mono (by simp))) HS.out (hsb2.trans HSB.out) H0.out (by have := HPL.out; omega))
                  have HSB2 := Lib.hid (hsb2.trans HSB.out)
                  have HX := Lib.hid ((hx.kp hk2 (by simp) (by simp)).base HK.out.size)
                  have HPV2 := Lib.hid (HPV.out.kp0 (hk1.trans hk2))
                  have HKK := Lib.hid hkk
                  have HNO := Lib.hid hno2
                  have HLT := Lib.hid hlt
                  have HDN := Lib.hid hdn
                  clear hx hxn hb2 hsb2 hno2 hk1 hb3 hlc3 hk2 hsz2 hkk hlt hdn HPV HSB
                  cases hj : findL (13 :: 10 :: d) rest with
                  | none =>
                    rw [findI_none hj] at hfind
                    rw [hj] at hP
                    have HP := Lib.hid hP
                    clear hP hj
                    go_wp2_with fail
                    (with_reducible refine hfind.mono ?_)
                    rintro e w' ⟨rfl, rfl⟩
                    clear hfind
                    go_wp2
                    go_ret2
                    exact HNONE.out HP.out _ _ HKK.out HS.out
                  | some j =>
                    rw [findI_some hj] at hfind
                    have hjl := (findL_le hj).1
                    have hjl2 : j + (d.length + 2) ≤ rest.length := by simpa using hjl
                    rw [hj] at hP
                    simp only at hP
                    clear hj hjl
                    have hneg : decide ((j : Int) < 0) = false := by simp
                    have hjc : (j : Int) ≤ (c2 : Int) := by omega
                    have hjr : j ≤ rest.length := by omega
                    have hjt : (rest.take j).length = j := by rw [List.length_take]; omega
                    have hfree := free_any (b := b) ((HB0.out.take j).fwd HKK.out HS.out) (c := c2) (by rw [hjt]; omega) (by rw [hjt]; omega) (by have := HBL.out; omega)
                    rw [hjt, hdb] at hfree
                    have HJT := Lib.hid hjt
                    have HJL := Lib.hid hjl2
                    clear hjt hjl2
                    cases hfr : freeB (rest.take j) d with
                    | false =>
                      rw [hfr] at hfree hP
                      have HP := Lib.hid hP
                      clear hP hfr
                      go_wp2_with fail
                      (with_reducible refine hfind.mono ?_)
                      rintro e w' ⟨rfl, rfl⟩
                      clear hfind
                      go_wp2_with fail
                      (with_reducible refine hfree.mono ?_)
                      rintro e w3 ⟨rfl, hk3⟩
                      clear hfree
                      have HK3 := Lib.hid hk3
                      clear hk3
                      go_wp2
                      go_ret2
                      exact HNONE.out HP.out _ _ (HKK.out.trans (HK3.out.mono (by simp))) HS.out
                    | true =>
                      rw [hfr] at hfree hP
                      simp only [if_true] at hP
                      have HP := Lib.hid hP
                      clear hP hfr
                      go_wp2_with fail
                      (with_reducible refine hfind.mono ?_)
                      rintro e w' ⟨rfl, rfl⟩
                      clear hfind
                      go_wp2_with fail
                      (with_reducible refine hfree.mono ?_)
                      rintro e w3 ⟨rfl, hk3⟩
                      clear hfree
                      obtain ⟨v', w4, e1, hpv4, S4, hk4, hS4⟩ := PVx.add (w0 := w) (w := w3) (a0 := a) (HPV2.out.kp0 hk3) (.slice av nv cv) (.slice a2 j c2) svs hs (rest.take j) (HX.out.kp hk3 (by simp) (by simp)) ⟨a2, c2, by rw [HJT.out], HB0.out.take j, by rw [HJT.out]; omega, HSB2.out, HNO.out⟩ (Nat.le_trans HKK.out.size hk3.size) (by have := HPL.out; have := HL.out; omega)
                      have HKT : Hid (Kp (S ++ S4) w w4) := (HKK.out.trans (hk3.mono (by simp))).mono (fun x hx _ => List.mem_append_left _ hx) |>.trans (hk4.mono (fun x hx _ => List.mem_append_right _ hx))
                      have HST : Hid (∀ x ∈ S ++ S4, w.heap.size ≤ x) := fun x hx => (List.mem_append.1 hx).elim (HS.out x) (hS4 x)
                      have hj2 : j + 2 ≤ rest.length := by have := HJL.out; omega
                      obtain ⟨t, ht⟩ : ∃ t, rest.drop (j + 2) = t := ⟨_, rfl⟩
                      have htl : rest.length - (j + 2) = t.length := by rw [← ht, List.length_drop]
                      have hBT : HB w (cutAt a2 c2 (j + 2)) t := by rw [← ht]; exact HB0.out.drop hc2 hj2
                      have hct : t.length ≤ c2 - (j + 2) := by omega
                      have hSBT := HSB2.out.cut c2 (j + 2)
                      have hnoT := none_cut (j + 2) HNO.out
                      have hj3 : (j : Int) + 2 ≤ (rest.length : Int) := by omega
                      have hj30 : (0 : Int) ≤ (j : Int) + 2 := by omega
                      have ht2 : ((j : Int) + 2).toNat = j + 2 := by omega
                      have hwr : IntKind.i64.wrap ((j : Int) + 2) = (j : Int) + 2 := IntWalk.i64_in _ (by omega)
                      have hcut : ∀ w : World, (Instr.sliceAt 22 (.slice a2 rest.length c2) (some (.int .i64 ((j : Int) + 2))) none none).run Tryz.prog w = .ok (.slice (cutAt a2 c2 (j + 2)) t.length (c2 - (j + 2))) w := fun w => by
                        rw [run_cut_l w _ rest.length c2 _ hj30 hj3, ht2, htl]
                      have HP2 : Hid (parseP src b = match lineP t with
                          | none => if delimB t (d ++ [45, 45]) then some (ps ++ [(hs, rest.take j)]) else none
                          | some (l, after) => if delimB l (d ++ [45, 45]) then some (ps ++ [(hs, rest.take j)]) else if delimB l d then partsP d f after (ps ++ [(hs, rest.take j)]) else none) := by
                        have := HP.out; rw [ht] at this; exact this
                      have HPLT : Hid ((ps ++ [(hs, rest.take j)]).length + t.length ≤ src.length) := by
                        have := HPL.out; have := HLT.out; have := htl
                        show _ ≤ _
                        rw [List.length_append, List.length_singleton]; omega
                      have HTL : Hid (t.length < gk ∧ t.length < f) := by have := HLT.out; have := HQ.out; have := HSF.out; exact ⟨by omega, by omega⟩
                      obtain ⟨ps', hps'⟩ : ∃ ps', ps ++ [(hs, rest.take j)] = ps' := ⟨_, rfl⟩
                      rw [hps'] at HP2 HPLT hpv4
                      have HPV4 := Lib.hid hpv4
                      have HBT := Lib.hid hBT
                      have HSBT := Lib.hid hSBT
                      have HNOT := Lib.hid hnoT
                      have htl2 : t.length ≤ 1000000000 := by have := HPLT.out; have := HL.out; omega
                      generalize cutAt a2 c2 (j + 2) = a3 at hcut HBT HSBT HNOT
                      generalize c2 - (j + 2) = c3' at hcut HNOT hct
                      have hBT4 := HBT.out.fwd HKT.out HST.out
                      clear hpv4 hBT hSBT hnoT ht htl hps' hk3 hk4 hS4 HPV2 HX HKK HP HPL HLT HQ HSF HSB2 HNO HJL HJT hj2 ht2 HB0
                      cases hf2 : findL [13, 10] t with
                      | none =>
                        have hlin := line_none hBT4 hct (by omega) hf2
                        rw [show lineP t = none from by unfold lineP; rw [hf2]; rfl] at HP2
                        have hst : ∀ w1, Kp [] w4 w1 → (convert 22 9 (.slice a3 t.length c3')).run Tryz.prog w1 = .ok (.string (str t)) w1 := fun w1 k1 => run_str _ a3 t t.length c3' (hBT4.kp k1 (by simp)) rfl
                        have hde2 := fun w => delimiter_any t (d ++ [45, 45]) w (by omega) (by simp; omega)
                        clear hf2
                        cases hdb3 : delimB t (d ++ [45, 45]) with
                        | true =>
                          rw [hdb3] at hde2
                          have HRS : Hid (parseP src b = some ps') := by have := HP2.out; simp only [hdb3, if_true] at this; exact this
                          clear HP2 hdb3 hBT4
                          go_wp2_with (at_builtin; refine wpList_append_run2 _ rfl (.tmp 69) (.tmp 75) 24 24 rfl u6 (.slice (some ⟨w3.heap.size, 0, none⟩) 1 1) rfl rfl e1 ?_)
                          (with_reducible refine hlin.mono ?_)
                          rintro e w5 ⟨rfl, hk5⟩
                          clear hlin e1
                          have HK5 := Lib.hid (HKT.out.trans (hk5.mono (by simp)))
                          have hst2 := hst _ hk5
                          have HPV5 := Lib.hid (HPV4.out.kp0 hk5)
                          clear hk5 hst
                          go_wp2_with (go_at_call 40; (with_reducible refine (hde2 _).mono ?_); rintro e w' ⟨rfl, rfl⟩)
                          go_ret2
                          rw [HRS.out]
                          exact ⟨_, rfl, HPV5.out, _, HK5.out, HST.out⟩
                        | false =>
                          rw [hdb3] at hde2
                          have HRS : Hid (parseP src b = none) := by have := HP2.out; simp only [hdb3, Bool.false_eq_true, if_false] at this; exact this
                          clear HP2 hdb3 hBT4
                          go_wp2_with (at_builtin; refine wpList_append_run2 _ rfl (.tmp 69) (.tmp 75) 24 24 rfl u6 (.slice (some ⟨w3.heap.size, 0, none⟩) 1 1) rfl rfl e1 ?_)
                          (with_reducible refine hlin.mono ?_)
                          rintro e w5 ⟨rfl, hk5⟩
                          clear hlin e1
                          have HK5 := Lib.hid (HKT.out.trans (hk5.mono (by simp)))
                          have hst2 := hst _ hk5
                          clear hk5 hst
                          go_wp2_with (go_at_call 40; (with_reducible refine (hde2 _).mono ?_); rintro e w' ⟨rfl, rfl⟩)
                          go_ret2
                          exact HNONE.out HRS.out _ _ HK5.out HST.out
                      | some k =>
                        have hlin := line_some hBT4 hct (by omega) k hf2
                        rw [show lineP t = some (t.take k, t.drop (k + 2)) from by unfold lineP; rw [hf2]; rfl] at HP2
                        have hle : k + 2 ≤ t.length := (findL_le hf2).1
                        obtain ⟨M, hM⟩ : ∃ M, t.take k = M := ⟨_, rfl⟩
                        obtain ⟨z, hz⟩ : ∃ z, t.drop (k + 2) = z := ⟨_, rfl⟩
                        have hzl : z.length + 2 ≤ t.length := by rw [← hz, List.length_drop]; omega
                        have hMl : M.length ≤ 1000000000 := by rw [← hM, List.length_take]; omega
                        have hBZ : HB w (cutAt a3 c3' (k + 2)) z := by rw [← hz]; exact HBT.out.drop hct hle
                        have hZC : z.length ≤ c3' - (k + 2) := by rw [← hz, List.length_drop]; omega
                        have HSBZ := Lib.hid (HSBT.out.cut c3' (k + 2))
                        have HNOZ := Lib.hid (none_cut (k + 2) HNOT.out)
                        rw [hM, hz] at hlin HP2
                        have HBZ := Lib.hid hBZ
                        have HZC := Lib.hid hZC
                        generalize cutAt a3 c3' (k + 2) = a4 at hlin HBZ HSBZ HNOZ
                        generalize c3' - (k + 2) = c4 at hlin HNOZ HZC
                        have HZL : Hid (z.length < gk ∧ z.length < f ∧ ps'.length + z.length ≤ src.length) := by have := HTL.out; have := HPLT.out; exact ⟨by omega, by omega, by omega⟩
                        generalize hzl0 : z.length = zl at hlin
                        have HZ0 := Lib.hid hzl0
                        have hde2 := fun w => delimiter_any M (d ++ [45, 45]) w (by omega) (by simp; omega)
                        have hde1 := fun w => delimiter_any M d w (by omega) (by omega)
                        clear hf2 hBT4 hM hz hzl hBZ hZC hzl0 HTL HPLT HSBT HNOT HBT hle
                        cases hdb3 : delimB M (d ++ [45, 45]) with
                        | true =>
                          rw [hdb3] at hde2
                          have HRS : Hid (parseP src b = some ps') := by have := HP2.out; simp only [hdb3, if_true] at this; exact this
                          clear HP2 hdb3 hde1
                          go_wp2_with (at_builtin; refine wpList_append_run2 _ rfl (.tmp 69) (.tmp 75) 24 24 rfl u6 (.slice (some ⟨w3.heap.size, 0, none⟩) 1 1) rfl rfl e1 ?_)
                          (with_reducible refine hlin.mono ?_)
                          rintro e w5 ⟨rfl, hk5⟩
                          clear hlin e1
                          have HK5 := Lib.hid (HKT.out.trans (hk5.mono (by simp)))
                          have HPV5 := Lib.hid (HPV4.out.kp0 hk5)
                          clear hk5
                          go_wp2_with (go_at_call 40; (with_reducible refine (hde2 _).mono ?_); rintro e w' ⟨rfl, rfl⟩)
                          go_ret2
                          rw [HRS.out]
                          exact ⟨_, rfl, HPV5.out, _, HK5.out, HST.out⟩
                        | false =>
                          cases hdb4 : delimB M d with
                          | false =>
                            rw [hdb3] at hde2
                            rw [hdb4] at hde1
                            have HRS : Hid (parseP src b = none) := by have := HP2.out; simp only [hdb3, hdb4, Bool.false_eq_true, if_false] at this; exact this
                            clear HP2 hdb3 hdb4
                            go_wp2_with (at_builtin; refine wpList_append_run2 _ rfl (.tmp 69) (.tmp 75) 24 24 rfl u6 (.slice (some ⟨w3.heap.size, 0, none⟩) 1 1) rfl rfl e1 ?_)
                            (with_reducible refine hlin.mono ?_)
                            rintro e w5 ⟨rfl, hk5⟩
                            clear hlin e1
                            have HK5 := Lib.hid (HKT.out.trans (hk5.mono (by simp)))
                            clear hk5
                            go_wp2_with (first | (go_at_call 40; (with_reducible refine (hde2 _).mono ?_); rintro e w' ⟨rfl, rfl⟩) | (go_at_call 40; (with_reducible refine (hde1 _).mono ?_); rintro e w' ⟨rfl, rfl⟩))
                            go_ret2
                            exact HNONE.out HRS.out _ _ HK5.out HST.out
                          | true =>
                            rw [hdb3] at hde2
                            rw [hdb4] at hde1
                            have HRS : Hid (parseP src b = partsP d f z ps') := by have := HP2.out; simp only [hdb3, hdb4, Bool.false_eq_true, if_false, if_true] at this; exact this
                            clear HP2 hdb3 hdb4
                            go_wp2_with (at_builtin; refine wpList_append_run2 _ rfl (.tmp 69) (.tmp 75) 24 24 rfl u6 (.slice (some ⟨w3.heap.size, 0, none⟩) 1 1) rfl rfl e1 ?_)
                            (with_reducible refine hlin.mono ?_)
                            rintro e w5 ⟨rfl, hk5⟩
                            clear hlin e1
                            have HK5 := Lib.hid (HKT.out.trans (hk5.mono (by simp)))
                            have HREL : Hid (P2Rel w w5 a d src r (.slice a4 zl c4) v' zl) := ⟨z, f, ps', S ++ S4, ⟨a4, c4, by rw [HZ0.out], HBZ.out, HZC.out, HSBZ.out, HNOZ.out⟩, HZ0.out, HZL.out.2.1, HPV4.out.kp0 hk5, HZL.out.2.2, HFIN.out.symm.trans HRS.out, HK5.out, HST.out⟩
                            clear hk5
                            go_wp2_with (first | (go_at_call 40; (with_reducible refine (hde2 _).mono ?_); rintro e w' ⟨rfl, rfl⟩) | (go_at_call 40; (with_reducible refine (hde1 _).mono ?_); rintro e w' ⟨rfl, rfl⟩))
                            go_roundg zl
                            case measure => have := HZL.out.1; have := HZ0.out; omega
                            case rel => exact HREL.out
          | false =>
            rw [hpf] at hpx hP
            simp only [Bool.false_eq_true, if_false] at hP
            clear hde
            cases hpb : L.all printC with
            | false =>
              rw [hpb] at hpr hP
              simp only [Bool.false_eq_true, if_false] at hP
              have HP := Lib.hid hP
              clear hP hpb hpf
              go_wp2_with fail
              (with_reducible refine hcon.mono ?_)
              rintro e w1 ⟨rfl, hk1⟩
              clear hcon
              have HK1 := Lib.hid hk1
              clear hk1
              go_wp2_with (first | (go_at_call 39; (with_reducible refine (hpx _).mono ?_); rintro e w' ⟨rfl, rfl⟩) | (go_at_call 41; (with_reducible refine (hpr _).mono ?_); rintro e w' ⟨rfl, rfl⟩))
              go_ret2
              exact HNONE.out HP.out _ HK1.out
            | true =>
              rw [hpb] at hpr hP
              simp only [if_true] at hP
              have HP := Lib.hid hP
              clear hP hpb hpf
              go_wp2_with fail
              (with_reducible refine hcon.mono ?_)
              rintro e w1 ⟨rfl, hk1⟩
              clear hcon
              have HK1 := Lib.hid hk1
              clear hk1
              go_wp2_with (first | (go_at_call 39; (with_reducible refine (hpx _).mono ?_); rintro e w' ⟨rfl, rfl⟩) | (go_at_call 41; (with_reducible refine (hpr _).mono ?_); rintro e w' ⟨rfl, rfl⟩))
              go_roundg rl
              case measure => exact HRL.out.2
              case rel => exact ⟨⟨r, f, HSUB.out, HRL.out.1, by have := HRL.out.1; have := HRF.out; omega, HP.out, HK.out.trans HK1.out⟩, by have := HRL.out.2; omega⟩
end
end Go.Proofs.YtkbgnplknifmhaaGreatDoor
namespace Go.Proofs.YtkbgnplknifmhaaGreatDoor

/-! ### A text that the reference parses -/
theorem matchP_pad {pad t : Bytes} (h : pad.all blankC = true) (x : UInt8) (hx : stopC x = true) : matchP (pad ++ x :: t) = 1 := by
  cases pad with
  | nil => unfold matchP; simp [hx]
  | cons y pad =>
    simp only [List.all_cons, Bool.and_eq_true] at h
    have hy : stopC y = true := by
      have := h.1
      unfold blankC at this
      unfold stopC
      simp only [Bool.or_eq_true, beq_iff_eq] at this ⊢
      rcases this with e | e <;> simp [e]
    rw [List.cons_append]
    unfold matchP
    simp [hy]
theorem matchP_dash (t : Bytes) : matchP (45 :: 45 :: t) = 1 := rfl
theorem partsP_at {b : Bytes} (hb : boundaryB b = true) (f : Nat) : ∀ {rest0 : Bytes} {out ps : PL}, partsP (dlm b) f rest0 out = some ps → ∃ ps', ps = out ++ ps' ∧ PartsAt b [13, 10] rest0 ps' := by
  induction f with
  | zero => intro rest0 out ps h; cases h
  | succ f ih =>
    intro rest0 out ps h
    unfold partsP at h
    cases hh : headP 101 rest0 [] with
    | none => rw [hh] at h; cases h
    | some p =>
      obtain ⟨hs, rest⟩ := p
      rw [hh] at h
      simp only at h
      cases hj : findL (13 :: 10 :: dlm b) rest with
      | none => rw [hj] at h; cases h
      | some i =>
        rw [hj] at h
        simp only at h
        obtain ⟨items, hL, hlen, hfold⟩ := headP_lines 101 hh
        have hfold2 : hs = hdrs items := hfold.trans (foldl_addP items [] List.Pairwise.nil).1
        subst hfold2
        have hsp := findL_split hj
        have hle := (findL_le hj).1
        have hdr : rest.drop (i + 2) = dlm b ++ rest.drop (i + (13 :: 10 :: dlm b).length) := by
          have := congrArg (List.drop (i + 2)) hsp
          rw [this]
          have e : (List.take i rest).length = i := by rw [List.length_take]; omega
          rw [List.append_assoc, List.drop_append, List.drop_of_length_le (by omega), e, List.nil_append, show i + 2 - i = 2 from by omega]
          rfl
        obtain ⟨body, hbody⟩ : ∃ body, rest.take i = body := ⟨_, rfl⟩
        obtain ⟨tail, htail⟩ : ∃ tail, rest.drop (i + (13 :: 10 :: dlm b).length) = tail := ⟨_, rfl⟩
        have hbl : body.length = i := by rw [← hbody, List.length_take]; omega
        rw [hbody, htail] at hsp
        rw [htail] at hdr
        rw [hbody, hdr] at h
        have hno := dlm_no hb
        split at h
        · rename_i hfree
          unfold freeB at hfree
          simp only [Bool.and_eq_true, Bool.not_eq_true'] at hfree
          have hw : rest = body ++ ([13, 10] ++ dlm b) ++ tail := hsp
          have hfst : (dlm b).isPrefixOf (body ++ ([13, 10] ++ dlm b) ++ tail) = false := by
            have := not_prefix_of hno.2 hfree.1 (10 :: dlm b ++ tail)
            simpa using this
          have hfnd : findL ([13, 10] ++ dlm b) (body ++ ([13, 10] ++ dlm b) ++ tail) = some body.length := by
            rw [← hw, hbl]; exact hj
          rw [hw] at hL
          have hmk : matchP tail = 1 → PartAt b [13, 10] rest0 items body tail := fun ht => ⟨hL, by omega, hfnd, hfst, ht⟩
          have hfin : ∀ pad, tail = [45, 45] ++ pad → pad.all blankC = true → pad.length ≤ 20 → PartsAt b [13, 10] rest0 [(hdrs items, body)] := by
            intro pad ht hp hpl
            refine PartsAt.last rest0 items body tail (hmk (by rw [ht]; exact matchP_dash _)) (fun pr hpr => ?_)
            rw [ht, List.append_assoc]
            refine np_sep NLk.crlf pr hpr _ _ ?_
            have := np_finalE (nl := [13, 10]) hb pr true pad hp (by omega)
            simpa using this
          have hfin2 : ∀ pad after, tail = [45, 45] ++ pad ++ 13 :: 10 :: after → pad.all blankC = true → pad.length ≤ 20 → PartsAt b [13, 10] rest0 [(hdrs items, body)] := by
            intro pad after ht hp hpl
            refine PartsAt.last rest0 items body tail (hmk (by rw [ht]; exact matchP_dash _)) (fun pr hpr => ?_)
            rw [ht, List.append_assoc]
            refine np_sep NLk.crlf pr hpr _ _ ?_
            have := np_final NLk.crlf hb pr hpr true pad after hp (by omega)
            simpa using this
          split at h
          · split at h
            · rename_i hd
              injection h with h
              obtain ⟨pad, hpe, hpl, hp⟩ := delimB_split hd
              refine ⟨[(hdrs items, body)], h.symm, hfin pad ?_ hp hpl⟩
              rw [List.append_assoc] at hpe
              exact List.append_cancel_left hpe
            · cases h
          · rename_i l after hl
            have hls := lineP_split hl
            split at h
            · rename_i hd
              injection h with h
              obtain ⟨pad, hpe, hpl, hp⟩ := delimB_split hd
              refine ⟨[(hdrs items, body)], h.symm, hfin2 pad after ?_ hp hpl⟩
              rw [hpe, List.append_assoc, List.append_assoc] at hls
              rw [List.append_assoc]
              exact List.append_cancel_left hls
            · split at h
              · rename_i hd
                obtain ⟨pad, hpe, hpl, hp⟩ := delimB_split hd
                obtain ⟨ps', h1, h2⟩ := ih h
                have ht : tail = pad ++ 13 :: 10 :: after := by
                  rw [hpe, List.append_assoc] at hls
                  exact List.append_cancel_left hls
                refine ⟨(hdrs items, body) :: ps', by rw [h1]; simp, ?_⟩
                refine PartsAt.more rest0 items body tail after ps' (hmk (by rw [ht]; exact matchP_pad hp 13 (by decide))) (fun pr hpr => ?_) h2
                rw [ht, List.append_assoc]
                refine np_sep NLk.crlf pr hpr _ _ ?_
                have := np_delim NLk.crlf hb pr (.inr rfl) true pad after hp hpl
                simpa using this
              · cases h
        · cases h
theorem preP_np {b : Bytes} (hb : boundaryB b = true) (f : Nat) : ∀ {src rest : Bytes}, preP (dlm b) f src = some rest → NP b [13, 10] 0 false src (some (false, rest)) := by
  induction f with
  | zero => intro src rest h; cases h
  | succ f ih =>
    intro src rest h
    unfold preP at h
    cases hl : lineP src with
    | none => rw [hl] at h; cases h
    | some p =>
      obtain ⟨l, r⟩ := p
      rw [hl] at h
      simp only at h
      have hs := lineP_split hl
      split at h
      · cases h
      · rename_i h998
        split at h
        · split at h
          · rename_i hd
            injection h with h
            subst h
            obtain ⟨pad, hpe, hpl, hp⟩ := delimB_split hd
            rw [hs, hpe]
            have := np_delim NLk.crlf hb 0 (.inr rfl) false pad r hp hpl
            simpa using this
          · cases h
        · rename_i hpre
          split at h
          · rename_i hpr
            have := np_skip NLk.crlf hb l r (some (false, rest)) (fun e => (printC_not (List.all_eq_true.1 hpr _ e)).1 rfl) (by omega) (Bool.eq_false_iff.2 hpre) (ih h)
            rw [hs]
            simpa using this
          · cases h
/-- What the reference parses is what the reader meets. -/
theorem parseP_at {src b : Bytes} {ps : PL} (h : parseP src b = some ps) : boundaryB b = true ∧ ∃ rest0, NP b [13, 10] 0 false src (some (false, rest0)) ∧ PartsAt b [13, 10] rest0 ps := by
  unfold parseP at h
  split at h
  · rename_i hb
    cases hp : preP (dlm b) (src.length + 1) src with
    | none => rw [hp] at h; cases h
    | some rest =>
      rw [hp] at h
      simp only at h
      obtain ⟨ps', h1, h2⟩ := partsP_at hb _ h
      rw [List.nil_append] at h1
      subst h1
      exact ⟨hb, rest, preP_np hb _ hp, h2⟩
  · cases h
end Go.Proofs.YtkbgnplknifmhaaGreatDoor
