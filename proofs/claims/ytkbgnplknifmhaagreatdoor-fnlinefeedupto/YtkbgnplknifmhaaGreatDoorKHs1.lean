/-
  Walks and facts for the mailparts program.
-/
import Derived.Test.YtkbgnplknifmhaaGreatDoorKSo1
import Derived.Maps.RangeWalk
namespace Go.Proofs.YtkbgnplknifmhaaGreatDoor
open Go.RowKit
attribute [local go_sem ↓] Go.wp_at_zero Go.wp_at_succ
/-! ### impl.headers (56): what is collected out of the map -/
theorem append_one27 (w : World) (base : Nat) (xs : List (Bytes × Value)) (v : Value) (ty : TypeId) (vb : Nat) (x : Bytes × Value) (h : HR w base v xs) (hvb : Blk w vb #[S1 x.1, x.2] 43) (hx2 : x.2.oneCell' = true) (hbase : base ≤ w.heap.size) (hl : xs.length ≤ 1000000000) :
    ∃ v' w', (Builtin.append_ #[27, 27] ty #[v, .slice (some ⟨vb, 0, none⟩) 1 1]).run Tryz.prog w = .ok v' w' ∧ HR w' base v' (xs ++ [x]) ∧ Kp v.ownBlock.toList w w' := by
  obtain ⟨i, h1, h2, h3, h4⟩ := ti43
  have hone : ∀ u ∈ ([S1 x.1, x.2] : List Value), u.oneCell' = true := by intro u hu; simp at hu; rcases hu with rfl | rfl; rfl; exact hx2
  have hnews : ∀ j u, ([S1 x.1, x.2] : List Value)[j]? = some u → w.cell? ((⟨vb, 0, none⟩ : Addr).add j) = some u := by
    intro j u hj
    rw [Addr.add_lit, Nat.zero_add, hvb.cell]
    simpa using hj
  have hfl : flatH (xs ++ [x]) = flatH xs ++ [S1 x.1, x.2] := by rw [flatH_append]; rfl
  have hll : (xs ++ [x]).length = xs.length + 1 := by simp
  have lift : ∀ {w' : World} {v' : Value} {n : Nat} {l : List Value}, w'.ownsRow w.heap.size 43 2 v' n l → w'.ownsRow base 43 2 v' n l := fun {w' v' n l} e => by
    refine ⟨e.1, ?_⟩
    rcases e.2 with h0 | ⟨g, cap, cur, rfl, hb, rest⟩
    · exact .inl h0
    · exact .inr ⟨g, cap, cur, rfl, Nat.le_trans hbase hb, rest⟩
  rcases h.2 with ⟨hv, h0⟩ | ⟨g, cap, cur, hv, hb, hg, hnc, hcm, hcs, htake⟩
  · have hx : xs = [] := List.eq_nil_of_length_eq_zero h0
    subst hx; subst hv
    obtain ⟨v', w', e1, e2, e3, _⟩ := run_append_own (P := Tryz.prog) w w.heap.size 27 ty 43 i _ 2 40 elem27 h1 h2 h3 h4 rfl (by decide) (.slice none 0 0) 0 [] (World.ownsRow_nil w _ 43 2) ⟨vb, 0, none⟩ 1 1 [S1 x.1, x.2] rfl hnews hone (by unfold maxLen; omega) (by omega) (Nat.le_refl _)
    refine ⟨v', w', e1, ?_, (Kp.refl _ w).grown e3 (by intro k hk; simp [Value.ownBlock] at hk)⟩
    have e2' : w'.ownsRow w.heap.size 43 2 v' 1 (flatH ([] ++ [x])) := by simpa [hfl, flatH] using e2
    exact lift e2'
  · subst hv
    by_cases hfit : xs.length + 1 ≤ cap
    · obtain ⟨w', e1, e2, e3⟩ := run_append_fits (P := Tryz.prog) w base 27 ty 43 i 2 elem27 h1 h3 g xs.length cap _ h ⟨vb, 0, none⟩ 1 1 [S1 x.1, x.2] rfl hnews hone hfit
      refine ⟨_, w', e1, ?_, (Kp.refl _ w).grown e3 (by intro k hk; left; simpa [Value.ownBlock] using hk.symm)⟩
      unfold HR
      rw [hll, hfl]; exact e2
    · obtain ⟨v', w', e1, e2, e3⟩ := run_append_arg_grows (P := Tryz.prog) w 27 ty 43 i _ 2 40 elem27 h1 h2 h3 h4 rfl (by decide) ⟨g, 0, none⟩ xs.length cap (flatH xs) (flatH_len xs) (World.ownsRow.cells h rfl) ⟨vb, 0, none⟩ 1 1 [S1 x.1, x.2] rfl hnews (by omega) (by unfold maxLen; omega) (by omega)
      refine ⟨v', w', e1, ?_, (Kp.refl _ w).grown e3 (by simp)⟩
      unfold HR
      rw [hll, hfl]
      exact lift e2
/-- A copy of a row of texts: 'append([]string{}, list...)'. -/
theorem copyS (w : World) (ty : TypeId) (a : Addr) (c : Nat) (vs : List Bytes) (hs : SV w (.slice (some a) vs.length c) vs) (hl : vs.length ≤ 100000) :
    ∃ v' w', (Builtin.append_ #[41, 41] ty #[.slice (some ⟨w.heap.size, 0, none⟩) 0 0, .slice (some a) vs.length c]).run Tryz.prog (w.alloc (.cells #[] 9)) = .ok v' w' ∧ OV w' w.heap.size v' vs ∧ Kp [] w w' ∧ w.heap.size < w'.heap.size := by
  obtain ⟨i, h1, h2, h3, h4⟩ := ti9
  have hka : Kp [] w (w.alloc (.cells #[] 9)) := (Kp.refl _ _).alloc _
  obtain ⟨a', c', e, hc, _, hx, hcell⟩ := hs.ex
  cases e
  obtain ⟨b, o, rfl⟩ := hx a rfl
  have hnews : ∀ j u, (vs.map S1)[j]? = some u → (w.alloc (.cells #[] 9)).cell? ((⟨b, o, none⟩ : Addr).add j) = some u := by
    intro j u hj
    have hj' : j < vs.length := by have := (List.getElem?_eq_some_iff.1 hj).1; simpa using this
    have h0 := hcell j hj'
    rw [at_mk] at h0
    rw [Addr.add_lit]
    have : u = S1 (vs.getD j []) := by
      rw [List.getElem?_map, List.getElem?_eq_getElem hj'] at hj
      simp at hj
      rw [← hj, List.getD_eq_getElem?_getD, List.getElem?_eq_getElem hj']
      rfl
    rw [this, ← h0]
    exact World.cell?_of_block (w := w) (hka.block b (World.block_lt_of_cell? w _ h0) (by simp))
  have hone : ∀ u ∈ vs.map S1, u.oneCell' = true := by
    intro u hu
    obtain ⟨s, _, rfl⟩ := List.mem_map.1 hu
    rfl
  have hlit : (w.alloc (.cells #[] 9)).ownsRow w.heap.size 9 1 (.slice (some ⟨w.heap.size, 0, none⟩) 0 0) 0 [] := World.ownsRow_lit (size := 1) w #[] 0 (Nat.le_refl _) (by decide) (by simp)
  obtain ⟨v', w', e1, e2, e3, _⟩ := run_append_own (P := Tryz.prog) (w.alloc (.cells #[] 9)) w.heap.size 41 ty 9 i _ 1 16 elem41 h1 h2 h3 h4 rfl (by decide) _ 0 [] hlit ⟨b, o, none⟩ vs.length c (vs.map S1) (by simp) hnews hone (by unfold maxLen; omega) (by omega) (by simp)
  refine ⟨v', w', e1, ?_, hka.trans' ((Kp.refl [w.heap.size] _).grown e3 (by intro k hk; injection hk with hk; subst hk; simp)) (by intro x hx; simp at hx; subst hx; exact .inr (Nat.le_refl _)), by have := e3.size; simp at this; omega⟩
  unfold OV
  simpa using e2
/-- What has been collected, while the map is ranged over. -/
structure Col (w : World) (base : Nat) (v : Value) (xs : List (Bytes × Value)) (hs : HL) (left : Lit → Bool) : Prop where
  row : HR w base v xs
  vals : ∀ p ∈ xs, ∃ vs, (p.1, vs) ∈ hs ∧ OV w base p.2 vs
  sep : Sep xs
  nd : (xs.map (·.1)).Nodup
  sub : ∀ p ∈ xs, left (.string p.1) = false
  all : ∀ k ∈ hs.map (·.1), left (.string k) = false → k ∈ xs.map (·.1)
section
variable {w w' : World} {base : Nat} {v : Value} {xs : List (Bytes × Value)} {hs : HL} {left : Lit → Bool}
theorem Col.one (h : Col w base v xs hs left) : OneC xs := fun p hp => by
  obtain ⟨vs, _, h1⟩ := h.vals p hp
  exact h1.one
theorem Col.kp {S : List Nat} (h : Col w base v xs hs left) (k : Kp S w w') (hS : ∀ x ∈ S, x < base) : Col w' base v xs hs left := by
  refine ⟨h.row.kp k (fun b hb e => ?_), fun p hp => ?_, h.sep, h.nd, h.sub, h.all⟩
  · have := (h.row.type b e).2.1; have := hS b hb; omega
  · obtain ⟨vs, h1, h2⟩ := h.vals p hp
    refine ⟨vs, h1, h2.kp k (fun b hb e => ?_)⟩
    have := (h2.type b e).2.1; have := hS b hb; omega
theorem Col.add (h : Col w base v xs hs left) (k : Bytes) (sv : Value) (vs : List Bytes) (hkv : (k, vs) ∈ hs) (hsv : OV w base sv vs) (hap : ∀ p ∈ xs, ∀ b, p.2.ownBlock = some b → sv.ownBlock ≠ some b) (hlk : left (.string k) = true) (hbase : base ≤ w.heap.size) (hl : xs.length ≤ 1000000000) :
    ∃ v' w', (Builtin.append_ #[27, 27] 27 #[v, .slice (some ⟨w.heap.size, 0, none⟩) 1 1]).run Tryz.prog (w.alloc (.cells #[S1 k, sv] 43)) = .ok v' w' ∧ Col w' base v' (xs ++ [(k, sv)]) hs (fun z => left z && !z.sameKey (.string k)) ∧ ∃ S, Kp S w w' ∧ ∀ x ∈ S, v.ownBlock = some x := by
  have hka : Kp [] w (w.alloc (.cells #[S1 k, sv] 43)) := (Kp.refl _ _).alloc _
  have hw := h.kp hka (by simp)
  have hsv1 := hsv.kp hka (by simp)
  obtain ⟨v', w', e1, e2, e3⟩ := append_one27 (w.alloc (.cells #[S1 k, sv] 43)) base xs v 27 w.heap.size (k, sv) hw.row (Blk.new _ _ _) hsv.one (by simp; omega) hl
  have hkeep : ∀ {u : Value} {l : List Bytes}, OV (w.alloc (.cells #[S1 k, sv] 43)) base u l → OV w' base u l := fun {u l} hu => hu.kp e3 (fun b hb e => ov_hr_apart hw.row hu b (by simpa using hb) e)
  have hkn : k ∉ xs.map (·.1) := fun hm => by
    obtain ⟨p, hp, rfl⟩ := List.mem_map.1 hm
    rw [h.sub p hp] at hlk; cases hlk
  have hself : (Lit.string k).sameKey (.string k) = true := by show (k == k) = true; simp
  refine ⟨v', w', e1, ⟨e2, fun p hp => ?_, ?_, ?_, fun p hp => ?_, fun x hx hlx => ?_⟩, v.ownBlock.toList, (hka.mono (by simp)).trans e3, fun x hx => by simpa using hx⟩
  · rcases List.mem_append.1 hp with hp | hp
    · obtain ⟨us, h1, h2⟩ := hw.vals p hp
      exact ⟨us, h1, hkeep h2⟩
    · simp at hp
      subst hp
      exact ⟨vs, hkv, hkeep hsv1⟩
  · unfold Sep
    rw [List.pairwise_append]
    refine ⟨h.sep, by simp, fun p hp q hq b hb e => ?_⟩
    simp at hq
    subst hq
    exact hap p hp b hb e
  · rw [List.map_append, List.nodup_append]
    refine ⟨h.nd, by simp, fun a ha b hb => ?_⟩
    simp at hb
    subst hb
    exact fun e => hkn (e ▸ ha)
  · rcases List.mem_append.1 hp with hp | hp
    · simp [h.sub p hp]
    · simp at hp
      subst hp
      simp [hself]
  · cases hlz : left (.string x) with
    | false => rw [List.map_append]; exact List.mem_append.2 (.inl (h.all x hx hlz))
    | true =>
      rw [hlz] at hlx
      have : (x == k) = true := by
        have h2 : (Lit.string x).sameKey (.string k) = true := by simpa using hlx
        exact h2
      have := eq_of_beq this
      subst this
      simp
end
theorem Two.keys {α β : Type} {r : α → β → Prop} {l : List (Bytes × α)} {m : List (Bytes × β)} (h : Two r l m) : l.map (·.1) = m.map (·.1) := by
  induction h with
  | nil => rfl
  | cons k a b l m h t ih => simp [ih]
theorem has_key {kvs : List (Bytes × Value)} {k : Bytes} (h : k ∈ kvs.map (·.1)) : Maps.has (mapD kvs) (.string k) = true := by
  obtain ⟨p, hp, rfl⟩ := List.mem_map.1 h
  unfold mapD
  rw [Maps.has_eq]
  refine List.any_eq_true.2 ⟨(.string p.1, .held p.2), List.mem_map.2 ⟨p, hp, rfl⟩, ?_⟩
  show (p.1 == p.1) = true
  simp
theorem size_mapD (kvs : List (Bytes × Value)) : Maps.size (mapD kvs) = kvs.length := by unfold mapD Maps.size; simp
theorem keyOf9 {key : Value} {kl : Lit} (h : keyOf Tryz.prog 9 key = some kl) : ∃ x : Bytes, key = .string (str x) ∧ kl = .string x := by
  cases key <;> simp [keyOf, Tryz.underlying9, mapKey] at h
  rename_i s
  obtain ⟨hs, rfl⟩ := h
  exact ⟨s.data.toList, by rw [← str_of], rfl⟩
theorem at_of {kvs : List (Bytes × Value)} {x : Bytes} {y : DataW Value} (h : ∀ zd, (mapD kvs).atKey (.string x) zd = y) : ∃ c, kvGet x kvs = some c ∧ y = .held c := by
  cases hg : kvGet x kvs with
  | some c => exact ⟨c, rfl, by rw [← h (.held .nilIface), mapD_at, hg]⟩
  | none =>
    exfalso
    have h1 := h (.held .nilIface)
    have h2 := h (.held (.bool true))
    rw [mapD_at, hg] at h1 h2
    rw [← h1] at h2
    cases h2
theorem ranges_kp {S : List Nat} {w w' : World} {b r n : Nat} {D : DataW Value} {left : Lit → Bool} {cnt : Nat} (h : w.ranges Tryz.prog 9 RV b r n D left cnt) (k : Kp S w w') (hb : b ∉ S) (hr : r ∉ S) : w'.ranges Tryz.prog 9 RV b r n D left cnt := by
  have h1 := h.owns.lt
  have h2 := h.lt
  obtain ⟨es, clock, since, seen, c0, hb', F, hs, hD, hr', rest⟩ := h
  exact ⟨es, clock, since, seen, c0, (k.block b h1 hb).trans hb', F, hs, hD, (k.block r h2 hr).trans hr', rest⟩
/-- The state of the loop. -/
structure HsRel (w wr : World) (mb cnt : Nat) (kvs : List (Bytes × Value)) (hs : HL) (v3 : Value) (q : Nat) : Prop where
  ex : ∃ left xs, wr.ranges Tryz.prog 9 RV mb w.heap.size cnt (mapD kvs) left q ∧ Col wr (w.heap.size + 1) v3 xs hs left ∧ xs.length + q ≤ hs.length ∧ Kp [] w wr ∧ w.heap.size < wr.heap.size
end Go.Proofs.YtkbgnplknifmhaaGreatDoor
