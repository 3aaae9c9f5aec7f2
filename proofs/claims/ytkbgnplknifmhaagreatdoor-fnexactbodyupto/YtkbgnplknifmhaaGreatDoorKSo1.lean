/-
  Walks and facts for the mailparts program.
-/
import Derived.Test.YtkbgnplknifmhaaGreatDoorKSp5ToPure6
import Derived.Test.YtkbgnplknifmhaaGreatDoorKNr1ToSp3
import Derived.Shelf.SlSortCmp.WholeK
namespace Go.Proofs.YtkbgnplknifmhaaGreatDoor
open Go.RowKit Go.Sort Go.Shelf
/-! ### A row of headers, sorted by the library -/
def onec (v : Value) : Value := if v.oneCell' = true then v else .nilIface
theorem onec_one (v : Value) : (onec v).oneCell' = true := by
  unfold onec
  split
  · assumption
  · rfl
theorem onec_id {v : Value} (h : v.oneCell' = true) : onec v = v := if_pos h
def encH (x : Bytes × Value) : List Value := [S1 x.1, onec x.2]
theorem encH_len (x : Bytes × Value) : (encH x).length = 2 := rfl
theorem encH_one (x : Bytes × Value) : ∀ v ∈ encH x, v.oneCell' = true := by
  intro v hv
  simp [encH] at hv
  rcases hv with rfl | rfl
  · rfl
  · exact onec_one _
theorem flatK_H (xs : List (Bytes × Value)) (h : OneC xs) : flatK encH 2 xs.toArray = (flatH xs).toArray := by
  refine ext_get! (by simp [flatH_len]) (fun t ht => ?_)
  have ht' : t < xs.length * 2 := by simpa using ht
  rw [get_flatK _ _ _ t (by simpa using ht')]
  have hi : t / 2 < xs.length := by omega
  obtain ⟨p, hp⟩ : ∃ p, xs[t / 2]? = some p := ⟨_, List.getElem?_eq_getElem hi⟩
  have hp1 : p.2.oneCell' = true := h p (List.mem_of_getElem? hp)
  have hx : xs.toArray[t / 2]! = p := by
    rw [getElem!_pos _ _ (by simpa using hi)]
    have := List.getElem?_eq_getElem hi
    rw [hp] at this
    injection this with this
    simpa using this.symm
  obtain ⟨h1, h2⟩ := flat_get xs (t / 2) p hp
  have hr : ∀ v, (flatH xs)[t]? = some v → (flatH xs).toArray[t]! = v := by
    intro v hv
    have hlt : t < (flatH xs).toArray.size := by simpa [flatH_len] using ht'
    rw [getElem!_pos (flatH xs).toArray t hlt]
    have := (List.getElem?_eq_some_iff.1 hv).2
    simpa using this
  rw [hx]
  rcases Nat.mod_two_eq_zero_or_one t with hm | hm
  · rw [hm, hr (S1 p.1) (by rw [← h1]; congr 1; omega)]
    rfl
  · rw [hm, hr p.2 (by rw [← h2]; congr 1; omega)]
    show onec p.2 = p.2
    exact onec_id hp1
theorem heap_sortedK {w : World} {g n : Nat} {os : Array Obj} {cur : Array Value} {e : TypeId} {fr : Nat × Nat} (F : Array Value) (hb : w.heap[g]? = some (.cells cur e fr)) :
    (grow (putRow id (Sort.ahead w n) g 0 F) os).heap[g]? = some (.cells (putCells id 0 F cur) e fr) := by
  have hg : g < w.heap.size := (Array.getElem?_eq_some_iff.1 hb).1
  rw [heap_grow_old _ _ (by simpa using hg)]
  simp [putRow, mapBlock, Sort.ahead, Array.getElem?_modify, hb, onCells]
theorem grownBy_sortedK {w : World} {g n : Nat} {os : Array Obj} (F : Array Value) : w.grownBy (grow (putRow id (Sort.ahead w n) g 0 F) os) (some g) := by
  refine ⟨rfl, rfl, rfl, by simp, fun k hk hne => ?_⟩
  rw [heap_grow_old _ _ (by simpa using hk)]
  have : g ≠ k := fun e => hne (by rw [e])
  simp [putRow, mapBlock, Sort.ahead, Array.getElem?_modify, this]
theorem take_putCellsK (cur : Array Value) (l : List Value) (h : l.length ≤ cur.size) : (putCells id 0 l.toArray cur).toList.take l.length = l := by
  apply List.ext_getElem?
  intro j
  by_cases hj : j < l.length
  · rw [List.getElem?_take_of_lt hj, Array.getElem?_toList]
    simp [putCells, hj, show j < cur.size by omega]
  · rw [List.getElem?_take_eq_none (by omega), List.getElem?_eq_none (by omega)]
theorem holds_cells {w : World} {g : Nat} {cur : Array Value} {e : TypeId} {l : List Value} (hb : w.heap[g]? = some (.cells cur e (0, 0))) (ht : cur.toList.take l.length = l) : Holds id w g 0 l.toArray := by
  intro j hj
  have hj' : j < l.length := by simpa using hj
  refine ⟨?_, by simp [World.frozen?, hb]⟩
  have h1 : (cur.toList.take l.length)[j]? = l[j]? := by rw [ht]
  rw [List.getElem?_take_of_lt hj'] at h1
  simp only [World.cell?, hb, Nat.zero_add]
  simp only [Option.isSome_none, Bool.false_eq_true, if_false]
  rw [← Array.getElem?_toList, h1]
  simp [hj']
section
variable {w : World} {base g cap : Nat} {xs ys : List (Bytes × Value)}
theorem HR.holdsK (h : HR w base (.slice (some ⟨g, 0, none⟩) xs.length cap) xs) (h1 : OneC xs) : HoldsK encH 2 w g 0 xs.toArray ∧ g < w.heap.size := by
  unfold HoldsK
  rw [flatK_H xs h1]
  rcases h.2 with ⟨h0, _⟩ | ⟨g', cap', cur, hv, hb, hg, hnc, hcm, hcs, htake⟩
  · cases h0
  · cases hv
    exact ⟨holds_cells hg (by rw [flatH_len]; exact htake), (Array.getElem?_eq_some_iff.1 hg).1⟩
theorem HR.sorted (h : HR w base (.slice (some ⟨g, 0, none⟩) xs.length cap) xs) (hl : ys.length = xs.length) (h1 : OneC ys) (n : Nat) (os : Array Obj) :
    HR (sortWorldK encH 2 w g 0 n ys.toArray os) base (.slice (some ⟨g, 0, none⟩) xs.length cap) ys ∧ Kp [g] w (sortWorldK encH 2 w g 0 n ys.toArray os) := by
  unfold sortWorldK putRowK
  rw [flatK_H ys h1]
  refine ⟨?_, (Kp.refl _ w).grown (grownBy_sortedK _) (by intro k hk; left; injection hk with hk; simp [hk])⟩
  rcases h.2 with ⟨h0, _⟩ | ⟨g', cap', cur, hv, hb, hg, hnc, hcm, hcs, htake⟩
  · cases h0
  · cases hv
    have hlen : (flatH ys).length = xs.length * 2 := by rw [flatH_len, hl]
    have ht := take_putCellsK cur (flatH ys) (by rw [hlen, hcs]; omega)
    refine ⟨by rw [flatH_len], .inr ⟨_, _, _, by rw [hl], hb, heap_sortedK _ hg, by omega, hcm, by simp [putCells, hcs], ?_⟩⟩
    rw [hlen] at ht
    rw [hl]; exact ht
end
/-- The order that the program asks for. -/
def cmpH (x y : Bytes × Value) : Int := if bytesBefore x.1 y.1 = true then -1 else 1
theorem ltH (x y : Bytes × Value) : ltOf cmpH x y = bytesBefore x.1 y.1 := by
  unfold ltOf cmpH
  cases bytesBefore x.1 y.1 <;> rfl
theorem swoH : SWO (ltOf cmpH) where
  irrefl x := by rw [ltH]; exact bb_irrefl _
  trans x y z h1 h2 := by rw [ltH] at *; exact bb_trans h1 h2
  ntrans x y z h1 h2 := by
    rw [ltH] at *
    cases h : bytesBefore x.1 z.1 with
    | false => rfl
    | true =>
      exfalso
      by_cases hxy : x.1 = y.1
      · rw [hxy, h2] at h; cases h
      · have h3 := bb_trans (bb_total h1 hxy) h
        rw [h2] at h3; cases h3
/-- Two strictly ascending lists with the same members are one. -/
theorem asc_eq : ∀ {a b : List Bytes}, a.Pairwise (fun x y => bytesBefore x y = true) → b.Pairwise (fun x y => bytesBefore x y = true) → (∀ x, x ∈ a ↔ x ∈ b) → a = b
  | [], [], _, _, _ => rfl
  | [], y :: b, _, _, h => by have := (h y).2 (by simp); simp at this
  | x :: a, [], _, _, h => by have := (h x).1 (by simp); simp at this
  | x :: a, y :: b, ha, hb, h => by
    obtain ⟨ha1, ha2⟩ := List.pairwise_cons.1 ha
    obtain ⟨hb1, hb2⟩ := List.pairwise_cons.1 hb
    have hxy : x = y := by
      rcases List.mem_cons.1 ((h x).1 (by simp)) with e | hx
      · exact e
      · rcases List.mem_cons.1 ((h y).2 (by simp)) with e | hy
        · exact e.symm
        · have h1 := hb1 x hx
          have h2 := ha1 y hy
          rw [bb_asymm h1] at h2; cases h2
    subst hxy
    congr 1
    refine asc_eq ha2 hb2 (fun z => ⟨fun hz => ?_, fun hz => ?_⟩)
    · rcases List.mem_cons.1 ((h z).1 (by simp [hz])) with e | hz'
      · subst e; have := ha1 z hz; rw [bb_irrefl] at this; cases this
      · exact hz'
    · rcases List.mem_cons.1 ((h z).2 (by simp [hz])) with e | hz'
      · subst e; have := hb1 z hz; rw [bb_irrefl] at this; cases this
      · exact hz'
theorem KS.keys {hs : HL} (h : KS hs) : (hs.map (·.1)).Pairwise (fun x y => bytesBefore x y = true) := List.pairwise_map.2 h
theorem KS.get {hs : HL} (h : KS hs) : ∀ p ∈ hs, kvGet p.1 hs = some p.2 := by
  induction hs with
  | nil => intro p hp; simp at hp
  | cons q r ih =>
    obtain ⟨h1, h2⟩ := List.pairwise_cons.1 h
    intro p hp
    rcases List.mem_cons.1 hp with rfl | hp
    · simp [kvGet]
    · have hne : (q.1 == p.1) = false := by
        have := h1 p hp
        cases hq : (q.1 == p.1) with
        | false => rfl
        | true => rw [eq_of_beq hq, bb_irrefl] at this; cases this
      unfold kvGet
      rw [List.find?_cons, hne]
      exact ih h2 p hp
theorem two_of_keys {α : Type} {r : α → List Bytes → Prop} : ∀ {ys : List (Bytes × α)} {hs : HL}, ys.map (·.1) = hs.map (·.1) → (∀ p ∈ ys, ∀ q ∈ hs, p.1 = q.1 → r p.2 q.2) → Two r ys hs
  | [], [], _, _ => .nil
  | [], q :: hs, e, _ => by simp at e
  | p :: ys, [], e, _ => by simp at e
  | p :: ys, q :: hs, e, h => by
    simp only [List.map_cons, List.cons.injEq] at e
    obtain ⟨e1, e2⟩ := e
    have h1 := h p (by simp) q (by simp) e1
    have h2 := two_of_keys e2 (fun p hp q hq => h p (by simp [hp]) q (by simp [hq]))
    obtain ⟨k, a⟩ := p
    obtain ⟨k', b⟩ := q
    simp only at e1
    subst e1
    exact .cons k a b _ _ h1 h2
/-- The sorted row, read against the ascending header. -/
theorem two_sorted {r : Value → List Bytes → Prop} {d' : Array (Bytes × Value)} {xs : List (Bytes × Value)} {hs : HL} (hks : KS hs) (hp : d'.toList.Perm xs) (hs1 : SortedIn (ltOf cmpH) 0 d'.size d') (hnd : (xs.map (·.1)).Nodup) (hm : ∀ k, k ∈ xs.map (·.1) ↔ k ∈ hs.map (·.1)) (hr : ∀ p ∈ xs, ∀ q ∈ hs, p.1 = q.1 → r p.2 q.2) : Two r d'.toList hs := by
  have hnd' : (d'.toList.map (·.1)).Nodup := (hp.map (·.1)).nodup_iff.2 hnd
  refine two_of_keys (asc_eq ?_ hks.keys (fun k => by rw [(hp.map (·.1)).mem_iff]; exact hm k)) (fun p hp' q hq e => hr p (hp.mem_iff.1 hp') q hq e)
  rw [List.pairwise_iff_getElem]
  intro i j hi hj hij
  simp only [List.length_map, Array.length_toList] at hi hj
  have h1 := hs1 i j (Nat.zero_le _) hij hj
  rw [ltH, getElem!_pos d' i hi, getElem!_pos d' j hj] at h1
  have hne : (d'.toList.map (·.1))[j]'(by simpa using hj) ≠ (d'.toList.map (·.1))[i]'(by simpa using hi) := fun e => by
    have := (List.getElem_inj hnd').1 e
    omega
  simp only [List.getElem_map, Array.getElem_toList] at hne ⊢
  exact bb_total h1 hne
end Go.Proofs.YtkbgnplknifmhaaGreatDoor
