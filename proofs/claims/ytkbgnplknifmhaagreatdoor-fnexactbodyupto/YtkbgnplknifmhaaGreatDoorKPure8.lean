/-
  Walks and facts for the mailparts program.
-/
import Derived.Test.YtkbgnplknifmhaaGreatDoorKRd1ToPure7
namespace Go.Proofs.YtkbgnplknifmhaaGreatDoor
/-! ### The reference's parser over a text with more ahead, or more behind -/
theorem findL_app {D s : Bytes} {i : Nat} (t : Bytes) (h : findL D s = some i) : findL D (s ++ t) = some i :=
  findL_take (m := s.length) (by rw [List.take_append_of_le_length (Nat.le_refl _), List.take_length]; exact h)
theorem take_app {s t : Bytes} {i : Nat} (h : i ≤ s.length) : (s ++ t).take i = s.take i := List.take_append_of_le_length h
theorem drop_app {s t : Bytes} {i : Nat} (h : i ≤ s.length) : (s ++ t).drop i = s.drop i ++ t := List.drop_append_of_le_length h
theorem lineP_app {src l rest : Bytes} (t : Bytes) (h : lineP src = some (l, rest)) : lineP (src ++ t) = some (l, rest ++ t) := by
  unfold lineP at h ⊢
  obtain ⟨i, h1, h2⟩ := Option.map_eq_some_iff.1 h
  injection h2 with h2 h3
  have hi := (findL_le h1).1
  simp at hi
  rw [findL_app t h1, Option.map_some, take_app (by omega), drop_app (by omega), h2, h3]
theorem lineP_mk {l : Bytes} (rest : Bytes) (hl : (13 : UInt8) ∉ l) : lineP (l ++ 13 :: 10 :: rest) = some (l, rest) := by
  have h : findL [13, 10] (l ++ 13 :: 10 :: rest) = some l.length := by
    induction l with
    | nil => exact findL_hit (by simp)
    | cons c l ih =>
      simp only [List.mem_cons, not_or] at hl
      have := ih hl.2
      rw [List.cons_append]
      unfold findL
      rw [if_neg, this]
      · rfl
      · intro e
        simp only [List.isPrefixOf_cons_cons, Bool.and_eq_true, beq_iff_eq] at e
        exact hl.1 e.1
  unfold lineP
  rw [h, Option.map_some]
  congr 1
  rw [List.take_append_of_le_length (Nat.le_refl _), List.take_length]
  congr 1
  rw [List.drop_append, List.drop_of_length_le (by omega)]
  simp
theorem headP_app (t : Bytes) (f : Nat) : ∀ {src : Bytes} {out hs : HL} {rest : Bytes}, headP f src out = some (hs, rest) → headP f (src ++ t) out = some (hs, rest ++ t) := by
  induction f with
  | zero => intro src out hs rest h; cases h
  | succ f ih =>
    intro src out hs rest h
    unfold headP at h ⊢
    cases hl : lineP src with
    | none => rw [hl] at h; cases h
    | some p =>
      obtain ⟨l, r⟩ := p
      rw [hl] at h
      rw [lineP_app t hl]
      simp only at h ⊢
      split at h
      · cases h
      · rename_i h1
        rw [if_neg h1]
        split at h
        · rename_i h2
          injection h with h
          injection h with h3 h4
          rw [if_pos h2, h3, h4]
        · rename_i h2
          rw [if_neg h2]
          cases hk : lineKV l with
          | none => rw [hk] at h; cases h
          | some kv =>
            obtain ⟨k, v⟩ := kv
            rw [hk] at h
            simp only at h ⊢
            exact ih h
theorem preP_app (d t : Bytes) (f : Nat) : ∀ {src rest : Bytes}, preP d f src = some rest → preP d f (src ++ t) = some (rest ++ t) := by
  induction f with
  | zero => intro src rest h; cases h
  | succ f ih =>
    intro src rest h
    unfold preP at h ⊢
    cases hl : lineP src with
    | none => rw [hl] at h; cases h
    | some p =>
      obtain ⟨l, r⟩ := p
      rw [hl] at h
      rw [lineP_app t hl]
      simp only at h ⊢
      split at h
      · cases h
      · rename_i h1
        rw [if_neg h1]
        split at h
        · rename_i h2
          rw [if_pos h2]
          split at h
          · rename_i h3
            rw [if_pos h3]
            injection h with h
            rw [h]
          · cases h
        · rename_i h2
          rw [if_neg h2]
          split at h
          · rename_i h3
            rw [if_pos h3]
            exact ih h
          · cases h
theorem preP_mono (d : Bytes) (f : Nat) : ∀ {src rest : Bytes} {g : Nat}, preP d f src = some rest → f ≤ g → preP d g src = some rest := by
  induction f with
  | zero => intro src rest g h; cases h
  | succ f ih =>
    intro src rest g h hg
    obtain ⟨g, rfl⟩ : ∃ g', g = g' + 1 := ⟨g - 1, by omega⟩
    unfold preP at h ⊢
    cases hl : lineP src with
    | none => rw [hl] at h; cases h
    | some p =>
      obtain ⟨l, r⟩ := p
      rw [hl] at h
      simp only at h ⊢
      split at h
      · cases h
      · rename_i h1
        rw [if_neg h1]
        split at h
        · rename_i h2
          rw [if_pos h2]
          exact h
        · rename_i h2
          rw [if_neg h2]
          split at h
          · rename_i h3
            rw [if_pos h3]
            exact ih h (by omega)
          · cases h
theorem partsP_mono (d : Bytes) (f : Nat) : ∀ {src : Bytes} {out ps : PL} {g : Nat}, partsP d f src out = some ps → f ≤ g → partsP d g src out = some ps := by
  induction f with
  | zero => intro src out ps g h; cases h
  | succ f ih =>
    intro src out ps g h hg
    obtain ⟨g, rfl⟩ : ∃ g', g = g' + 1 := ⟨g - 1, by omega⟩
    unfold partsP at h ⊢
    cases hh : headP 101 src [] with
    | none => rw [hh] at h; cases h
    | some p =>
      obtain ⟨hs, rest⟩ := p
      rw [hh] at h
      simp only at h ⊢
      cases hf : findL (13 :: 10 :: d) rest with
      | none => rw [hf] at h; cases h
      | some i =>
        rw [hf] at h
        simp only at h ⊢
        split at h
        · rename_i h1
          rw [if_pos h1]
          cases hl : lineP (rest.drop (i + 2)) with
          | none => rw [hl] at h; exact h
          | some q =>
            obtain ⟨l, after⟩ := q
            rw [hl] at h
            simp only at h ⊢
            split at h
            · rename_i h2
              rw [if_pos h2]; exact h
            · rename_i h2
              rw [if_neg h2]
              split at h
              · rename_i h3
                rw [if_pos h3]
                exact ih h (by omega)
              · cases h
        · cases h
theorem headP_suffix (f : Nat) : ∀ {src : Bytes} {out hs : HL} {rest : Bytes}, headP f src out = some (hs, rest) → ∃ x, src = x ++ rest := by
  induction f with
  | zero => intro src out hs rest h; cases h
  | succ f ih =>
    intro src out hs rest h
    unfold headP at h
    cases hl : lineP src with
    | none => rw [hl] at h; cases h
    | some p =>
      obtain ⟨l, r⟩ := p
      have hs' := lineP_split hl
      rw [hl] at h
      simp only at h
      split at h
      · cases h
      · split at h
        · injection h with h
          injection h with h3 h4
          exact ⟨l ++ [13, 10], by rw [hs', ← h4]; simp⟩
        · cases hk : lineKV l with
          | none => rw [hk] at h; cases h
          | some kv =>
            obtain ⟨k, v⟩ := kv
            rw [hk] at h
            simp only at h
            obtain ⟨x, hx⟩ := ih h
            exact ⟨l ++ 13 :: 10 :: x, by rw [hs', hx]; simp⟩
/-- The text is empty, or LF is its last byte. -/
def EndLF (s : Bytes) : Prop := s = [] ∨ ∃ u, s = u ++ [10]
theorem EndLF.suffix {s x r : Bytes} (h : EndLF s) (e : s = x ++ r) : EndLF r := by
  rcases h with h | ⟨u, h⟩
  · rw [h] at e
    exact .inl (List.append_eq_nil_iff.1 e.symm).2
  · rcases List.eq_nil_or_concat r with hr | ⟨r', c, hr⟩
    · exact .inl hr
    · right
      rw [hr, h, List.concat_eq_append, ← List.append_assoc] at e
      have := List.append_inj_right' e rfl
      injection this with this
      exact ⟨r', by rw [hr, this, List.concat_eq_append]⟩
theorem delim_end {l d : Bytes} (h : delimB l (d ++ [45, 45]) = true) : ¬ ∃ u, l = u ++ [10] := by
  rintro ⟨u, hu⟩
  obtain ⟨pad, hpe, _, hp⟩ := delimB_split h
  rcases List.eq_nil_or_concat pad with hr | ⟨r', c, hr⟩
  · rw [hr, List.append_nil, hu, show d ++ [45, 45] = (d ++ [45]) ++ [45] from by simp] at hpe
    have := List.append_inj_right' hpe rfl
    cases this
  · rw [hr, hu, List.concat_eq_append, ← List.append_assoc] at hpe
    have := List.append_inj_right' hpe rfl
    injection this with this
    have hc := List.all_eq_true.1 hp c (by rw [hr]; simp)
    rw [← this] at hc
    cases hc
theorem partsP_app (d t : Bytes) (f : Nat) : ∀ {src : Bytes} {out ps : PL}, partsP d f src out = some ps → EndLF src → partsP d f (src ++ t) out = some ps := by
  induction f with
  | zero => intro src out ps h; cases h
  | succ f ih =>
    intro src out ps h he
    unfold partsP at h ⊢
    cases hh : headP 101 src [] with
    | none => rw [hh] at h; cases h
    | some p =>
      obtain ⟨hs, rest⟩ := p
      rw [hh] at h
      rw [headP_app t 101 hh]
      obtain ⟨x, hx⟩ := headP_suffix 101 hh
      simp only at h ⊢
      cases hf : findL (13 :: 10 :: d) rest with
      | none => rw [hf] at h; cases h
      | some i =>
        rw [hf] at h
        rw [findL_app t hf]
        have hi := (findL_le hf).1
        simp only [List.length_cons] at hi
        simp only at h ⊢
        rw [take_app (by omega), drop_app (by omega)]
        split at h
        · rename_i h1
          rw [if_pos h1]
          cases hl : lineP (rest.drop (i + 2)) with
          | none =>
            exfalso
            rw [hl] at h
            simp only at h
            split at h
            · rename_i h2
              have he2 : EndLF (rest.drop (i + 2)) := (he.suffix hx).suffix (List.take_append_drop (i + 2) rest).symm
              rcases he2 with h3 | h3
              · rw [h3] at h2
                unfold delimB at h2
                simp at h2
              · exact delim_end h2 h3
            · cases h
          | some q =>
            obtain ⟨l, after⟩ := q
            rw [hl] at h
            rw [lineP_app t hl]
            have hsp := lineP_split hl
            simp only at h ⊢
            split at h
            · rename_i h2
              rw [if_pos h2]; exact h
            · rename_i h2
              rw [if_neg h2]
              split at h
              · rename_i h3
                rw [if_pos h3]
                refine ih h ?_
                have he2 : EndLF (rest.drop (i + 2)) := (he.suffix hx).suffix (List.take_append_drop (i + 2) rest).symm
                exact he2.suffix (x := l ++ [13, 10]) (by rw [hsp]; simp)
              · cases h
        · cases h
theorem preP_suffix (d : Bytes) (f : Nat) : ∀ {src rest : Bytes}, preP d f src = some rest → ∃ x, src = x ++ rest := by
  induction f with
  | zero => intro src rest h; cases h
  | succ f ih =>
    intro src rest h
    unfold preP at h
    cases hl : lineP src with
    | none => rw [hl] at h; cases h
    | some p =>
      obtain ⟨l, r⟩ := p
      have hs' := lineP_split hl
      rw [hl] at h
      simp only at h
      split at h
      · cases h
      · split at h
        · split at h
          · injection h with h
            exact ⟨l ++ [13, 10], by rw [hs', ← h]; simp⟩
          · cases h
        · split at h
          · obtain ⟨x, hx⟩ := ih h
            exact ⟨l ++ 13 :: 10 :: x, by rw [hs', hx]; simp⟩
          · cases h
/-- More behind a text whose last byte is LF changes nothing. -/
theorem parseP_app {src b : Bytes} {ps : PL} (t : Bytes) (h : parseP src b = some ps) (he : ∃ u, src = u ++ [10]) : parseP (src ++ t) b = some ps := by
  unfold parseP at h ⊢
  split at h
  · rename_i hb
    rw [if_pos hb]
    cases hp : preP (dlm b) (src.length + 1) src with
    | none => rw [hp] at h; cases h
    | some rest =>
      rw [hp] at h
      simp only at h
      rw [preP_mono _ _ (preP_app (dlm b) t _ hp) (by simp)]
      obtain ⟨x, hx⟩ := preP_suffix _ _ hp
      exact partsP_mono _ _ (partsP_app (dlm b) t _ h (EndLF.suffix (.inr he) hx)) (by simp)
  · cases h
/-- Lines that may stand ahead. -/
def aheadB (d : Bytes) (ls : List Bytes) : Bool := ls.all fun l => !(decide (998 < l.length) || !l.all printC || d.isPrefixOf l)
def aheadT (ls : List Bytes) : Bytes := ls.flatMap fun l => l ++ [13, 10]
theorem preP_ahead (d : Bytes) (src rest : Bytes) (f : Nat) (h : preP d f src = some rest) (ls : List Bytes) (hl : aheadB d ls = true) : preP d (f + ls.length) (aheadT ls ++ src) = some rest := by
  induction ls with
  | nil => exact h
  | cons l ls ih =>
    unfold aheadB at hl
    rw [List.all_cons, Bool.and_eq_true] at hl
    obtain ⟨h1, h2⟩ := hl
    simp only [Bool.not_eq_true', Bool.or_eq_false_iff, decide_eq_false_iff_not, Bool.not_eq_false'] at h1
    obtain ⟨⟨h3, h4⟩, h5⟩ := h1
    have ih := ih h2
    have e : aheadT (l :: ls) ++ src = l ++ 13 :: 10 :: (aheadT ls ++ src) := by unfold aheadT; simp
    rw [e, List.length_cons, ← Nat.add_assoc]
    unfold preP
    rw [lineP_mk _ (fun e => (printC_not (List.all_eq_true.1 h4 _ e)).2.1 rfl)]
    simp only
    rw [if_neg h3, if_neg (by rw [h5]; decide), if_pos h4]
    exact ih
theorem aheadT_len (ls : List Bytes) : ls.length ≤ (aheadT ls).length := by
  unfold aheadT
  induction ls with
  | nil => simp
  | cons l ls ih => simp only [List.flatMap_cons, List.length_append, List.length_cons, List.length_nil]; omega
/-- Lines ahead of a text change nothing. -/
theorem parseP_ahead {src b : Bytes} {ps : PL} (ls : List Bytes) (h : parseP src b = some ps) (hl : aheadB (dlm b) ls = true) : parseP (aheadT ls ++ src) b = some ps := by
  unfold parseP at h ⊢
  split at h
  · rename_i hb
    rw [if_pos hb]
    cases hp : preP (dlm b) (src.length + 1) src with
    | none => rw [hp] at h; cases h
    | some rest =>
      rw [hp] at h
      simp only at h
      have hn := aheadT_len ls
      rw [preP_mono _ _ (preP_ahead (dlm b) src rest _ hp ls hl) (by simp; omega)]
      exact partsP_mono _ _ h (by simp)
  · cases h
end Go.Proofs.YtkbgnplknifmhaaGreatDoor
