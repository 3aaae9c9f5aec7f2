/-
  Walks and facts for the mailparts program.
-/
import Derived.Test.YtkbgnplknifmhaaGreatDoorKVw1ToEp1
namespace Go.Proofs.YtkbgnplknifmhaaGreatDoor
/-! ### Where a delimiter stands behind a body; a part with a folded line -/
theorem findL_occ {m l : Bytes} {i : Nat} (h : m.isPrefixOf (l.drop i) = true) : ∃ j, findL m l = some j := by
  obtain ⟨t, ht⟩ := List.isPrefixOf_iff_prefix.1 h
  have : l = l.take i ++ m ++ t := by rw [List.append_assoc, ht, List.take_append_drop]
  rw [this]
  exact findL_some_of
theorem findL_first {x : UInt8} {q body tail : Bytes} (hq : x ∉ q) (hn : findL (x :: q) body = none) : findL (x :: q) (body ++ (x :: q) ++ tail) = some body.length := by
  obtain ⟨i, hi⟩ := findL_some_of (D := x :: q) (a := body) (t := tail)
  have hle := findL_here hi
  rcases Nat.lt_or_ge i body.length with hlt | hge
  · exfalso
    have hp := (findL_le hi).2
    obtain ⟨t, ht⟩ := List.isPrefixOf_iff_prefix.1 hp
    by_cases hfit : i + (x :: q).length ≤ body.length
    · have h1 : (x :: q).isPrefixOf (body.drop i) = true := by
        rw [List.isPrefixOf_iff_prefix]
        rw [List.append_assoc, List.drop_append_of_le_length (by omega)] at ht
        refine List.prefix_of_prefix_length_le (l₃ := body.drop i ++ (x :: q ++ tail)) ⟨t, ht⟩ (List.prefix_append _ _) ?_
        rw [List.length_drop]
        omega
      obtain ⟨j, hj⟩ := findL_occ h1
      rw [hj] at hn; cases hn
    · have hj1 : 1 ≤ body.length - i := by omega
      have hj2 : body.length - i < (x :: q).length := by omega
      have e1 : (body ++ (x :: q) ++ tail)[body.length]? = some x := by
        rw [List.append_assoc, List.getElem?_append_right (Nat.le_refl _), Nat.sub_self]
        rfl
      have e2 : ((body ++ (x :: q) ++ tail).drop i)[body.length - i]? = some x := by
        rw [List.getElem?_drop, show i + (body.length - i) = body.length from by omega]
        exact e1
      rw [← ht, List.getElem?_append_left hj2] at e2
      obtain ⟨k, hk⟩ : ∃ k, body.length - i = k + 1 := ⟨body.length - i - 1, by omega⟩
      rw [hk, List.getElem?_cons_succ] at e2
      exact hq (List.mem_of_getElem? e2)
  · rw [hi, show i = body.length from by omega]
theorem findL_less {x : UInt8} {q body : Bytes} (h : findL q body = none) : findL (x :: q) body = none := by
  cases hf : findL (x :: q) body with
  | none => rfl
  | some i =>
    exfalso
    have hp := (findL_le hf).2
    obtain ⟨t, ht⟩ := List.isPrefixOf_iff_prefix.1 hp
    have h1 : q.isPrefixOf (body.drop (i + 1)) = true := by
      rw [← List.drop_drop, ← ht, List.cons_append, List.drop_succ_cons, List.drop_zero, List.isPrefixOf_iff_prefix]
      exact List.prefix_append _ _
    obtain ⟨j, hj⟩ := findL_occ h1
    rw [hj] at h; cases h
theorem free_split {body d : Bytes} (h : freeB body d = true) : d.isPrefixOf body = false ∧ findL (10 :: d) body = none := by
  unfold freeB at h
  simpa using h
/-- A body without the delimiter, the delimiter behind it. -/
theorem free_at {b nl c body tail : Bytes} (hk : NLk nl c) (hb : boundaryB b = true) (h : freeB body (dlm b) = true) : findL (nl ++ dlm b) (body ++ (nl ++ dlm b) ++ tail) = some body.length ∧ (dlm b).isPrefixOf (body ++ (nl ++ dlm b) ++ tail) = false := by
  obtain ⟨h1, h2⟩ := free_split h
  obtain ⟨h10, h13⟩ := dlm_no hb
  cases hk with
  | crlf =>
    refine ⟨findL_first (x := 13) (q := 10 :: dlm b) ?_ (findL_less h2), ?_⟩
    · simp only [List.mem_cons, not_or]
      exact ⟨by decide, h13⟩
    · have := not_prefix_of h13 h1 (10 :: (dlm b ++ tail))
      simpa using this
  | lf =>
    refine ⟨findL_first (x := 10) (q := dlm b) h10 h2, ?_⟩
    have := not_prefix_of h10 h1 (dlm b ++ tail)
    simpa using this
/-- The last delimiter. -/
theorem last_np {b nl c : Bytes} (hk : NLk nl c) (hb : boundaryB b = true) (pad rest : Bytes) (hp : pad.all blankC = true) (hpl : pad.length ≤ 1000) : ∀ pr, pr ≠ 0 → NP b nl pr false (nl ++ dlm b ++ ([45, 45] ++ pad ++ nl ++ rest)) none := by
  intro pr hpr
  have := np_sep hk pr hpr _ none (np_final hk hb pr hpr true pad rest hp hpl)
  simpa using this
theorem mid_np {b nl c : Bytes} (hk : NLk nl c) (hb : boundaryB b = true) (pad rest : Bytes) (hp : pad.all blankC = true) (hpl : pad.length ≤ 20) : ∀ pr, pr ≠ 0 → NP b nl pr false (nl ++ dlm b ++ (pad ++ nl ++ rest)) (some (false, rest)) := by
  intro pr hpr
  have := np_sep hk pr hpr _ _ (np_delim hk hb pr (.inl hpr) true pad rest hp hpl)
  simpa using this
theorem printC_blank {c : UInt8} (h : printC c = true) (h2 : c ≠ 32) : blankC c = false := by
  have := (printC_not h).2.2
  unfold blankC
  simp [h2, this]
theorem keyC_blank {c : UInt8} (h : keyC c = true) : blankC c = false := by
  cases hb : blankC c with
  | false => rfl
  | true =>
    have : c = 32 ∨ c = 9 := by simpa [blankC] using hb
    rcases this with rfl | rfl <;> exact absurd h (by decide)
theorem keyC_10 {c : UInt8} (h : keyC c = true) : c ≠ 10 ∧ c ≠ 13 ∧ c ≠ 58 := by
  refine ⟨?_, ?_, ?_⟩ <;> rintro rfl <;> exact absurd h (by decide)
/-- A value that is printable and has no space at its ends. -/
theorem plain_ends {v : Bytes} (h : plainB v = true) (h0 : v ≠ []) : (∃ x t, v = x :: t ∧ blankC x = false) ∧ (∃ t x, v = t ++ [x] ∧ blankC x = false) ∧ v.all printC = true := by
  unfold plainB at h
  rw [Bool.and_eq_true] at h
  obtain ⟨hp, h⟩ := h
  have he : v.isEmpty = false := by cases v with | nil => exact absurd rfl h0 | cons _ _ => rfl
  rw [he, Bool.false_or, Bool.and_eq_true] at h
  obtain ⟨h1, h2⟩ := h
  refine ⟨?_, ?_, hp⟩
  · cases v with
    | nil => exact absurd rfl h0
    | cons x t =>
      refine ⟨x, t, rfl, printC_blank (List.all_eq_true.1 hp x (by simp)) ?_⟩
      simpa using h1
  · rcases List.eq_nil_or_concat v with e | ⟨t, x, e⟩
    · exact absurd e h0
    · rw [List.concat_eq_append] at e
      subst e
      refine ⟨t, x, rfl, printC_blank (List.all_eq_true.1 hp x (by simp)) ?_⟩
      unfold lastB at h2
      simpa using h2
theorem trB_ends {l v : Bytes} (h : ∃ t x, v = t ++ [x] ∧ blankC x = false) : trB (l ++ v) = l ++ v := by
  obtain ⟨t, x, rfl, hx⟩ := h
  rw [← List.append_assoc]
  exact trB_last _ _ hx
theorem print_no {v : Bytes} (h : v.all printC = true) : (10 : UInt8) ∉ v ∧ (13 : UInt8) ∉ v :=
  ⟨fun e => (printC_not (List.all_eq_true.1 h _ e)).1 rfl, fun e => (printC_not (List.all_eq_true.1 h _ e)).2.1 rfl⟩
theorem print_value {v : Bytes} (h : v.all printC = true) : v.all valueC = true := by
  rw [List.all_eq_true] at h ⊢
  intro x hx
  unfold valueC
  rw [h x hx]; rfl
/-- The text of a part with one folded line. -/
def foldT (b key a sp v body : Bytes) : Bytes := dlm b ++ 13 :: 10 :: (key ++ 58 :: 32 :: (a ++ 13 :: 10 :: (sp ++ (v ++ 13 :: 10 :: 13 :: 10 :: (body ++ 13 :: 10 :: (dlm b ++ [45, 45, 13, 10]))))))
theorem folded_nxt {b key a sp v body : Bytes} (hb : boundaryB b = true) (hk : keyB key = true) (ha : plainB a = true) (ha0 : a ≠ []) (hv : plainB v = true) (hv0 : v ≠ []) (hl : key.length + 2 + a.length + sp.length + v.length ≤ 998) (hs : sp.all blankC = true) (hs0 : 0 < sp.length) (hf : freeB body (dlm b) = true) :
    ∃ rest0, NP b [13, 10] 0 false (foldT b key a sp v body) (some (false, rest0)) ∧ Nxt b [13, 10] (some (false, rest0)) [([(canonB key, [a ++ 32 :: v])], body)] := by
  unfold keyB at hk
  rw [Bool.and_eq_true] at hk
  obtain ⟨hk1, hk0⟩ := hk
  have hk0 : 0 < key.length := by simpa using hk0
  obtain ⟨⟨a0, a1, ea, ha2⟩, ha3, ha4⟩ := plain_ends ha ha0
  obtain ⟨⟨v0, v1, ev, hv2⟩, hv3, hv4⟩ := plain_ends hv hv0
  obtain ⟨ha10, ha13⟩ := print_no ha4
  obtain ⟨hv10, hv13⟩ := print_no hv4
  obtain ⟨s0, s1, es⟩ : ∃ x t, sp = x :: t := by
    cases sp with
    | nil => simp at hs0
    | cons x t => exact ⟨x, t, rfl⟩
  have hs2 : blankC s0 = true := List.all_eq_true.1 hs s0 (by rw [es]; simp)
  have hs3 : s1.all blankC = true := by rw [es, List.all_cons, Bool.and_eq_true] at hs; exact hs.2
  have hkn : (10 : UInt8) ∉ key := fun e => (keyC_10 (List.all_eq_true.1 hk1 _ e)).1 rfl
  let fin : Bytes := body ++ ([13, 10] ++ dlm b) ++ [45, 45, 13, 10]
  let rest0 : Bytes := key ++ 58 :: 32 :: (a ++ 13 :: 10 :: (sp ++ (v ++ 13 :: 10 :: 13 :: 10 :: fin)))
  have hline : LogLine rest0 (trB (dropCR (key ++ 58 :: 32 :: a ++ [13])) ++ 32 :: trB (dropCR (v0 :: (v1 ++ [13])))) (13 :: 10 :: fin) := by
    have e : rest0 = (key ++ 58 :: 32 :: a ++ [13]) ++ 10 :: s0 :: (s1 ++ (v0 :: (v1 ++ [13]) ++ 10 :: 13 :: (10 :: fin))) := by
      show key ++ 58 :: 32 :: (a ++ 13 :: 10 :: (sp ++ (v ++ 13 :: 10 :: 13 :: 10 :: fin))) = _
      rw [es, ev]; simp
    have e2 : dropCR (v0 :: (v1 ++ [13])) = v := by
      rw [← List.cons_append, ← ev]; exact dropCR_cr _
    rw [e]
    refine LogLine.folded _ s1 (v1 ++ [13]) s0 13 v0 (10 :: fin) ?_ ?_ ?_ ?_ ?_ hs2 hs3 ?_ hv2 ?_ ?_ ?_ ?_ (by decide)
    · simp only [List.mem_append, List.mem_cons, not_or]
      exact ⟨⟨hkn, by decide, by decide, ha10⟩, by decide, by simp⟩
    · simp; omega
    · rw [dropCR_cr]; simp; omega
    · rw [dropCR_cr]
      cases hkk : key with
      | nil => rw [hkk] at hk0; simp at hk0
      | cons x t => exact keyC_blank (List.all_eq_true.1 hk1 x (by rw [hkk]; simp))
    · rw [dropCR_cr]; simp
    · have := congrArg List.length es; simp at this; omega
    · have h1 : v0 :: (v1 ++ [13]) = v ++ [13] := by rw [ev]; simp
      rw [h1]
      simp only [List.mem_append, not_or]
      exact ⟨hv10, by decide⟩
    · have := congrArg List.length ev; simp at this; simp; omega
    · rw [e2, ev]; simp
    · rw [e2, ev]; exact hv2
  have hkv : trB (dropCR (key ++ 58 :: 32 :: a ++ [13])) ++ 32 :: trB (dropCR (v0 :: (v1 ++ [13]))) = key ++ 58 :: (32 :: (a ++ 32 :: v)) := by
    have e2 : dropCR (v0 :: (v1 ++ [13])) = v := by
      rw [← List.cons_append, ← ev]; exact dropCR_cr _
    rw [dropCR_cr, e2]
    have h1 : trB (key ++ 58 :: 32 :: a) = key ++ 58 :: 32 :: a := by
      have := trB_ends (l := key ++ [58, 32]) ha3
      simpa using this
    have h2 : trB v = v := by
      have := trB_ends (l := []) hv3
      simpa using this
    rw [h1, h2]; simp
  have hall : (32 :: (a ++ 32 :: v)).all valueC = true := by
    rw [List.all_cons, List.all_append, List.all_cons, print_value ha4, print_value hv4]
    decide
  have hlines : Lines rest0 [(canonB key, a ++ 32 :: v)] fin := by
    have h1 := Lines.more rest0 _ (13 :: 10 :: fin) key (32 :: (a ++ 32 :: v)) fin [] hline hkv hk1 hk0 hall (by rw [hkv]; simp; omega) (Lines.done [13] fin (by decide) (by decide) rfl)
    have h2 : (32 :: (a ++ 32 :: v)).dropWhile blankC = a ++ 32 :: v := by
      rw [List.dropWhile_cons, if_pos (by decide), ea, List.cons_append, List.dropWhile_cons, if_neg (by rw [ha2]; decide)]
    rw [h2] at h1
    exact h1
  obtain ⟨hf1, hf2⟩ := free_at (tail := [45, 45, 13, 10]) NLk.crlf hb hf
  have hpart : PartAt b [13, 10] rest0 [(canonB key, a ++ 32 :: v)] body [45, 45, 13, 10] := ⟨hlines, by simp, hf1, hf2, rfl⟩
  refine ⟨rest0, ?_, .part false rest0 _ ?_⟩
  · have := np_delim NLk.crlf hb 0 (.inr rfl) false [] rest0 rfl (by decide)
    have e : foldT b key a sp v body = dlm b ++ [] ++ [13, 10] ++ rest0 := by
      show dlm b ++ 13 :: 10 :: (key ++ 58 :: 32 :: (a ++ 13 :: 10 :: (sp ++ (v ++ 13 :: 10 :: 13 :: 10 :: (body ++ 13 :: 10 :: (dlm b ++ [45, 45, 13, 10])))))) = dlm b ++ [] ++ [13, 10] ++ (key ++ 58 :: 32 :: (a ++ 13 :: 10 :: (sp ++ (v ++ 13 :: 10 :: 13 :: 10 :: (body ++ ([13, 10] ++ dlm b) ++ [45, 45, 13, 10])))))
      simp
    rw [e]; exact this
  · exact PartsAt.last rest0 [(canonB key, a ++ 32 :: v)] body [45, 45, 13, 10] hpart (by
      have := last_np NLk.crlf hb [] [] rfl (by decide)
      simpa [nlOf] using this)
end Go.Proofs.YtkbgnplknifmhaaGreatDoor
