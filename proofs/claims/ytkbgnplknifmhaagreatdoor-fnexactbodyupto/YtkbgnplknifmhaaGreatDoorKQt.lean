/-
  Laws for regions that draw their order: a head of quiet operations and quiet calls that all flow into one operation, taken in the order of the text; a tail whose operations come up one by one, walked as plain code.
-/
import Derived.StillTail
import Derived.Deep.Quiet
import Derived.Deep.QuietTactic
import Derived.BigQuiet
namespace Go.Proofs.YtkbgnplknifmhaaGreatDoor
open Go
section
variable {P : Program} {ops : Array Oper} {md : Region.Mode} {C : World → Prop}

def wpAnyQL (P : Program) (md : Region.Mode) (ops : Array Oper) (C : World → Prop) (H : List Nat) (L : Array Bool → Act → Prop) : Nat → Array Bool → Act → Prop
  | 0, listed, a => L listed a
  | f + 1, listed, a =>
    Region.ready md ops listed ≠ [] ∧ ∀ i ∈ Region.ready md ops listed, i ∈ H ∧ qOp P ops C i (wpAnyQL P md ops C H L f (listed.setIfInBounds i true)) a

theorem wpAny_of_qhead {H : List Nat} {g : Nat} {L : Array Bool → Act → Prop} {Q' : Exit → Act → World → Prop} (hL : ∀ listed a w, C w → L listed a → wpAny P md ops Q' g listed a w) :
    ∀ (f : Nat) (listed : Array Bool) (a : Act) (w : World), C w → wpAnyQL P md ops C H L f listed a → wpAny P md ops Q' (f + g) listed a w
  | 0, listed, a, w, hw, h => by rw [Nat.zero_add]; exact hL _ _ _ hw h
  | f + 1, listed, a, w, hw, h => by
    rw [show f + 1 + g = (f + g) + 1 by omega]
    exact ⟨fun h0 => absurd h0 h.1, fun i hi => wpOp_of_qOp hw (fun a' w' hw' h' => wpAny_of_qhead hL f _ a' w' hw' h') (h.2 i hi).2⟩

structure HInv (md : Region.Mode) (ops : Array Oper) (H : List Nat) (l0 listed : Array Bool) : Prop where
  size : listed.size = ops.size
  closed : ∀ j oj, ops[j]? = some oj → listed.getD j false = true → ∀ e ∈ oj.after, Region.binds md e = true → listed.getD e.on false = true
  tail : ∀ t, t ∉ H → listed.getD t true = l0.getD t true
theorem HInv.set {H : List Nat} {i : Nat} {l0 listed : Array Bool} (inv : HInv md ops H l0 listed) (hi : i ∈ Region.ready md ops listed) (hin : i ∈ H) : HInv md ops H l0 (listed.setIfInBounds i true) := by
  obtain ⟨_, oi, hoi, hall⟩ := mem_ready.1 hi
  refine ⟨by simp [inv.size], fun j oj hj hl e he hb => ?_, fun t ht => by rw [getD_set_ne true (by rintro rfl; exact ht hin)]; exact inv.tail t ht⟩
  by_cases hij : i = j
  · subst hij
    have : oj = oi := Option.some.inj (hj.symm.trans hoi)
    subst this
    exact getD_set_true (hall e he hb)
  · rw [getD_set_ne false hij] at hl
    exact getD_set_true (inv.closed j oj hj hl e he hb)
/-- While one of H is still to come, nothing outside H may come. -/
theorem tail_waitsH {H : List Nat} {s : Nat} {l0 listed : Array Bool} (hS : ∀ t, t < ops.size → l0.getD t true = false → t ∉ H → Region.waitsFor md ops t s = true)
    (hF : ∀ i ∈ H, i ≠ s → ∃ j ∈ H, i < j ∧ j ≤ s ∧ Region.waitsFor md ops j i = true) (hlt : ∀ i ∈ H, i < ops.size) (inv : HInv md ops H l0 listed) :
    ∀ (d i : Nat), s - i = d → i ∈ H → listed.getD i true = false → ∀ t, t ∉ H → t ∉ Region.ready md ops listed := by
  intro d
  induction d using Nat.strongRecOn with
  | _ d ih =>
    intro i hd hi hun t ht hr
    by_cases his : i = s
    · subst his
      obtain ⟨h0, ot, hot, hall⟩ := mem_ready.1 hr
      have htlt : t < ops.size := (Array.getElem?_eq_some_iff.1 hot).1
      obtain ⟨o', ho', e, he, hb, hon⟩ := Region.waitsFor_spec (hS t htlt (by rw [← inv.tail t ht]; exact h0) ht)
      have : o' = ot := Option.some.inj (ho'.symm.trans hot)
      subst this
      have h2 := hall e he hb
      rw [hon, getD_both hun] at h2
      cases h2
    · obtain ⟨j, hj, hij, hjs, hw⟩ := hF i hi his
      obtain ⟨oj, hoj, e, he, hb, hon⟩ := Region.waitsFor_spec hw
      cases hl : listed.getD j false with
      | true =>
        have h2 := inv.closed j oj hoj hl e he hb
        rw [hon, getD_both hun] at h2
        cases h2
      | false =>
        have hjl : j < listed.size := by rw [inv.size]; exact hlt j hj
        exact ih (s - j) (by omega) j rfl hj (getD_in hjl hl) t ht hr

theorem wpAnyQL_first {H : List Nat} {i : Nat} {oi : Oper} {v : Value} {L : Array Bool → Act → Prop} (hi : ops[i]? = some oi) (hsel : ∀ (j : Nat) (o : Oper) cs b, ops[j]? = some o → o.op ≠ .select cs b)
    {s : Nat} {l0 : Array Bool} (hS : ∀ t, t < ops.size → l0.getD t true = false → t ∉ H → Region.waitsFor md ops t s = true)
    (hF : ∀ i ∈ H, i ≠ s → ∃ j ∈ H, i < j ∧ j ≤ s ∧ Region.waitsFor md ops j i = true) (hlt : ∀ i ∈ H, i < ops.size) (hin : i ∈ H)
    (hdone : ∀ listed a, L listed a → ∀ j ∈ Region.ready md ops listed, j ∉ H) :
    ∀ (f : Nat) (listed : Array Bool) (a : Act), HInv md ops H l0 listed →
      (∀ j oj, ops[j]? = some oj → j ≠ i → listed.getD j true = false → (∀ e ∈ oj.after, Region.binds md e = true → e.on ≠ i) → oi.apart ops oj = true) →
      i ∈ Region.ready md ops listed → YieldsIn P ops C oi v a →
      wpAnyQL P md ops C H L f (listed.setIfInBounds i true) (a.put oi.dst v) → wpAnyQL P md ops C H L (f + 1) listed a := by
  intro f
  induction f with
  | zero =>
    intro listed a inv _ hr hy W
    have hun := (mem_ready.1 hr).1
    refine ⟨fun h => (by rw [h] at hr; cases hr), fun j hj => ?_⟩
    have hjn : j ∈ H := by
      by_cases h : j ∈ H
      · exact h
      · exact absurd hj (tail_waitsH hS hF hlt inv _ i rfl hin hun j h)
    refine ⟨hjn, ?_⟩
    by_cases hji : j = i
    · subst hji; exact hy.qOp hi W
    · exact absurd hjn (hdone _ _ W j (ready_mono hj hji))
  | succ f ih =>
    intro listed a inv hfree hr hy W
    have hun := (mem_ready.1 hr).1
    refine ⟨fun h => (by rw [h] at hr; cases hr), fun j hj => ?_⟩
    have hjn : j ∈ H := by
      by_cases h : j ∈ H
      · exact h
      · exact absurd hj (tail_waitsH hS hF hlt inv _ i rfl hin hun j h)
    refine ⟨hjn, ?_⟩
    by_cases hji : j = i
    · subst hji; exact hy.qOp hi W
    · have h1 := (W.2 j (ready_mono hj hji)).2
      obtain ⟨hjun, oj, hoj, hall⟩ := mem_ready.1 hj
      have hnot : ∀ e ∈ oj.after, Region.binds md e = true → e.on ≠ i := fun e he hb heq => by
        have h1 := hall e he hb
        rw [heq, getD_both hun] at h1
        cases h1
      have h2 := qOp_put hoj (hfree j oj hoj hji hjun hnot) (fun cs b => hsel i oi cs b hi) (fun cs b => hsel j oj cs b hoj) hy h1
      have hfree' : ∀ k ok, ops[k]? = some ok → k ≠ i → (listed.setIfInBounds j true).getD k true = false →
          (∀ e ∈ ok.after, Region.binds md e = true → e.on ≠ i) → oi.apart ops ok = true := fun k ok hk hki hun hno => by
        refine hfree k ok hk hki ?_ hno
        by_cases hjk : j = k
        · subst hjk; exact hjun
        · rw [getD_set_ne true hjk] at hun; exact hun
      refine qOp_mono (fun a' h3 => ih (listed.setIfInBounds j true) a' (inv.set hj hjn) hfree' (ready_mono hr (Ne.symm hji)) h3.1 ?_) h2
      rw [Array.setIfInBounds_comm _ _ hji]
      exact h3.2

def pickOps (ops : Array Oper) : List Nat → List Oper
  | [] => []
  | k :: r => match ops[k]? with
    | some o => o :: pickOps ops r
    | none => pickOps ops r
def lexH (md : Region.Mode) (ops : Array Oper) (F : Array Bool) : List Nat → Array Bool → Bool
  | [], listed => listed == F
  | k :: r, listed => (Region.ready md ops listed).contains k && Region.free md ops listed k && lexH md ops F r (listed.setIfInBounds k true)
def afterH (H : List Nat) (listed : Array Bool) : Array Bool := H.foldl (fun l k => l.setIfInBounds k true) listed
def headB (md : Region.Mode) (ops : Array Oper) (H : List Nat) (s : Nat) (listed : Array Bool) : Bool :=
  Region.noSelect ops && listed.size == ops.size
  && (List.range ops.size).all (fun j => !listed.getD j false || match ops[j]? with | some oj => oj.after.all (fun e => !Region.binds md e || listed.getD e.on false) | none => true)
  && (List.range ops.size).all (fun t => listed.getD t true || H.contains t || Region.waitsFor md ops t s)
  && H.all (fun i => decide (i < ops.size) && (i == s || H.any (fun j => decide (i < j) && decide (j ≤ s) && Region.waitsFor md ops j i)))
  && (Region.ready md ops (afterH H listed)).all (fun j => !H.contains j)
  && lexH md ops (afterH H listed) H listed

theorem wpAnyQL_lexH {H : List Nat} {F : Array Bool} {Lq : Act → Prop} {s : Nat} {l0 : Array Bool} (hsel : Region.noSelect ops = true) (hS : ∀ t, t < ops.size → l0.getD t true = false → t ∉ H → Region.waitsFor md ops t s = true)
    (hF : ∀ i ∈ H, i ≠ s → ∃ j ∈ H, i < j ∧ j ≤ s ∧ Region.waitsFor md ops j i = true) (hlt : ∀ i ∈ H, i < ops.size) (hdone : ∀ j ∈ Region.ready md ops F, j ∉ H) :
    ∀ (r : List Nat) (listed : Array Bool) (a : Act), (∀ k ∈ r, k ∈ H) → HInv md ops H l0 listed → lexH md ops F r listed = true → wpQuiet P ops C Lq (pickOps ops r) a →
    wpAnyQL P md ops C H (fun listed' a' => listed' = F ∧ Lq a') r.length listed a
  | [], listed, a, _, _, hB, h => by
    refine ⟨by simpa [lexH] using hB, h⟩
  | k :: r, listed, a, hr, inv, hB, h => by
    simp only [lexH, Bool.and_eq_true] at hB
    obtain ⟨⟨hk, hf⟩, hB'⟩ := hB
    have hr' : k ∈ Region.ready md ops listed := by simpa using hk
    obtain ⟨_, o, h0, _⟩ := mem_ready.1 hr'
    have h' : wpQuiet P ops C Lq (o :: pickOps ops r) a := by
      have e : pickOps ops (k :: r) = o :: pickOps ops r := by simp only [pickOps, h0]
      rw [← e]; exact h
    have hst : qOp P ops C k (wpQuiet P ops C Lq (pickOps ops r)) a := by unfold qOp; simp only [h0]; exact h'
    obtain ⟨v, hy, hK⟩ := yieldsIn_of_qOp h0 hst
    exact wpAnyQL_first h0 (Region.noSelect_spec hsel) hS hF hlt (hr k (by simp)) (fun listed' a' hL => by rw [hL.1]; exact hdone) r.length listed a inv (Region.free_spec h0 hf) hr' hy
      (wpAnyQL_lexH hsel hS hF hlt hdone r _ _ (fun j hj => hr j (by simp [hj])) (inv.set hr' (hr k (by simp))) hB' hK)

/-- The head H, all of whose operations flow into s: one walk in H's order. -/
theorem wpAny_qhead {Q : Exit → Act → World → Prop} {a : Act} {w : World} {listed : Array Bool} (H : List Nat) (s g f : Nat) (hf : f = H.length + g) (hB : headB md ops H s listed = true) (hC : C w)
    (h : wpQuiet P ops C (fun a' => ∀ w', C w' → wpAny P md ops Q g (afterH H listed) a' w') (pickOps ops H) a) : wpAny P md ops Q f listed a w := by
  subst hf
  simp only [headB, Bool.and_eq_true] at hB
  obtain ⟨⟨⟨⟨⟨⟨hsel, hsz⟩, hcl⟩, htl⟩, hH⟩, hdn⟩, hlx⟩ := hB
  have hsz' : listed.size = ops.size := by simpa using hsz
  have inv0 : HInv md ops H listed listed := by
    refine ⟨hsz', fun j oj hj hl e he hb => ?_, fun _ _ => rfl⟩
    have h1 := List.all_eq_true.1 hcl j (List.mem_range.2 (Array.getElem?_eq_some_iff.1 hj).1)
    simp only [hj, hl, Bool.not_true, Bool.false_or] at h1
    have h2 := Array.all_eq_true_iff_forall_mem.1 h1 e he
    simpa [hb] using h2
  have hS : ∀ t, t < ops.size → listed.getD t true = false → t ∉ H → Region.waitsFor md ops t s = true := by
    intro t ht hl hn
    have h1 := List.all_eq_true.1 htl t (List.mem_range.2 ht)
    simp only [hl, Bool.false_or, Bool.or_eq_true] at h1
    rcases h1 with h1 | h1
    · exact absurd (by simpa using h1) hn
    · exact h1
  have hHs := List.all_eq_true.1 hH
  have hlt : ∀ i ∈ H, i < ops.size := fun i hi => by
    have h1 := hHs i hi
    rw [Bool.and_eq_true] at h1
    simpa using h1.1
  have hF : ∀ i ∈ H, i ≠ s → ∃ j ∈ H, i < j ∧ j ≤ s ∧ Region.waitsFor md ops j i = true := by
    intro i hi hne
    have h1 := hHs i hi
    rw [Bool.and_eq_true, Bool.or_eq_true] at h1
    rcases h1.2 with h2 | h2
    · exact absurd (by simpa using h2) hne
    · obtain ⟨j, hj, h3⟩ := List.any_eq_true.1 h2
      simp only [Bool.and_eq_true, decide_eq_true_eq] at h3
      exact ⟨j, hj, h3.1.1, h3.1.2, h3.2⟩
  have hdone : ∀ j ∈ Region.ready md ops (afterH H listed), j ∉ H := fun j hj => by
    have h1 := List.all_eq_true.1 hdn j hj
    simpa using h1
  have W := wpAnyQL_lexH (C := C) (F := afterH H listed) (Lq := fun a' => ∀ w', C w' → wpAny P md ops Q g (afterH H listed) a' w') hsel hS hF hlt hdone H listed a (fun _ h => h) inv0 hlx h
  exact wpAny_of_qhead (Q' := Q) (g := g) (fun listed' a' w' hw' hL => by rw [hL.1]; exact hL.2 w' hw') _ _ _ w hC W

/-- What is left comes up one by one. -/
theorem wpAny_tail {Q : Exit → Act → World → Prop} {a : Act} {w : World} {listed : Array Bool} {l : List Oper} (n g : Nat) (hg : l.length = n + g) (hB : Region.seqB md l.toArray g n listed = true)
    (h : wpList P l.toArray Q (l.drop n) a w) : wpAny P md l.toArray Q g listed a w := by
  have hdl : (l.drop n).length = g := by simp; omega
  have := wpAny_of_seq (md := md) (Q' := Q) (l.drop n) n listed a w (fun j => by simp [List.getElem?_drop]) (by rw [hdl]; exact hB) h
  rwa [hdl] at this
end
end Go.Proofs.YtkbgnplknifmhaaGreatDoor
