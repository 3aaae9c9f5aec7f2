/-
  Walks and facts for the mailparts program.
-/
import Derived.Test.YtkbgnplknifmhaaGreatDoorKHs2ToEp2
import Derived.Test.YtkbgnplknifmhaaGreatDoorKPure8
namespace Go.Proofs.YtkbgnplknifmhaaGreatDoor
open Go.RowKit
attribute [local go_sem ↓] Go.wp_at_zero Go.wp_at_succ
/-! ### Lists of texts that came in: laws.zzFits2 (35), spec.Brief (36), spec.Ahead (37) -/
/-- The slice at a holds the texts. -/
structure TB (w : World) (a : Option Addr) (ls : List Bytes) : Prop where
  some_ : ls ≠ [] → a.isSome = true
  cell : ∀ i, i < ls.length → w.cell? (at_ a i) = some (.string (str (ls.getD i [])))
theorem TB.fwd {S : List Nat} {w w' : World} {a : Option Addr} {ls : List Bytes} (h : TB w a ls) (k : Kp S w w') (hS : ∀ x ∈ S, w.heap.size ≤ x) : TB w' a ls := by
  refine ⟨h.some_, fun i hi => ?_⟩
  have h0 := h.cell i hi
  rw [← h0]
  have := cell_lt h0
  exact cell_congr (k.block _ this (fun e => absurd (hS _ e) (by omega)))
theorem TB.ix {w : World} {a : Option Addr} {ls : List Bytes} (h : TB w a ls) (c i : Nat) (hi : i < ls.length) : ∀ w : World, (Instr.indexAt 41 (.slice a ls.length c) (.int .i64 (i : Int))).run Tryz.prog w = .ok (.pointer (some (at_ a i))) w := by
  intro w
  obtain ⟨x, rfl⟩ := Option.isSome_iff_exists.1 (h.some_ (fun e => by rw [e] at hi; exact absurd hi (Nat.not_lt_zero _)))
  rw [run_indexAt_slice _ _ _ _ _ _ _ isSlice41]
  simp [hi, elem41_eq, at_]
def lensB (n : Nat) (ls : List Bytes) : Bool := ls.all fun s => decide (s.length ≤ n)
theorem lensB_take (n : Nat) (ls : List Bytes) (i : Nat) (hi : i < ls.length) (h : lensB n (ls.take i) = true) : lensB n (ls.take (i + 1)) = decide ((ls.getD i []).length ≤ n) := by
  unfold lensB at h ⊢
  rw [List.take_add_one, List.getElem?_eq_getElem hi, List.all_append, h, List.getD_eq_getElem?_getD, List.getElem?_eq_getElem hi]
  simp
theorem lensB_at (n : Nat) (ls : List Bytes) (i : Nat) (hi : i < ls.length) (h : ¬ (ls.getD i []).length ≤ n) : lensB n ls = false := by
  unfold lensB
  rw [List.all_eq_false]
  refine ⟨ls[i], List.getElem_mem hi, ?_⟩
  rw [List.getD_eq_getElem?_getD, List.getElem?_eq_getElem hi] at h
  simpa using h
def LnRel (w wr : World) (n : Nat) (ls : List Bytes) (v : Value) (q : Nat) : Prop := ∃ i : Nat, v = .int .i64 (i : Int) ∧ i + q = ls.length ∧ lensB n (ls.take i) = true ∧ w = wr
section
variable {w : World} {a : Option Addr} {c : Nat} {ls : List Bytes}
def fitsB (ls : List Bytes) : Bool := decide (ls.length ≤ 2147483647) && lensB 2147483647 ls
def briefB (ls : List Bytes) : Bool := lensB 16777216 ls && decide (ls.length ≤ 65536)
set_option maxRecDepth 20000 in
set_option maxHeartbeats 2000000 in
theorem fits35 (h : TB w a ls) : Calls Tryz.prog 35 #[.slice a ls.length c] w fun e w' => e = .returned (.bool (fitsB ls)) ∧ w = w' := by
  by_cases hn : ls.length ≤ 2147483647
  · have hn' : ¬ (2147483647 : Int) < (ls.length : Int) := by omega
    have hfb : fitsB ls = lensB 2147483647 ls := by unfold fitsB; simp [hn]
    rw [hfb]
    have HA := Lib.hid h
    have HR0 : Hid (LnRel w w 2147483647 ls (.int .i64 ((0 : Nat) : Int)) ls.length) := ⟨0, rfl, by omega, by simp [lensB], rfl⟩
    clear h hfb
    go_enter Tryz.func35, Tryz.ntmps35
    go_wp2
    go_loopg [10] ls.length (fun q v10 wr => LnRel w wr 2147483647 ls v10 q)
    case atStart => exact HR0.out
    case round =>
      clear HR0
      obtain ⟨i, rfl, hq, hok, rfl⟩ := hrel
      by_cases hi : i < ls.length
      · have hi' : (i : Int) < (ls.length : Int) := by omega
        have hc1 := HA.out.cell i hi
        have hx1 := HA.out.ix c i hi
        have htk := lensB_take 2147483647 ls i hi hok
        by_cases hl : (ls.getD i []).length ≤ 2147483647
        · have hl' : ¬ (2147483647 : Int) < ((ls.getD i []).length : Int) := by omega
          have HREL : Hid (LnRel w w 2147483647 ls (.int .i64 ((i : Int) + 1)) (ls.length - (i + 1))) := ⟨i + 1, by simp, by omega, by rw [htk]; simpa using hl, rfl⟩
          have HMM : Hid (ls.length - (i + 1) < gk) := by show _ < _; omega
          generalize ls.getD i [] = s at *
          clear hq hok htk
          go_wp2
          go_roundg (ls.length - (i + 1))
          case measure => exact HMM.out
          case rel => exact HREL.out
        · have hl' : (2147483647 : Int) < ((ls.getD i []).length : Int) := by omega
          have HF := Lib.hid (lensB_at 2147483647 ls i hi hl)
          generalize ls.getD i [] = s at *
          clear hq hok htk
          go_wp2
          go_ret
          exact ⟨congrArg (fun b => Ending.returned (.bool b)) HF.out.symm, rfl⟩
      · have hge : ¬ (i : Int) < (ls.length : Int) := by omega
        have HF : Hid (lensB 2147483647 ls = true) := by
          rw [List.take_of_length_le (by omega)] at hok
          exact hok
        clear hq hok
        go_wp2
        go_ret
        exact ⟨congrArg (fun b => Ending.returned (.bool b)) HF.out.symm, rfl⟩
  · have hn' : (2147483647 : Int) < (ls.length : Int) := by omega
    have HF : Hid (fitsB ls = false) := by unfold fitsB; simp [hn, Hid]
    clear h
    go_enter Tryz.func35, Tryz.ntmps35
    go_wp2
    go_ret
    exact ⟨congrArg (fun b => Ending.returned (.bool b)) HF.out.symm, rfl⟩
set_option maxRecDepth 20000 in
set_option maxHeartbeats 2000000 in
theorem brief36 (h : TB w a ls) (hn : ls.length ≤ 2147483647) : Calls Tryz.prog 36 #[.slice a ls.length c] w fun e w' => e = .returned (.bool (briefB ls)) ∧ w = w' := by
  have HA := Lib.hid h
  have HR0 : Hid (LnRel w w 16777216 ls (.int .i64 ((0 : Nat) : Int)) ls.length) := ⟨0, rfl, by omega, by simp [lensB], rfl⟩
  clear h
  go_enter Tryz.func36, Tryz.ntmps36
  go_wp2
  go_loopg [7] ls.length (fun q v7 wr => LnRel w wr 16777216 ls v7 q)
  case atStart => exact HR0.out
  case round =>
    clear HR0
    obtain ⟨i, rfl, hq, hok, rfl⟩ := hrel
    by_cases hi : i < ls.length
    · have hi' : (i : Int) < (ls.length : Int) := by omega
      have hc1 := HA.out.cell i hi
      have hx1 := HA.out.ix c i hi
      have htk := lensB_take 16777216 ls i hi hok
      by_cases hl : (ls.getD i []).length ≤ 16777216
      · have hl' : ¬ (16777216 : Int) < ((ls.getD i []).length : Int) := by omega
        have HREL : Hid (LnRel w w 16777216 ls (.int .i64 ((i : Int) + 1)) (ls.length - (i + 1))) := ⟨i + 1, by simp, by omega, by rw [htk]; simpa using hl, rfl⟩
        have HMM : Hid (ls.length - (i + 1) < gk) := by show _ < _; omega
        generalize ls.getD i [] = s at *
        clear hq hok htk
        go_wp2
        go_roundg (ls.length - (i + 1))
        case measure => exact HMM.out
        case rel => exact HREL.out
      · have hl' : (16777216 : Int) < ((ls.getD i []).length : Int) := by omega
        have HF : Hid (briefB ls = false) := by unfold briefB; rw [lensB_at 16777216 ls i hi hl]; rfl
        generalize ls.getD i [] = s at *
        clear hq hok htk
        go_wp2
        go_ret
        exact ⟨congrArg (fun b => Ending.returned (.bool b)) HF.out.symm, rfl⟩
    · have hge : ¬ (i : Int) < (ls.length : Int) := by omega
      have HF : Hid (lensB 16777216 ls = true) := by
        rw [List.take_of_length_le (by omega)] at hok
        exact hok
      clear hq hok
      by_cases h6 : ls.length ≤ 65536
      · have h6' : (ls.length : Int) ≤ 65536 := by omega
        have HG : Hid (briefB ls = true) := by unfold briefB; rw [HF.out]; simpa [Hid] using h6
        go_wp2
        go_ret
        exact ⟨congrArg (fun b => Ending.returned (.bool b)) HG.out.symm, rfl⟩
      · have h6' : ¬ (ls.length : Int) ≤ 65536 := by omega
        have HG : Hid (briefB ls = false) := by unfold briefB; rw [HF.out]; simpa [Hid] using h6
        go_wp2
        go_ret
        exact ⟨congrArg (fun b => Ending.returned (.bool b)) HG.out.symm, rfl⟩
end
end Go.Proofs.YtkbgnplknifmhaaGreatDoor
namespace Go.Proofs.YtkbgnplknifmhaaGreatDoor
open Go.RowKit
attribute [local go_sem ↓] Go.wp_at_zero Go.wp_at_succ
/-! ### spec.Ahead (37) -/
def lineOkB (d l : Bytes) : Bool := !(decide (998 < l.length) || !l.all printC || d.isPrefixOf l)
theorem aheadB_take (d : Bytes) (ls : List Bytes) (i : Nat) (hi : i < ls.length) (h : aheadB d (ls.take i) = true) : aheadB d (ls.take (i + 1)) = lineOkB d (ls.getD i []) := by
  unfold aheadB at h ⊢
  rw [List.take_add_one, List.getElem?_eq_getElem hi, List.all_append, h, List.getD_eq_getElem?_getD, List.getElem?_eq_getElem hi]
  simp [lineOkB]
theorem aheadB_at (d : Bytes) (ls : List Bytes) (i : Nat) (hi : i < ls.length) (h : lineOkB d (ls.getD i []) = false) : aheadB d ls = false := by
  unfold aheadB
  rw [List.all_eq_false]
  refine ⟨ls[i], List.getElem_mem hi, ?_⟩
  rw [List.getD_eq_getElem?_getD, List.getElem?_eq_getElem hi] at h
  unfold lineOkB at h
  simpa using h
theorem aheadT_take (ls : List Bytes) (i : Nat) (hi : i < ls.length) : aheadT (ls.take (i + 1)) = aheadT (ls.take i) ++ (ls.getD i [] ++ [13, 10]) := by
  unfold aheadT
  rw [List.take_add_one, List.getElem?_eq_getElem hi, List.flatMap_append, List.getD_eq_getElem?_getD, List.getElem?_eq_getElem hi]
  simp
theorem aheadT_le (d : Bytes) (ls : List Bytes) (h : aheadB d ls = true) : (aheadT ls).length ≤ ls.length * 1000 := by
  unfold aheadT
  induction ls with
  | nil => simp
  | cons l ls ih =>
    unfold aheadB at h
    rw [List.all_cons, Bool.and_eq_true] at h
    have h1 := h.1
    simp only [Bool.not_eq_true', Bool.or_eq_false_iff, decide_eq_false_iff_not] at h1
    have := ih h.2
    simp only [List.flatMap_cons, List.length_append, List.length_cons, List.length_nil]
    omega
structure AhRel (w wr : World) (d : Bytes) (ls : List Bytes) (v8 v13 : Value) (q : Nat) : Prop where
  ex : ∃ i : Nat, v13 = .int .i64 (i : Int) ∧ i + q = ls.length ∧ OB wr w.heap.size v8 (aheadT (ls.take i)) ∧ aheadB d (ls.take i) = true ∧ Kp [] w wr
def AhEnd (w : World) (d src : Bytes) (ls : List Bytes) (e : Ending) (w' : World) : Prop :=
  if aheadB d ls = true then ∃ v, e = .returned (.tuple #[v, .bool true]) ∧ OB w' w.heap.size v (aheadT ls ++ src) ∧ Kp [] w w' else e = .returned (.tuple #[.slice none 0 0, .bool false]) ∧ Kp [] w w'
section
variable {w : World} {a a2 : Option Addr} {c c2 : Nat} {ls : List Bytes} {src b : Bytes}
set_option maxRecDepth 20000 in
set_option maxHeartbeats 4000000 in
theorem ahead37 (h : TB w a ls) (h2 : HB w a2 src) (hnone : a2 = none → c2 = 0) (hn : ls.length ≤ 65536) (hs : src.length ≤ 16777216) (hb : b.length ≤ 16777216) (hll : ∀ s ∈ ls, s.length ≤ 16777216) :
    Calls Tryz.prog 37 #[.slice a ls.length c, .slice a2 src.length c2, .string (str b)] w fun e w' => AhEnd w (dlm b) src ls e w' := by
  have HA := Lib.hid h
  have HS := Lib.hid h2
  have HL := Lib.hid hll
  have HR0 : Hid (AhRel w w (dlm b) ls (.slice none 0 0) (.int .i64 ((0 : Nat) : Int)) ls.length) := ⟨0, rfl, by omega, OB.nil _ _, by simp [aheadB], Kp.refl _ _⟩
  have e1 : (⟨#[45, 45]⟩ : ByteArray) ++ str b = str (45 :: 45 :: b) := str_append [45, 45] b
  clear h h2 hll
  go_enter Tryz.func37, Tryz.ntmps37
  go_wp2
  go_loopg [8, 13] ls.length (fun q v8 v13 wr => AhRel w wr (dlm b) ls v8 v13 q)
  case atStart => exact HR0.out
  case round =>
    clear HR0
    obtain ⟨i, rfl, hq, hob, hok, hk⟩ := hrel.ex
    by_cases hi : i < ls.length
    · have hi' : (i : Int) < (ls.length : Int) := by omega
      have hA := HA.out.fwd hk (by simp)
      have hc1 := hA.cell i hi
      have hx1 := hA.ix c i hi
      have htk := aheadB_take (dlm b) ls i hi hok
      have htt := aheadT_take ls i hi
      have hle := aheadT_le _ _ hok
      have hsl : (ls.getD i []).length ≤ 16777216 := HL.out _ (by rw [List.getD_eq_getElem?_getD, List.getElem?_eq_getElem hi]; exact List.getElem_mem hi)
      have hbad : lineOkB (dlm b) (ls.getD i []) = false → Hid (AhEnd w (dlm b) src ls (.returned (.tuple #[.slice none 0 0, .bool false])) wr) := fun hf => by
        have h3 := aheadB_at (dlm b) ls i hi hf
        unfold AhEnd
        refine Lib.hid ?_
        rw [if_neg (by rw [h3]; decide)]
        exact ⟨rfl, hk⟩
      have hgood : lineOkB (dlm b) (ls.getD i []) = true → Hid (∀ v' w', OB w' w.heap.size v' (aheadT (ls.take i) ++ (ls.getD i [] ++ [13, 10])) → wr.grownBy w' u8.ownBlock → AhRel w w' (dlm b) ls v' (.int .i64 ((i : Int) + 1)) (ls.length - (i + 1))) := fun hf v' w' ho hg => by
        refine ⟨i + 1, by simp, by omega, by rw [htt]; exact ho, by rw [htk]; exact hf, ?_⟩
        exact hk.trans' ((Kp.refl u8.ownBlock.toList wr).grown hg (by intro k hk; left; simp [hk])) (fun x hx => .inr (World.ownsRow.lt hob x (by simpa using hx)).1)
      have hpr := printable_any (ls.getD i []) wr (by omega)
      have hpf := strPrefix39_any (ls.getD i []) (45 :: 45 :: b) wr (by omega) (by simp; omega)
      have HMM : Hid (ls.length - (i + 1) < gk) := by show _ < _; omega
      have htl : (ls.take i).length = i := by rw [List.length_take]; omega
      rw [htl] at hle
      have hbl : (aheadT (ls.take i)).length ≤ 65536000 := by omega
      have HK := Lib.hid (And.intro hob (And.intro hbl hk.size))
      clear hq hob hok hk htk htt hA htl hle hrel hbl
      generalize hs0 : ls.getD i [] = s at *
      by_cases h998 : 998 < s.length
      · have h998' : (998 : Int) < (s.length : Int) := by omega
        have HB := hbad (by unfold lineOkB; simp [h998])
        clear hbad hgood hpr hpf
        go_wp2
        go_ret2
        exact HB.out
      · have h998' : ¬ (998 : Int) < (s.length : Int) := by omega
        cases hp : s.all printC with
        | false =>
          have HB := hbad (by unfold lineOkB; rw [hp]; simp)
          rw [hp] at hpr
          clear hbad hgood hpf
          go_wp2_with fail
          refine hpr.mono ?_
          rintro e w' ⟨rfl, rfl⟩
          go_wp2
          go_ret2
          exact HB.out
        | true =>
          rw [hp] at hpr
          cases hx : (45 :: 45 :: b).isPrefixOf s with
          | true =>
            have HB := hbad (by
              unfold lineOkB
              rw [show dlm b = 45 :: 45 :: b from rfl, hx]; simp)
            rw [hx] at hpf
            clear hbad hgood
            go_wp2_with fail
            refine hpr.mono ?_
            rintro e w' ⟨rfl, rfl⟩
            go_wp2_with fail
            refine hpf.mono ?_
            rintro e w' ⟨rfl, rfl⟩
            go_wp2
            go_ret2
            exact HB.out
          | false =>
            have HG := hgood (by
              unfold lineOkB
              rw [show dlm b = 45 :: 45 :: b from rfl, hx, hp]; simp [h998])
            rw [hx] at hpf
            clear hbad hgood
            go_wp2_with fail
            refine hpr.mono ?_
            rintro e w' ⟨rfl, rfl⟩
            go_wp2_with fail
            refine hpf.mono ?_
            rintro e w' ⟨rfl, rfl⟩
            obtain ⟨hob, hbl, hsz⟩ := HK.out
            go_wp2_with (at_builtin; refine wpList_append_OBs rfl (.tmp 31) (.tmp 33) rfl w.heap.size u8 (aheadT (ls.take i)) rfl hob (s ++ [13, 10]) (congrArg Value.string (str_append s [13, 10])) (by simp; omega) hsz ?_; intro v' w2 hown2 hg2)
            have HREL := Lib.hid (HG.out v' w2 hown2 hg2)
            clear HG hown2 hg2 hob hbl hsz HK
            go_wp2
            go_roundg (ls.length - (i + 1))
            case measure => exact HMM.out
            case rel => exact HREL.out
    · have hge : ¬ (i : Int) < (ls.length : Int) := by omega
      have hok2 : aheadB (dlm b) ls = true := by rw [List.take_of_length_le (by omega)] at hok; exact hok
      have hob2 : OB wr w.heap.size u8 (aheadT ls) := by rw [List.take_of_length_le (by omega)] at hob; exact hob
      have hle := aheadT_le _ _ hok2
      have hbl : (aheadT ls).length ≤ 65536000 := by omega
      have HFIN : Hid (∀ v' w', OB w' w.heap.size v' (aheadT ls ++ src) → wr.grownBy w' u8.ownBlock → AhEnd w (dlm b) src ls (.returned (.tuple #[v', .bool true])) w') := fun v' w' ho hg => by
        unfold AhEnd
        rw [if_pos hok2]
        exact ⟨v', rfl, ho, hk.trans' ((Kp.refl u8.ownBlock.toList wr).grown hg (by intro k hk; left; simp [hk])) (fun x hx => .inr (World.ownsRow.lt hob2 x (by simpa using hx)).1)⟩
      have hS := HS.out.fwd hk (by simp)
      have hsz := hk.size
      have HQ := Lib.hid (And.intro hob2 hS)
      clear hq hob hok hk hok2 hob2 hle hrel hS
      go_wp2_with (at_builtin; refine wpList_append_OB rfl (.tmp 36) (.tmp 37) rfl w.heap.size u8 (aheadT ls) rfl HQ.out.1 a2 src.length c2 src rfl HQ.out.2 rfl hnone (by omega) hsz ?_; intro v' w2 hown2 hg2 hnw2)
      have HE := Lib.hid (HFIN.out v' w2 hown2 hg2)
      clear HFIN hown2 hg2 hnw2 HQ
      go_wp2
      go_ret2
      exact HE.out
end
end Go.Proofs.YtkbgnplknifmhaaGreatDoor
namespace Go.Proofs.YtkbgnplknifmhaaGreatDoor
open Go.RowKit
attribute [local go_sem ↓] Go.wp_at_zero Go.wp_at_succ
/-! ### laws.FnPreamble (12) -/
section
variable {w : World} {E : Value} {a a2 : Option Addr} {c c2 : Nat} {src b : Bytes} {ls : List Bytes}
set_option maxRecDepth 20000 in
set_option maxHeartbeats 4000000 in
theorem fnPreamble_walk (hE : Env w E) (h : HB w a src) (hc : src.length ≤ c) (hnone : a = none → c = 0) (h2 : TB w a2 ls) (hs : src.length ≤ 16777216) (hbl : b.length ≤ 16777216) (hf : fitsB ls = true) (hbr : briefB ls = true) :
    Calls Tryz.prog 12 #[.slice a src.length c, .string (str b), .slice a2 ls.length c2] w fun e w' => e = .returned (.bool true) ∧ Kp [] w w' := by
  have hs1 : (src.length : Int) ≤ 2147483647 := by omega
  have hs2 : (src.length : Int) ≤ 16777216 := by omega
  have hs3 : (b.length : Int) ≤ 2147483647 := by omega
  have hs4 : (b.length : Int) ≤ 16777216 := by omega
  have hln : ls.length ≤ 2147483647 := by unfold fitsB at hf; simp at hf; exact hf.1
  have hln2 : ls.length ≤ 65536 := by unfold briefB at hbr; simp at hbr; exact hbr.2
  have hll : ∀ s ∈ ls, s.length ≤ 16777216 := by
    unfold briefB lensB at hbr
    simp at hbr
    exact hbr.1
  have hfit := fits35 (c := c2) h2
  have hbri := brief36 (c := c2) h2 hln
  rw [hf] at hfit
  rw [hbr] at hbri
  have hpar := parse_any h hc hnone (by omega) (b := b) (by omega)
  have HX := Lib.hid (And.intro hE (And.intro h (And.intro hc (And.intro hnone (And.intro hs h2)))))
  have HL := Lib.hid (And.intro hln2 hll)
  clear hE h hc hbl h2 hf hbr hln hll
  go_enter Tryz.func12, Tryz.ntmps12
  go_wp2_with fail
  refine hfit.mono ?_
  rintro e w' ⟨rfl, rfl⟩
  go_wp2_with fail
  refine hbri.mono ?_
  rintro e w' ⟨rfl, rfl⟩
  clear hfit hbri
  cases hpp : parseP src b with
  | none =>
    rw [hpp] at hpar
    go_wp2_with fail
    refine hpar.mono ?_
    rintro e w1 ⟨rfl, S, hk, hS⟩
    obtain ⟨hE, h, hc, hnone, hs, h2⟩ := HX.out
    have hah := ahead37 (c := c2) (c2 := c) (h2.fwd hk hS) (h.fwd hk hS) hnone HL.out.1 hs (b := b) (by omega) HL.out.2
    have HK : Hid (Kp [] w w1) := hk.mono (S' := []) (by
      intro x hx hlt; have := hS x hx; omega)
    clear hk hS hpar hpp hE h hc hs h2
    go_wp2_with fail
    refine hah.mono ?_
    intro e w2 he
    have HF : Hid (∃ v bb, e = .returned (.tuple #[v, .bool bb]) ∧ Kp [] w w2) := by
      unfold AhEnd at he
      split at he
      · obtain ⟨v, rfl, _, hk⟩ := he
        exact ⟨v, true, rfl, HK.out.trans hk⟩
      · obtain ⟨rfl, hk⟩ := he
        exact ⟨_, false, rfl, HK.out.trans hk⟩
    clear he hah
    obtain ⟨v, bb, rfl, hk2⟩ := HF.out
    have HK2 := Lib.hid hk2
    clear HF hk2
    go_wp2
    go_ret
    exact ⟨rfl, HK2.out⟩
  | some ps =>
    rw [hpp] at hpar
    go_wp2_with fail
    refine hpar.mono ?_
    rintro e w1 ⟨v, rfl, hpv, S, hk, hS⟩
    clear hpar
    obtain ⟨hE, h, hc, hnone, hs, h2⟩ := HX.out
    have hah := ahead37 (c := c2) (c2 := c) (h2.fwd hk hS) (h.fwd hk hS) hnone HL.out.1 hs (b := b) (by omega) HL.out.2
    have hpv1 := hpv.view hk hS
    obtain ⟨av, nv, cv, rfl⟩ : ∃ a n c, v = .slice a n c := by
      rcases hpv1.ex with ⟨_, a, c, rfl⟩ | ⟨g, c, rfl, _⟩ <;> exact ⟨_, _, _, rfl⟩
    have HP := Lib.hid (And.intro hpv1 (And.intro hpp (And.intro hk (And.intro hS hE))))
    clear hk hS hpp hE h hc h2 hpv hpv1
    cases hal : aheadB (dlm b) ls with
    | false =>
      go_wp2_with fail
      refine hah.mono ?_
      intro e w2 he
      have HF : Hid (e = .returned (.tuple #[.slice none 0 0, .bool false]) ∧ Kp [] w1 w2) := by
        unfold AhEnd at he
        rw [if_neg (by rw [hal]; decide)] at he
        exact he
      clear he hah
      obtain ⟨rfl, hk2⟩ := HF.out
      obtain ⟨hpv1, hpp, hk, hS, hE⟩ := HP.out
      have HK2 : Hid (Kp [] w w2) := (hk.trans (hk2.mono (by simp))).mono (S' := []) (by
        intro x hx hlt; have := hS x hx; omega)
      clear HF hk2 hpv1 hpp hk hS hE HP
      go_wp2
      go_ret
      exact ⟨rfl, HK2.out⟩
    | true =>
      go_wp2_with fail
      refine hah.mono ?_
      intro e w2 he
      have HF : Hid (∃ v, e = .returned (.tuple #[v, .bool true]) ∧ OB w2 w1.heap.size v (aheadT ls ++ src) ∧ Kp [] w1 w2) := by
        unfold AhEnd at he
        rw [if_pos hal] at he
        exact he
      clear he hah
      obtain ⟨v, rfl, hob, hk2⟩ := HF.out
      obtain ⟨a', c', rfl, hlc', ha', hbb', hob'⟩ := hob.len
      have hnone3 : a' = none → c' = 0 := fun e => by
        subst e
        rcases hob.2 with ⟨e2, _⟩ | ⟨g, cap, cur, e2, _⟩
        · injection e2
        · injection e2 with e2 _ _
          cases e2
      obtain ⟨hpv1, hpp, hk, hS, hE⟩ := HP.out
      have hpa := parseP_ahead ls hpp hal
      have hle := aheadT_le _ _ hal
      have hln2 := HL.out.1
      have hall : (aheadT ls ++ src).length ≤ 1000000000 := by simp; omega
      obtain ⟨hbd, out, hn, hx, hpl, hbody, hbnd⟩ := parse_facts hpa hall
      have hE2 := (hE.kp hk (fun x hx => by have := hS x hx; have := hE.sz; omega)).kp hk2 (by simp)
      have hpt := parts21 (c := c') headersOk hE2 hbb' hnone3 hall hbd hn hx hbody
      rw [List.length_append] at hpt
      have HK3 := Lib.hid hk2
      have HP2 := Lib.hid (And.intro hpv1 (And.intro hpl (And.intro hbnd (And.intro hk hS))))
      clear hob hob' hbb' ha' hlc' hnone3 hpv1 hpp hk hS hE hpa hle hall hbd hn hx hpl hbody hbnd hE2 hk2 HF HP
      rw [List.length_append]
      go_wp2_with fail
      refine hpt.mono ?_
      rintro e w4 ⟨v2, rfl, hgp, hk4⟩
      clear hpt
      obtain ⟨hpv1, hpl, hbnd, hk, hS⟩ := HP2.out
      have hsm := same_any hgp.view ((hpv1.kp0 HK3.out).kp0 hk4) hpl hbnd
      have hkw : Kp [] w w4 := ((hk.trans ((HK3.out.trans hk4).mono (by simp))).mono (S' := []) (by
        intro x hx hlt; have := hS x hx; omega))
      have HK := Lib.hid hkw
      clear hgp hk4 hkw hpv1 hpl hbnd hk hS HP2 HK3
      go_wp2_with fail
      refine hsm.mono ?_
      rintro e w5 ⟨rfl, hk5⟩
      have HF := Lib.hid (HK.out.trans hk5)
      clear hk5 hsm
      go_wp2
      go_ret
      exact ⟨rfl, HF.out⟩
end
end Go.Proofs.YtkbgnplknifmhaaGreatDoor
