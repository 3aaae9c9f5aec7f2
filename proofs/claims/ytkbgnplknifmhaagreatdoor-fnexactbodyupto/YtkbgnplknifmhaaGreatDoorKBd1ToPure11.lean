/-
  Walks and facts for the mailparts program.
-/
import Derived.Test.YtkbgnplknifmhaaGreatDoorKPm1ToPm3
import Derived.Test.YtkbgnplknifmhaaGreatDoorKSk1ToSk4
import Derived.Test.YtkbgnplknifmhaaGreatDoorKFo1
import Derived.Test.YtkbgnplknifmhaaGreatDoorKPure8
import Derived.BigQuiet
import Derived.Test.YtkbgnplknifmhaaGreatDoorKVw1ToEp1
namespace Go.Proofs.YtkbgnplknifmhaaGreatDoor
open Go.RowKit
attribute [local go_sem ↓] Go.wp_at_zero Go.wp_at_succ
/-! ### A body that came in: how it lies; laws.zzFits1 (26) and what it calls -/
theorem Kp.rc {wa wb : World} (k : Kp [] wa wb) {x : Addr} {u : Value} (h : wa.cell? x = some u) : wb.cell? x = some u := by
  rw [← h]; exact World.cell?_of_block (w := wa) (k.block _ (World.block_lt_of_cell? wa _ h) (by simp))
theorem TB.kp0 {w w' : World} {a : Option Addr} {ls : List Bytes} (h : TB w a ls) (k : Kp [] w w') : TB w' a ls := h.fwd k (by simp)
/-- A header that came in. -/
structure HVa (w : World) (v : Value) (hs : HL) : Prop where
  ex : (hs = [] ∧ ∃ a c, v = .slice a 0 c) ∨ ∃ g o c, v = .slice (some ⟨g, o, none⟩) hs.length c ∧ hs.length ≤ c ∧ ∀ i p, hs[i]? = some p →
    ∃ a' c', w.cell? ⟨g, o + i * 2, none⟩ = some (S1 p.1) ∧ w.cell? ⟨g, o + i * 2 + 1, none⟩ = some (.slice a' p.2.length c') ∧ TB w a' p.2 ∧ p.2.length ≤ c' ∧ (a' = none → c' = 0)
theorem HVa.kp0 {w w' : World} {v : Value} {hs : HL} (h : HVa w v hs) (k : Kp [] w w') : HVa w' v hs := by
  rcases h.ex with h0 | ⟨g, o, c, e, hlc, h1⟩
  · exact ⟨.inl h0⟩
  · exact ⟨.inr ⟨g, o, c, e, hlc, fun i p hp => by
      obtain ⟨a', c', h2, h3, h4, h5⟩ := h1 i p hp
      exact ⟨a', c', k.rc h2, k.rc h3, h4.kp0 k, h5⟩⟩⟩
theorem HVa.shape {w : World} {v : Value} {hs : HL} (h : HVa w v hs) : ∃ a c, v = .slice a hs.length c := by
  rcases h.ex with ⟨rfl, a, c, rfl⟩ | ⟨g, o, c, rfl, _⟩ <;> exact ⟨_, _, rfl⟩
/-- Parts that came in. -/
structure PVa (w : World) (v : Value) (ps : PL) : Prop where
  ex : (ps = [] ∧ ∃ a c, v = .slice a 0 c) ∨ ∃ g o c, v = .slice (some ⟨g, o, none⟩) ps.length c ∧ ∀ i p, ps[i]? = some p →
    ∃ a1 c1 a2 c2, w.cell? ⟨g, o + i * 2, none⟩ = some (.slice a1 p.1.length c1) ∧ w.cell? ⟨g, o + i * 2 + 1, none⟩ = some (.slice a2 p.2.length c2) ∧ HVa w (.slice a1 p.1.length c1) p.1 ∧ HB w a2 p.2 ∧ p.2.length ≤ c2 ∧ (a2 = none → c2 = 0)
theorem PVa.kp0 {w w' : World} {v : Value} {ps : PL} (h : PVa w v ps) (k : Kp [] w w') : PVa w' v ps := by
  rcases h.ex with h0 | ⟨g, o, c, e, h1⟩
  · exact ⟨.inl h0⟩
  · exact ⟨.inr ⟨g, o, c, e, fun i p hp => by
      obtain ⟨a1, c1, a2, c2, h2, h3, h4, h5, h6⟩ := h1 i p hp
      exact ⟨a1, c1, a2, c2, k.rc h2, k.rc h3, h4.kp0 k, h5.kp k (by simp), h6⟩⟩⟩
theorem PVa.shape {w : World} {v : Value} {ps : PL} (h : PVa w v ps) : ∃ a c, v = .slice a ps.length c := by
  rcases h.ex with ⟨rfl, a, c, rfl⟩ | ⟨g, o, c, rfl, _⟩ <;> exact ⟨_, _, rfl⟩
theorem ix27o (g o n c : Nat) : ∀ (w : World) (i : Nat), i < n → (Instr.indexAt 27 (.slice (some ⟨g, o, none⟩) n c) (.int .i64 (i : Int))).run Tryz.prog w = .ok (.pointer (some ⟨g, o + i * 2, none⟩)) w := by
  intro w i h1
  have isS : Tryz.prog.underlying 27 = some (.slice (Tryz.prog.elem 27)) := isSlice27
  rw [run_indexAt_slice _ _ _ _ _ _ _ isS]
  simp [h1, elem27_eq, Addr.add_lit]
theorem ix24o (g o n c : Nat) : ∀ (w : World) (i : Nat), i < n → (Instr.indexAt 24 (.slice (some ⟨g, o, none⟩) n c) (.int .i64 (i : Int))).run Tryz.prog w = .ok (.pointer (some ⟨g, o + i * 2, none⟩)) w := by
  intro w i h1
  rw [run_indexAt_slice _ _ _ _ _ _ _ isSlice24s]
  simp [h1, elem24_eqs, Addr.add_lit]
/-- Texts, headers, parts that are few and short. -/
def SmT (vs : List Bytes) : Prop := vs.length ≤ 1048576 ∧ ∀ s ∈ vs, s.length ≤ 1048576
def SmH (hs : HL) : Prop := hs.length ≤ 1048576 ∧ ∀ p ∈ hs, p.1.length ≤ 1048576 ∧ SmT p.2
def SmP (ps : PL) : Prop := ps.length ≤ 1048576 ∧ ∀ p ∈ ps, SmH p.1 ∧ p.2.length ≤ 1048576
theorem SmT.fits {vs : List Bytes} (h : SmT vs) : fitsB vs = true := by
  unfold fitsB lensB
  simp only [Bool.and_eq_true, decide_eq_true_eq, List.all_eq_true]
  exact ⟨by have := h.1; omega, fun s hs => by have := h.2 s hs; omega⟩
section
variable {w : World} {v : Value}
set_option maxHeartbeats 1000000 in
theorem fits117 {a : Option Addr} {c : Nat} {key : Bytes} {vs : List Bytes} (h : TB w a vs) (hk : key.length ≤ 1048576) (hv : SmT vs) :
    Calls Tryz.prog 117 #[.agg #[.string (str key), .slice a vs.length c]] w fun e w' => e = .returned (.bool true) ∧ Kp [] w w' := by
  have hk' : ¬ (2147483647 : Int) < (key.length : Int) := by omega
  have hka : Kp [] w (w.alloc (.cells #[.string (str key), .slice a vs.length c] 43)) := (Kp.refl _ _).alloc _
  have hcon := fits35 (c := c) (h.kp0 hka)
  rw [hv.fits] at hcon
  have HK := Lib.hid hka
  clear h hk hv hka
  go_enter Tryz.func117, Tryz.ntmps117
  go_wp2_with fail
  refine hcon.mono ?_
  rintro e w1 ⟨rfl, rfl⟩
  go_wp2
  go_ret
  exact ⟨rfl, HK.out⟩
set_option maxRecDepth 20000 in
set_option maxHeartbeats 2000000 in
theorem fits93 {hs : HL} (h : HVa w v hs) (hv : SmH hs) : Calls Tryz.prog 93 #[v] w fun e w' => e = .returned (.bool true) ∧ Kp [] w w' := by
  obtain ⟨a, c, rfl⟩ := h.shape
  have hn : ¬ (2147483647 : Int) < (hs.length : Int) := by have := hv.1; omega
  have HA := Lib.hid h
  have HV := Lib.hid hv
  have HR0 : Hid (IxRel w w hs.length (.int .i64 ((0 : Nat) : Int)) hs.length) := ⟨0, rfl, by omega, Kp.refl _ _⟩
  clear h hv
  go_enter Tryz.func93, Tryz.ntmps93
  go_wp2
  go_loopg [10] hs.length (fun q v10 wr => IxRel w wr hs.length v10 q)
  case atStart => exact HR0.out
  case round =>
    clear HR0
    obtain ⟨i, rfl, hq, hk⟩ := hrel
    by_cases hi : i < hs.length
    · have hi' : (i : Int) < (hs.length : Int) := by omega
      obtain ⟨p, hp⟩ : ∃ p, hs[i]? = some p := ⟨_, List.getElem?_eq_getElem hi⟩
      rcases (HA.out.kp0 hk).ex with ⟨e0, _⟩ | ⟨g, o, c0, e0, _, hc⟩
      · rw [e0] at hi; simp at hi
      injection e0 with e1 e2 e3
      subst e1
      obtain ⟨a', c', hc1, hc2, hc3, _⟩ := hc i p hp
      replace hc1 : wr.cell? ⟨g, o + i * 2, none⟩ = some (.string (str p.1)) := hc1
      have hix := fun w => ix27o g o hs.length c w i hi
      have hka : Kp [] wr (wr.alloc (.cells #[.string (str p.1), .slice a' p.2.length c'] 43)) := (Kp.refl _ _).alloc _
      have hps := HV.out.2 p (List.mem_of_getElem? hp)
      have hcon := fits117 (c := c') (hc3.kp0 hka) hps.1 hps.2
      have HX := Lib.hid (And.intro (hk.trans hka) hq)
      clear hk hq hc hc3 hp hka hps e2 e3
      go_wp2_with fail
      refine hcon.mono ?_
      rintro e w1 ⟨rfl, hk1⟩
      have HREL : Hid (IxRel w w1 hs.length (.int .i64 ((i : Int) + 1)) (hs.length - (i + 1))) := ⟨i + 1, by simp, by omega, HX.out.1.trans hk1⟩
      have HMM : Hid (hs.length - (i + 1) < gk) := by have := HX.out.2; show _ < _; omega
      clear hk1 hcon HX
      go_wp2
      go_roundg (hs.length - (i + 1))
      case measure => exact HMM.out
      case rel => exact HREL.out
    · have hge : ¬ (i : Int) < (hs.length : Int) := by omega
      have HF := Lib.hid hk
      clear hq hk
      go_wp2
      go_ret
      exact ⟨rfl, HF.out⟩
set_option maxHeartbeats 1000000 in
theorem fits79 {a1 a2 : Option Addr} {c1 c2 : Nat} {hs : HL} {body : Bytes} (h : HVa w (.slice a1 hs.length c1) hs) (hv : SmH hs) (hb : body.length ≤ 1048576) :
    Calls Tryz.prog 79 #[.agg #[.slice a1 hs.length c1, .slice a2 body.length c2]] w fun e w' => e = .returned (.bool true) ∧ Kp [] w w' := by
  have hb' : ¬ (2147483647 : Int) < (body.length : Int) := by omega
  have hka : Kp [] w (w.alloc (.cells #[.slice a1 hs.length c1, .slice a2 body.length c2] 29)) := (Kp.refl _ _).alloc _
  have hnew := Blk.new w #[.slice a1 hs.length c1, .slice a2 body.length c2] 29
  have hcon := fits93 (h.kp0 hka) hv
  obtain ⟨wA, hwA⟩ : ∃ wA, w.alloc (.cells #[.slice a1 hs.length c1, .slice a2 body.length c2] 29) = wA := ⟨_, rfl⟩
  rw [hwA] at hka hnew hcon
  have kc := hnew.cell
  have HK := Lib.hid (And.intro hka hnew)
  clear h hb hv hka hnew
  go_enter Tryz.func79, Tryz.ntmps79
  go_wp2_with fail
  refine hcon.mono ?_
  rintro e w1 ⟨rfl, hk1⟩
  have kc1 := (HK.out.2.kp hk1 (by simp)).cell
  have HF := Lib.hid (HK.out.1.trans hk1)
  clear kc hcon hk1 HK
  go_wp2
  go_ret
  exact ⟨rfl, HF.out⟩
set_option maxRecDepth 20000 in
set_option maxHeartbeats 2000000 in
theorem fits60 {ps : PL} (h : PVa w v ps) (hv : SmP ps) : Calls Tryz.prog 60 #[v] w fun e w' => e = .returned (.bool true) ∧ Kp [] w w' := by
  obtain ⟨a, c, rfl⟩ := h.shape
  have hn : ¬ (2147483647 : Int) < (ps.length : Int) := by have := hv.1; omega
  have HA := Lib.hid h
  have HV := Lib.hid hv
  have HR0 : Hid (IxRel w w ps.length (.int .i64 ((0 : Nat) : Int)) ps.length) := ⟨0, rfl, by omega, Kp.refl _ _⟩
  clear h hv
  go_enter Tryz.func60, Tryz.ntmps60
  go_wp2
  go_loopg [10] ps.length (fun q v10 wr => IxRel w wr ps.length v10 q)
  case atStart => exact HR0.out
  case round =>
    clear HR0
    obtain ⟨i, rfl, hq, hk⟩ := hrel
    by_cases hi : i < ps.length
    · have hi' : (i : Int) < (ps.length : Int) := by omega
      obtain ⟨p, hp⟩ : ∃ p, ps[i]? = some p := ⟨_, List.getElem?_eq_getElem hi⟩
      rcases (HA.out.kp0 hk).ex with ⟨e0, _⟩ | ⟨g, o, c0, e0, hc⟩
      · rw [e0] at hi; simp at hi
      injection e0 with e1 e2 e3
      subst e1
      obtain ⟨a1, c1, a2, c2, hc1, hc2, hc3, hc4, _⟩ := hc i p hp
      have hix := fun w => ix24o g o ps.length c w i hi
      have hka : Kp [] wr (wr.alloc (.cells #[.slice a1 p.1.length c1, .slice a2 p.2.length c2] 29)) := (Kp.refl _ _).alloc _
      have hps := HV.out.2 p (List.mem_of_getElem? hp)
      have hcon := fits79 (a2 := a2) (c2 := c2) (hc3.kp0 hka) hps.1 hps.2
      have HX := Lib.hid (And.intro (hk.trans hka) hq)
      clear hk hq hc hc3 hc4 hp hka hps e2 e3
      go_wp2_with fail
      refine hcon.mono ?_
      rintro e w1 ⟨rfl, hk1⟩
      have HREL : Hid (IxRel w w1 ps.length (.int .i64 ((i : Int) + 1)) (ps.length - (i + 1))) := ⟨i + 1, by simp, by omega, HX.out.1.trans hk1⟩
      have HMM : Hid (ps.length - (i + 1) < gk) := by have := HX.out.2; show _ < _; omega
      clear hk1 hcon HX
      go_wp2
      go_roundg (ps.length - (i + 1))
      case measure => exact HMM.out
      case rel => exact HREL.out
    · have hge : ¬ (i : Int) < (ps.length : Int) := by omega
      have HF := Lib.hid hk
      clear hq hk
      go_wp2
      go_ret
      exact ⟨rfl, HF.out⟩
end
/-- A body that came in: lines, parts, pads, what is behind. -/
structure BdV (w : World) (cs : Array Value) (ls : List Bytes) (ps : PL) (pads : List Bytes) (after : Bytes) : Prop where
  ex : ∃ al cl vp ad cd aa ca, cs = #[.slice al ls.length cl, vp, .slice ad pads.length cd, .slice aa after.length ca] ∧ TB w al ls ∧ PVa w vp ps ∧ TB w ad pads ∧ HB w aa after ∧ after.length ≤ ca ∧ (aa = none → ca = 0)
theorem BdV.kp0 {w w' : World} {cs : Array Value} {ls : List Bytes} {ps : PL} {pads : List Bytes} {after : Bytes} (h : BdV w cs ls ps pads after) (k : Kp [] w w') : BdV w' cs ls ps pads after := by
  obtain ⟨al, cl, vp, ad, cd, aa, ca, e, h1, h2, h3, h4, h5⟩ := h.ex
  exact ⟨al, cl, vp, ad, cd, aa, ca, e, h1.kp0 k, h2.kp0 k, h3.kp0 k, h4.kp k (by simp), h5⟩
section
variable {w : World} {cs : Array Value} {ls : List Bytes} {ps : PL} {pads : List Bytes} {after : Bytes}
set_option maxRecDepth 20000 in
set_option maxHeartbeats 2000000 in
theorem fits26 (h : BdV w cs ls ps pads after) (h1 : SmT ls) (h2 : SmP ps) (h3 : SmT pads) (h4 : after.length ≤ 1048576) : Calls Tryz.prog 26 #[.agg cs] w fun e w' => e = .returned (.bool true) ∧ Kp [] w w' := by
  obtain ⟨al, cl, vp, ad, cd, aa, ca, rfl, k1, k2, k3, _, _⟩ := h.ex
  have h4' : ¬ (2147483647 : Int) < (after.length : Int) := by omega
  have hka : Kp [] w (w.alloc (.cells #[.slice al ls.length cl, vp, .slice ad pads.length cd, .slice aa after.length ca] 48)) := (Kp.refl _ _).alloc _
  have hnew := Blk.new w #[.slice al ls.length cl, vp, .slice ad pads.length cd, .slice aa after.length ca] 48
  obtain ⟨wA, hwA⟩ : ∃ wA, w.alloc (.cells #[.slice al ls.length cl, vp, .slice ad pads.length cd, .slice aa after.length ca] 48) = wA := ⟨_, rfl⟩
  rw [hwA] at hka hnew
  have hc1 := fits35 (c := cl) (k1.kp0 hka)
  rw [h1.fits] at hc1
  have hc2 := fits60 (k2.kp0 hka) h2
  have kc := hnew.cell
  have HK := Lib.hid (And.intro hka (And.intro hnew (And.intro k3 h3)))
  obtain ⟨ap, cp, rfl⟩ := k2.shape
  clear h h1 h2 h3 h4 k1 k2 k3 hka hnew
  go_enter Tryz.func26, Tryz.ntmps26
  go_wp2_with fail
  refine hc1.mono ?_
  rintro e w' ⟨rfl, rfl⟩
  clear hc1
  go_wp2_with fail
  refine hc2.mono ?_
  rintro e w1 ⟨rfl, hk1⟩
  obtain ⟨hka, hnew, k3, h3⟩ := HK.out
  have hc3 := fits35 (c := cd) ((k3.kp0 hka).kp0 hk1)
  rw [h3.fits] at hc3
  have kc1 := (hnew.kp hk1 (by simp)).cell
  have HF := Lib.hid (hka.trans hk1)
  clear hc2 kc hka hnew k3 h3 hk1 HK
  go_wp2_with fail
  refine hc3.mono ?_
  rintro e w' ⟨rfl, rfl⟩
  clear hc3
  go_wp2
  go_ret
  exact ⟨rfl, HF.out⟩
end
end Go.Proofs.YtkbgnplknifmhaaGreatDoor
namespace Go.Proofs.YtkbgnplknifmhaaGreatDoor
/-! ### The text of a body, and what the reader meets in it -/
def lineT (nl : Bytes) (p : Bytes × Bytes) : Bytes := p.1 ++ 58 :: 32 :: p.2 ++ nl
def rawL (hs : HL) : List (Bytes × Bytes) := hs.flatMap fun p => p.2.map fun v => (p.1, v)
def headT (nl : Bytes) (hs : HL) : Bytes := (rawL hs).flatMap (lineT nl) ++ nl
def itemsL (hs : HL) : List (Bytes × Bytes) := (rawL hs).map fun p => (canonB p.1, p.2)
theorem NLk.cr {nl c : Bytes} (h : NLk nl c) {l : Bytes} (hl : l.getLast? ≠ some 13) : dropCR (l ++ c) = l := by
  cases h with
  | crlf => exact dropCR_cr l
  | lf => rw [List.append_nil]; exact dropCR_no l hl
theorem NLk.first {nl c : Bytes} (h : NLk nl c) (t : Bytes) : ∃ c0 r, nl ++ t = c0 :: r ∧ blankC c0 = false := by
  cases h with
  | crlf => exact ⟨13, 10 :: t, rfl, by decide⟩
  | lf => exact ⟨10, t, rfl, by decide⟩
def LineOk (p : Bytes × Bytes) : Prop := keyB p.1 = true ∧ plainB p.2 = true ∧ p.1.length + 2 + p.2.length ≤ 998
theorem line_log {nl c k v rest : Bytes} {c0 : UInt8} (hn : NLk nl c) (h : LineOk (k, v)) (hc0 : blankC c0 = false) :
    ∃ kv vt, LogLine (lineT nl (k, v) ++ c0 :: rest) kv (c0 :: rest) ∧ kv = k ++ 58 :: vt ∧ vt.all valueC = true ∧ kv.length ≤ 2100 ∧ vt.dropWhile blankC = v := by
  obtain ⟨hk, hv, hl⟩ := h
  simp only at hk hv hl
  unfold keyB at hk
  simp only [Bool.and_eq_true, decide_eq_true_eq] at hk
  obtain ⟨hk1, hk0⟩ := hk
  have hk10 : ∀ x ∈ k, keyC x = true := List.all_eq_true.1 hk1
  have hp : v.all printC = true := by
    unfold plainB at hv
    rw [Bool.and_eq_true] at hv
    exact hv.1
  obtain ⟨hv10, hv13⟩ := print_no hp
  have hlast : (k ++ 58 :: 32 :: v).getLast? ≠ some 13 := by
    intro e
    have := List.mem_of_getLast? e
    simp only [List.mem_append, List.mem_cons] at this
    rcases this with e | e | e | e
    · exact (keyC_not (hk10 _ e)).2.1 rfl
    · cases e
    · cases e
    · exact hv13 e
  have hdc := hn.cr hlast
  have h10 : (10 : UInt8) ∉ (k ++ 58 :: 32 :: v) ++ c := by
    intro e
    simp only [List.mem_append, List.mem_cons] at e
    rcases e with (e | e | e | e) | e
    · exact (keyC_not (hk10 _ e)).1 rfl
    · cases e
    · cases e
    · exact hv10 e
    · exact hn.no e
  have hln := hn.len
  have hlog := LogLine.plain ((k ++ 58 :: 32 :: v) ++ c) c0 rest h10 (by simp; omega) (by rw [hdc]; simp; omega) (by
    rw [hdc]
    cases hkk : k with
    | nil => rw [hkk] at hk0; simp at hk0
    | cons x t => exact keyC_blank (hk10 x (by rw [hkk]; simp))) (by rw [hdc]; simp) hc0
  rw [hdc] at hlog
  have e : (k ++ 58 :: 32 :: v) ++ c ++ 10 :: c0 :: rest = lineT nl (k, v) ++ c0 :: rest := by
    unfold lineT
    rw [hn.eq]; simp
  rw [e] at hlog
  by_cases h0 : v = []
  · subst h0
    refine ⟨_, [], hlog, ?_, rfl, ?_, rfl⟩
    · have := trB_space k 58 32 (by decide) (by decide)
      simpa using this
    · have := trB_space k 58 32 (by decide) (by decide)
      have e2 : trB (k ++ 58 :: 32 :: []) = k ++ [58] := by simpa using this
      rw [e2]; simp; omega
  · obtain ⟨⟨v0, v1, ev, hv2⟩, hv3, hv4⟩ := plain_ends hv h0
    have e2 : trB (k ++ 58 :: 32 :: v) = k ++ 58 :: (32 :: v) := by
      have := trB_ends (l := k ++ [58, 32]) hv3
      simpa using this
    refine ⟨_, 32 :: v, hlog, e2, ?_, ?_, ?_⟩
    · rw [List.all_cons, print_value hp]; decide
    · rw [e2]; simp; omega
    · rw [List.dropWhile_cons, if_pos (by decide), ev, List.dropWhile_cons, if_neg (by rw [hv2]; decide)]
theorem raw_first {nl c : Bytes} (hn : NLk nl c) (raw : List (Bytes × Bytes)) (h : ∀ p ∈ raw, LineOk p) (fin : Bytes) : ∃ c0 r, raw.flatMap (lineT nl) ++ nl ++ fin = c0 :: r ∧ blankC c0 = false := by
  cases raw with
  | nil =>
    obtain ⟨c0, r, h1, h2⟩ := hn.first fin
    exact ⟨c0, r, by simpa using h1, h2⟩
  | cons p raw =>
    obtain ⟨hk, _, _⟩ := h p (by simp)
    unfold keyB at hk
    simp only [Bool.and_eq_true, decide_eq_true_eq] at hk
    cases hkk : p.1 with
    | nil => rw [hkk] at hk; simp at hk
    | cons x t =>
      refine ⟨x, t ++ 58 :: 32 :: p.2 ++ nl ++ (raw.flatMap (lineT nl) ++ nl ++ fin), ?_, keyC_blank (List.all_eq_true.1 hk.1 x (by rw [hkk]; simp))⟩
      rw [List.flatMap_cons]
      unfold lineT
      rw [hkk]; simp
theorem raw_lines {nl c : Bytes} (hn : NLk nl c) (fin : Bytes) : ∀ (raw : List (Bytes × Bytes)), (∀ p ∈ raw, LineOk p) → Lines (raw.flatMap (lineT nl) ++ nl ++ fin) (raw.map fun p => (canonB p.1, p.2)) fin
  | [], _ => by
    have := Lines.done c fin hn.no (by have := hn.len; omega) (by cases hn <;> decide)
    have e : ([] : List (Bytes × Bytes)).flatMap (lineT nl) ++ nl ++ fin = c ++ 10 :: fin := by rw [hn.eq]; simp
    rw [e]; exact this
  | p :: raw, h => by
    obtain ⟨c0, r, h1, h2⟩ := raw_first hn raw (fun q hq => h q (by simp [hq])) fin
    have ih := raw_lines hn fin raw (fun q hq => h q (by simp [hq]))
    have hp := h p (by simp)
    obtain ⟨kv, vt, h3, h4, h5, h6, h7⟩ := line_log (k := p.1) (v := p.2) (rest := r) hn hp h2
    rw [← h1] at h3
    have hk := hp.1
    unfold keyB at hk
    simp only [Bool.and_eq_true, decide_eq_true_eq] at hk
    have := Lines.more _ kv _ p.1 vt fin _ h3 h4 hk.1 hk.2 h5 h6 ih
    rw [h7] at this
    have e : (p :: raw).flatMap (lineT nl) ++ nl ++ fin = lineT nl (p.1, p.2) ++ (raw.flatMap (lineT nl) ++ nl ++ fin) := by simp
    rw [e]; exact this
/-- A header that may be written. -/
structure HeadP (hs : HL) : Prop where
  keys : ∀ p ∈ hs, keyB p.1 = true ∧ p.2 ≠ []
  dif : hs.Pairwise fun p q => canonB p.1 ≠ canonB q.1
  vals : ∀ p ∈ hs, ∀ v ∈ p.2, plainB v = true ∧ p.1.length + 2 + v.length ≤ 998
  few : (rawL hs).length ≤ 100
theorem HeadP.ok {hs : HL} (h : HeadP hs) : ∀ p ∈ rawL hs, LineOk p := by
  intro p hp
  unfold rawL at hp
  obtain ⟨q, hq, h1⟩ := List.mem_flatMap.1 hp
  obtain ⟨v, hv, rfl⟩ := List.mem_map.1 h1
  exact ⟨(h.keys q hq).1, h.vals q hq v hv⟩
theorem head_lines {nl c : Bytes} (hn : NLk nl c) (fin : Bytes) {hs : HL} (h : HeadP hs) : Lines (headT nl hs ++ fin) (itemsL hs) fin := raw_lines hn fin _ h.ok
/-! ### The header in canonical form -/
def insK (k : Bytes) (vs : List Bytes) : HL → HL
  | [] => [(k, vs)]
  | p :: r => if bytesBefore p.1 k then p :: insK k vs r else (k, vs) :: p :: r
def canonH (hs : HL) : HL := hs.foldl (fun out p => insK (canonB p.1) p.2 out) []
theorem insK_mem {k : Bytes} {vs : List Bytes} {hs : HL} {q : Bytes × List Bytes} (h : q ∈ insK k vs hs) : q = (k, vs) ∨ q ∈ hs := by
  induction hs with
  | nil => simp [insK] at h; exact .inl h
  | cons p r ih =>
    unfold insK at h
    split at h
    · rcases List.mem_cons.1 h with rfl | h
      · exact .inr (by simp)
      · rcases ih h with h | h
        · exact .inl h
        · exact .inr (by simp [h])
    · rcases List.mem_cons.1 h with h | h
      · exact .inl h
      · exact .inr h
theorem addP_none (k s : Bytes) (hs : HL) (h : ∀ p ∈ hs, p.1 ≠ k) : addP k s hs = insK k [s] hs := by
  induction hs with
  | nil => rfl
  | cons p r ih =>
    unfold addP insK
    rw [ih (fun q hq => h q (by simp [hq])), if_neg (h p (by simp))]
theorem addP_ins (k s : Bytes) (vs : List Bytes) (hs : HL) : addP k s (insK k vs hs) = insK k (vs ++ [s]) hs := by
  induction hs with
  | nil =>
    unfold insK addP
    rw [bb_irrefl]; simp
  | cons p r ih =>
    unfold insK
    by_cases hb : bytesBefore p.1 k = true
    · rw [if_pos hb, if_pos hb, addP, if_pos hb, ih]
    · rw [if_neg hb, if_neg hb, addP, bb_irrefl]; simp
theorem addP_many (k : Bytes) (hs : HL) : ∀ (ws vs : List Bytes), (ws.map fun v => (k, v)).foldl (fun h p => addP p.1 p.2 h) (insK k vs hs) = insK k (vs ++ ws) hs
  | [], vs => by simp
  | s :: ws, vs => by
    rw [List.map_cons, List.foldl_cons]
    simp only
    rw [addP_ins, addP_many k hs ws (vs ++ [s])]
    simp
theorem foldl_items : ∀ (hs out : HL), (∀ p ∈ hs, p.2 ≠ []) → hs.Pairwise (fun p q => canonB p.1 ≠ canonB q.1) → (∀ p ∈ hs, ∀ q ∈ out, q.1 ≠ canonB p.1) →
    (itemsL hs).foldl (fun h p => addP p.1 p.2 h) out = hs.foldl (fun out p => insK (canonB p.1) p.2 out) out
  | [], _, _, _, _ => rfl
  | p :: hs, out, h1, h2, h3 => by
    have e : itemsL (p :: hs) = (p.2.map fun v => (canonB p.1, v)) ++ itemsL hs := by
      unfold itemsL rawL
      rw [List.flatMap_cons, List.map_append, List.map_map]
      rfl
    rw [e, List.foldl_append, List.foldl_cons]
    have e2 : (p.2.map fun v => (canonB p.1, v)).foldl (fun h p => addP p.1 p.2 h) out = insK (canonB p.1) p.2 out := by
      cases hp : p.2 with
      | nil => exact absurd hp (h1 p (by simp))
      | cons s ws =>
        rw [List.map_cons, List.foldl_cons]
        simp only
        rw [addP_none _ _ _ (h3 p (by simp)), addP_many]
        simp
    rw [e2]
    rw [List.pairwise_cons] at h2
    refine foldl_items hs _ (fun q hq => h1 q (by simp [hq])) h2.2 (fun q hq x hx => ?_)
    rcases insK_mem hx with rfl | hx
    · exact h2.1 q hq
    · exact h3 q (by simp [hq]) x hx
theorem hdrs_canon {hs : HL} (h : HeadP hs) : hdrs (itemsL hs) = canonH hs := by
  have h1 := foldl_items hs [] (fun p hp => (h.keys p hp).2) h.dif (fun p _ q hq => by simp at hq)
  have h2 := (foldl_addP (itemsL hs) [] List.Pairwise.nil).1
  unfold hdrs canonH
  rw [← h2, h1]
/-! ### The whole -/
def canonPs (ps : PL) : PL := ps.map fun p => (canonH p.1, p.2)
def partT (nl : Bytes) (p : HL × Bytes) : Bytes := headT nl p.1 ++ p.2
def padAt (pads : List Bytes) (i : Nat) : Bytes := pads.getD i []
def tailT (nl b : Bytes) (pads : List Bytes) (after : Bytes) : Nat → PL → Bytes
  | i, [] => nl ++ dlm b ++ ([45, 45] ++ padAt pads i ++ nl ++ after)
  | i, p :: r => nl ++ dlm b ++ (padAt pads i ++ nl ++ (partT nl p ++ tailT nl b pads after (i + 1) r))
def PadsOk (pads : List Bytes) : Prop := ∀ i, (padAt pads i).all blankC = true ∧ (padAt pads i).length ≤ 20
theorem NLk.match_ {nl c : Bytes} (hn : NLk nl c) {pad t : Bytes} (h : pad.all blankC = true) : matchP (pad ++ nl ++ t) = 1 := by
  rw [List.append_assoc]
  cases hn with
  | crlf => exact matchP_pad h 13 (by decide)
  | lf => exact matchP_pad h 10 (by decide)
theorem parts_at {nl c b after : Bytes} {pads : List Bytes} (hn : NLk nl c) (hb : boundaryB b = true) (hp : PadsOk pads) : ∀ (r : PL) (p : HL × Bytes) (i : Nat), (∀ q ∈ p :: r, HeadP q.1 ∧ freeB q.2 (dlm b) = true) → PartsAt b nl (partT nl p ++ tailT nl b pads after i r) (canonPs (p :: r))
  | [], p, i, h => by
    obtain ⟨hh, hf⟩ := h p (by simp)
    obtain ⟨hf1, hf2⟩ := free_at (tail := [45, 45] ++ padAt pads i ++ nl ++ after) hn hb hf
    have hl := head_lines hn (p.2 ++ (nl ++ dlm b) ++ ([45, 45] ++ padAt pads i ++ nl ++ after)) hh
    have hfew : (itemsL p.1).length ≤ 100 := by unfold itemsL; rw [List.length_map]; exact hh.few
    have hpart : PartAt b nl (headT nl p.1 ++ (p.2 ++ (nl ++ dlm b) ++ ([45, 45] ++ padAt pads i ++ nl ++ after))) (itemsL p.1) p.2 ([45, 45] ++ padAt pads i ++ nl ++ after) := ⟨hl, hfew, hf1, hf2, matchP_dash _⟩
    have hlast := PartsAt.last _ _ _ _ hpart (last_np hn hb (padAt pads i) after (hp i).1 (by have := (hp i).2; omega))
    rw [hdrs_canon hh] at hlast
    have e : partT nl p ++ tailT nl b pads after i [] = headT nl p.1 ++ (p.2 ++ (nl ++ dlm b) ++ ([45, 45] ++ padAt pads i ++ nl ++ after)) := by
      unfold partT tailT
      simp only [List.append_assoc]
    rw [e]; exact hlast
  | q :: r, p, i, h => by
    obtain ⟨hh, hf⟩ := h p (by simp)
    have ih := parts_at (after := after) hn hb hp r q (i + 1) (fun x hx => h x (by simp at hx ⊢; exact .inr hx))
    obtain ⟨hf1, hf2⟩ := free_at (tail := padAt pads i ++ nl ++ (partT nl q ++ tailT nl b pads after (i + 1) r)) hn hb hf
    have hl := head_lines hn (p.2 ++ (nl ++ dlm b) ++ (padAt pads i ++ nl ++ (partT nl q ++ tailT nl b pads after (i + 1) r))) hh
    have hfew : (itemsL p.1).length ≤ 100 := by unfold itemsL; rw [List.length_map]; exact hh.few
    have hpart : PartAt b nl (headT nl p.1 ++ (p.2 ++ (nl ++ dlm b) ++ (padAt pads i ++ nl ++ (partT nl q ++ tailT nl b pads after (i + 1) r)))) (itemsL p.1) p.2 (padAt pads i ++ nl ++ (partT nl q ++ tailT nl b pads after (i + 1) r)) :=
      ⟨hl, hfew, hf1, hf2, hn.match_ (hp i).1⟩
    have hmore := PartsAt.more _ _ _ _ _ _ hpart (mid_np hn hb (padAt pads i) _ (hp i).1 (hp i).2) ih
    rw [hdrs_canon hh] at hmore
    have e : partT nl p ++ tailT nl b pads after i (q :: r) = headT nl p.1 ++ (p.2 ++ (nl ++ dlm b) ++ (padAt pads i ++ nl ++ (partT nl q ++ tailT nl b pads after (i + 1) r))) := by
      rw [tailT]
      unfold partT
      simp only [List.append_assoc]
    rw [e]; exact hmore
def linesT (nl : Bytes) (ls : List Bytes) : Bytes := ls.flatMap fun l => l ++ nl
theorem skip_lines {nl c b rest : Bytes} {out : Option (Bool × Bytes)} (hn : NLk nl c) (hb : boundaryB b = true) (t : NP b [13, 10] 0 false rest out) : ∀ ls : List Bytes, (∀ l ∈ ls, l.length ≤ 998 ∧ l.all printC = true ∧ (dlm b).isPrefixOf l = false) → NP b [13, 10] 0 false (linesT nl ls ++ rest) out
  | [], _ => by simpa [linesT] using t
  | l :: ls, h => by
    obtain ⟨h1, h2, h3⟩ := h l (by simp)
    have ih := skip_lines hn hb t ls (fun x hx => h x (by simp [hx]))
    have := np_skip hn hb l _ out (print_no h2).1 (by omega) h3 ih
    have e : linesT nl (l :: ls) ++ rest = l ++ nl ++ (linesT nl ls ++ rest) := by
      unfold linesT
      rw [List.flatMap_cons]
      simp only [List.append_assoc]
    rw [e]; exact this
/-- The text of a body. -/
def textT (nl b : Bytes) (ls : List Bytes) (p : HL × Bytes) (r : PL) (pads : List Bytes) (after : Bytes) : Bytes := linesT nl ls ++ (dlm b ++ padAt pads 0 ++ nl ++ (partT nl p ++ tailT nl b pads after 1 r))
theorem text_nxt {nl c b after : Bytes} {ls pads : List Bytes} {p : HL × Bytes} {r : PL} (hn : NLk nl c) (hb : boundaryB b = true) (hp : PadsOk pads) (hls : ∀ l ∈ ls, l.length ≤ 998 ∧ l.all printC = true ∧ (dlm b).isPrefixOf l = false) (h : ∀ q ∈ p :: r, HeadP q.1 ∧ freeB q.2 (dlm b) = true) :
    ∃ out, NP b [13, 10] 0 false (textT nl b ls p r pads after) out ∧ Nxt b [13, 10] out (canonPs (p :: r)) := by
  have hpa := parts_at (after := after) hn hb hp r p 1 h
  cases hn with
  | crlf =>
    exact ⟨_, skip_lines .crlf hb (np_delim .crlf hb 0 (.inr rfl) false (padAt pads 0) _ (hp 0).1 (hp 0).2) ls hls, .part false _ _ hpa⟩
  | lf =>
    refine ⟨some (true, _), skip_lines .lf hb ?_ ls hls, .part true _ _ hpa⟩
    obtain ⟨p1, p2⟩ := hp 0
    have hno := pad_no p1
    obtain ⟨hd, _⟩ := dlm_no hb
    have hbl := boundaryB_len hb
    have e : dlm b ++ padAt pads 0 ++ [10] ++ (partT [10] p ++ tailT [10] b pads after 1 r) = (dlm b ++ padAt pads 0) ++ 10 :: (partT [10] p ++ tailT [10] b pads after 1 r) := by simp
    rw [e]
    refine NP.delimLF false _ _ rfl rfl ?_ ?_ ?_ ?_
    · simp only [List.mem_append, not_or]
      exact ⟨hd, hno.1⟩
    · unfold dlm
      simp only [List.length_append, List.length_cons]
      omega
    · rw [List.append_assoc]; exact pre_app _ _
    · rw [List.append_assoc, behind_app, dropWhile_pad p1]; rfl
end Go.Proofs.YtkbgnplknifmhaaGreatDoor
namespace Go.Proofs.YtkbgnplknifmhaaGreatDoor
/-! ### The text of a body, piece by piece; its length; without CR -/
section
variable {b after : Bytes} {pads : List Bytes}
def pieceT (b : Bytes) (pads : List Bytes) (i : Nat) (p : HL × Bytes) : Bytes := (if 0 < i then [13, 10] else []) ++ (dlm b ++ padAt pads i ++ [13, 10]) ++ partT [13, 10] p
def bodyT (b : Bytes) (pads : List Bytes) : Nat → PL → Bytes
  | _, [] => []
  | i, p :: r => pieceT b pads i p ++ bodyT b pads (i + 1) r
theorem bodyT_snoc (p : HL × Bytes) : ∀ (l : PL) (j : Nat), bodyT b pads j (l ++ [p]) = bodyT b pads j l ++ pieceT b pads (j + l.length) p
  | [], j => by simp [bodyT]
  | q :: l, j => by
    rw [List.cons_append, bodyT, bodyT_snoc p l (j + 1), bodyT, List.append_assoc, List.length_cons, show j + 1 + l.length = j + (l.length + 1) from by omega]
theorem bodyT_take {ps : PL} {i : Nat} {p : HL × Bytes} (h : ps[i]? = some p) : bodyT b pads 0 (ps.take (i + 1)) = bodyT b pads 0 (ps.take i) ++ pieceT b pads i p := by
  obtain ⟨hi, _⟩ := List.getElem?_eq_some_iff.1 h
  rw [List.take_add_one, h]
  simp only [Option.toList_some]
  rw [bodyT_snoc, List.length_take, Nat.zero_add, Nat.min_eq_left (Nat.le_of_lt hi)]
def finT (b : Bytes) (pads : List Bytes) (after : Bytes) (n : Nat) : Bytes := [13, 10] ++ dlm b ++ ([45, 45] ++ padAt pads n ++ [13, 10] ++ after)
theorem bodyT_tail : ∀ (r : PL) (i : Nat), 0 < i → bodyT b pads i r ++ finT b pads after (i + r.length) = tailT [13, 10] b pads after i r
  | [], i, _ => by
    rw [bodyT, tailT, List.nil_append]
    rfl
  | p :: r, i, h => by
    have ih := bodyT_tail r (i + 1) (by omega)
    rw [bodyT, tailT, ← ih, List.length_cons, show i + (r.length + 1) = i + 1 + r.length from by omega]
    unfold pieceT
    rw [if_pos h]
    simp only [List.append_assoc]
theorem textT_eq (ls : List Bytes) (p : HL × Bytes) (r : PL) : linesT [13, 10] ls ++ bodyT b pads 0 (p :: r) ++ finT b pads after (p :: r).length = textT [13, 10] b ls p r pads after := by
  have h := bodyT_tail (b := b) (pads := pads) (after := after) r 1 (by omega)
  unfold textT
  rw [← h, bodyT]
  unfold pieceT
  rw [if_neg (by omega), List.length_cons, Nat.add_comm r.length 1]
  simp only [List.nil_append, List.append_assoc, Nat.zero_add]
theorem linesT_take {nl : Bytes} {ls : List Bytes} {i : Nat} (h : i < ls.length) : linesT nl (ls.take (i + 1)) = linesT nl (ls.take i) ++ (ls.getD i [] ++ nl) := by
  unfold linesT
  rw [List.take_add_one, List.flatMap_append, List.getD_eq_getElem?_getD, List.getElem?_eq_getElem h]
  simp
theorem headT_take {hs : HL} {i : Nat} {p : Bytes × List Bytes} (h : hs[i]? = some p) : rawL (hs.take (i + 1)) = rawL (hs.take i) ++ p.2.map fun v => (p.1, v) := by
  unfold rawL
  rw [List.take_add_one, h, List.flatMap_append]
  simp
/-! ### Lengths -/
def bulkT (ls : List Bytes) : Nat := (ls.map fun s => s.length + 1).sum
def bulkH (hs : HL) : Nat := (hs.map fun p => p.1.length + 1 + bulkT p.2).sum
def bulkP (ps : PL) : Nat := (ps.map fun p => bulkH p.1 + p.2.length + 1).sum
theorem linesT_len (ls : List Bytes) : (linesT [13, 10] ls).length ≤ 2 * bulkT ls := by
  induction ls with
  | nil => simp [linesT, bulkT]
  | cons l ls ih =>
    unfold linesT bulkT at *
    simp only [List.flatMap_cons, List.length_append, List.map_cons, List.sum_cons, List.length_cons, List.length_nil]
    omega
theorem vals_len (k : Bytes) : ∀ vs : List Bytes, ((vs.map fun v => (k, v)).flatMap (lineT [13, 10])).length ≤ vs.length * k.length + 4 * bulkT vs
  | [] => by simp
  | v :: vs => by
    have ih := vals_len k vs
    have hl : (lineT [13, 10] (k, v)).length = k.length + v.length + 4 := by
      unfold lineT
      simp only [List.length_append, List.length_cons, List.length_nil]
      omega
    have hm : (vs.length + 1) * k.length = vs.length * k.length + k.length := Nat.succ_mul _ _
    rw [List.map_cons, List.flatMap_cons, List.length_append, hl, List.length_cons, hm]
    unfold bulkT at *
    simp only [List.map_cons, List.sum_cons]
    omega
theorem raw_len : ∀ (hs : HL), (rawL hs).length ≤ 100 → ((rawL hs).flatMap (lineT [13, 10])).length ≤ 100 * bulkH hs
  | [], _ => by simp [rawL, bulkH]
  | p :: hs, h => by
    have e : rawL (p :: hs) = (p.2.map fun v => (p.1, v)) ++ rawL hs := by
      unfold rawL
      rw [List.flatMap_cons]
    rw [e, List.length_append, List.length_map] at h
    have ih := raw_len hs (by omega)
    have hv := vals_len p.1 p.2
    have hm : p.2.length * p.1.length ≤ 100 * p.1.length := Nat.mul_le_mul_right _ (by omega)
    rw [e, List.flatMap_append, List.length_append]
    unfold bulkH at *
    simp only [List.map_cons, List.sum_cons]
    omega
theorem partT_len {p : HL × Bytes} (h : HeadP p.1) : (partT [13, 10] p).length ≤ 100 * bulkH p.1 + p.2.length + 2 := by
  have := raw_len p.1 h.few
  unfold partT headT
  simp only [List.length_append, List.length_cons, List.length_nil]
  omega
theorem bodyT_len (hb : b.length ≤ 70) (hp : PadsOk pads) : ∀ (ps : PL) (i : Nat), (∀ q ∈ ps, HeadP q.1) → (bodyT b pads i ps).length ≤ 100 * bulkP ps
  | [], _, _ => by simp [bodyT, bulkP]
  | p :: r, i, h => by
    have ih := bodyT_len hb hp r (i + 1) (fun q hq => h q (by simp [hq]))
    have h1 := partT_len (h p (by simp))
    have h2 := (hp i).2
    have h3 : (if 0 < i then ([13, 10] : Bytes) else []).length ≤ 2 := by split <;> decide
    rw [bodyT, List.length_append]
    unfold bulkP at *
    unfold pieceT dlm
    simp only [List.length_append, List.length_cons, List.length_nil, List.map_cons, List.sum_cons]
    omega
theorem finT_len (hb : b.length ≤ 70) (hp : PadsOk pads) (n : Nat) : (finT b pads after n).length ≤ 100 + after.length := by
  have h2 := (hp n).2
  unfold finT dlm
  simp only [List.length_append, List.length_cons, List.length_nil]
  omega
/-! ### Without CR -/
def noCR (l : Bytes) : Bytes := l.filter fun c => c != 13
theorem noCR_app (l m : Bytes) : noCR (l ++ m) = noCR l ++ noCR m := List.filter_append ..
theorem noCR_id {l : Bytes} (h : (13 : UInt8) ∉ l) : noCR l = l := by
  unfold noCR
  rw [List.filter_eq_self]
  intro x hx
  have : x ≠ 13 := fun e => h (e ▸ hx)
  simpa using this
theorem noCR_flat {α : Type} (f g : α → Bytes) : ∀ (l : List α), (∀ x ∈ l, noCR (f x) = g x) → noCR (l.flatMap f) = l.flatMap g
  | [], _ => rfl
  | x :: l, h => by
    rw [List.flatMap_cons, List.flatMap_cons, noCR_app, h x (by simp), noCR_flat f g l (fun y hy => h y (by simp [hy]))]
theorem noCR_nl : noCR [13, 10] = [10] := rfl
theorem noCR_part {p : HL × Bytes} (h : HeadP p.1) (hb : (13 : UInt8) ∉ p.2) : noCR (partT [13, 10] p) = partT [10] p := by
  unfold partT headT
  rw [noCR_app, noCR_app, noCR_id hb, noCR_nl, noCR_flat (lineT [13, 10]) (lineT [10])]
  intro q hq
  obtain ⟨h1, h2, _⟩ := h.ok q hq
  unfold keyB at h1
  unfold plainB at h2
  rw [Bool.and_eq_true] at h1 h2
  have n1 : (13 : UInt8) ∉ q.1 := fun e => (keyC_not (List.all_eq_true.1 h1.1 _ e)).2.1 rfl
  have n2 := (print_no h2.1).2
  unfold lineT
  rw [noCR_app, noCR_nl, noCR_id]
  simp only [List.mem_append, List.mem_cons, not_or]
  exact ⟨n1, by decide, by decide, n2⟩
theorem noCR_tail (hb : boundaryB b = true) (hp : PadsOk pads) : ∀ (r : PL) (i : Nat), (∀ q ∈ r, HeadP q.1 ∧ (13 : UInt8) ∉ q.2) → noCR (tailT [13, 10] b pads after i r) = tailT [10] b pads (noCR after) i r
  | [], i, _ => by
    have h1 := (dlm_no hb).2
    have h2 := (pad_no (hp i).1).2
    unfold tailT
    rw [noCR_app, noCR_app, noCR_app, noCR_app, noCR_app, noCR_id h1, noCR_id h2, noCR_nl]
    rfl
  | p :: r, i, h => by
    have h1 := (dlm_no hb).2
    have h2 := (pad_no (hp i).1).2
    obtain ⟨h3, h4⟩ := h p (by simp)
    rw [tailT, tailT, noCR_app, noCR_app, noCR_app, noCR_app, noCR_app, noCR_id h1, noCR_id h2, noCR_nl, noCR_part h3 h4, noCR_tail hb hp r (i + 1) (fun q hq => h q (by simp [hq]))]
theorem noCR_text {ls : List Bytes} {p : HL × Bytes} {r : PL} (hb : boundaryB b = true) (hp : PadsOk pads) (hls : ∀ l ∈ ls, l.all printC = true) (h : ∀ q ∈ p :: r, HeadP q.1 ∧ (13 : UInt8) ∉ q.2) :
    noCR (textT [13, 10] b ls p r pads after) = textT [10] b ls p r pads (noCR after) := by
  have h1 := (dlm_no hb).2
  have h2 := (pad_no (hp 0).1).2
  obtain ⟨h3, h4⟩ := h p (by simp)
  unfold textT
  rw [noCR_app, noCR_app, noCR_app, noCR_app, noCR_app, noCR_id h1, noCR_id h2, noCR_nl, noCR_part h3 h4, noCR_tail hb hp r 1 (fun q hq => h q (by simp [hq]))]
  unfold linesT
  rw [noCR_flat (fun l => l ++ [13, 10]) (fun l => l ++ [10])]
  intro l hl
  rw [noCR_app, noCR_id (print_no (hls l hl)).2, noCR_nl]
end
end Go.Proofs.YtkbgnplknifmhaaGreatDoor
namespace Go.Proofs.YtkbgnplknifmhaaGreatDoor
open Go.RowKit
attribute [local go_sem ↓] Go.wp_at_zero Go.wp_at_succ
/-! ### spec.Head (80) -/
theorem rawL_snoc (hs : HL) (p : Bytes × List Bytes) : (rawL (hs ++ [p])).length = (rawL hs).length + p.2.length := by
  unfold rawL
  rw [List.flatMap_append]
  simp
theorem HeadP.nil : HeadP [] := ⟨by simp, List.Pairwise.nil, by simp, by simp [rawL]⟩
theorem HeadP.snoc {hs : HL} {p : Bytes × List Bytes} (h : HeadP hs) (h1 : keyB p.1 = true) (h2 : p.2 ≠ []) (h3 : ∀ x ∈ hs, canonB x.1 ≠ canonB p.1) (h4 : ∀ v ∈ p.2, plainB v = true ∧ p.1.length + 2 + v.length ≤ 998) (h5 : (rawL hs).length + p.2.length ≤ 100) : HeadP (hs ++ [p]) := by
  refine ⟨fun q hq => ?_, ?_, fun q hq => ?_, by rw [rawL_snoc]; exact h5⟩
  · rcases List.mem_append.1 hq with hq | hq
    · exact h.keys q hq
    · simp at hq; subst hq; exact ⟨h1, h2⟩
  · rw [List.pairwise_append]
    refine ⟨h.dif, by simp, fun x hx y hy => ?_⟩
    simp at hy; subst hy; exact h3 x hx
  · rcases List.mem_append.1 hq with hq | hq
    · exact h.vals q hq
    · simp at hq; subst hq; exact h4
def HdpRel (w wr : World) (hs : HL) (v3 v12 : Value) (q : Nat) : Prop := ∃ i : Nat, v12 = .int .i64 (i : Int) ∧ i + q = hs.length ∧ v3 = .int .i64 ((rawL (hs.take i)).length : Int) ∧ HeadP (hs.take i) ∧ Kp [] w wr
def CnRel (w wr : World) (hs : HL) (k : Bytes) (i : Nat) (v46 : Value) (q : Nat) : Prop := ∃ j : Nat, v46 = .int .i64 (j : Int) ∧ j + q = i ∧ (∀ x ∈ hs.take j, canonB x.1 ≠ canonB k) ∧ Kp [] w wr
def VlRel (w wr : World) (k : Bytes) (vs : List Bytes) (n0 : Nat) (v3 v61 : Value) (q : Nat) : Prop :=
  ∃ j : Nat, v61 = .int .i64 (j : Int) ∧ j + q = vs.length ∧ v3 = .int .i64 ((n0 : Int) + (j : Int)) ∧ n0 + j ≤ 100 ∧ (∀ x ∈ vs.take j, plainB x = true ∧ k.length + 2 + x.length ≤ 998) ∧ w = wr
def HeadR (w : World) (hs : HL) (e : Ending) (w' : World) : Prop := ∃ b, e = .returned (.bool b) ∧ (b = true → HeadP hs) ∧ Kp [] w w'
def HdpCut (wA wx : World) (p : Bytes × List Bytes) (v41 : Value) : Prop := ∃ b, v41 = .bool b ∧ (b = false → keyB p.1 = true ∧ p.2 ≠ []) ∧ ∃ r : KW wA, wx = r.w'
section
variable {w : World} {v : Value}
set_option maxRecDepth 20000 in
set_option maxHeartbeats 8000000 in
theorem head80 {hs : HL} (h : HVa w v hs) (hv : SmH hs) : Calls Tryz.prog 80 #[v] w fun e w' => HeadR w hs e w' := by
  obtain ⟨a, c, rfl⟩ := h.shape
  have hn : (hs.length : Int) ≤ 1048576 := by have := hv.1; omega
  have HA := Lib.hid h
  have HV := Lib.hid hv
  have HR0 : Hid (HdpRel w w hs (.int .i64 0) (.int .i64 ((0 : Nat) : Int)) hs.length) := ⟨0, rfl, by omega, rfl, HeadP.nil, Kp.refl _ _⟩
  clear h hv
  go_enter Tryz.func80, Tryz.ntmps80
  go_wp2
  go_loopg [3, 12] hs.length (fun q v3 v12 wr => HdpRel w wr hs v3 v12 q)
  case atStart => exact HR0.out
  case round =>
    clear HR0
    obtain ⟨wO, rfl⟩ : ∃ x, x = wr := ⟨_, rfl⟩
    obtain ⟨gO, rfl⟩ : ∃ x, x = gk := ⟨_, rfl⟩
    obtain ⟨i, rfl, hq, rfl, hhp, hk⟩ := hrel
    by_cases hi : i < hs.length
    · have hi' : (i : Int) < (hs.length : Int) := by omega
      obtain ⟨p, hp⟩ : ∃ p, hs[i]? = some p := ⟨_, List.getElem?_eq_getElem hi⟩
      rcases (HA.out.kp0 hk).ex with ⟨e0, _⟩ | ⟨g, o, c0, e0, hlc, hc⟩
      · rw [e0] at hi; simp at hi
      injection e0 with e1 e2 e3
      subst e1; subst e3
      obtain ⟨a', c', hc1, hc2, hc3, _⟩ := hc i p hp
      replace hc1 : wO.cell? ⟨g, o + i * 2, none⟩ = some (.string (str p.1)) := hc1
      have hix := fun w => ix27o g o hs.length c w i hi
      have hka : Kp [] wO (wO.alloc (.cells #[.string (str p.1), .slice a' p.2.length c'] 43)) := (Kp.refl _ _).alloc _
      have hnew := Blk.new wO #[.string (str p.1), .slice a' p.2.length c'] 43
      obtain ⟨wA, hwA⟩ : ∃ wA, wO.alloc (.cells #[.string (str p.1), .slice a' p.2.length c'] 43) = wA := ⟨_, rfl⟩
      rw [hwA] at hka hnew
      have hps := HV.out.2 p (List.mem_of_getElem? hp)
      have HD : Hid (Kp [] wA { wA with drawn := wA.drawn + 1 }) := Kp.drewN [] wA 1
      have HX := Lib.hid (And.intro (hk.trans hka) (And.intro hq (And.intro hhp (And.intro hp (And.intro hps (And.intro hc3 (And.intro hka (And.intro hnew (And.intro hc hlc)))))))))
      clear hk hq hhp hc hc3 hp hka hps hnew e2 hlc
      go_wp2_with fail
      go_cut [41] from 17 to 40 (fun v41 wx => HdpCut wA wx p v41)
      case first =>
        have hkl : p.1.length ≤ 281474976710656 := by have := HX.out.2.2.2.2.1.1; omega
        have hkey : ∀ r : KW wA, Calls Tryz.prog 16 #[.string (str p.1)] r.w' fun e w'' => e = .returned (.bool (keyB p.1)) ∧ ∃ r' : KW wA, w'' = r'.w' := fun r => (key_any p.1 r.w' hkl).mono (fun e w'' ⟨h1, h2⟩ => ⟨h1, r, h2.symm⟩)
        have q0 : ∀ r : KW wA, r.w'.cell? ⟨wO.heap.size, 0, none⟩ = some (.string (str p.1)) := fun r => r.kp.rc (HX.out.2.2.2.2.2.2.2.1.cell 0)
        have q1 : ∀ r : KW wA, r.w'.cell? ⟨wO.heap.size, 1, none⟩ = some (.slice a' p.2.length c') := fun r => r.kp.rc (HX.out.2.2.2.2.2.2.2.1.cell 1)
        have hinh : Inhabited (KW wA) := ⟨⟨wA, Kp.refl _ _⟩⟩
        cases hkb : keyB p.1 with
        | false =>
          rw [hkb] at hkey
          refine wp_region_quiet_kw (by kernel_rfl) (by kernel_rfl) HD.out ?_
          repeat (go_big_quiet_step ((go_at_call 16; exact hkey _)))
          refine wpQuiet_nil ?_
          intro _ hw'
          obtain ⟨r, hw''⟩ := hw'
          subst hw''
          go_wp2_with fail
          go_meet
          exact ⟨_, rfl, by simp, r, rfl⟩
        | true =>
          rw [hkb] at hkey
          by_cases hv0 : p.2 = []
          · have hl0 : p.2.length = 0 := by rw [hv0]; rfl
            rw [hl0] at q1
            refine wp_region_quiet_kw (by kernel_rfl) (by kernel_rfl) HD.out ?_
            repeat (go_big_quiet_step ((go_at_call 16; exact hkey _)))
            refine wpQuiet_nil ?_
            intro _ hw'
            obtain ⟨r, hw''⟩ := hw'
            subst hw''
            go_wp2_with fail
            go_meet
            exact ⟨_, rfl, by simp, r, rfl⟩
          · have hl0 : ((p.2.length : Int) == 0) = false := by
              rw [beq_eq_false_iff_ne]
              intro e
              have e' : p.2.length = 0 := by omega
              exact hv0 (List.eq_nil_of_length_eq_zero e')
            by_cases h0 : i = 0
            · have h0' : decide (0 < i) = false := by simp; omega
              have HK : Hid (keyB p.1 = true ∧ p.2 ≠ []) := ⟨hkb, hv0⟩
              clear h0
              refine wp_region_quiet_kw (by kernel_rfl) (by kernel_rfl) HD.out ?_
              repeat (go_big_quiet_step ((go_at_call 16; exact hkey _)))
              refine wpQuiet_nil ?_
              intro _ hw'
              obtain ⟨r, hw''⟩ := hw'
              subst hw''
              go_wp2_with fail
              go_meet
              exact ⟨_, rfl, fun _ => HK.out, r, rfl⟩
            · have h0' : decide (0 < i) = true := by simp; omega
              obtain ⟨p', hp'⟩ : ∃ p', hs[i - 1]? = some p' := ⟨_, List.getElem?_eq_getElem (by omega)⟩
              obtain ⟨x1, x2, hx, _⟩ := HX.out.2.2.2.2.2.2.2.2.1 (i - 1) p' hp'
              have q2 : ∀ r : KW wA, r.w'.cell? ⟨g, o + (i - 1) * 2, none⟩ = some (.string (str p'.1)) := fun r => r.kp.rc (HX.out.2.2.2.2.2.2.1.rc hx)
              have hixp : ∀ w, (Instr.indexAt 27 (.slice (some ⟨g, o, none⟩) hs.length c) (.int .i64 ((i : Int) - 1))).run Tryz.prog w = .ok (.pointer (some ⟨g, o + (i - 1) * 2, none⟩)) w := by
                intro w
                have := ix27o g o hs.length c w (i - 1) (by omega)
                rwa [show ((i - 1 : Nat) : Int) = (i : Int) - 1 from by omega] at this
              have HK : Hid (keyB p.1 = true ∧ p.2 ≠ []) := ⟨hkb, hv0⟩
              clear hx hp' h0
              cases hbl : Op.bytesLess p'.1 p.1 with
              | true =>
                refine wp_region_quiet_kw (by kernel_rfl) (by kernel_rfl) HD.out ?_
                repeat (go_big_quiet_step ((go_at_call 16; exact hkey _)))
                refine wpQuiet_nil ?_
                intro _ hw'
                obtain ⟨r, hw''⟩ := hw'
                subst hw''
                go_wp2_with fail
                go_meet
                exact ⟨_, rfl, fun _ => HK.out, r, rfl⟩
              | false =>
                refine wp_region_quiet_kw (by kernel_rfl) (by kernel_rfl) HD.out ?_
                repeat (go_big_quiet_step ((go_at_call 16; exact hkey _)))
                refine wpQuiet_nil ?_
                intro _ hw'
                obtain ⟨r, hw''⟩ := hw'
                subst hw''
                go_wp2_with fail
                go_meet
                exact ⟨_, rfl, by simp, r, rfl⟩
      case rest =>
        obtain ⟨b, rfl, hb, r, rfl⟩ := hcut
        cases b with
        | true =>
          have HK := Lib.hid (HX.out.1.trans r.kp)
          clear hb
          go_wp2
          go_ret
          exact ⟨false, rfl, by simp, HK.out⟩
        | false =>
          have HB := Lib.hid (hb rfl)
          have HKR := Lib.hid r.kp
          clear hb
          generalize r.w' = w2 at *
          have hsl := run27_h w2 (some ⟨g, o, none⟩) hs.length c i (by have := HX.out.2.2.2.2.2.2.2.2.2; omega)
          have HR1 : Hid (CnRel w2 w2 hs p.1 i (.int .i64 ((0 : Nat) : Int)) i) := ⟨0, rfl, by omega, by simp, Kp.refl _ _⟩
          clear hc1 hc2 hix
          go_wp2
          go_loopg [46] i (fun q v46 wr => CnRel w2 wr hs p.1 i v46 q)
          case atStart => exact HR1.out
          case round =>
            clear HR1
            obtain ⟨j, rfl, hq2, hcn, hk2⟩ := hrel
            by_cases hj : j < i
            · have hj' : (j : Int) < (i : Int) := by omega
              obtain ⟨x, hx⟩ : ∃ x, hs[j]? = some x := ⟨_, List.getElem?_eq_getElem (by omega)⟩
              obtain ⟨hkA, hq, hhp, hp, hps, hc3, hka, hnew, hc, hlc⟩ := HX.out
              obtain ⟨ax, cx, hx1, hx2, _⟩ := hc j x hx
              have hkk : Kp [] wA wr := HKR.out.trans hk2
              have hx1 : wr.cell? ⟨g, o + j * 2, none⟩ = some (.string (str x.1)) := (hka.trans hkk).rc hx1
              have hx2 := (hka.trans hkk).rc hx2
              have hix := fun w => ix27o g o i c w j hj
              have hkb : Kp [] wr (wr.alloc (.cells #[.string (str x.1), .slice ax x.2.length cx] 43)) := (Kp.refl _ _).alloc _
              have hnb := Blk.new wr #[.string (str x.1), .slice ax x.2.length cx] 43
              obtain ⟨wB, hwB⟩ : ∃ wB, wr.alloc (.cells #[.string (str x.1), .slice ax x.2.length cx] 43) = wB := ⟨_, rfl⟩
              rw [hwB] at hkb hnb
              have hxl : x.1.length ≤ 281474976710656 := by have := (HV.out.2 x (List.mem_of_getElem? hx)).1; omega
              have hpl : p.1.length ≤ 281474976710656 := by have := hps.1; omega
              have hca : ∀ r : KW wB, Calls Tryz.prog 23 #[.string (str x.1)] r.w' fun e w'' => e = .returned (.string (str (canonB x.1))) ∧ ∃ r' : KW wB, w'' = r'.w' := fun r => (canon_any x.1 r.w' hxl).mono (fun e w'' ⟨h1, h2⟩ => ⟨h1, ⟨w'', r.kp.trans h2⟩, rfl⟩)
              have hcb : ∀ r : KW wB, Calls Tryz.prog 23 #[.string (str p.1)] r.w' fun e w'' => e = .returned (.string (str (canonB p.1))) ∧ ∃ r' : KW wB, w'' = r'.w' := fun r => (canon_any p.1 r.w' hpl).mono (fun e w'' ⟨h1, h2⟩ => ⟨h1, ⟨w'', r.kp.trans h2⟩, rfl⟩)
              have q0 : ∀ r : KW wB, r.w'.cell? ⟨wr.heap.size, 0, none⟩ = some (.string (str x.1)) := fun r => r.kp.rc (hnb.cell 0)
              have q1 : ∀ r : KW wB, r.w'.cell? ⟨wO.heap.size, 0, none⟩ = some (.string (str p.1)) := fun r => r.kp.rc (hkb.rc (hkk.rc (hnew.cell 0)))
              have HD2 : Hid (Kp [] wB { wB with drawn := wB.drawn + 1 }) := Kp.drewN [] wB 1
              have HY := Lib.hid (And.intro hq2 (And.intro hcn (And.intro (hk2.trans hkb) (And.intro hx (hkA.trans (HKR.out.trans (hk2.trans hkb)))))))
              clear hkA hq hhp hp hps hc3 hka hnew hc hlc hkk hkb hnb hq2 hcn hk2 hx
              go_wp2_with fail
              have hinh : Inhabited (KW wB) := ⟨⟨wB, Kp.refl _ _⟩⟩
              by_cases he : canonB x.1 = canonB p.1
              · have he' : (canonB x.1 == canonB p.1) = true := by simp [he]
                clear he
                refine wp_region_quiet_kw (by kernel_rfl) (by kernel_rfl) HD2.out ?_
                iterate 3 (go_big_quiet_step ((go_at_call 23; exact hca _)))
                iterate 4 (go_big_quiet_step ((go_at_call 23; exact hcb _)))
                refine wpQuiet_nil ?_
                intro _ hw'
                obtain ⟨r, hw''⟩ := hw'
                subst hw''
                have HF := Lib.hid (HY.out.2.2.2.2.trans r.kp)
                clear q0 q1 hca hcb hix hx1 hx2
                go_wp2
                go_ret
                exact ⟨false, rfl, by simp, HF.out⟩
              · have he' : (canonB x.1 == canonB p.1) = false := by simp [he]
                have HE := Lib.hid he
                clear he
                refine wp_region_quiet_kw (by kernel_rfl) (by kernel_rfl) HD2.out ?_
                iterate 3 (go_big_quiet_step ((go_at_call 23; exact hca _)))
                iterate 4 (go_big_quiet_step ((go_at_call 23; exact hcb _)))
                refine wpQuiet_nil ?_
                intro _ hw'
                obtain ⟨r, hw''⟩ := hw'
                subst hw''
                have HREL : Hid (CnRel w2 r.w' hs p.1 i (.int .i64 ((j : Int) + 1)) (i - (j + 1))) := by
                  obtain ⟨h1, h2, h3, h4, _⟩ := HY.out
                  refine ⟨j + 1, by simp, by omega, fun y hy => ?_, h3.trans r.kp⟩
                  rw [List.take_add_one, h4] at hy
                  rcases List.mem_append.1 hy with hy | hy
                  · exact h2 y hy
                  · simp at hy; subst hy; exact HE.out
                have HMM : Hid (i - (j + 1) < gk) := by have := HY.out.1; show _ < _; omega
                clear q0 q1 hca hcb hix hx1 hx2 he' HE
                go_wp2
                go_roundg (i - (j + 1))
                case measure => exact HMM.out
                case rel => exact HREL.out
            · have hje : ¬ (j : Int) < (i : Int) := by omega
              obtain ⟨wP, rfl⟩ : ∃ x, x = wr := ⟨_, rfl⟩
              obtain ⟨gP, rfl⟩ : ∃ x, x = gk := ⟨_, rfl⟩
              obtain ⟨hkA, hq, hhp, hp, hps, hc3, hka, hnew, hc, hlc⟩ := HX.out
              have hcn' : ∀ x ∈ hs.take i, canonB x.1 ≠ canonB p.1 := by
                have e : j = i := by omega
                rw [← e]; exact hcn
              have hkk : Kp [] wA wP := HKR.out.trans hk2
              have kc0 : wP.cell? ⟨wO.heap.size, 0, none⟩ = some (.string (str p.1)) := hkk.rc (hnew.cell 0)
              have kc1 : wP.cell? ⟨wO.heap.size, 1, none⟩ = some (.slice a' p.2.length c') := hkk.rc (hnew.cell 1)
              have HT := Lib.hid ((hc3.kp0 hka).kp0 hkk)
              have HN : Hid (p.1.length ≤ 1048576 ∧ SmT p.2 ∧ i + gO = hs.length ∧ hs[i]? = some p ∧ HeadP (hs.take i) ∧ Kp [] w wP ∧ ∀ x ∈ hs.take i, canonB x.1 ≠ canonB p.1) :=
                ⟨hps.1, hps.2, hq, hp, hhp, hkA.trans hkk, hcn'⟩
              have hfew := hhp.few
              generalize hn0 : (rawL (hs.take i)).length = n0 at *
              have HN0 := Lib.hid hn0
              have HR2 : Hid (VlRel wP wP p.1 p.2 n0 (.int .i64 (n0 : Int)) (.int .i64 ((0 : Nat) : Int)) p.2.length) := ⟨0, rfl, by omega, by simp, by omega, by simp, rfl⟩
              clear hkA hq hhp hp hps hc3 hka hnew hc hlc hkk hq2 hcn hcn' hk2 hn0 hfew
              go_wp2
              go_loopg [3, 61] p.2.length (fun q v3 v61 wr => VlRel wP wr p.1 p.2 n0 v3 v61 q)
              case atStart => exact HR2.out
              case round =>
                clear HR2
                obtain ⟨m, rfl, hq3, rfl, hn1, hvs, rfl⟩ := hrel
                by_cases hm : m < p.2.length
                · have hm' : (m : Int) < (p.2.length : Int) := by omega
                  have hcv := HT.out.cell m hm
                  have hxv := HT.out.ix c' m hm
                  have htk : p.2.take (m + 1) = p.2.take m ++ [p.2.getD m []] := by
                    rw [List.take_add_one, List.getD_eq_getElem?_getD, List.getElem?_eq_getElem hm]; rfl
                  have hmem : p.2.getD m [] ∈ p.2 := by
                    rw [List.getD_eq_getElem?_getD, List.getElem?_eq_getElem hm]; exact List.getElem_mem hm
                  have hyl := HN.out.2.1.2 _ hmem
                  generalize p.2.getD m [] = y at *
                  have hpl := plain_any y wP (by omega)
                  have HVS := Lib.hid (And.intro hvs (And.intro htk (And.intro hq3 hn1)))
                  clear hvs htk hmem hq3
                  cases hpy : plainB y with
                  | false =>
                    rw [hpy] at hpl
                    go_wp2_with fail
                    refine hpl.mono ?_
                    rintro e w' ⟨rfl, rfl⟩
                    go_wp2
                    go_ret
                    exact ⟨false, rfl, by simp, HN.out.2.2.2.2.2.1⟩
                  | true =>
                    rw [hpy] at hpl
                    by_cases hlen : p.1.length + 2 + y.length ≤ 998
                    · have hlen' : ¬ (998 : Int) < (p.1.length : Int) + 2 + (y.length : Int) := by omega
                      by_cases hcnt : n0 + m + 1 ≤ 100
                      · have hcnt' : ¬ (100 : Int) < (n0 : Int) + (m : Int) + 1 := by omega
                        have HREL : Hid (VlRel wP wP p.1 p.2 n0 (.int .i64 ((n0 : Int) + (m : Int) + 1)) (.int .i64 ((m : Int) + 1)) (p.2.length - (m + 1))) := by
                          refine ⟨m + 1, by simp, by omega, by rw [Int.add_assoc]; simp, by omega, fun x hx => ?_, rfl⟩
                          rw [HVS.out.2.1] at hx
                          rcases List.mem_append.1 hx with hx | hx
                          · exact HVS.out.1 x hx
                          · simp at hx; subst hx; exact ⟨hpy, hlen⟩
                        have HMM : Hid (p.2.length - (m + 1) < gk) := by have := HVS.out.2.2.1; show _ < _; omega
                        clear hlen hcnt hpy HVS
                        go_wp2_with fail
                        refine hpl.mono ?_
                        rintro e w' ⟨rfl, rfl⟩
                        go_wp2
                        go_roundg (p.2.length - (m + 1))
                        case measure => exact HMM.out
                        case rel => exact HREL.out
                      · have hcnt' : (100 : Int) < (n0 : Int) + (m : Int) + 1 := by omega
                        clear hlen hcnt hpy HVS
                        go_wp2_with fail
                        refine hpl.mono ?_
                        rintro e w' ⟨rfl, rfl⟩
                        go_wp2
                        go_ret
                        exact ⟨false, rfl, by simp, HN.out.2.2.2.2.2.1⟩
                    · have hlen' : (998 : Int) < (p.1.length : Int) + 2 + (y.length : Int) := by omega
                      have hkl := HN.out.1
                      clear hlen hpy HVS
                      go_wp2_with fail
                      refine hpl.mono ?_
                      rintro e w' ⟨rfl, rfl⟩
                      go_wp2
                      go_ret
                      exact ⟨false, rfl, by simp, HN.out.2.2.2.2.2.1⟩
                · have hge : ¬ (m : Int) < (p.2.length : Int) := by omega
                  have HREL : Hid (HdpRel w wP hs (.int .i64 ((n0 : Int) + (m : Int))) (.int .i64 ((i : Int) + 1)) (hs.length - (i + 1))) := by
                    obtain ⟨h1, h2, h3, h4, h5, h6, h7⟩ := HN.out
                    have e : hs.take (i + 1) = hs.take i ++ [p] := by rw [List.take_add_one, h4]; rfl
                    have em : m = p.2.length := by omega
                    rw [List.take_of_length_le (by omega)] at hvs
                    have hl : (rawL (hs.take (i + 1))).length = n0 + m := by rw [e, rawL_snoc, HN0.out, em]
                    refine ⟨i + 1, by simp, by omega, by rw [hl]; simp, ?_, h6⟩
                    rw [e]
                    exact h5.snoc HB.out.1 HB.out.2 h7 hvs (by rw [HN0.out, ← em]; exact hn1)
                  have HMM : Hid (hs.length - (i + 1) < gO) := by have := HN.out.2.2.1; show _ < _; omega
                  clear hvs hq3 hn1
                  go_wp2
                  go_roundg (hs.length - (i + 1))
                  case measure => exact HMM.out
                  case rel => exact HREL.out
    · have hge : ¬ (i : Int) < (hs.length : Int) := by omega
      have HF := Lib.hid (And.intro hhp hk)
      rw [List.take_of_length_le (by omega)] at HF
      clear hq hk hhp
      go_wp2
      go_ret
      exact ⟨_, rfl, fun _ => HF.out.1, HF.out.2⟩
end
end Go.Proofs.YtkbgnplknifmhaaGreatDoor
namespace Go.Proofs.YtkbgnplknifmhaaGreatDoor
open Go.RowKit
attribute [local go_sem ↓] Go.wp_at_zero Go.wp_at_succ
/-! ### spec.Good (61), spec.Body.Well (27) -/
section
variable {w : World} {a : Option Addr} {c : Nat} {body b : Bytes}
/-! spec.Free, the boundary not yet known to be short. -/
set_option maxRecDepth 20000 in
set_option maxHeartbeats 1000000 in
theorem free_anyL (h : HB w a body) (hc : body.length ≤ c) (hl : body.length ≤ 281474976710656) (hb : b.length ≤ 1048576) :
    Calls Tryz.prog 19 #[.slice a body.length c, .string (str b)] w fun e w' => e = .returned (.bool (freeB body (dlm b))) ∧ Kp [] w w' := by
  obtain ⟨cc, w1, hcv, hb1, hlc, hk1, hsz1⟩ := conv_bytes (45 :: 45 :: b) w
  have e2 : (⟨#[45, 45]⟩ : ByteArray) = str [45, 45] := rfl
  have h1 := h.kp hk1 (by simp)
  have hp := hasPrefix_any a (some ⟨w.heap.size, 0, none⟩) c cc body (45 :: 45 :: b) w1 h1 hc hb1
  have hdl : (45 :: 45 :: b : Bytes).length = b.length + 2 := by simp
  rw [hdl] at hp hcv hlc
  cases hpre : (dlm b).isPrefixOf body with
  | true =>
    have hpre' : (45 :: 45 :: b).isPrefixOf body = true := hpre
    rw [hpre'] at hp
    have HR : Hid (freeB body (dlm b) = false) := by show _ = _; unfold freeB; rw [hpre]; rfl
    have HK := Lib.hid hk1
    clear h h1 hpre hpre' hk1 hb1 hsz1 hdl
    go_enter Tryz.func19, Tryz.ntmps19
    go_wp2_with fail
    refine hp.mono ?_
    rintro e w' ⟨rfl, rfl⟩
    clear hp
    go_wp2
    go_ret
    exact ⟨ret_bool HR.out.symm, HK.out⟩
  | false =>
    have hpre' : (45 :: 45 :: b).isPrefixOf body = false := hpre
    rw [hpre'] at hp
    have HR : Hid (freeB body (dlm b) = decide (findI (10 :: 45 :: 45 :: b) body < 0)) := by show _ = _; unfold freeB; rw [hpre, findI_neg]; rfl
    have hown : OB (w1.alloc (.cells #[.int .u8 10] 5)) w1.heap.size (.slice (some ⟨w1.heap.size, 0, none⟩) 1 1) [10] := OB.lit w1 w1.heap.size [10] (Nat.le_refl _) (by simp [maxLen])
    have hk2 : Kp [] w1 (w1.alloc (.cells #[.int .u8 10] 5)) := (Kp.refl _ _).alloc _
    have HOWN := Lib.hid hown
    have HB2 := Lib.hid (hb1.kp hk2 (by simp))
    have HK1 := Lib.hid hk1
    have H1 := Lib.hid h1
    have HSZ := Lib.hid hsz1
    have HDL := Lib.hid hdl
    clear h h1 hpre hpre' hk1 hb1 hsz1 hdl hown hk2
    go_enter Tryz.func19, Tryz.ntmps19
    go_wp2_with fail
    refine hp.mono ?_
    rintro e w' ⟨rfl, rfl⟩
    clear hp
    go_wp2_with (at_builtin; refine wpList_append_OBg rfl (.tmp 15) (.tmp 16) rfl w1.heap.size (.slice (some ⟨w1.heap.size, 0, none⟩) 1 1) [10] rfl HOWN.out (some ⟨w.heap.size, 0, none⟩) (b.length + 2) cc (45 :: 45 :: b) rfl HB2.out HDL.out.symm (by intro e; cases e) (by simp; omega) (by simp) ?_; intro v' w3 hown3 hg3 hnw3)
    obtain ⟨a', c', rfl, hlc', ha', hb', hob'⟩ := hown3.len
    have hK3 : Kp [] w1 w3 := ((Kp.refl _ _).alloc _).trans' ((Kp.refl [w1.heap.size] _).grown hg3 (by intro k hk; injection hk with hk; subst hk; simp)) (by intro x hx; simp at hx; subst hx; exact .inr (Nat.le_refl _))
    have hl3 : ([10] ++ (45 :: 45 :: b) : Bytes).length = b.length + 3 := by simp
    have hfind := find_any a a' c c' body ([10] ++ (45 :: 45 :: b)) w3 (H1.out.kp hK3 (by simp)) hc hb' hl (by omega)
    have HKF := Lib.hid (HK1.out.trans hK3)
    clear hown3 hg3 hnw3 hlc' ha' hb' hob' hK3 hl3
    refine hfind.mono ?_
    rintro e w' ⟨rfl, rfl⟩
    have hq : ([10] ++ (45 :: 45 :: b) : Bytes) = 10 :: 45 :: 45 :: b := rfl
    rw [hq]
    clear hq hfind
    go_wp2
    go_ret
    exact ⟨ret_bool HR.out.symm, HKF.out⟩
end
def GdR (w : World) (ps : PL) (b : Bytes) (e : Ending) (w' : World) : Prop := ∃ r, e = .returned (.bool r) ∧ (r = true → boundaryB b = true ∧ ∀ p ∈ ps, HeadP p.1 ∧ freeB p.2 (dlm b) = true) ∧ Kp [] w w'
def GdRel (w wr : World) (ps : PL) (b : Bytes) (v9 : Value) (q : Nat) : Prop := ∃ i : Nat, v9 = .int .i64 (i : Int) ∧ i + q = ps.length ∧ (∀ p ∈ ps.take i, HeadP p.1 ∧ freeB p.2 (dlm b) = true) ∧ Kp [] w wr
section
variable {w : World} {v : Value} {b : Bytes}
set_option maxRecDepth 20000 in
set_option maxHeartbeats 4000000 in
theorem good61 {ps : PL} (h : PVa w v ps) (hv : SmP ps) (hb : b.length ≤ 1048576) : Calls Tryz.prog 61 #[v, .string (str b)] w fun e w' => GdR w ps b e w' := by
  obtain ⟨a, c, rfl⟩ := h.shape
  have hn : (ps.length : Int) ≤ 1048576 := by have := hv.1; omega
  have HA := Lib.hid h
  have HV := Lib.hid hv
  have HR0 : Hid (GdRel w w ps b (.int .i64 ((0 : Nat) : Int)) ps.length) := ⟨0, rfl, by omega, by simp, Kp.refl _ _⟩
  clear h hv
  go_enter Tryz.func61, Tryz.ntmps61
  go_wp2
  go_loopg [9] ps.length (fun q v9 wr => GdRel w wr ps b v9 q)
  case atStart => exact HR0.out
  case round =>
    clear HR0
    obtain ⟨i, rfl, hq, hok, hk⟩ := hrel
    by_cases hi : i < ps.length
    · have hi' : (i : Int) < (ps.length : Int) := by omega
      obtain ⟨p, hp⟩ : ∃ p, ps[i]? = some p := ⟨_, List.getElem?_eq_getElem hi⟩
      rcases (HA.out.kp0 hk).ex with ⟨e0, _⟩ | ⟨g, o, c0, e0, hc⟩
      · rw [e0] at hi; simp at hi
      injection e0 with e1 e2 e3
      subst e1
      obtain ⟨a1, c1, a2, c2, hc1, hc2, hc3, hc4, hc5, hc6⟩ := hc i p hp
      have hix := fun w => ix24o g o ps.length c w i hi
      have hka : Kp [] wr (wr.alloc (.cells #[.slice a1 p.1.length c1, .slice a2 p.2.length c2] 29)) := (Kp.refl _ _).alloc _
      have hnew := Blk.new wr #[.slice a1 p.1.length c1, .slice a2 p.2.length c2] 29
      obtain ⟨wA, hwA⟩ : ∃ wA, wr.alloc (.cells #[.slice a1 p.1.length c1, .slice a2 p.2.length c2] 29) = wA := ⟨_, rfl⟩
      rw [hwA] at hka hnew
      have hps := HV.out.2 p (List.mem_of_getElem? hp)
      have kc0 := hnew.cell 0
      have kc1 := hnew.cell 1
      have hcon := head80 (hc3.kp0 hka) hps.1
      have hbl := hps.2
      have HX := Lib.hid (And.intro (hk.trans hka) (And.intro hq (And.intro hok (And.intro hp (And.intro (hc4.kp hka (by simp)) (And.intro hnew hc5))))))
      clear hk hq hok hc hc3 hc4 hp hka hps e2 e3 hnew
      simp at kc0 kc1
      go_wp2_with fail
      refine hcon.mono ?_
      rintro e w1 ⟨r, rfl, hr, hk1⟩
      clear hcon kc0 hc1 hc2 hix
      have kc1 := hk1.rc kc1
      cases r with
      | false =>
        have HF := Lib.hid (HX.out.1.trans hk1)
        clear hr hk1
        go_wp2
        go_ret
        exact ⟨false, rfl, by simp, HF.out⟩
      | true =>
        have hfr := free_anyL (b := b) (HX.out.2.2.2.2.1.kp hk1 (by simp)) HX.out.2.2.2.2.2.2 (by omega) hb
        have HH := Lib.hid (hr rfl)
        have HK1 := Lib.hid (HX.out.1.trans hk1)
        clear hr hk1
        go_wp2_with fail
        refine hfr.mono ?_
        rintro e w2 ⟨rfl, hk2⟩
        clear hfr kc1
        cases hf : freeB p.2 (dlm b) with
        | false =>
          have HF := Lib.hid (HK1.out.trans hk2)
          clear hk2 hf
          go_wp2
          go_ret
          exact ⟨false, rfl, by simp, HF.out⟩
        | true =>
          have HREL : Hid (GdRel w w2 ps b (.int .i64 ((i : Int) + 1)) (ps.length - (i + 1))) := by
            obtain ⟨_, h1, h2, h3, _⟩ := HX.out
            refine ⟨i + 1, by simp, by omega, fun y hy => ?_, HK1.out.trans hk2⟩
            rw [List.take_add_one, h3] at hy
            rcases List.mem_append.1 hy with hy | hy
            · exact h2 y hy
            · simp at hy; subst hy; exact ⟨HH.out, hf⟩
          have HMM : Hid (ps.length - (i + 1) < gk) := by have := HX.out.2.1; show _ < _; omega
          clear hk2 hf
          go_wp2
          go_roundg (ps.length - (i + 1))
          case measure => exact HMM.out
          case rel => exact HREL.out
    · have hge : ¬ (i : Int) < (ps.length : Int) := by omega
      rw [List.take_of_length_le (by omega)] at hok
      have HF := Lib.hid (And.intro hok hk)
      have hbd := boundary_any b wr (by omega)
      clear hq hk hok
      go_wp2_with fail
      refine hbd.mono ?_
      rintro e w' ⟨rfl, rfl⟩
      go_wp2
      go_ret
      exact ⟨_, rfl, fun h => ⟨h, HF.out.1⟩, HF.out.2⟩
end
end Go.Proofs.YtkbgnplknifmhaaGreatDoor
namespace Go.Proofs.YtkbgnplknifmhaaGreatDoor
open Go.RowKit
attribute [local go_sem ↓] Go.wp_at_zero Go.wp_at_succ
/-! ### spec.Body.Well (27) -/
def LnOk (b l : Bytes) : Prop := l.length ≤ 998 ∧ l.all printC = true ∧ (dlm b).isPrefixOf l = false
def PdOk (s : Bytes) : Prop := s.length ≤ 20 ∧ s.all blankC = true
def WellP (ls : List Bytes) (ps : PL) (pads : List Bytes) (b : Bytes) : Prop := (∀ l ∈ ls, LnOk b l) ∧ (∀ s ∈ pads, PdOk s) ∧ ps ≠ [] ∧ boundaryB b = true ∧ ∀ p ∈ ps, HeadP p.1 ∧ freeB p.2 (dlm b) = true
def WellR (w : World) (ls : List Bytes) (ps : PL) (pads : List Bytes) (b : Bytes) (e : Ending) (w' : World) : Prop := ∃ r, e = .returned (.bool r) ∧ (r = true → WellP ls ps pads b) ∧ Kp [] w w'
def EachRel (w wr : World) (P : Bytes → Prop) (ls : List Bytes) (v : Value) (q : Nat) : Prop := ∃ i : Nat, v = .int .i64 (i : Int) ∧ i + q = ls.length ∧ (∀ l ∈ ls.take i, P l) ∧ w = wr
theorem each_step {P : Bytes → Prop} {ls : List Bytes} {i : Nat} (hi : i < ls.length) (h : ∀ l ∈ ls.take i, P l) (h1 : P (ls.getD i [])) : ∀ l ∈ ls.take (i + 1), P l := by
  intro l hl
  rw [List.take_add_one, List.getElem?_eq_getElem hi] at hl
  rw [List.getD_eq_getElem?_getD, List.getElem?_eq_getElem hi] at h1
  rcases List.mem_append.1 hl with hl | hl
  · exact h l hl
  · simp at hl; subst hl; exact h1
theorem getD_mem {ls : List Bytes} {i : Nat} (hi : i < ls.length) : ls.getD i [] ∈ ls := by
  rw [List.getD_eq_getElem?_getD, List.getElem?_eq_getElem hi]; exact List.getElem_mem hi
section
variable {w : World} {cs : Array Value} {ls : List Bytes} {ps : PL} {pads : List Bytes} {after b : Bytes}
set_option maxRecDepth 20000 in
set_option maxHeartbeats 4000000 in
theorem well27 (h : BdV w cs ls ps pads after) (h1 : SmT ls) (h2 : SmP ps) (h3 : SmT pads) (hb : b.length ≤ 1048576) : Calls Tryz.prog 27 #[.agg cs, .string (str b)] w fun e w' => WellR w ls ps pads b e w' := by
  obtain ⟨al, cl, vp, ad, cd, aa, ca, rfl, k1, k2, k3, _, _⟩ := h.ex
  have hln : (ls.length : Int) ≤ 1048576 := by have := h1.1; omega
  have hpn : (pads.length : Int) ≤ 1048576 := by have := h3.1; omega
  have hka : Kp [] w (w.alloc (.cells #[.slice al ls.length cl, vp, .slice ad pads.length cd, .slice aa after.length ca] 48)) := (Kp.refl _ _).alloc _
  have hnew := Blk.new w #[.slice al ls.length cl, vp, .slice ad pads.length cd, .slice aa after.length ca] 48
  obtain ⟨wA, hwA⟩ : ∃ wA, w.alloc (.cells #[.slice al ls.length cl, vp, .slice ad pads.length cd, .slice aa after.length ca] 48) = wA := ⟨_, rfl⟩
  rw [hwA] at hka hnew
  have kc := hnew.cell
  obtain ⟨ap, cp, rfl⟩ := k2.shape
  have e1 : (⟨#[45, 45]⟩ : ByteArray) ++ str b = str (45 :: 45 :: b) := str_append [45, 45] b
  have HT1 := Lib.hid (k1.kp0 hka)
  have HT3 := Lib.hid (k3.kp0 hka)
  have HG := Lib.hid (good61 (k2.kp0 hka) h2 hb)
  have HKA := Lib.hid hka
  have HS1 := Lib.hid h1
  have HS3 := Lib.hid h3
  have HR0 : Hid (EachRel wA wA (LnOk b) ls (.int .i64 ((0 : Nat) : Int)) ls.length) := ⟨0, rfl, by omega, by simp, rfl⟩
  have HR1 : Hid (EachRel wA wA PdOk pads (.int .i64 ((0 : Nat) : Int)) pads.length) := ⟨0, rfl, by omega, by simp, rfl⟩
  clear h h1 h2 h3 k1 k2 k3 hka hnew
  go_enter Tryz.func27, Tryz.ntmps27
  go_wp2
  go_loopg [12] ls.length (fun q v12 wr => EachRel wA wr (LnOk b) ls v12 q)
  case atStart => exact HR0.out
  case round =>
    clear HR0
    obtain ⟨i, rfl, hq, hok, rfl⟩ := hrel
    by_cases hi : i < ls.length
    · have hi' : (i : Int) < (ls.length : Int) := by omega
      have hc1 := HT1.out.cell i hi
      have hx1 := HT1.out.ix cl i hi
      have hsl := HS1.out.2 _ (getD_mem hi)
      have HX := Lib.hid (And.intro hq (fun h => each_step hi hok h))
      have HMM : Hid (ls.length - (i + 1) < gk) := by show _ < _; omega
      clear hok hq HR1
      generalize ls.getD i [] = s at *
      have hpr := printable_any s wA (by omega)
      have hpf := strPrefix39_any s (45 :: 45 :: b) wA (by omega) (by simp; omega)
      by_cases h998 : 998 < s.length
      · have h998' : (998 : Int) < (s.length : Int) := by omega
        clear hpr hpf
        go_wp2
        go_ret
        exact ⟨false, rfl, by simp, HKA.out⟩
      · have h998' : ¬ (998 : Int) < (s.length : Int) := by omega
        cases hp : s.all printC with
        | false =>
          rw [hp] at hpr
          clear hpf
          go_wp2_with fail
          refine hpr.mono ?_
          rintro e w' ⟨rfl, rfl⟩
          go_wp2
          go_ret
          exact ⟨false, rfl, by simp, HKA.out⟩
        | true =>
          rw [hp] at hpr
          cases hx : (45 :: 45 :: b).isPrefixOf s with
          | true =>
            rw [hx] at hpf
            go_wp2_with fail
            refine hpr.mono ?_
            rintro e w' ⟨rfl, rfl⟩
            go_wp2_with fail
            refine hpf.mono ?_
            rintro e w' ⟨rfl, rfl⟩
            go_wp2
            go_ret
            exact ⟨false, rfl, by simp, HKA.out⟩
          | false =>
            rw [hx] at hpf
            have HREL : Hid (EachRel wA wA (LnOk b) ls (.int .i64 ((i : Int) + 1)) (ls.length - (i + 1))) := ⟨i + 1, by simp, by omega, HX.out.2 ⟨by omega, hp, hx⟩, rfl⟩
            go_wp2_with fail
            refine hpr.mono ?_
            rintro e w' ⟨rfl, rfl⟩
            go_wp2_with fail
            refine hpf.mono ?_
            rintro e w' ⟨rfl, rfl⟩
            go_wp2
            go_roundg (ls.length - (i + 1))
            case measure => exact HMM.out
            case rel => exact HREL.out
    · have hge : ¬ (i : Int) < (ls.length : Int) := by omega
      rw [List.take_of_length_le (by omega)] at hok
      have HLS := Lib.hid hok
      obtain ⟨gO, rfl⟩ : ∃ x, x = gk := ⟨_, rfl⟩
      clear hok hq
      go_wp2
      go_loopg [34] pads.length (fun q v34 wr => EachRel wA wr PdOk pads v34 q)
      case atStart => exact HR1.out
      case round =>
        clear HR1
        obtain ⟨j, rfl, hq, hok, rfl⟩ := hrel
        by_cases hj : j < pads.length
        · have hj' : (j : Int) < (pads.length : Int) := by omega
          have hc1 := HT3.out.cell j hj
          have hx1 := HT3.out.ix cd j hj
          have hsl := HS3.out.2 _ (getD_mem hj)
          have HX := Lib.hid (And.intro hq (fun h => each_step hj hok h))
          have HMM : Hid (pads.length - (j + 1) < gk) := by show _ < _; omega
          clear hok hq
          generalize pads.getD j [] = s at *
          have hbl := blanks_any s wA (by omega)
          by_cases h20 : 20 < s.length
          · have h20' : (20 : Int) < (s.length : Int) := by omega
            clear hbl
            go_wp2
            go_ret
            exact ⟨false, rfl, by simp, HKA.out⟩
          · have h20' : ¬ (20 : Int) < (s.length : Int) := by omega
            cases hp : s.all blankC with
            | false =>
              rw [hp] at hbl
              go_wp2_with fail
              refine hbl.mono ?_
              rintro e w' ⟨rfl, rfl⟩
              go_wp2
              go_ret
              exact ⟨false, rfl, by simp, HKA.out⟩
            | true =>
              rw [hp] at hbl
              have HREL : Hid (EachRel wA wA PdOk pads (.int .i64 ((j : Int) + 1)) (pads.length - (j + 1))) := ⟨j + 1, by simp, by omega, HX.out.2 ⟨by omega, hp⟩, rfl⟩
              go_wp2_with fail
              refine hbl.mono ?_
              rintro e w' ⟨rfl, rfl⟩
              go_wp2
              go_roundg (pads.length - (j + 1))
              case measure => exact HMM.out
              case rel => exact HREL.out
        · have hje : ¬ (j : Int) < (pads.length : Int) := by omega
          rw [List.take_of_length_le (by omega)] at hok
          have HPD := Lib.hid hok
          clear hok hq
          cases hps : ps with
          | nil =>
            rw [hps] at kc
            go_wp2
            go_ret
            exact ⟨false, rfl, by simp, HKA.out⟩
          | cons p0 r0 =>
            have hpos : (0 : Int) < (ps.length : Int) := by rw [hps]; simp
            have HNE : Hid (ps ≠ []) := by show _ ≠ _; rw [hps]; simp
            rw [← hps]
            have hgo := HG.out
            clear hps HG
            go_wp2_with fail
            refine hgo.mono ?_
            rintro e w1 ⟨r, rfl, hr, hk1⟩
            have HF : Hid (WellR w ls ps pads b (.returned (.bool r)) w1) := ⟨r, rfl, fun h => ⟨HLS.out, HPD.out, HNE.out, hr h⟩, HKA.out.trans hk1⟩
            clear hgo hr hk1
            go_wp2
            go_ret
            exact HF.out
end
end Go.Proofs.YtkbgnplknifmhaaGreatDoor
namespace Go.Proofs.YtkbgnplknifmhaaGreatDoor
open Go.RowKit
attribute [local go_sem ↓] Go.wp_at_zero Go.wp_at_succ
/-! ### spec.Body.pad (62), spec.HeadText (81), spec.PartText (63) -/
theorem ob_grow {w wr w' : World} {v : Value} {l : Bytes} (hob : OB wr w.heap.size v l) (hk : Kp [] w wr) (hg : wr.grownBy w' v.ownBlock) : Kp [] w w' :=
  hk.trans' ((Kp.refl v.ownBlock.toList wr).grown hg (by intro k hk; left; simp [hk])) (fun x hx => .inr (World.ownsRow.lt hob x (by simpa using hx)).1)
theorem OB.off {w : World} {base x : Nat} {v : Value} {l : Bytes} {cs : Array Value} {t : TypeId} (h : OB w base v l) (hB : Blk w x cs t) (ht : t ≠ 5) : v.ownBlock ≠ some x := by
  intro e
  rcases h.2 with ⟨rfl, _⟩ | ⟨g, cap, cur, rfl, hb, hg, _⟩
  · simp [Value.ownBlock] at e
  · simp [Value.ownBlock] at e
    subst e
    unfold Blk at hB
    rw [hB] at hg
    injection hg with hg
    injection hg with _ hg
    exact ht hg
theorem ob_blk {wr w' : World} {base x : Nat} {v : Value} {l : Bytes} {cs : Array Value} {t : TypeId} (hob : OB wr base v l) (hg : wr.grownBy w' v.ownBlock) (hB : Blk wr x cs t) (ht : t ≠ 5) : Blk w' x cs t :=
  hB.kp ((Kp.refl v.ownBlock.toList wr).grown hg (by intro k hk; left; simp [hk])) (fun e => hob.off hB ht (by simpa using e))
theorem ob_hb {w wr w' : World} {v : Value} {l m : Bytes} {a : Option Addr} (hob : OB wr w.heap.size v l) (hg : wr.grownBy w' v.ownBlock) (h : HB wr a m) (hlt : ∀ x, a = some x → x.block < w.heap.size) : HB w' a m :=
  h.kp ((Kp.refl v.ownBlock.toList wr).grown hg (by intro k hk; left; simp [hk])) (fun x hx e => by
    have h1 := (World.ownsRow.lt hob x.block (by simpa using e)).1
    have h2 := hlt x hx
    omega)
section
variable {w : World} {cs : Array Value} {ls : List Bytes} {ps : PL} {pads : List Bytes} {after : Bytes}
set_option maxHeartbeats 1000000 in
theorem pad62 (i : Nat) (h : BdV w cs ls ps pads after) (_hi : i ≤ 1048577) (_hp : pads.length ≤ 1048576) : Calls Tryz.prog 62 #[.agg cs, .int .i64 (i : Int)] w fun e w' => e = .returned (.string (str (padAt pads i))) ∧ Kp [] w w' := by
  obtain ⟨al, cl, vp, ad, cd, aa, ca, rfl, k1, k2, k3, _, _⟩ := h.ex
  have hka : Kp [] w (w.alloc (.cells #[.slice al ls.length cl, vp, .slice ad pads.length cd, .slice aa after.length ca] 48)) := (Kp.refl _ _).alloc _
  have hnew := Blk.new w #[.slice al ls.length cl, vp, .slice ad pads.length cd, .slice aa after.length ca] 48
  obtain ⟨wA, hwA⟩ : ∃ wA, w.alloc (.cells #[.slice al ls.length cl, vp, .slice ad pads.length cd, .slice aa after.length ca] 48) = wA := ⟨_, rfl⟩
  rw [hwA] at hka hnew
  have kc := hnew.cell
  obtain ⟨ap, cp, rfl⟩ := k2.shape
  have HK := Lib.hid hka
  have k3 := k3.kp0 hka
  by_cases hlt : i < pads.length
  · have hlt' : (i : Int) < (pads.length : Int) := by omega
    have hc1 := k3.cell i hlt
    have hx1 := k3.ix cd i hlt
    have HP : Hid (padAt pads i = pads.getD i []) := rfl
    clear h k1 k2 k3 hka hnew
    generalize pads.getD i [] = s at *
    go_enter Tryz.func62, Tryz.ntmps62
    go_wp2
    go_ret
    exact ⟨congrArg (fun l => Ending.returned (Value.string (str l))) HP.out.symm, HK.out⟩
  · have hlt' : ¬ (i : Int) < (pads.length : Int) := by omega
    have HP : Hid (padAt pads i = []) := by
      show _ = _
      unfold padAt
      rw [List.getD_eq_getElem?_getD, List.getElem?_eq_none (by omega)]; rfl
    clear h k1 k2 k3 hka hnew
    go_enter Tryz.func62, Tryz.ntmps62
    go_wp2
    go_ret
    exact ⟨congrArg (fun l => Ending.returned (Value.string (str l))) HP.out.symm, HK.out⟩
end
/-! #### The header's lines -/
def rawT (hs : HL) : Bytes := (rawL hs).flatMap (lineT [13, 10])
def valsT (k : Bytes) (vs : List Bytes) : Bytes := (vs.map fun v => (k, v)).flatMap (lineT [13, 10])
theorem rawT_take {hs : HL} {i : Nat} {p : Bytes × List Bytes} (h : hs[i]? = some p) : rawT (hs.take (i + 1)) = rawT (hs.take i) ++ valsT p.1 p.2 := by
  unfold rawT valsT
  rw [headT_take h, List.flatMap_append]
theorem rawT_le (hs : HL) (i : Nat) : (rawT (hs.take i)).length ≤ (rawT hs).length := by
  have e : rawL hs = rawL (hs.take i) ++ rawL (hs.drop i) := by
    unfold rawL
    rw [← List.flatMap_append, List.take_append_drop]
  unfold rawT
  rw [e, List.flatMap_append, List.length_append]
  omega
theorem valsT_take {k : Bytes} {vs : List Bytes} {j : Nat} (h : j < vs.length) : valsT k (vs.take (j + 1)) = valsT k (vs.take j) ++ (k ++ 58 :: 32 :: (vs.getD j [] ++ [13, 10])) := by
  unfold valsT
  rw [List.take_add_one, List.map_append, List.flatMap_append, List.getD_eq_getElem?_getD, List.getElem?_eq_getElem h]
  simp [lineT]
theorem valsT_le (k : Bytes) (vs : List Bytes) (j : Nat) : (valsT k (vs.take j)).length ≤ (valsT k vs).length := by
  have e : vs = vs.take j ++ vs.drop j := (List.take_append_drop j vs).symm
  unfold valsT
  conv => rhs; rw [e]
  rw [List.map_append, List.flatMap_append, List.length_append]
  omega
def HtRel (w wr : World) (hs : HL) (v3 v10 : Value) (q : Nat) : Prop := ∃ i : Nat, v10 = .int .i64 (i : Int) ∧ i + q = hs.length ∧ OB wr w.heap.size v3 (rawT (hs.take i)) ∧ Kp [] w wr
def HvRel (w wr : World) (x : Nat) (cs : Array Value) (pre k : Bytes) (vs : List Bytes) (v3 v17 : Value) (q : Nat) : Prop :=
  ∃ j : Nat, v17 = .int .i64 (j : Int) ∧ j + q = vs.length ∧ OB wr w.heap.size v3 (pre ++ valsT k (vs.take j)) ∧ Kp [] w wr ∧ Blk wr x cs 43
def HtR (w : World) (l : Bytes) (e : Ending) (w' : World) : Prop := ∃ v', e = .returned v' ∧ OB w' w.heap.size v' l ∧ Kp [] w w'
section
variable {w : World} {v : Value}
set_option maxRecDepth 20000 in
set_option maxHeartbeats 4000000 in
theorem headText81 {hs : HL} (h : HVa w v hs) (hv : SmH hs) (hlen : (rawT hs).length ≤ 1000000000) : Calls Tryz.prog 81 #[v] w fun e w' => HtR w (headT [13, 10] hs) e w' := by
  obtain ⟨a, c, rfl⟩ := h.shape
  have hn : (hs.length : Int) ≤ 1048576 := by have := hv.1; omega
  have HA := Lib.hid h
  have HV := Lib.hid hv
  have HL := Lib.hid hlen
  have HR0 : Hid (HtRel w w hs (.slice none 0 0) (.int .i64 ((0 : Nat) : Int)) hs.length) := ⟨0, rfl, by omega, OB.nil _ _, Kp.refl _ _⟩
  have e2 : (⟨#[58, 32]⟩ : ByteArray) = str [58, 32] := rfl
  have e3 : (⟨#[13, 10]⟩ : ByteArray) = str [13, 10] := rfl
  clear h hv hlen
  go_enter Tryz.func81, Tryz.ntmps81
  go_wp2
  go_loopg [3, 10] hs.length (fun q v3 v10 wr => HtRel w wr hs v3 v10 q)
  case atStart => exact HR0.out
  case round =>
    clear HR0
    obtain ⟨wO, rfl⟩ : ∃ x, x = wr := ⟨_, rfl⟩
    obtain ⟨gO, rfl⟩ : ∃ x, x = gk := ⟨_, rfl⟩
    obtain ⟨i, rfl, hq, hob, hk⟩ := hrel
    by_cases hi : i < hs.length
    · have hi' : (i : Int) < (hs.length : Int) := by omega
      obtain ⟨p, hp⟩ : ∃ p, hs[i]? = some p := ⟨_, List.getElem?_eq_getElem hi⟩
      rcases HA.out.ex with ⟨e0, _⟩ | ⟨g, o, c0, e0, hlc, hc⟩
      · rw [e0] at hi; simp at hi
      injection e0 with x1 x2 x3
      subst x1; subst x3
      obtain ⟨a', c', hc1, hc2, hc3, _⟩ := hc i p hp
      replace hc1 : wO.cell? ⟨g, o + i * 2, none⟩ = some (.string (str p.1)) := hk.rc hc1
      replace hc2 := hk.rc hc2
      have hix := fun w => ix27o g o hs.length c w i hi
      have hka : Kp [] wO (wO.alloc (.cells #[.string (str p.1), .slice a' p.2.length c'] 43)) := (Kp.refl _ _).alloc _
      have hnew := Blk.new wO #[.string (str p.1), .slice a' p.2.length c'] 43
      obtain ⟨wA, hwA⟩ : ∃ wA, wO.alloc (.cells #[.string (str p.1), .slice a' p.2.length c'] 43) = wA := ⟨_, rfl⟩
      rw [hwA] at hka hnew
      have hps := HV.out.2 p (List.mem_of_getElem? hp)
      have kc0 := hnew.cell
      have HT := Lib.hid hc3
      have HR1 : Hid (HvRel w wA wO.heap.size #[.string (str p.1), .slice a' p.2.length c'] (rawT (hs.take i)) p.1 p.2 u3 (.int .i64 ((0 : Nat) : Int)) p.2.length) :=
        ⟨0, rfl, by omega, by simpa [valsT] using hob.kp hka (by simp), hk.trans hka, hnew⟩
      have htot : (rawT (hs.take i)).length + (valsT p.1 p.2).length ≤ 1000000000 := by
        have h1 := rawT_le hs (i + 1)
        rw [rawT_take hp, List.length_append] at h1
        have := HL.out
        omega
      have HX := Lib.hid (And.intro hq (And.intro hps (And.intro (rawT_take hp) (And.intro htot hk.size))))
      have HKA := Lib.hid (hk.trans hka)
      clear hk hq hob hc hc3 hp hka hps hnew x2 hlc htot
      go_wp2
      go_loopg [3, 17] p.2.length (fun q v3 v17 wr => HvRel w wr wO.heap.size #[.string (str p.1), .slice a' p.2.length c'] (rawT (hs.take i)) p.1 p.2 v3 v17 q)
      case atStart => exact HR1.out
      case round =>
        clear HR1
        obtain ⟨j, rfl, hq2, hob, hk, hnb⟩ := hrel
        by_cases hj : j < p.2.length
        · have hj' : (j : Int) < (p.2.length : Int) := by omega
          have hT := HT.out.kp0 hk
          have hcv := hT.cell j hj
          have hxv := hT.ix c' j hj
          have hyl := HX.out.2.1.2.2 _ (getD_mem hj)
          have hpl := HX.out.2.1.1
          have hvl := HX.out.2.1.2.1
          have htt := valsT_take (k := p.1) hj
          have hbd : (rawT (hs.take i) ++ valsT p.1 (p.2.take j)).length ≤ 1000000000 := by
            have h1 := valsT_le p.1 p.2 j
            have := HX.out.2.2.2.1
            rw [List.length_append]
            omega
          have kc := hnb.cell
          have HY := Lib.hid (And.intro hob (And.intro hk (And.intro hnb (And.intro htt (And.intro hk.size hq2)))))
          clear hT hob hk hnb htt hq2 hc1 hc2 hix kc0
          generalize p.2.getD j [] = y at *
          go_wp2_with (at_builtin; refine wpList_append_OBs rfl (.tmp 21) (.tmp 27) rfl w.heap.size u3 (rawT (hs.take i) ++ valsT p.1 (p.2.take j)) rfl HY.out.1 (p.1 ++ 58 :: 32 :: (y ++ [13, 10])) rfl (by simp at hbd ⊢; omega) HY.out.2.2.2.2.1 ?_; intro v' w2 hown2 hg2)
          have HREL : Hid (HvRel w w2 wO.heap.size #[.string (str p.1), .slice a' p.2.length c'] (rawT (hs.take i)) p.1 p.2 v' (.int .i64 ((j : Int) + 1)) (p.2.length - (j + 1))) := by
            obtain ⟨h1, h2, h3, h4, h5, h6⟩ := HY.out
            exact ⟨j + 1, by simp, by omega, by rw [h4, ← List.append_assoc]; exact hown2, ob_grow h1 h2 hg2, ob_blk h1 hg2 h3 (by decide)⟩
          have HMM : Hid (p.2.length - (j + 1) < gk) := by have := HY.out.2.2.2.2.2; show _ < _; omega
          clear hown2 hg2 HY
          go_wp2
          go_roundg (p.2.length - (j + 1))
          case measure => exact HMM.out
          case rel => exact HREL.out
        · have hje : ¬ (j : Int) < (p.2.length : Int) := by omega
          have etk : p.2.take j = p.2 := List.take_of_length_le (by omega)
          rw [etk] at hob
          clear etk
          have HREL : Hid (HtRel w wr hs u3 (.int .i64 ((i : Int) + 1)) (hs.length - (i + 1))) := by
            have h1 := HX.out.1
            exact ⟨i + 1, by simp, by omega, by rw [HX.out.2.2.1]; exact hob, hk⟩
          have HMM : Hid (hs.length - (i + 1) < gO) := by have := HX.out.1; show _ < _; omega
          clear hob hk hnb hq2 hc1 hc2 hix kc0
          go_wp2
          go_roundg (hs.length - (i + 1))
          case measure => exact HMM.out
          case rel => exact HREL.out
    · have hge : ¬ (i : Int) < (hs.length : Int) := by omega
      rw [List.take_of_length_le (by omega)] at hob
      have HF := Lib.hid (And.intro hob (And.intro hk hk.size))
      have hle := HL.out
      clear hq hk hob
      go_wp2_with (at_builtin; refine wpList_append_OBs rfl (.tmp 31) (.const (.string ⟨#[13, 10]⟩)) rfl w.heap.size u3 (rawT hs) rfl HF.out.1 [13, 10] rfl (by simp; omega) HF.out.2.2 ?_; intro v' w2 hown2 hg2)
      have HFIN : Hid (HtR w (headT [13, 10] hs) (.returned v') w2) := ⟨v', rfl, hown2, ob_grow HF.out.1 HF.out.2.1 hg2⟩
      clear hown2 hg2
      go_wp2
      go_ret
      exact HFIN.out
end
end Go.Proofs.YtkbgnplknifmhaaGreatDoor
namespace Go.Proofs.YtkbgnplknifmhaaGreatDoor
open Go.RowKit
attribute [local go_sem ↓] Go.wp_at_zero Go.wp_at_succ
/-! ### spec.PartText (63), spec.Body.Text (28) -/
section
variable {w : World}
set_option maxRecDepth 20000 in
set_option maxHeartbeats 2000000 in
theorem partText63 {a1 a2 : Option Addr} {c1 c2 : Nat} {p : HL × Bytes} (h : HVa w (.slice a1 p.1.length c1) p.1) (hv : SmH p.1) (hlen : (rawT p.1).length ≤ 1000000000) (hb : HB w a2 p.2) (hbl : p.2.length ≤ 1048576) (hnone : a2 = none → c2 = 0) :
    Calls Tryz.prog 63 #[.agg #[.slice a1 p.1.length c1, .slice a2 p.2.length c2]] w fun e w' => HtR w (partT [13, 10] p) e w' := by
  have hka : Kp [] w (w.alloc (.cells #[.slice a1 p.1.length c1, .slice a2 p.2.length c2] 29)) := (Kp.refl _ _).alloc _
  have hnew := Blk.new w #[.slice a1 p.1.length c1, .slice a2 p.2.length c2] 29
  obtain ⟨wA, hwA⟩ : ∃ wA, w.alloc (.cells #[.slice a1 p.1.length c1, .slice a2 p.2.length c2] 29) = wA := ⟨_, rfl⟩
  rw [hwA] at hka hnew
  have hkd : Kp [] wA wA.drew := (Kp.refl _ _).drew
  have kc := (hnew.kp hkd (by simp)).cell
  have hcon := headText81 ((h.kp0 hka).kp0 hkd) hv hlen
  have hle : (headT [13, 10] p.1).length ≤ 1000000002 := by
    unfold headT
    unfold rawT at hlen
    simp only [List.length_append, List.length_cons, List.length_nil]
    omega
  have HX := Lib.hid (And.intro hnew (And.intro (hka.trans hkd) (And.intro hb hkd)))
  clear h hv hlen hb hka hnew hkd
  go_enter Tryz.func63, Tryz.ntmps63
  go_wp2
  go_region_law (first | (refine step_append_OB rfl (.tmp 5) (.tmp 7) rfl w.heap.size v5 (headT [13, 10] p.1) rfl HOB.out a2 p.2.length c2 p.2 rfl HHB.out rfl hnone (by omega) HSZ.out ?_; intro v6 w6 hob6 hg6 hn6; have HOUT : Hid (HtR w (headT [13, 10] p.1 ++ p.2) (.returned v6) w6) := ⟨v6, rfl, hob6, ob_grow HOB.out HKW.out hg6⟩; clear hob6 hg6 hn6) | (go_simp; go_at_call 81; refine hcon.mono ?_; rintro e w5 ⟨v5, rfl, hob5, hk5⟩; have HKW : Hid (Kp [] w w5) := HX.out.2.1.trans hk5; have HOB : Hid (OB w5 w.heap.size v5 (headT [13, 10] p.1)) := hob5.base HX.out.2.1.size; have HHB : Hid (HB w5 a2 p.2) := (HX.out.2.2.1).kp HKW.out (by simp); have HSZ : Hid (w.heap.size ≤ w5.heap.size) := HKW.out.size; have kc5 := ((HX.out.1.kp HX.out.2.2.2 (by simp)).kp hk5 (by simp)).cell; clear hob5 hk5))
  all_goals
    go_wp2_with fail
    go_ret
    exact HOUT.out
end
end Go.Proofs.YtkbgnplknifmhaaGreatDoor
namespace Go.Proofs.YtkbgnplknifmhaaGreatDoor
open Go.RowKit
attribute [local go_sem ↓] Go.wp_at_zero Go.wp_at_succ
/-! ### spec.Body.Text (28) -/
theorem linesT_le (nl : Bytes) (ls : List Bytes) (i : Nat) : (linesT nl (ls.take i)).length ≤ (linesT nl ls).length := by
  have e : ls = ls.take i ++ ls.drop i := (List.take_append_drop i ls).symm
  unfold linesT
  conv => rhs; rw [e]
  rw [List.flatMap_append, List.length_append]
  omega
theorem bodyT_app {b : Bytes} {pads : List Bytes} : ∀ (l m : PL) (j : Nat), bodyT b pads j (l ++ m) = bodyT b pads j l ++ bodyT b pads (j + l.length) m
  | [], m, j => by simp [bodyT]
  | q :: l, m, j => by
    rw [List.cons_append, bodyT, bodyT_app l m (j + 1), bodyT, List.append_assoc, List.length_cons, show j + 1 + l.length = j + (l.length + 1) from by omega]
theorem bodyT_le (b : Bytes) (pads : List Bytes) (ps : PL) (i : Nat) : (bodyT b pads 0 (ps.take i)).length ≤ (bodyT b pads 0 ps).length := by
  have e : ps = ps.take i ++ ps.drop i := (List.take_append_drop i ps).symm
  conv => rhs; rw [e]
  rw [bodyT_app, List.length_append]
  omega
theorem padAt_le {pads : List Bytes} (h : SmT pads) (i : Nat) : (padAt pads i).length ≤ 1048576 := by
  unfold padAt
  by_cases hi : i < pads.length
  · exact h.2 _ (getD_mem hi)
  · rw [List.getD_eq_getElem?_getD, List.getElem?_eq_none (by omega)]; exact Nat.zero_le _
def sepT (i : Nat) : Bytes := if 0 < i then [13, 10] else []
def TlRel (w wr : World) (x : Nat) (cs : Array Value) (ls : List Bytes) (v5 v13 : Value) (q : Nat) : Prop := ∃ i : Nat, v13 = .int .i64 (i : Int) ∧ i + q = ls.length ∧ OB wr w.heap.size v5 (linesT [13, 10] (ls.take i)) ∧ Kp [] w wr ∧ Blk wr x cs 48
def TpRel (w wr : World) (x : Nat) (cs : Array Value) (pre b : Bytes) (pads : List Bytes) (ps : PL) (v5 v25 : Value) (q : Nat) : Prop :=
  ∃ i : Nat, v25 = .int .i64 (i : Int) ∧ i + q = ps.length ∧ OB wr w.heap.size v5 (pre ++ bodyT b pads 0 (ps.take i)) ∧ Kp [] w wr ∧ Blk wr x cs 48
def TcCut (w wx : World) (x y : Nat) (cs ds : Array Value) (pre : Bytes) (i : Nat) (v5 : Value) : Prop := OB wx w.heap.size v5 (pre ++ sepT i) ∧ Kp [] w wx ∧ Blk wx x cs 48 ∧ Blk wx y ds 29
section
variable {w : World} {cs : Array Value} {ls : List Bytes} {ps : PL} {pads : List Bytes} {after b : Bytes}
set_option maxRecDepth 20000 in
set_option maxHeartbeats 8000000 in
theorem text28 (h : BdV w cs ls ps pads after) (h1 : SmT ls) (h2 : SmP ps) (h3 : SmT pads) (h4 : after.length ≤ 1048576) (hb : b.length ≤ 1048576)
    (htot : (linesT [13, 10] ls).length + (bodyT b pads 0 ps).length ≤ 900000000) : Calls Tryz.prog 28 #[.agg cs, .string (str b)] w fun e w' => HtR w (linesT [13, 10] ls ++ bodyT b pads 0 ps ++ finT b pads after ps.length) e w' := by
  obtain ⟨al, cl, vp, ad, cd, aa, ca, rfl, k1, k2, k3, k4, k5, k6⟩ := h.ex
  have hln : (ls.length : Int) ≤ 1048576 := by have := h1.1; omega
  have hpn : (ps.length : Int) ≤ 1048576 := by have := h2.1; omega
  obtain ⟨ap, cp, rfl⟩ := k2.shape
  have hka : Kp [] w (w.alloc (.cells #[.slice al ls.length cl, .slice ap ps.length cp, .slice ad pads.length cd, .slice aa after.length ca] 48)) := (Kp.refl _ _).alloc _
  have hnew := Blk.new w #[.slice al ls.length cl, .slice ap ps.length cp, .slice ad pads.length cd, .slice aa after.length ca] 48
  obtain ⟨wA, hwA⟩ : ∃ wA, w.alloc (.cells #[.slice al ls.length cl, .slice ap ps.length cp, .slice ad pads.length cd, .slice aa after.length ca] 48) = wA := ⟨_, rfl⟩
  rw [hwA] at hka hnew
  have e0 : (⟨#[45, 45]⟩ : ByteArray) = str [45, 45] := rfl
  have e1 : (⟨#[13, 10]⟩ : ByteArray) = str [13, 10] := rfl
  have e2 : (⟨#[13, 10, 45, 45]⟩ : ByteArray) = str [13, 10, 45, 45] := rfl
  have kc := hnew.cell
  have HBD := Lib.hid h
  have HT1 := Lib.hid k1
  have HT2 := Lib.hid k2
  have HAF := Lib.hid (And.intro k4 (And.intro k5 k6))
  have HS := Lib.hid (And.intro h1 (And.intro h2 (And.intro h3 (And.intro h4 htot))))
  have HR0 : Hid (TlRel w wA w.heap.size #[.slice al ls.length cl, .slice ap ps.length cp, .slice ad pads.length cd, .slice aa after.length ca] ls (.slice none 0 0) (.int .i64 ((0 : Nat) : Int)) ls.length) := ⟨0, rfl, by omega, OB.nil _ _, hka, hnew⟩
  clear h h1 h2 h3 h4 k1 k2 k3 k4 k5 k6 hka hnew htot
  go_enter Tryz.func28, Tryz.ntmps28
  go_wp2
  clear kc
  go_loopg [5, 13] ls.length (fun q v5 v13 wr => TlRel w wr w.heap.size #[.slice al ls.length cl, .slice ap ps.length cp, .slice ad pads.length cd, .slice aa after.length ca] ls v5 v13 q)
  case atStart => exact HR0.out
  case round =>
    clear HR0
    obtain ⟨i, rfl, hq, hob, hk, hnb⟩ := hrel
    by_cases hi : i < ls.length
    · have hi' : (i : Int) < (ls.length : Int) := by omega
      have hT := HT1.out.kp0 hk
      have hcv := hT.cell i hi
      have hxv := hT.ix cl i hi
      have hyl := HS.out.1.2 _ (getD_mem hi)
      have htt := linesT_take (nl := [13, 10]) hi
      have hbd := linesT_le [13, 10] ls i
      have hto := HS.out.2.2.2.2
      have HY := Lib.hid (And.intro hob (And.intro hk (And.intro hnb (And.intro htt (And.intro hk.size hq)))))
      clear hT hob hk hnb htt hq
      generalize ls.getD i [] = y at *
      go_wp2_with (at_builtin; refine wpList_append_OBs rfl (.tmp 17) (.tmp 19) rfl w.heap.size u5 (linesT [13, 10] (ls.take i)) rfl HY.out.1 (y ++ [13, 10]) rfl (by simp; omega) HY.out.2.2.2.2.1 ?_; intro v' w2 hown2 hg2)
      have HREL : Hid (TlRel w w2 w.heap.size #[.slice al ls.length cl, .slice ap ps.length cp, .slice ad pads.length cd, .slice aa after.length ca] ls v' (.int .i64 ((i : Int) + 1)) (ls.length - (i + 1))) := by
        obtain ⟨h1, h2, h3, h4, h5, h6⟩ := HY.out
        exact ⟨i + 1, by simp, by omega, by rw [h4]; exact hown2, ob_grow h1 h2 hg2, ob_blk h1 hg2 h3 (by decide)⟩
      have HMM : Hid (ls.length - (i + 1) < gk) := by have := HY.out.2.2.2.2.2; show _ < _; omega
      clear hown2 hg2 HY
      go_wp2
      go_roundg (ls.length - (i + 1))
      case measure => exact HMM.out
      case rel => exact HREL.out
    · have hge : ¬ (i : Int) < (ls.length : Int) := by omega
      have etk : ls.take i = ls := List.take_of_length_le (by omega)
      rw [etk] at hob
      obtain ⟨gO, rfl⟩ : ∃ x, x = gk := ⟨_, rfl⟩
      obtain ⟨wO, rfl⟩ : ∃ x, x = wr := ⟨_, rfl⟩
      have HR1 : Hid (TpRel w wO w.heap.size #[.slice al ls.length cl, .slice ap ps.length cp, .slice ad pads.length cd, .slice aa after.length ca] (linesT [13, 10] ls) b pads ps u5 (.int .i64 ((0 : Nat) : Int)) ps.length) :=
        ⟨0, rfl, by omega, by simpa [bodyT] using hob, hk, hnb⟩
      have kc := hnb.cell
      clear etk hob hk hnb hq
      go_wp2
      clear kc
      go_loopg [5, 25] ps.length (fun q v5 v25 wr => TpRel w wr w.heap.size #[.slice al ls.length cl, .slice ap ps.length cp, .slice ad pads.length cd, .slice aa after.length ca] (linesT [13, 10] ls) b pads ps v5 v25 q)
      case atStart => exact HR1.out
      case round =>
        clear HR1
        obtain ⟨j, rfl, hq, hob, hk, hnb⟩ := hrel
        have kc := hnb.cell
        by_cases hj : j < ps.length
        · have hj' : (j : Int) < (ps.length : Int) := by omega
          obtain ⟨p, hp⟩ : ∃ p, ps[j]? = some p := ⟨_, List.getElem?_eq_getElem hj⟩
          rcases HT2.out.ex with ⟨e0', _⟩ | ⟨g, o, c0, e0', hc⟩
          · rw [e0'] at hj; simp at hj
          injection e0' with x1 x2 x3
          subst x1; subst x3
          obtain ⟨a1, c1, a2, c2, hc1, hc2, hc3, hc4, hc5, hc6⟩ := hc j p hp
          replace hc1 := hk.rc hc1
          replace hc2 := hk.rc hc2
          have hix := fun w => ix24o g o ps.length cp w j hj
          have hka : Kp [] wr (wr.alloc (.cells #[.slice a1 p.1.length c1, .slice a2 p.2.length c2] 29)) := (Kp.refl _ _).alloc _
          have hny := Blk.new wr #[.slice a1 p.1.length c1, .slice a2 p.2.length c2] 29
          obtain ⟨wB, hwB⟩ : ∃ wB, wr.alloc (.cells #[.slice a1 p.1.length c1, .slice a2 p.2.length c2] 29) = wB := ⟨_, rfl⟩
          rw [hwB] at hka hny
          have hps := HS.out.2.1.2 p (List.mem_of_getElem? hp)
          have htk := bodyT_take (b := b) (pads := pads) hp
          have hbd : (linesT [13, 10] ls).length + ((bodyT b pads 0 (ps.take j)).length + (pieceT b pads j p).length) ≤ 900000000 := by
            have h1 := bodyT_le b pads ps (j + 1)
            rw [htk, List.length_append] at h1
            have := HS.out.2.2.2.2
            omega
          have hpl := padAt_le HS.out.2.2.1 j
          have hraw : (rawT p.1).length + p.2.length + 2 ≤ (pieceT b pads j p).length := by
            unfold pieceT partT headT rawT
            simp only [List.length_append, List.length_cons, List.length_nil]
            omega
          have HX := Lib.hid (And.intro hq (And.intro hps (And.intro htk (And.intro hbd (And.intro hc3 (And.intro hc4 (And.intro hc6 hraw)))))))
          have HC0 : Hid (OB wB w.heap.size u5 (linesT [13, 10] ls ++ bodyT b pads 0 (ps.take j)) ∧ Kp [] w wB ∧ Blk wB w.heap.size #[.slice al ls.length cl, .slice (some ⟨g, o, none⟩) ps.length cp, .slice ad pads.length cd, .slice aa after.length ca] 48 ∧ Blk wB wr.heap.size #[.slice a1 p.1.length c1, .slice a2 p.2.length c2] 29) := ⟨hob.kp hka (by simp), hk.trans hka, hnb.kp hka (by simp), hny⟩
          have hpiece : pieceT b pads j p = sepT j ++ (45 :: 45 :: (b ++ (padAt pads j ++ [13, 10]))) ++ partT [13, 10] p := by
            unfold pieceT sepT dlm
            simp
          have HPC := Lib.hid hpiece
          clear hq hob hk hnb hc hc3 hc4 hp hka hny hps htk hbd x2 hraw hpiece
          go_upto_if 31 with (fail)
          go_cut [5, 31] from 32 to 33 (fun v5 v31 wx => TcCut w wx w.heap.size wr.heap.size #[.slice al ls.length cl, .slice (some ⟨g, o, none⟩) ps.length cp, .slice ad pads.length cd, .slice aa after.length ca] #[.slice a1 p.1.length c1, .slice a2 p.2.length c2] (linesT [13, 10] ls ++ bodyT b pads 0 (ps.take j)) j v5)
          case first =>
            clear hpl kc
            by_cases h0 : 0 < j
            · have h0' : (0 : Int) < (j : Int) := by omega
              have HSP : Hid (sepT j = [13, 10]) := if_pos h0
              have HZ : Hid (w.heap.size ≤ wB.heap.size) := HC0.out.2.1.size
              have hbd : (linesT [13, 10] ls ++ bodyT b pads 0 (ps.take j)).length ≤ 900000000 := by
                have := HX.out.2.2.2.1
                rw [List.length_append]; omega
              clear h0
              go_wp2_with (at_builtin
                           refine wpList_append_OBs rfl (.tmp 32) (.const (.string ⟨#[13, 10]⟩)) rfl w.heap.size u5 (linesT [13, 10] ls ++ bodyT b pads 0 (ps.take j)) rfl HC0.out.1 [13, 10] rfl (by simp at hbd ⊢; omega) HZ.out ?_
                           intro v' w2 ho2 hg2
                           have HC : Hid (TcCut w w2 w.heap.size wr.heap.size #[.slice al ls.length cl, .slice (some ⟨g, o, none⟩) ps.length cp, .slice ad pads.length cd, .slice aa after.length ca] #[.slice a1 p.1.length c1, .slice a2 p.2.length c2] (linesT [13, 10] ls ++ bodyT b pads 0 (ps.take j)) j v') := ⟨by rw [HSP.out]; exact ho2, ob_grow HC0.out.1 HC0.out.2.1 hg2, ob_blk HC0.out.1 hg2 HC0.out.2.2.1 (by decide), ob_blk HC0.out.1 hg2 HC0.out.2.2.2 (by decide)⟩
                           clear ho2 hg2)
              go_meet
              exact HC.out
            · have h0' : ¬ (0 : Int) < (j : Int) := by omega
              have HSP : Hid (sepT j = []) := if_neg h0
              clear h0
              go_wp2
              go_meet
              exact ⟨by rw [HSP.out, List.append_nil]; exact HC0.out.1, HC0.out.2⟩
          case rest =>
            rename_i wq
            obtain ⟨hob, hk, hnb, hny⟩ := hcut
            have kx := hnb.cell
            have hpad := pad62 j (HBD.out.kp0 hk) (by omega) (HS.out.2.2.1.1)
            have hbd : (linesT [13, 10] ls).length + ((bodyT b pads 0 (ps.take j)).length + (sepT j ++ (45 :: 45 :: (b ++ (padAt pads j ++ [13, 10]))) ++ partT [13, 10] p).length) ≤ 900000000 := by
              rw [← HPC.out]; exact HX.out.2.2.2.1
            have hrw : (rawT p.1).length ≤ 1000000000 := by have h1 := HX.out.2.2.2.1; have h2 := HX.out.2.2.2.2.2.2.2; omega
            have HBDD := Lib.hid hbd
            have HRW := Lib.hid hrw
            have HTK : Hid (bodyT b pads 0 (ps.take (j + 1)) = bodyT b pads 0 (ps.take j) ++ (sepT j ++ (45 :: 45 :: (b ++ (padAt pads j ++ [13, 10]))) ++ partT [13, 10] p)) := by
              show _ = _
              rw [HX.out.2.2.1, HPC.out]
            have HY := Lib.hid (And.intro hob (And.intro hk (And.intro hnb hny)))
            clear hob hk hnb hny hc1 hc2 hix hbd hrw kc HPC
            generalize padAt pads j = pd at *
            go_wp2_with fail
            refine hpad.mono ?_
            rintro e w3 ⟨rfl, hk3⟩
            have HOB : Hid (OB w3 w.heap.size u5 (linesT [13, 10] ls ++ bodyT b pads 0 (ps.take j) ++ sepT j)) := HY.out.1.kp hk3 (by simp)
            have HKW : Hid (Kp [] w w3) := HY.out.2.1.trans hk3
            have HSZ : Hid (w.heap.size ≤ w3.heap.size) := HKW.out.size
            have HBX := Lib.hid (HY.out.2.2.1.kp hk3 (by simp))
            have HBY := Lib.hid (HY.out.2.2.2.kp hk3 (by simp))
            clear hpad hk3 kx
            have hbd := HBDD.out
            simp only [List.length_append, List.length_cons, List.length_nil] at hbd
            go_wp2_with (at_builtin
                         refine wpList_append_OBs rfl (.tmp 34) (.tmp 41) rfl w.heap.size u5 (linesT [13, 10] ls ++ bodyT b pads 0 (ps.take j) ++ sepT j) rfl HOB.out (45 :: 45 :: (b ++ (pd ++ [13, 10]))) rfl (by simp; omega) HSZ.out ?_
                         intro v4 w4 hown4 hg4
                         have HO4 := Lib.hid hown4
                         have HK4 := Lib.hid (ob_grow HOB.out HKW.out hg4)
                         have HBX4 := Lib.hid (ob_blk HOB.out hg4 HBX.out (by decide))
                         have HBY4 := Lib.hid (ob_blk HOB.out hg4 HBY.out (by decide))
                         have ky4 := HBY4.out.cell
                         clear hown4 hg4)
            have hpt := partText63 (HX.out.2.2.2.2.1.kp0 HK4.out) HX.out.2.1.1 HRW.out (HX.out.2.2.2.2.2.1.kp HK4.out (by simp)) HX.out.2.1.2 HX.out.2.2.2.2.2.2.1
            refine hpt.mono ?_
            rintro e w5 ⟨v5', rfl, hob5, hk5⟩
            obtain ⟨a5, c5, rfl, hhb5, hn5, _⟩ := hob5.bvw.ex
            have HO5 : Hid (OB w5 w.heap.size v4 (linesT [13, 10] ls ++ bodyT b pads 0 (ps.take j) ++ sepT j ++ 45 :: 45 :: (b ++ (pd ++ [13, 10])))) := HO4.out.kp hk5 (by simp)
            have HK5 : Hid (Kp [] w w5) := HK4.out.trans hk5
            have HZ5 : Hid (w.heap.size ≤ w5.heap.size) := HK5.out.size
            have HBX5 := Lib.hid (HBX4.out.kp hk5 (by simp))
            have HHB5 := Lib.hid hhb5
            have hle : (linesT [13, 10] ls ++ bodyT b pads 0 (ps.take j) ++ sepT j ++ 45 :: 45 :: (b ++ (pd ++ [13, 10]))).length + (partT [13, 10] p).length ≤ 140737488355328 := by
              simp only [List.length_append, List.length_cons, List.length_nil]
              omega
            clear hpt hk5 hob5 ky4 hhb5 hbd
            generalize hplen : (partT [13, 10] p).length = pl at hle ⊢
            have HPL := Lib.hid hplen
            clear hplen
            go_wp2_with (at_builtin
                         refine wpList_append_OB rfl (.tmp 43) (.tmp 45) rfl w.heap.size v4 (linesT [13, 10] ls ++ bodyT b pads 0 (ps.take j) ++ sepT j ++ 45 :: 45 :: (b ++ (pd ++ [13, 10]))) rfl HO5.out a5 pl c5 (partT [13, 10] p) rfl HHB5.out HPL.out.symm hn5 hle HZ5.out ?_
                         intro v6 w6 hown6 hg6 hn6
                         have HREL : Hid (TpRel w w6 w.heap.size #[.slice al ls.length cl, .slice (some ⟨g, o, none⟩) ps.length cp, .slice ad pads.length cd, .slice aa after.length ca] (linesT [13, 10] ls) b pads ps v6 (.int .i64 ((j : Int) + 1)) (ps.length - (j + 1))) := by
                           have h1 := HX.out.1
                           refine ⟨j + 1, by simp, by omega, ?_, ob_grow HO5.out HK5.out hg6, ob_blk HO5.out hg6 HBX5.out (by decide)⟩
                           rw [HTK.out]
                           simpa only [List.append_assoc, List.cons_append] using hown6
                         clear hown6 hg6 hn6)
            have HMM : Hid (ps.length - (j + 1) < gk) := by have := HX.out.1; show _ < _; omega
            go_roundg (ps.length - (j + 1))
            case measure => exact HMM.out
            case rel => exact HREL.out
        · have hje : ¬ (j : Int) < (ps.length : Int) := by omega
          have etk : ps.take j = ps := List.take_of_length_le (by omega)
          rw [etk] at hob
          have hpad := pad62 ps.length (HBD.out.kp0 hk) (by omega) (HS.out.2.2.1.1)
          have hpl := padAt_le HS.out.2.2.1 ps.length
          have hto := HS.out.2.2.2.2
          have HX := Lib.hid (And.intro hob (And.intro hk hnb))
          have HPD : Hid (padAt pads ps.length = padAt pads ps.length) := rfl
          have HOUT : Hid (∀ v' w', OB w' w.heap.size v' (linesT [13, 10] ls ++ bodyT b pads 0 ps ++ (13 :: 10 :: 45 :: 45 :: (b ++ 45 :: 45 :: (padAt pads ps.length ++ [13, 10]))) ++ after) → Kp [] w w' → HtR w (linesT [13, 10] ls ++ bodyT b pads 0 ps ++ finT b pads after ps.length) (.returned v') w') := by
            intro v' w' h1 h2
            refine ⟨v', rfl, ?_, h2⟩
            have e : linesT [13, 10] ls ++ bodyT b pads 0 ps ++ finT b pads after ps.length = linesT [13, 10] ls ++ bodyT b pads 0 ps ++ (13 :: 10 :: 45 :: 45 :: (b ++ 45 :: 45 :: (padAt pads ps.length ++ [13, 10]))) ++ after := by
              unfold finT dlm
              simp
            rw [e]; exact h1
          clear etk hob hk hnb hq HPD
          generalize padAt pads ps.length = pd at *
          go_wp2_with fail
          refine hpad.mono ?_
          rintro e w3 ⟨rfl, hk3⟩
          have hbk3 := HX.out.2.2.kp hk3 (by simp)
          have HOB : Hid (OB w3 w.heap.size u5 (linesT [13, 10] ls ++ bodyT b pads 0 ps)) := HX.out.1.kp hk3 (by simp)
          have HKW : Hid (Kp [] w w3) := HX.out.2.1.trans hk3
          have HSZ : Hid (w.heap.size ≤ w3.heap.size) := HKW.out.size
          have HBK := Lib.hid hbk3
          clear hpad hk3 hbk3 HX kc
          have hal := HS.out.2.2.2.1
          go_wp2_with (at_builtin; first
            | (refine wpList_append_OBs rfl (.tmp 48) (.tmp 58) rfl w.heap.size u5 (linesT [13, 10] ls ++ bodyT b pads 0 ps) rfl HOB.out (13 :: 10 :: 45 :: 45 :: (b ++ 45 :: 45 :: (pd ++ [13, 10]))) rfl (by simp; omega) HSZ.out ?_
               intro v4 w4 hown4 hg4
               have HB4 := Lib.hid (ob_blk HOB.out hg4 HBK.out (by decide))
               have kc4 := HB4.out.cell
               have HK4 := Lib.hid (ob_grow HOB.out HKW.out hg4)
               have HO4 := Lib.hid hown4
               have HA4 : Hid (HB w4 aa after) := HAF.out.1.kp HK4.out (by simp)
               have HZ4 : Hid (w.heap.size ≤ w4.heap.size) := HK4.out.size
               clear hown4 hg4)
            | (refine wpList_append_OB rfl (.tmp 60) (.tmp 62) rfl w.heap.size v4 (linesT [13, 10] ls ++ bodyT b pads 0 ps ++ (13 :: 10 :: 45 :: 45 :: (b ++ 45 :: 45 :: (pd ++ [13, 10])))) rfl HO4.out aa after.length ca after rfl HA4.out rfl HAF.out.2.2 (by simp; omega) HZ4.out ?_
               intro v6 w6 hown6 hg6 hn6
               have HFIN := Lib.hid (HOUT.out v6 w6 hown6 (ob_grow HO4.out HK4.out hg6))
               clear hown6 hg6 hn6))
          go_ret
          exact HFIN.out
end
end Go.Proofs.YtkbgnplknifmhaaGreatDoor
namespace Go.Proofs.YtkbgnplknifmhaaGreatDoor
/-! ### A body that is well: what the reader meets in its text -/
section
variable {ls pads : List Bytes} {ps : PL} {b after : Bytes}
def bodyText (ls : List Bytes) (ps : PL) (pads : List Bytes) (after b : Bytes) : Bytes := linesT [13, 10] ls ++ bodyT b pads 0 ps ++ finT b pads after ps.length
theorem pads_ok (h : ∀ s ∈ pads, PdOk s) : PadsOk pads := by
  intro i
  unfold padAt
  by_cases hi : i < pads.length
  · obtain ⟨h1, h2⟩ := h _ (getD_mem hi)
    exact ⟨h2, h1⟩
  · rw [List.getD_eq_getElem?_getD, List.getElem?_eq_none (by omega)]
    exact ⟨rfl, Nat.zero_le _⟩
theorem well_nxt (h : WellP ls ps pads b) : ∃ out, NP b [13, 10] 0 false (bodyText ls ps pads after b) out ∧ Nxt b [13, 10] out (canonPs ps) := by
  obtain ⟨h1, h2, h3, h4, h5⟩ := h
  cases ps with
  | nil => exact absurd rfl h3
  | cons p r =>
    unfold bodyText
    rw [textT_eq]
    exact text_nxt .crlf h4 (pads_ok h2) h1 h5
theorem well_nxt_lf (h : WellP ls ps pads b) (hr : ∀ p ∈ ps, (13 : UInt8) ∉ p.2) : ∃ out, NP b [13, 10] 0 false (noCR (bodyText ls ps pads after b)) out ∧ Nxt b [13, 10] out (canonPs ps) := by
  obtain ⟨h1, h2, h3, h4, h5⟩ := h
  cases ps with
  | nil => exact absurd rfl h3
  | cons p r =>
    unfold bodyText
    rw [textT_eq, noCR_text h4 (pads_ok h2) (fun l hl => (h1 l hl).2.1) (fun q hq => ⟨(h5 q hq).1, hr q hq⟩)]
    exact text_nxt .lf h4 (pads_ok h2) h1 h5
theorem well_len (h : WellP ls ps pads b) : (linesT [13, 10] ls).length ≤ 2 * bulkT ls ∧ (bodyT b pads 0 ps).length ≤ 100 * bulkP ps ∧ (finT b pads after ps.length).length ≤ 100 + after.length := by
  obtain ⟨h1, h2, h3, h4, h5⟩ := h
  have hb := boundaryB_len h4
  exact ⟨linesT_len ls, bodyT_len hb (pads_ok h2) ps 0 (fun q hq => (h5 q hq).1), finT_len hb (pads_ok h2) _⟩
theorem bulkT_mem : ∀ (ls : List Bytes), ls.length ≤ bulkT ls ∧ ∀ s ∈ ls, s.length ≤ bulkT ls
  | [] => ⟨Nat.zero_le _, by simp⟩
  | l :: ls => by
    obtain ⟨h1, h2⟩ := bulkT_mem ls
    have e : bulkT (l :: ls) = l.length + 1 + bulkT ls := by unfold bulkT; rw [List.map_cons, List.sum_cons]
    rw [e]
    refine ⟨by rw [List.length_cons]; omega, fun s hs => ?_⟩
    rcases List.mem_cons.1 hs with rfl | hs
    · omega
    · have := h2 s hs; omega
theorem bulkH_mem : ∀ (hs : HL), hs.length ≤ bulkH hs ∧ ∀ p ∈ hs, p.1.length ≤ bulkH hs ∧ bulkT p.2 ≤ bulkH hs
  | [] => ⟨Nat.zero_le _, by simp⟩
  | q :: hs => by
    obtain ⟨h1, h2⟩ := bulkH_mem hs
    have e : bulkH (q :: hs) = q.1.length + 1 + bulkT q.2 + bulkH hs := by unfold bulkH; rw [List.map_cons, List.sum_cons]
    rw [e]
    refine ⟨by rw [List.length_cons]; omega, fun s hs => ?_⟩
    rcases List.mem_cons.1 hs with rfl | hs
    · omega
    · have := h2 s hs; omega
theorem bulkP_mem : ∀ (ps : PL), ps.length ≤ bulkP ps ∧ ∀ p ∈ ps, bulkH p.1 ≤ bulkP ps ∧ p.2.length ≤ bulkP ps
  | [] => ⟨Nat.zero_le _, by simp⟩
  | q :: ps => by
    obtain ⟨h1, h2⟩ := bulkP_mem ps
    have e : bulkP (q :: ps) = bulkH q.1 + q.2.length + 1 + bulkP ps := by unfold bulkP; rw [List.map_cons, List.sum_cons]
    rw [e]
    refine ⟨by rw [List.length_cons]; omega, fun s hs => ?_⟩
    rcases List.mem_cons.1 hs with rfl | hs
    · omega
    · have := h2 s hs; omega
theorem smT_of (h : bulkT ls ≤ 1048576) : SmT ls := by
  obtain ⟨h1, h2⟩ := bulkT_mem ls
  exact ⟨by omega, fun s hs => by have := h2 s hs; omega⟩
theorem smH_of {hs : HL} (h : bulkH hs ≤ 1048576) : SmH hs := by
  obtain ⟨h1, h2⟩ := bulkH_mem hs
  exact ⟨by omega, fun s hs => by have := h2 s hs; exact ⟨by omega, smT_of (by omega)⟩⟩
theorem smP_of (h : bulkP ps ≤ 1048576) : SmP ps := by
  obtain ⟨h1, h2⟩ := bulkP_mem ps
  exact ⟨by omega, fun s hs => by have := h2 s hs; exact ⟨smH_of (by omega), by omega⟩⟩
/-- What the list of canonical parts is asked to be. -/
theorem canonPs_bounds {out : Option (Bool × Bytes)} {src : Bytes} (hn : NP b [13, 10] 0 false src out) (hx : Nxt b [13, 10] out ps) (hl : src.length ≤ 1000000000) :
    ps.length ≤ 1000000000 ∧ (∀ p ∈ ps, p.2.length ≤ 140737488355328) ∧ ∀ p ∈ ps, p.1.length ≤ 1000000000 ∧ (∀ q ∈ p.1, q.2.length ≤ 1000000000) ∧ p.2.length ≤ 281474976710656 := by
  have hf := hn.few hx
  cases hx with
  | fin => exact ⟨by simp, by simp, by simp⟩
  | part lf rest0 ps hp =>
    have hle := hn.le (lf, rest0) rfl
    simp only at hle
    have hbd := hp.bounds
    refine ⟨by omega, fun p hp => by have := (hbd p hp).2; omega, fun p hp => ?_⟩
    obtain ⟨⟨h1, h2⟩, h3⟩ := hbd p hp
    exact ⟨by omega, fun q hq => by have := h2 q hq; omega, by omega⟩
theorem rawL_one {hs : HL} (h : ∀ p ∈ hs, p.2 ≠ []) : hs.length ≤ (rawL hs).length := by
  induction hs with
  | nil => exact Nat.zero_le _
  | cons p hs ih =>
    have h1 := ih (fun q hq => h q (by simp [hq]))
    have h2 : 0 < p.2.length := List.length_pos_iff.2 (h p (by simp))
    unfold rawL at *
    simp only [List.flatMap_cons, List.length_append, List.length_map, List.length_cons]
    omega
/-- What CanonParts asks of the parts. -/
theorem well_parts (h : WellP ls ps pads b) (hs : SmP ps) : ∀ q ∈ ps, (∀ p ∈ q.1, p.1.length ≤ 1048576 ∧ p.2 ≠ []) ∧ q.1.length ≤ 900 := by
  intro q hq
  have h1 := (h.2.2.2.2 q hq).1
  have h2 := rawL_one (fun p hp => (h1.keys p hp).2)
  exact ⟨fun p hp => ⟨((hs.2 q hq).1.2 p hp).1, (h1.keys p hp).2⟩, by have := h1.few; omega⟩
end
end Go.Proofs.YtkbgnplknifmhaaGreatDoor
