/-
  Walks and facts for the mailparts program.
-/
import Derived.Test.YtkbgnplknifmhaaGreatDoorKBd1ToPure11
import Derived.Test.YtkbgnplknifmhaaGreatDoorKBd8ToLw6
namespace Go.Proofs.YtkbgnplknifmhaaGreatDoor
open Go.RowKit
attribute [local go_sem ↓] Go.wp_at_zero Go.wp_at_succ
/-! ### spec.HasReturn (65), spec.Returns (30), spec.Feeds (31) -/
section
variable {w : World}
set_option maxRecDepth 20000 in
set_option maxHeartbeats 1000000 in
theorem hasReturn65 {a : Option Addr} {c : Nat} {l : Bytes} (h : HB w a l) (hl : l.length ≤ 1048576) : Calls Tryz.prog 65 #[.slice a l.length c] w fun e w' => e = .returned (.bool (hasC l 13)) ∧ w = w' := by
  have hcv := run_str w a l l.length c h rfl
  have hw : Calls Tryz.prog 49 #[.string (str l), .int .u8 13] w fun e w' => e = .returned (.bool (hasC l 13)) ∧ w = w' := within_any l 13 w (by omega)
  clear h
  go_enter Tryz.func65, Tryz.ntmps65
  go_wp2_with fail
  refine hw.mono ?_
  rintro e w' ⟨rfl, rfl⟩
  go_wp2
  go_ret
  exact ⟨rfl, rfl⟩
end
def RtR (w : World) (ps : PL) (e : Ending) (w' : World) : Prop := ∃ r, e = .returned (.bool r) ∧ (r = false → ∀ p ∈ ps, (13 : UInt8) ∉ p.2) ∧ Kp [] w w'
def RtRel (w wr : World) (ps : PL) (v7 : Value) (q : Nat) : Prop := ∃ i : Nat, v7 = .int .i64 (i : Int) ∧ i + q = ps.length ∧ (∀ p ∈ ps.take i, (13 : UInt8) ∉ p.2) ∧ Kp [] w wr
theorem hasC_not {l : Bytes} {c : UInt8} (h : hasC l c = false) : c ∉ l := by
  unfold hasC at h
  intro hm
  rw [List.contains_iff_mem.2 hm] at h
  cases h
section
variable {w : World} {v : Value}
set_option maxRecDepth 20000 in
set_option maxHeartbeats 4000000 in
theorem returns30 {ps : PL} (h : PVa w v ps) (hv : SmP ps) : Calls Tryz.prog 30 #[v] w fun e w' => RtR w ps e w' := by
  obtain ⟨a, c, rfl⟩ := h.shape
  have hn : (ps.length : Int) ≤ 1048576 := by have := hv.1; omega
  have HA := Lib.hid h
  have HV := Lib.hid hv
  have HR0 : Hid (RtRel w w ps (.int .i64 ((0 : Nat) : Int)) ps.length) := ⟨0, rfl, by omega, by simp, Kp.refl _ _⟩
  clear h hv
  go_enter Tryz.func30, Tryz.ntmps30
  go_wp2
  go_loopg [7] ps.length (fun q v7 wr => RtRel w wr ps v7 q)
  case atStart => exact HR0.out
  case round =>
    clear HR0
    obtain ⟨i, rfl, hq, hok, hk⟩ := hrel
    by_cases hi : i < ps.length
    · have hi' : (i : Int) < (ps.length : Int) := by omega
      obtain ⟨p, hp⟩ : ∃ p, ps[i]? = some p := ⟨_, List.getElem?_eq_getElem hi⟩
      rcases (HA.out.kp0 hk).ex with ⟨e0, _⟩ | ⟨g, o, c0, e0, hc⟩
      · rw [e0] at hi; simp at hi
      injection e0 with e1 e2 e3
      subst e1
      obtain ⟨a1, c1, a2, c2, hc1, hc2, hc3, hc4, hc5, hc6⟩ := hc i p hp
      have hix := fun w => ix24o g o ps.length c w i hi
      have hka : Kp [] wr (wr.alloc (.cells #[.slice a1 p.1.length c1, .slice a2 p.2.length c2] 29)) := (Kp.refl _ _).alloc _
      have hnew := Blk.new wr #[.slice a1 p.1.length c1, .slice a2 p.2.length c2] 29
      obtain ⟨wA, hwA⟩ : ∃ wA, wr.alloc (.cells #[.slice a1 p.1.length c1, .slice a2 p.2.length c2] 29) = wA := ⟨_, rfl⟩
      rw [hwA] at hka hnew
      have hps := HV.out.2 p (List.mem_of_getElem? hp)
      have kc := hnew.cell
      have hcon := hasReturn65 (c := c2) (hc4.kp hka (by simp)) hps.2
      have HX := Lib.hid (And.intro (hk.trans hka) (And.intro hq (And.intro hok hp)))
      clear hk hq hok hc hc3 hc4 hc5 hc6 hp hka hps e2 e3 hnew
      go_wp2_with fail
      refine hcon.mono ?_
      rintro e w1 ⟨rfl, rfl⟩
      clear hcon hc1 hc2 hix
      cases hf : hasC p.2 13 with
      | true =>
        have HF := Lib.hid HX.out.1
        clear hf
        go_wp2
        go_ret
        exact ⟨true, rfl, by simp, HF.out⟩
      | false =>
        have HREL : Hid (RtRel w wA ps (.int .i64 ((i : Int) + 1)) (ps.length - (i + 1))) := by
          obtain ⟨h0, h1, h2, h3⟩ := HX.out
          refine ⟨i + 1, by simp, by omega, fun y hy => ?_, h0⟩
          rw [List.take_add_one, h3] at hy
          rcases List.mem_append.1 hy with hy | hy
          · exact h2 y hy
          · simp at hy; subst hy; exact hasC_not hf
        have HMM : Hid (ps.length - (i + 1) < gk) := by have := HX.out.2.1; show _ < _; omega
        clear hf
        go_wp2
        go_roundg (ps.length - (i + 1))
        case measure => exact HMM.out
        case rel => exact HREL.out
    · have hge : ¬ (i : Int) < (ps.length : Int) := by omega
      rw [List.take_of_length_le (by omega)] at hok
      have HF := Lib.hid (And.intro hok hk)
      clear hq hk hok
      go_wp2
      go_ret
      exact ⟨false, rfl, fun _ => HF.out.1, HF.out.2⟩
end
theorem noCR_take {l : Bytes} {i : Nat} (h : i < l.length) : noCR (l.take (i + 1)) = noCR (l.take i) ++ (if byt l i = 13 then [] else [byt l i]) := by
  rw [List.take_add_one, List.getElem?_eq_getElem h, noCR_app, byt_lt l i h]
  congr 1
  unfold noCR
  by_cases e : l[i] = 13
  · rw [if_pos e]; simp [e]
  · rw [if_neg e]; simp [e]
def FdRel (w wr : World) (l : Bytes) (v3 v8 : Value) (q : Nat) : Prop := ∃ i : Nat, v8 = .int .i64 (i : Int) ∧ i + q = l.length ∧ OB wr w.heap.size v3 (noCR (l.take i)) ∧ Kp [] w wr
section
variable {w : World}
set_option maxRecDepth 20000 in
set_option maxHeartbeats 4000000 in
theorem feeds31 {a : Option Addr} {c : Nat} {l : Bytes} (h : HB w a l) (hl : l.length ≤ 1000000000) : Calls Tryz.prog 31 #[.slice a l.length c] w fun e w' => HtR w (noCR l) e w' := by
  have hn : (l.length : Int) ≤ 1000000000 := by omega
  have HA := Lib.hid h
  have HR0 : Hid (FdRel w w l (.slice none 0 0) (.int .i64 ((0 : Nat) : Int)) l.length) := ⟨0, rfl, by omega, OB.nil _ _, Kp.refl _ _⟩
  clear h
  go_enter Tryz.func31, Tryz.ntmps31
  go_wp2
  go_loopg [3, 8] l.length (fun q v3 v8 wr => FdRel w wr l v3 v8 q)
  case atStart => exact HR0.out
  case round =>
    clear HR0
    obtain ⟨i, rfl, hq, hob, hk⟩ := hrel
    by_cases hi : i < l.length
    · have hi' : (i : Int) < (l.length : Int) := by omega
      have hc1 := (HA.out.kp hk (by simp)).cell i hi
      have hix := HA.out.ixk l.length c (Nat.le_refl _) (i : Int) i rfl hi
      have htk := noCR_take hi
      by_cases h1 : ((byt l i).toNat : Int) = 13
      · obtain ⟨e1, e2⟩ := i_is h1
        have h2 : byt l i = 13 := (u8_iff (byt l i) 13).1 h1
        rw [if_pos h2, List.append_nil] at htk
        have HREL : Hid (FdRel w wr l u3 (.int .i64 ((i : Int) + 1)) (l.length - (i + 1))) := ⟨i + 1, by simp, by omega, by rw [htk]; exact hob, hk⟩
        have HMM : Hid (l.length - (i + 1) < gk) := by show _ < _; omega
        clear hq hob hk htk h1 h2
        go_wp2
        go_roundg (l.length - (i + 1))
        case measure => exact HMM.out
        case rel => exact HREL.out
      · obtain ⟨e1, e2⟩ := i_not h1
        have h2 : ¬ byt l i = 13 := fun e => h1 ((u8_iff (byt l i) 13).2 e)
        rw [if_neg h2] at htk
        have hka : Kp [] wr (wr.alloc (.cells #[.int .u8 (byt l i).toNat] 5)) := (Kp.refl _ _).alloc _
        have hhb := hb_const wr (byt l i) (0, 0)
        have hle : (noCR (l.take i)).length ≤ 1000000000 := by
          have h3 : (noCR (l.take i)).length ≤ (l.take i).length := List.length_filter_le _ _
          rw [List.length_take] at h3
          omega
        have HX := Lib.hid (And.intro (hob.kp hka (by simp)) (And.intro hhb (And.intro (hk.trans hka) (And.intro htk (And.intro hq hle)))))
        have HSZ : Hid (w.heap.size ≤ (wr.alloc (.cells #[.int .u8 (byt l i).toNat] 5)).heap.size) := (hk.trans hka).size
        clear hq hob hk htk h1 h2 hka hhb hle
        go_wp2_with (at_builtin; refine wpList_append_OB rfl (.tmp 14) (.tmp 16) rfl w.heap.size u3 (noCR (l.take i)) rfl HX.out.1 (some ⟨wr.heap.size, 0, none⟩) 1 1 [byt l i] rfl HX.out.2.1 rfl (by intro e; cases e) (by have := HX.out.2.2.2.2.2; omega) HSZ.out ?_; intro v' w2 hown2 hg2 hnw2)
        have HREL : Hid (FdRel w w2 l v' (.int .i64 ((i : Int) + 1)) (l.length - (i + 1))) := by
          obtain ⟨g1, g2, g3, g4, g5, g6⟩ := HX.out
          exact ⟨i + 1, by simp, by omega, by rw [g4]; exact hown2, ob_grow g1 g3 hg2⟩
        have HMM : Hid (l.length - (i + 1) < gk) := by have := HX.out.2.2.2.2.1; show _ < _; omega
        clear hown2 hg2 hnw2 HX HSZ
        go_wp2
        go_roundg (l.length - (i + 1))
        case measure => exact HMM.out
        case rel => exact HREL.out
    · have hge : ¬ (i : Int) < (l.length : Int) := by omega
      rw [List.take_of_length_le (by omega)] at hob
      have HF : Hid (HtR w (noCR l) (.returned u3) wr) := ⟨_, rfl, hob, hk⟩
      clear hq hk hob
      go_wp2
      go_ret
      exact HF.out
end
end Go.Proofs.YtkbgnplknifmhaaGreatDoor
namespace Go.Proofs.YtkbgnplknifmhaaGreatDoor
open Go.RowKit
attribute [local go_sem ↓] Go.wp_at_zero Go.wp_at_succ
/-! ### laws.FnLineFeed (7) -/
section
variable {w : World} {E : Value} {cs : Array Value} {ls pads : List Bytes} {ps : PL} {after b : Bytes}
set_option maxRecDepth 20000 in
set_option maxHeartbeats 8000000 in
theorem fnLineFeed_walk (hE : Env w E) (h : BdV w cs ls ps pads after) (hbulk : bulkT ls + bulkP ps + bulkT pads + after.length ≤ 1048576) (hb : b.length ≤ 1048576) :
    Calls Tryz.prog 7 #[.agg cs, .string (str b)] w fun e w' => e = .returned (.bool true) ∧ Kp [] w w' := by
  have h1 : SmT ls := smT_of (by omega)
  have h2 : SmP ps := smP_of (by omega)
  have h3 : SmT pads := smT_of (by omega)
  have h4 : after.length ≤ 1048576 := by omega
  have n1 : ¬ (2147483647 : Int) < (b.length : Int) := by omega
  have n2 : ¬ (16777216 : Int) < (b.length : Int) := by omega
  obtain ⟨al, cl, vp, ad, cd, aa, ca, rfl, k1, k2, k3, k4, k5, k6⟩ := h.ex
  obtain ⟨ap, cp, rfl⟩ := k2.shape
  have hka : Kp [] w (w.alloc (.cells #[.slice al ls.length cl, .slice ap ps.length cp, .slice ad pads.length cd, .slice aa after.length ca] 48)) := (Kp.refl _ _).alloc _
  have hnew := Blk.new w #[.slice al ls.length cl, .slice ap ps.length cp, .slice ad pads.length cd, .slice aa after.length ca] 48
  obtain ⟨wA, hwA⟩ : ∃ wA, w.alloc (.cells #[.slice al ls.length cl, .slice ap ps.length cp, .slice ad pads.length cd, .slice aa after.length ca] 48) = wA := ⟨_, rfl⟩
  rw [hwA] at hka hnew
  have hc1 := fits26 (h.kp0 hka) h1 h2 h3 h4
  have kc := hnew.cell
  have HE := Lib.hid hE
  have HBD := Lib.hid h
  have HP := Lib.hid k2
  have HS := Lib.hid (And.intro h1 (And.intro h2 (And.intro h3 (And.intro h4 (And.intro hbulk hb)))))
  have HA := Lib.hid (And.intro hka hnew)
  clear h h1 h2 h3 h4 k1 k2 k3 k4 k5 k6 hka hnew hE hbulk
  go_enter Tryz.func7, Tryz.ntmps7
  go_wp2_with fail
  refine hc1.mono ?_
  rintro e w1 ⟨rfl, hk1⟩
  clear hc1 kc
  obtain ⟨h1, h2, h3, h4, hbulk, hb⟩ := HS.out
  have HK1 : Hid (Kp [] w w1) := HA.out.1.trans hk1
  have HB1 : Hid (Blk w1 w.heap.size #[.slice al ls.length cl, .slice ap ps.length cp, .slice ad pads.length cd, .slice aa after.length ca] 48) := HA.out.2.kp hk1 (by simp)
  have kc := HB1.out.cell
  have hc2 := well27 (HBD.out.kp0 HK1.out) h1 h2 h3 hb
  clear hk1 h1 h2 h3 h4 hbulk hb HA
  go_wp2_with fail
  refine hc2.mono ?_
  rintro e w2 ⟨r, rfl, hr, hk2⟩
  clear hc2 kc
  have HK2 : Hid (Kp [] w w2) := HK1.out.trans hk2
  have HB2 : Hid (Blk w2 w.heap.size #[.slice al ls.length cl, .slice ap ps.length cp, .slice ad pads.length cd, .slice aa after.length ca] 48) := HB1.out.kp hk2 (by simp)
  have kc := HB2.out.cell
  clear hk2 HK1 HB1
  cases r with
  | false =>
    clear hr
    go_wp2
    go_ret
    exact ⟨rfl, HK2.out⟩
  | true =>
    have HW := Lib.hid (hr rfl)
    clear hr
    have hc2 := returns30 (HP.out.kp0 HK2.out) HS.out.2.1
    go_wp2_with fail
    refine hc2.mono ?_
    rintro e wR ⟨r, rfl, hr, hkR⟩
    clear hc2 kc
    have HK3 : Hid (Kp [] w wR) := HK2.out.trans hkR
    have HB3 : Hid (Blk wR w.heap.size #[.slice al ls.length cl, .slice ap ps.length cp, .slice ad pads.length cd, .slice aa after.length ca] 48) := HB2.out.kp hkR (by simp)
    have kc := HB3.out.cell
    clear HK2 HB2 hkR
    cases r with
    | true =>
      clear hr
      go_wp2
      go_ret
      exact ⟨rfl, HK3.out⟩
    | false =>
      have HR := Lib.hid (hr rfl)
      clear hr
      obtain ⟨h1, h2, h3, h4, hbulk, hb⟩ := HS.out
      have HL := Lib.hid (bodyText_len HW.out hbulk)
      have hc3 : Calls Tryz.prog 28 #[.agg #[.slice al ls.length cl, .slice ap ps.length cp, .slice ad pads.length cd, .slice aa after.length ca], .string (str b)] wR fun e w' => HtR wR (bodyText ls ps pads after b) e w' := text28 (HBD.out.kp0 HK3.out) h1 h2 h3 h4 hb HL.out.1
      clear h1 h2 h3 h4 hbulk hb
      go_wp2_with fail
      refine hc3.mono ?_
      rintro e w3 ⟨v3, rfl, hob3, hk3⟩
      clear hc3 kc
      obtain ⟨a3, c3, rfl, hlc3, hlt3, hhb3, hbl3⟩ := hob3.len
      have hc3 := feeds31 (c := c3) hhb3 HL.out.2
      have HKF : Hid (Kp [] w w3) := HK3.out.trans hk3
      have HBF : Hid (Blk w3 w.heap.size #[.slice al ls.length cl, .slice ap ps.length cp, .slice ad pads.length cd, .slice aa after.length ca] 48) := HB3.out.kp hk3 (by simp)
      clear hk3 hob3 hlc3 hlt3 hhb3 hbl3 HK3 HB3
      go_wp2_with fail
      refine hc3.mono ?_
      rintro e w4 ⟨v4, rfl, hob4, hk4⟩
      clear hc3
      obtain ⟨a4, c4, rfl, hlc4, hlt4, hhb4, hbl4⟩ := hob4.len
      have HK4 : Hid (Kp [] w w4) := HKF.out.trans hk4
      have HB4 : Hid (Blk w4 w.heap.size #[.slice al ls.length cl, .slice ap ps.length cp, .slice ad pads.length cd, .slice aa after.length ca] 48) := HBF.out.kp hk4 (by simp)
      obtain ⟨out, hn, hx⟩ := well_nxt_lf (after := after) HW.out HR.out
      have hlen : (noCR (bodyText ls ps pads after b)).length ≤ 1000000000 := Nat.le_trans (List.length_filter_le _ _) HL.out.2
      obtain ⟨hpl, hbody, hbnd⟩ := canonPs_bounds hn hx hlen
      have hc4 := parts21 (c := c4) headersOk (HE.out.kp HK4.out (by simp)) hhb4 hob4.none_cap hlen HW.out.2.2.2.1 hn hx hbody
      have HN := Lib.hid (And.intro hpl hbnd)
      have kc := HB4.out.cell
      clear hk4 hob4 hlc4 hlt4 hhb4 hbl4 hn hx hlen hpl hbody hbnd HKF HBF
      go_wp2_with fail
      refine hc4.mono ?_
      rintro e w5 ⟨v5, rfl, hgp, hk5⟩
      clear hc4 kc
      have HK5 : Hid (Kp [] w w5) := HK4.out.trans hk5
      have HB5 : Hid (Blk w5 w.heap.size #[.slice al ls.length cl, .slice ap ps.length cp, .slice ad pads.length cd, .slice aa after.length ca] 48) := HB4.out.kp hk5 (by simp)
      have HG := Lib.hid hgp
      have kc := HB5.out.cell
      have hc5 := canonParts29 (HP.out.kp0 HK5.out) (well_parts HW.out HS.out.2.1) HS.out.2.1.1
      clear hgp hk5 HK4 HB4
      go_wp2_with fail
      refine hc5.mono ?_
      rintro e w6 ⟨v6, rfl, hcp, hk6⟩
      clear hc5 kc
      have hc6 := same_any (HG.out.view.kp0 hk6) (hcp.view hk6) HN.out.1 HN.out.2
      have HK6 : Hid (Kp [] w w6) := HK5.out.trans hk6
      clear hcp hk6 HG HB5
      go_wp2_with fail
      refine hc6.mono ?_
      rintro e w7 ⟨rfl, hk7⟩
      have HF : Hid (Kp [] w w7) := HK6.out.trans hk7
      clear hc6 hk7
      go_wp2
      go_ret
      exact ⟨rfl, HF.out⟩
end
end Go.Proofs.YtkbgnplknifmhaaGreatDoor
