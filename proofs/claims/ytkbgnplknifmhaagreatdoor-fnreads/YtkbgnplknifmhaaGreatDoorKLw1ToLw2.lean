/-
  Walks and facts for the mailparts program.
-/
import Derived.Test.YtkbgnplknifmhaaGreatDoorKRd1ToPure7
import Derived.BigRegion
namespace Go.Proofs.YtkbgnplknifmhaaGreatDoor
open Go.RowKit
attribute [local go_sem ↓] Go.wp_at_zero Go.wp_at_succ
/-! ### laws.FnReads (3) -/
theorem flatP_at (xs : List (Value × Value)) (i : Nat) (p : Value × Value) (h : xs[i]? = some p) : (flatP xs)[i * 2]? = some p.1 ∧ (flatP xs)[i * 2 + 1]? = some p.2 := flatP_get xs i p h
theorem PR.open {w : World} {base : Nat} {v : Value} {xs : List (Value × Value)} (h : PR w base v xs) (hn : 0 < xs.length) : ∃ g c, v = .slice (some ⟨g, 0, none⟩) xs.length c ∧ xs.length ≤ c ∧ base ≤ g ∧ g < w.heap.size ∧ (∀ i p, xs[i]? = some p → w.cell? ⟨g, i * 2, none⟩ = some p.1 ∧ w.cell? ⟨g, i * 2 + 1, none⟩ = some p.2) := by
  rcases h.2 with ⟨_, h0⟩ | ⟨g, cap, cur, hv, hb, hg, hnc, hcm, hcs, htake⟩
  · omega
  · have hgb : Blk w g cur 29 := hg
    refine ⟨g, cap, hv, hnc, hb, hgb.lt, fun i p hp => ?_⟩
    obtain ⟨h1, h2⟩ := flatP_get xs i p hp
    rw [← htake, List.getElem?_take] at h1 h2
    constructor
    · split at h1
      · rw [hgb.cell]; simpa using h1
      · cases h1
    · split at h2
      · rw [hgb.cell]; simpa using h2
      · cases h2
theorem BR.open {w : World} {base : Nat} {v : Value} {xs : List Value} (h : BR w base v xs) (hn : 0 < xs.length) : ∃ g c, v = .slice (some ⟨g, 0, none⟩) xs.length c ∧ (∀ i p, xs[i]? = some p → w.cell? ⟨g, i, none⟩ = some p) := by
  rcases h.2 with ⟨_, h0⟩ | ⟨g, cap, cur, hv, hb, hg, hnc, hcm, hcs, htake⟩
  · omega
  · have hgb : Blk w g cur 22 := hg
    refine ⟨g, cap, hv, fun i p hp => ?_⟩
    have h1 := hp
    rw [← htake, List.getElem?_take] at h1
    split at h1
    · rw [hgb.cell]; simpa using h1
    · cases h1
theorem isSlice24 : Tryz.prog.underlying 24 = some (.slice (Tryz.prog.elem 24)) := by kernel_rfl
theorem elem24_eq : Tryz.prog.elem 24 = 29 := by kernel_rfl
theorem sizeOf29 (w : World) : (sizeOf 29).run Tryz.prog w = .ok 2 w := by kernel_rfl
theorem ix24 (g n c : Nat) (i : Nat) (hi : i < n) : ∀ w : World, (Instr.indexAt 24 (.slice (some ⟨g, 0, none⟩) n c) (.int .i64 (i : Int))).run Tryz.prog w = .ok (.pointer (some ⟨g, i * 2, none⟩)) w := by
  intro w
  rw [run_indexAt_slice _ _ _ _ _ _ _ isSlice24]
  simp [hi, elem24_eq, Addr.add_lit]
theorem isSlice30 : Tryz.prog.underlying 30 = some (.slice (Tryz.prog.elem 30)) := by kernel_rfl
theorem elem30_eq : Tryz.prog.elem 30 = 22 := by kernel_rfl
theorem sizeOf22 (w : World) : (sizeOf 22).run Tryz.prog w = .ok 1 w := by kernel_rfl
theorem ix30 (g n c : Nat) (i : Nat) (hi : i < n) : ∀ w : World, (Instr.indexAt 30 (.slice (some ⟨g, 0, none⟩) n c) (.int .i64 (i : Int))).run Tryz.prog w = .ok (.pointer (some ⟨g, i, none⟩)) w := by
  intro w
  rw [run_indexAt_slice _ _ _ _ _ _ _ isSlice30]
  simp [hi, elem30_eq, Addr.add_lit]
def FrRel (w2 w' : World) (a0 : Option Addr) (cs : List Bytes) (rest : Bytes) (v9 v68 : Value) (q : Nat) : Prop :=
  ∃ i, v68 = .int .i64 (i : Nat) ∧ i + q = cs.length ∧ Sub w2 a0 ((cs.drop i).flatten ++ rest) v9 ∧ Kp [] w2 w'
section
variable {w : World} {E : Value} {a : Option Addr} {c : Nat} {src b : Bytes} {ai : Option Addr} {ci : Nat} {is : List Int}
set_option maxRecDepth 20000 in
set_option maxHeartbeats 4000000 in
theorem fnReads_walk (hE : Env w E) (h : HB w a src) (hc : src.length ≤ c) (hnone : a = none → c = 0) (hi : IB w ai is) (hs : src.length ≤ 16777216) (hbl : b.length ≤ 16777216) (his : is.length ≤ 1048576) :
    Calls Tryz.prog 3 #[.slice a src.length c, .string (str b), .slice ai is.length ci] w fun e w' => e = .returned (.bool true) ∧ Kp [] w w' := by
  have hs1 : (src.length : Int) ≤ 2147483647 := by omega
  have hs2 : (src.length : Int) ≤ 16777216 := by omega
  have hs3 : (b.length : Int) ≤ 2147483647 := by omega
  have hs4 : (b.length : Int) ≤ 16777216 := by omega
  have hs5 : (is.length : Int) ≤ 2147483647 := by omega
  have hs6 : (is.length : Int) ≤ 1048576 := by omega
  have hpar := parse_any h hc hnone (by omega) (b := b) (by omega)
  have HH := Lib.hid (And.intro hE (And.intro h (And.intro hc (And.intro hnone (And.intro hi (And.intro hs his))))))
  clear hE h hc hnone hi hs hbl his
  cases hpp : parseP src b with
  | none =>
    rw [hpp] at hpar
    go_enter Tryz.func3, Tryz.ntmps3
    go_wp2_with fail
    refine hpar.mono ?_
    rintro e w1 ⟨rfl, S, hk, hS⟩
    have HK : Hid (Kp [] w w1) := hk.trans' (Kp.refl [] _) (by simp) |>.mono (by
      intro x hx hlt; have := hS x hx; omega)
    clear hk hS hpar hpp
    go_wp2
    go_ret
    exact ⟨rfl, HK.out⟩
  | some ps =>
    rw [hpp] at hpar
    go_enter Tryz.func3, Tryz.ntmps3
    go_wp2_with fail
    refine hpar.mono ?_
    rintro e w1 ⟨v, rfl, hpv, S, hk, hS⟩
    clear hpar
    obtain ⟨hbd, rest0, hnp, hpt⟩ := parseP_at hpp
    obtain ⟨hE, h, hc, hnone, hi, hs, his⟩ := HH.out
    obtain ⟨items, body, tail, ps', rfl, hpa⟩ : ∃ items body tail ps', ps = (hdrs items, body) :: ps' ∧ PartAt b [13, 10] rest0 items body tail := by
      cases hpt with
      | last _ items body tail h hn => exact ⟨items, body, tail, [], rfl, h⟩
      | more _ items body tail rest1 ps h hn t => exact ⟨items, body, tail, ps, rfl, h⟩
    obtain ⟨xs, hpr, hall⟩ := hpv.ex
    obtain ⟨x, hx, ⟨_, hsub⟩⟩ := hall.at_ 0 _ rfl
    have hxl := hall.len
    have hlen0 : 0 < xs.length := by rw [hxl]; simp
    obtain ⟨g, cp, rfl, hcp, hg1, hg2, hcell⟩ := hpr.open hlen0
    obtain ⟨ar, cr, hxe, hxb, hxc, hxs, hxn⟩ := hsub.ex
    have hc1 := (hcell 0 x hx).2
    rw [hxe] at hc1
    have hc1 : w1.cell? ⟨g, 1, none⟩ = some (.slice ar body.length cr) := hc1
    have HBsub : Sub w1 a body (.slice ar body.length cr) := ⟨ar, cr, rfl, hxb.fwd hk hS, hxc, hxs, hxn⟩
    have hne0 : ((xs.length : Int) == 0) = false := by simp; intro e; rw [e] at hlen0; simp at hlen0
    have hix : ∀ w : World, (Instr.indexAt 24 (.slice (some ⟨g, 0, none⟩) xs.length cp) (.int .i64 0)).run Tryz.prog w = .ok (.pointer (some ⟨g, 0, none⟩)) w := fun w => by have := ix24 g xs.length cp 0 hlen0 w; simpa using this
    have hrd := reads_any (ci := ci) (hE.kp hk (fun x hx => by have := hS x hx; have := hE.sz; omega)) (h.fwd hk hS) hnone (by omega) hbd hnp hpa (hi.fwd hk hS) (by omega)
    have HI1 := Lib.hid (hi.fwd hk hS)
    have HSUB := Lib.hid ((HBsub : Sub w1 a body (.slice ar body.length cr)))
    have HKW := Lib.hid hk
    have HSW := Lib.hid hS
    clear hE h hc hnone hi hs his hpp hbd hnp hpa hpt hpr hall hx hsub hxl hcell hk hS hpv hxb hxc hxs hxn hxe hcp hg1 hg2 hlen0
    go_wp2_with fail
    refine hrd.mono ?_
    rintro e w2 ⟨vg, cs, eof, rest, rfl, hch, hbo, hcl, hsz, he1, he2, hk2⟩
    clear hrd hc1 hix hne0
    obtain ⟨vs, hbr, hall2⟩ := hch.ex
    obtain ⟨ag, cg, rfl⟩ := hbr.shape
    have hvl := hall2.len
    have HFR : Hid (FrRel w2 w2 a cs rest (.slice ar body.length cr) (.int .i64 ((0 : Nat) : Int)) cs.length) := ⟨0, rfl, by omega, by rw [List.drop_zero, ← hbo]; exact HSUB.out.kp hk2, Kp.refl _ _⟩
    have HG := Lib.hid (And.intro hbr (And.intro hall2 (And.intro hsz (And.intro hcl (And.intro he1 (And.intro he2 hk2))))))
    clear hbr hall2 hsz hcl he1 he2 hk2 hch hbo HSUB
    rw [hvl]
    go_wp2
    go_loopg [9, 68] cs.length (fun q v9 v68 w' => FrRel w2 w' a cs rest v9 v68 q)
    case atStart => exact HFR.out
    case round =>
      clear HFR
      obtain ⟨i, rfl, hiq, ⟨a9, c9, rfl, h9b, h9c, h9s, h9n⟩, hkr⟩ := hrel
      obtain ⟨hbr, hall2, hsz, hcl, he1, he2, hk2⟩ := HG.out
      by_cases hlt : i < cs.length
      · have hlt' : (i : Int) < (cs.length : Int) := by omega
        obtain ⟨ch, hchi⟩ : ∃ ch, cs[i]? = some ch := ⟨cs[i], List.getElem?_eq_getElem hlt⟩
        obtain ⟨u, hu, hcb⟩ := hall2.at_ i ch hchi
        obtain ⟨au, cu, rfl, hub, huc⟩ := hcb.hb
        obtain ⟨g2, cg2, hge, hgc⟩ := hbr.open (by omega)
        injection hge with hg1 hg2 hg3
        subst hg1; subst hg3
        have hix := ix30 g2 cs.length cg i hlt
        have hld : wr.cell? ⟨g2, i, none⟩ = some (.slice au ch.length cu) := by
          have := hgc i _ hu
          rw [← this]; exact cell_congr (hkr.block _ (cell_lt this) (by simp))
        obtain ⟨s, hs⟩ : ∃ s, is.getD i 0 = s := ⟨_, rfl⟩
        have hi2 := (HI1.out.fwd hk2 (by simp)).fwd hkr (by simp)
        have hix2 := hi2.ix ci i (by omega)
        have hld2 : wr.cell? (at_ ai i) = some (.int .i64 s) := by rw [← hs]; exact hi2.cell i (by omega)
        have hsize := hsz i ch hchi
        rw [hs] at hsize
        have hdrop : cs.drop i = ch :: cs.drop (i + 1) := by
          rw [List.drop_eq_getElem_cons hlt]
          congr 1
          rw [List.getElem?_eq_getElem hlt] at hchi
          injection hchi
        obtain ⟨want, hwant⟩ : ∃ want, (cs.drop i).flatten ++ rest = want := ⟨_, rfl⟩
        obtain ⟨more, hmore⟩ : ∃ more, (cs.drop (i + 1)).flatten ++ rest = more := ⟨_, rfl⟩
        have hw : want = ch ++ more := by rw [← hwant, ← hmore, hdrop]; simp
        rw [hwant] at h9b h9c
        have hwl : want.length = ch.length + more.length := by rw [hw]; simp
        have hcw : (ch.length : Int) ≤ (want.length : Int) := by omega
        have hcc : (ch.length : Int) ≤ (c9 : Int) := by omega
        have hst1 : ∀ j, (convert 22 9 (.slice au ch.length cu)).run Tryz.prog (wr.drewN j) = .ok (.string (str ch)) (wr.drewN j) := fun j => run_str _ au ch ch.length cu ((hub.kp hkr (by simp)).drewN j) rfl
        have hst2 : ∀ j, (convert 22 9 (.slice a9 ch.length c9)).run Tryz.prog (wr.drewN j) = .ok (.string (str ch)) (wr.drewN j) := fun j => by
          have h1 := ((h9b.take ch.length).kp hkr (by simp)).drewN j
          have h2 : want.take ch.length = ch := by rw [hw, List.take_append_of_le_length (Nat.le_refl _), List.take_length]
          rw [h2] at h1
          exact run_str _ a9 ch ch.length c9 h1 rfl
        have hd1 : decide (max 0 s < (ch.length : Int)) = false := by simp; omega
        have hd2 : decide ((want.length : Int) < (ch.length : Int)) = false := by simp; omega
        have hd3 : decide (want.length < ch.length) = false := by simp; omega
        have hib : (i : Int) ≤ 1048576 := by omega
        have HSZ := Lib.hid hsize
        have HREL : Hid (∀ j, FrRel w2 (wr.drewN j) a cs rest (.slice (cutAt a9 c9 ch.length) (want.length - ch.length) (c9 - ch.length)) (.int .i64 ((i : Int) + 1)) (cs.length - (i + 1))) := by
          intro j
          refine ⟨i + 1, by simp, by omega, ⟨_, _, ?_, ?_, ?_, h9s.cut c9 ch.length, none_cut _ h9n⟩, hkr.drewN' j⟩
          · rw [hmore, hwl, show ch.length + more.length - ch.length = more.length from by omega]
          · have := h9b.drop h9c (k := ch.length) (by omega)
            rw [hw, List.drop_append_of_le_length (Nat.le_refl _), List.drop_length, List.nil_append, ← hmore] at this
            exact this
          · rw [hmore]; omega
        have HMM : Hid (cs.length - (i + 1) < gk) := by show _ < _; omega
        clear hbr hall2 hsz hcl he1 he2 hk2 hu hcb hub huc hchi hdrop hmore hwl h9b h9c h9s h9n hgc hi2 hs hsize hw hkr
        rw [hwant]
        clear hwant
        generalize want.length = wl at hcw hd2 hd3 HREL ⊢
        generalize ch.length = cl at *
        go_wp2
        go_quiet (fail)
        go_wp2
        go_roundg (cs.length - (i + 1))
        case measure => exact HMM.out
        case rel => exact HREL.out _
      · have hge : ¬ (i : Int) < (cs.length : Int) := by omega
        have hkf : Kp [] w wr := ((HKW.out.trans ((hk2.trans hkr).mono (by simp))).mono (S' := []) (by
          intro x hx hlt; have := HSW.out x hx; omega))
        have hdrop : (cs.drop i).flatten ++ rest = rest := by rw [List.drop_of_length_le (by omega)]; rfl
        rw [hdrop]
        have HK := Lib.hid hkf
        have hic : i = cs.length := by omega
        clear hbr hall2 hsz h9b h9c h9s h9n hk2 hkr hkf hdrop
        cases eof with
        | true =>
          have hr := he1 rfl
          subst hr
          clear he1 he2
          go_wp2
          go_ret
          exact ⟨rfl, HK.out⟩
        | false =>
          have hl := he2 rfl
          have hl2 : ((cs.length : Int) == (is.length : Int)) = true := by rw [hl]; simp
          have hl3 : (cs.length == is.length) = true := by rw [hl]; simp
          clear he1 he2
          go_wp2
          go_ret
          exact ⟨rfl, HK.out⟩
end
end Go.Proofs.YtkbgnplknifmhaaGreatDoor
namespace Go.Proofs.YtkbgnplknifmhaaGreatDoor
open Go.RowKit
attribute [local go_sem ↓] Go.wp_at_zero Go.wp_at_succ
section
variable {w : World} {E : Value} {a : Option Addr} {c : Nat} {src b : Bytes} {ai : Option Addr} {ci : Nat} {is : List Int}
set_option maxRecDepth 20000 in
set_option maxHeartbeats 1000000 in
theorem fnReads_any (hE : Env w E) (h : HB w a src) (hc : src.length ≤ c) (hnone : a = none → c = 0) (hi : IB w ai is) :
    Calls Tryz.prog 3 #[.slice a src.length c, .string (str b), .slice ai is.length ci] w fun e w' => e = .returned (.bool true) ∧ Kp [] w w' := by
  by_cases hs : src.length ≤ 16777216 ∧ b.length ≤ 16777216 ∧ is.length ≤ 1048576
  · exact fnReads_walk hE h hc hnone hi hs.1 hs.2.1 hs.2.2
  · have HK : Hid (Kp [] w w) := Kp.refl _ _
    clear hE h hc hnone hi
    go_enter Tryz.func3, Tryz.ntmps3
    go_wp2_with fail
    all_goals first
      | (go_ret; exact ⟨rfl, HK.out⟩)
      | (exfalso; omega)
      | trace_state
end
end Go.Proofs.YtkbgnplknifmhaaGreatDoor
