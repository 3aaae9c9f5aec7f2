/-
  Walks and facts for the mailparts program.
-/
import Derived.Test.YtkbgnplknifmhaaGreatDoorKHs2ToEp2
import Derived.Test.YtkbgnplknifmhaaGreatDoorKPure8
namespace Go.Proofs.YtkbgnplknifmhaaGreatDoor
open Go.RowKit
attribute [local go_sem ↓] Go.wp_at_zero Go.wp_at_succ
/-! ### laws.FnEpilogue (9) -/
theorem last_split {s : Bytes} (h0 : 0 < s.length) (h : byt s (s.length - 1) = 10) : ∃ u, s = u ++ [10] := by
  rcases List.eq_nil_or_concat s with e | ⟨u, c, e⟩
  · rw [e] at h0; simp at h0
  · rw [List.concat_eq_append] at e
    refine ⟨u, ?_⟩
    rw [e]
    congr 1
    rw [e] at h
    unfold byt at h
    simp at h
    rw [h]
section
variable {w : World} {E : Value} {a a2 : Option Addr} {c c2 : Nat} {src b t : Bytes}
set_option maxRecDepth 20000 in
set_option maxHeartbeats 2000000 in
theorem fnEpilogue_walk (hE : Env w E) (h : HB w a src) (hc : src.length ≤ c) (hnone : a = none → c = 0) (h2 : HB w a2 t) (hnone2 : a2 = none → c2 = 0) (hs : src.length ≤ 16777216) (hbl : b.length ≤ 16777216) (ht : t.length ≤ 16777216) :
    Calls Tryz.prog 9 #[.slice a src.length c, .string (str b), .slice a2 t.length c2] w fun e w' => e = .returned (.bool true) ∧ Kp [] w w' := by
  have hs1 : (src.length : Int) ≤ 2147483647 := by omega
  have hs2 : (src.length : Int) ≤ 16777216 := by omega
  have hs3 : (b.length : Int) ≤ 2147483647 := by omega
  have hs4 : (b.length : Int) ≤ 16777216 := by omega
  have hs5 : (t.length : Int) ≤ 2147483647 := by omega
  have hs6 : (t.length : Int) ≤ 16777216 := by omega
  have hpar := parse_any h hc hnone (by omega) (b := b) (by omega)
  have HX := Lib.hid (And.intro hE (And.intro h (And.intro hc (And.intro hnone (And.intro hs (And.intro h2 (And.intro hnone2 ht)))))))
  clear hE h hc hnone hbl h2 hnone2
  cases hpp : parseP src b with
  | none =>
    rw [hpp] at hpar
    go_enter Tryz.func9, Tryz.ntmps9
    go_wp2_with fail
    refine hpar.mono ?_
    rintro e w1 ⟨rfl, S, hk, hS⟩
    have HK : Hid (Kp [] w w1) := hk.trans' (Kp.refl [] _) (by simp) |>.mono (by
      intro x hx hlt; have := hS x hx; omega)
    clear hk hS hpar hpp
    go_wp2
    go_ret
    exact ⟨rfl, HK.out⟩
  | some ps =>
    rw [hpp] at hpar
    go_enter Tryz.func9, Tryz.ntmps9
    go_wp2_with fail
    refine hpar.mono ?_
    rintro e w1 ⟨v, rfl, hpv, S, hk, hS⟩
    clear hpar
    obtain ⟨hE, h, hc, hnone, hs, h2, hnone2, ht⟩ := HX.out
    by_cases h0 : src.length = 0
    · have h0' : ((src.length : Int) == 0) = true := by simp; exact List.eq_nil_of_length_eq_zero h0
      have HK : Hid (Kp [] w w1) := hk.mono (S' := []) (by
        intro x hx hlt; have := hS x hx; omega)
      rw [h0] at *
      clear hE h hc hnone hs h2 hnone2 ht hpp hpv hk hS h0' h0
      go_wp2
      go_ret
      exact ⟨rfl, HK.out⟩
    have h00 : ((src.length : Int) == 0) = false := by simp; intro e; rw [e] at h0; simp at h0
    have hpos : 0 < src.length := by omega
    have hix : ∀ w1 : World, (Instr.indexAt 22 (.slice a src.length c) (.int .i64 ((src.length : Int) - 1))).run Tryz.prog w1 = .ok (.pointer (some (at_ a (src.length - 1)))) w1 := fun w1 => by
      have := ix_any a src.length c (fun _ => h.some_ (fun e => by rw [e] at h0; simp at h0)) w1 ((src.length : Int) - 1) (by omega) (by omega)
      rw [this, show ((src.length : Int) - 1).toNat = src.length - 1 from by omega]
    have hld : w1.cell? (at_ a (src.length - 1)) = some (.int .u8 (byt src (src.length - 1)).toNat) := (h.fwd hk hS).cell _ (by omega)
    obtain ⟨z, hz⟩ : ∃ z, (byt src (src.length - 1)).toNat = z := ⟨_, rfl⟩
    rw [hz] at hld
    by_cases h10 : z = 10
    · have hsp : ∃ u, src = u ++ [10] := last_split hpos (by
        apply UInt8.toNat_inj.1
        rw [hz, h10]; rfl)
      subst h10
      have hpa := parseP_app t hpp hsp
      have hal : (src ++ t).length ≤ 1000000000 := by simp; omega
      obtain ⟨hbd, out, hn, hx, hpl, hbody, hbnd⟩ := parse_facts hpa hal
      have hpv1 := hpv.view hk hS
      obtain ⟨av, nv, cv, rfl⟩ : ∃ a n c, v = .slice a n c := by
        rcases hpv1.ex with ⟨_, a, c, rfl⟩ | ⟨g, c, rfl, _⟩ <;> exact ⟨_, _, _, rfl⟩
      have hK1 : Kp [] w1 (w1.alloc (.cells (encB []) 5)) := (Kp.refl _ _).alloc _
      have hb1 := (h.fwd hk hS).kp hK1 (by simp)
      have hb2 := (h2.fwd hk hS).kp hK1 (by simp)
      have hown : OB (w1.alloc (.cells #[] 5)) w1.heap.size (.slice (some ⟨w1.heap.size, 0, none⟩) 0 0) [] := OB.lit w1 w1.heap.size [] (Nat.le_refl _) (by simp)
      have hkt : ∀ w2, Kp [w1.heap.size] (w1.alloc (.cells (encB []) 5)) w2 → HB w2 a2 t := fun w2 hk2 => by
        by_cases ht0 : t = []
        · rw [ht0]; exact HB.nil _ _
        · refine hb2.kp hk2 (fun y hy e => ?_)
          subst hy
          have h3 := (h2.fwd hk hS).cell 0 (List.length_pos_iff.2 ht0)
          have h4 := cell_lt h3
          rw [at_block] at h4
          simp at e
          omega
      have HKT := Lib.hid hkt
      have tok1 : True := trivial
      have tok2 : True := trivial
      have HE1 := Lib.hid (hE.kp hk (fun x hx => by have := hS x hx; have := hE.sz; omega))
      have HB1 := Lib.hid (And.intro hb1 hb2)
      have HOWN := Lib.hid hown
      have HK1 := Lib.hid hK1
      have HN := Lib.hid (And.intro hbd (And.intro hn (And.intro hx hbody)))
      have HP := Lib.hid (And.intro hpv1 (And.intro hpl (And.intro hbnd (And.intro hk hS))))
      clear hE h hc h2 ht hpp hpa hbd hn hx hpl hbody hbnd hk hS hpv hpv1 hb1 hb2 hown hK1 hkt hs hpos hz hsp h0
      go_wp2_with (at_builtin; first | (have _t := tok1; refine wpList_append_OB rfl (.tmp 60) (.tmp 61) rfl w1.heap.size (.slice (some ⟨w1.heap.size, 0, none⟩) 0 0) [] rfl HOWN.out a src.length c src rfl HB1.out.1 rfl hnone (by simp; omega) (by simp) ?_; intro v' w2 hown2 hg2 hnw2; rw [List.nil_append] at hown2; clear tok1) | (have _t := tok2; refine wpList_append_OB rfl (.tmp 62) (.tmp 63) rfl w1.heap.size v' src rfl hown2 a2 t.length c2 t rfl (HKT.out w2 ((Kp.refl [w1.heap.size] _).grown hg2 (by intro k hk; injection hk with hk; subst hk; simp))) rfl hnone2 (by omega) (by have := hg2.size; simp at this; omega) ?_; intro v'' w3 hown3 hg3 hnw3; clear tok2; obtain ⟨a', c', rfl, hlc', ha', hbb', hob'⟩ := hown3.len))
      have hlv : ∀ blk, v'.ownBlock = some blk → w1.heap.size ≤ blk := fun blk e => (World.ownsRow.lt hown2 blk e).1
      have hk2 : Kp [] w1 w2 := HK1.out.trans' ((Kp.refl [w1.heap.size] _).grown hg2 (by intro k hk; injection hk with hk; subst hk; simp)) (by intro x hx; simp at hx; subst hx; exact .inr (Nat.le_refl _))
      have hk3 : Kp [] w1 w3 := hk2.trans' ((Kp.refl v'.ownBlock.toList w2).grown hg3 (by intro k hk; left; simp [hk])) (fun x hx => .inr (hlv x (by simpa using hx)))
      have hnone3 : a' = none → c' = 0 := fun e => by
        subst e
        rcases hown3.2 with ⟨e2, _⟩ | ⟨g, cap, cur, e2, _⟩
        · injection e2
        · injection e2 with e2 _ _
          cases e2
      obtain ⟨hbd, hn, hx, hbody⟩ := HN.out
      have hpt := parts21 (c := c') headersOk (HE1.out.kp hk3 (by simp)) hbb' hnone3 (by simp; omega) hbd hn hx hbody
      rw [List.length_append] at hpt
      have HK3 := Lib.hid hk3
      clear hown2 hg2 hnw2 hown3 hg3 hnw3 hlc' ha' hbb' hob' hlv hk2 hk3 hnone3 hbd hn hx hbody HB1 HOWN HKT HN HK1
      refine hpt.mono ?_
      rintro e w4 ⟨v2, rfl, hgp, hk4⟩
      clear hpt
      obtain ⟨hpv1, hpl, hbnd, hk, hS⟩ := HP.out
      have hsm := same_any hgp.view ((hpv1.kp0 HK3.out).kp0 hk4) hpl hbnd
      have hkw : Kp [] w w4 := ((hk.trans ((HK3.out.trans hk4).mono (by simp))).mono (S' := []) (by
        intro x hx hlt; have := hS x hx; omega))
      have HK := Lib.hid hkw
      clear hgp hk4 hkw hpv1 hpl hbnd hk hS HP HK3
      go_wp2_with fail
      refine hsm.mono ?_
      rintro e w5 ⟨rfl, hk5⟩
      have HF := Lib.hid (HK.out.trans hk5)
      clear hk5 hsm
      go_wp2
      go_ret
      exact ⟨rfl, HF.out⟩
    · have hne : ¬ (z : Int) = 10 := by omega
      have HK : Hid (Kp [] w w1) := hk.mono (S' := []) (by
        intro x hx hlt; have := hS x hx; omega)
      clear hE h hc hnone hs h2 hnone2 ht hpp hpv hk hS h10 hz
      go_wp2
      go_ret
      exact ⟨rfl, HK.out⟩
set_option maxRecDepth 20000 in
set_option maxHeartbeats 1000000 in
theorem fnEpilogue_any (hE : Env w E) (h : HB w a src) (hc : src.length ≤ c) (hnone : a = none → c = 0) (h2 : HB w a2 t) (_hc2 : t.length ≤ c2) (hnone2 : a2 = none → c2 = 0) :
    Calls Tryz.prog 9 #[.slice a src.length c, .string (str b), .slice a2 t.length c2] w fun e w' => e = .returned (.bool true) ∧ Kp [] w w' := by
  by_cases hs : src.length ≤ 16777216 ∧ b.length ≤ 16777216 ∧ t.length ≤ 16777216
  · exact fnEpilogue_walk hE h hc hnone h2 hnone2 hs.1 hs.2.1 hs.2.2
  · have HK : Hid (Kp [] w w) := Kp.refl _ _
    clear hE h hc hnone h2 hnone2
    go_enter Tryz.func9, Tryz.ntmps9
    go_wp2_with fail
    all_goals first
      | (go_ret; exact ⟨rfl, HK.out⟩)
      | (exfalso; omega)
end
end Go.Proofs.YtkbgnplknifmhaaGreatDoor
