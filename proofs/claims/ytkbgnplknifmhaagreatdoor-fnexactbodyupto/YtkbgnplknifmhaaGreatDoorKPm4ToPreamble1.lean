/-
  Walks and facts for the mailparts program.
-/
import Derived.Test.YtkbgnplknifmhaaGreatDoorKPm1ToPm3
import Derived.Test.YtkbgnplknifmhaaGreatDoorKRow1ToRow2
import Derived.SliceStrings
namespace Go.Proofs.YtkbgnplknifmhaaGreatDoor
open Go.ChangeShapes Go.WideShapes Go.ChangeAt Go.RowKit
attribute [local go_sem ↓] Go.wp_at_zero Go.wp_at_succ
theorem cellsOf9t : Tryz.prog.cellsOf 9 = 1 := by kernel_rfl
theorem open_texts {H : Type} {enc : TypeId × Value → H} {W : World} {a0 : Option Addr} {len cap : Nat} {d : DataW H} {p : List MemPlace} (h : DataW.Trod enc Tryz.prog W 0 (fun _ => true) true 41 (.slice a0 len cap) d p) :
    ∃ ls : List Bytes, len = ls.length ∧ TB W a0 ls := by
  obtain ⟨fuel, hf⟩ := h
  rcases open_strings Tryz.underlying41 Tryz.underlying9 cellsOf9t hf with ⟨hcs, _⟩ | ⟨a, len', cap', ss, hcs, _, hl, hm, hz, _, hcell, _⟩
  · simp [Value.cells] at hcs
    obtain ⟨rfl, rfl, rfl⟩ := hcs
    exact ⟨[], rfl, ⟨fun e => absurd rfl e, fun i hi => by simp at hi⟩⟩
  · simp [Value.cells] at hcs
    obtain ⟨rfl, rfl, rfl⟩ := hcs
    simp only [if_true] at hz
    have hl2 : ((ss.take len).map fun s => s.data.toList).length = len := by simp; omega
    refine ⟨(ss.take len).map fun s => s.data.toList, hl2.symm, ⟨fun _ => rfl, fun i hi => ?_⟩⟩
    rw [hl2] at hi
    have h1 := hcell i (by omega)
    have h4 : str (((ss.take len).map fun s => s.data.toList).getD i []) = ss.getD i ByteArray.empty := by
      have hi2 : i < ss.length := by omega
      rw [List.getD_eq_getElem?_getD, List.getElem?_map, List.getElem?_take_of_lt hi, List.getElem?_eq_getElem hi2, List.getD_eq_getElem?_getD, List.getElem?_eq_getElem hi2]
      simp only [Option.map_some, Option.getD_some]
      exact (str_of _).symm
    rw [h4]
    exact h1
section
variable {w : World} {E : Value} {a a2 : Option Addr} {c ci : Nat} {src b : Bytes} {ls : List Bytes}
set_option maxRecDepth 20000 in
set_option maxHeartbeats 2000000 in
theorem fnPreamble_any (hE : Env w E) (h : HB w a src) (hc : src.length ≤ c) (hnone : a = none → c = 0) (h2 : TB w a2 ls) :
    Calls Tryz.prog 12 #[.slice a src.length c, .string (str b), .slice a2 ls.length ci] w fun e w' => e = .returned (.bool true) ∧ Kp [] w w' := by
  have HK : Hid (Kp [] w w) := Kp.refl _ _
  by_cases hs0 : src.length ≤ 2147483647 ∧ b.length ≤ 2147483647
  · have h01 : ¬ (2147483647 : Int) < (src.length : Int) := by omega
    have h02 : ¬ (2147483647 : Int) < (b.length : Int) := by omega
    have hfit := fits35 (c := ci) h2
    cases hf : fitsB ls with
    | false =>
      rw [hf] at hfit
      clear hE h hc hnone h2
      go_enter Tryz.func12, Tryz.ntmps12
      go_wp2_with fail
      refine hfit.mono ?_
      rintro e w' ⟨rfl, rfl⟩
      go_wp2
      go_ret
      exact ⟨rfl, HK.out⟩
    | true =>
      rw [hf] at hfit
      by_cases hs : src.length ≤ 16777216 ∧ b.length ≤ 16777216
      · have h03 : ¬ (16777216 : Int) < (src.length : Int) := by omega
        have h04 : ¬ (16777216 : Int) < (b.length : Int) := by omega
        have hln : ls.length ≤ 2147483647 := by unfold fitsB at hf; simp at hf; exact hf.1
        have hbri := brief36 (c := ci) h2 hln
        cases hbr : briefB ls with
        | true => exact fnPreamble_walk hE h hc hnone h2 hs.1 hs.2 hf hbr
        | false =>
          rw [hbr] at hbri
          clear hE h hc hnone h2 hf hbr hln
          go_enter Tryz.func12, Tryz.ntmps12
          go_wp2_with fail
          refine hfit.mono ?_
          rintro e w' ⟨rfl, rfl⟩
          go_wp2_with fail
          refine hbri.mono ?_
          rintro e w' ⟨rfl, rfl⟩
          go_wp2
          go_ret
          exact ⟨rfl, HK.out⟩
      · clear hE h hc hnone h2 hf
        by_cases h03 : (16777216 : Int) < (src.length : Int)
        · go_enter Tryz.func12, Tryz.ntmps12
          go_wp2_with fail
          refine hfit.mono ?_
          rintro e w' ⟨rfl, rfl⟩
          go_wp2
          go_ret
          exact ⟨rfl, HK.out⟩
        · have h04 : (16777216 : Int) < (b.length : Int) := by omega
          go_enter Tryz.func12, Tryz.ntmps12
          go_wp2_with fail
          refine hfit.mono ?_
          rintro e w' ⟨rfl, rfl⟩
          go_wp2
          go_ret
          exact ⟨rfl, HK.out⟩
  · clear hE h hc hnone h2
    by_cases h01 : (2147483647 : Int) < (src.length : Int)
    · go_enter Tryz.func12, Tryz.ntmps12
      go_wp2
      go_ret
      exact ⟨rfl, HK.out⟩
    · have h02 : (2147483647 : Int) < (b.length : Int) := by omega
      go_enter Tryz.func12, Tryz.ntmps12
      go_wp2
      go_ret
      exact ⟨rfl, HK.out⟩
end
end Go.Proofs.YtkbgnplknifmhaaGreatDoor
namespace Go.Proofs.YtkbgnplknifmhaaGreatDoor.fnPreamble
open Go.ChangeShapes Go.WideShapes Go.ChangeAt Go.RowKit
open Go.ChangeMaps (open_string)
theorem readable : ∀ t ∈ Tryz.f12.params.toList, Tryz.prog.readableRec t = true ∧ t < Tryz.prog.types.size := by
  have h : Tryz.f12.params = #[22, 9, 41] := Tryz.params12
  rw [h]
  intro t ht
  simp at ht
  have hm : t = 22 ∨ t = 9 ∨ t = 41 := by omega
  rcases hm with rfl | rfl | rfl
  · exact ⟨by kernel_rfl, of_decide_eq_true (by kernel_rfl)⟩
  · exact ⟨by kernel_rfl, of_decide_eq_true (by kernel_rfl)⟩
  · exact ⟨by kernel_rfl, of_decide_eq_true (by kernel_rfl)⟩
theorem vars : ∀ n ∈ Rows.fnPreambleSpec.vars, ∃ g, Tryz.prog.globalNamed n = some g ∧ (Tryz.prog.globals[g]?).map (·.type) = some 69 := by
  intro n hn
  simp [Rows.fnPreambleSpec] at hn
  rcases hn with rfl | rfl
  · exact ⟨4, by kernel_rfl, by kernel_rfl⟩
  · exact ⟨11, by kernel_rfl, by kernel_rfl⟩

set_option maxRecDepth 100000 in
theorem contract (H : Type) (enc : TypeId × Value → H) (W : World) (base : Nat) (args : Array Value) (ds gs : List (DataW H)) (before : List MemPlace)
    (hval : ∀ (j : Nat) t v, Tryz.f12.params[j]? = some t → args[j]? = some v → Value.okWide Tryz.prog W .any base t v)
    (hW : DataW.Whole enc Tryz.prog Tryz.f12.params.toList Rows.fnPreambleSpec.vars false W args.toList ds gs before) (hL : laidMetH Tryz.prog Rows.fnPreambleRow.laid W) :
    Calls Tryz.prog 12 args W fun e W' => ∃ v, e = .returned v ∧ Rows.fnPreambleSpec.post enc Tryz.prog Tryz.f12 false true false false W args v W' := by
  have hW' := hW
  obtain ⟨p, q, hA0, hV, rfl, _, _⟩ := hW
  have hA : DataW.TrodAll enc Tryz.prog W 0 (fun _ => true) true Tryz.f12.params.toList args.toList ds p := hA0
  rw [Tryz.params12] at hA hval
  obtain ⟨v0, v1, v2, d0, d1, d2, p0, p1, p2, rfl, rfl, rfl, h0, h1, h2⟩ := trodAll_three hA
  obtain ⟨a0, l0, c0, rfl⟩ := okWide_slice elem22 (hval 0 22 v0 rfl rfl)
  obtain ⟨s1, rfl, rfl, rfl, hsz1⟩ := open_string Tryz.underlying9 (hval 1 9 v1 rfl rfl) h1
  obtain ⟨a2, l2, c2, rfl⟩ := okWide_slice Tryz.underlying41 (hval 2 41 v2 rfl rfl)
  obtain ⟨src0, rfl, hb0, hc0, hn0⟩ := open_bytes h0
  obtain ⟨ls2, rfl, hv2⟩ := open_texts h2
  have hL' : laidMetH Tryz.prog Rows.fnReadsRow.laid W := hL
  obtain ⟨E, hE⟩ := env_of_laid hL'
  have walk := fnPreamble_any (b := s1.data.toList) (ci := c2) hE hb0 hc0 hn0 hv2
  rw [← str_of s1] at walk
  refine walk.mono fun e W' ⟨he, hk⟩ => ?_
  subst he
  have hg : ∃ g1 g2, gs = [g1, g2] := by
    have hV' : DataW.TrodVars enc Tryz.prog W (fun _ => true) ["loop.example/pub-mailparts/pub/multipart.ErrMessageTooLarge", "loop.example/pub-mailparts/pub/textproto.errMessageTooLarge"] gs q := hV
    cases gs with
    | nil => cases hV'
    | cons g1 gs =>
      obtain ⟨_, _, _, _, _, q1, _, _, _, _, h5, _⟩ := hV'
      cases gs with
      | nil => cases h5
      | cons g2 gs =>
        obtain ⟨_, _, _, _, _, q2, _, _, _, _, h6, _⟩ := h5
        cases gs with
        | nil => exact ⟨g1, g2, rfl⟩
        | cons g3 gs => cases h6
  obtain ⟨g1, g2, rfl⟩ := hg
  exact ⟨_, rfl, post_true readable vars (by kernel_rfl) hW' hk rfl⟩

end Go.Proofs.YtkbgnplknifmhaaGreatDoor.fnPreamble
