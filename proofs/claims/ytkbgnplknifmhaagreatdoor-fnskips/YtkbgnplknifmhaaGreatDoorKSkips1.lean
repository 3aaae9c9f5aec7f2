/-
  laws.FnSkips: whatever the arguments, the law answers true and leaves its arguments and the two named variables as they read: parts that are not read whole, or not at all, change nothing of the others. No condition beyond the row's own.
-/
import Derived.Test.YtkbgnplknifmhaaGreatDoorKSk1ToSk4
import Derived.Test.YtkbgnplknifmhaaGreatDoorKRow1ToRow2
namespace Go.Proofs.YtkbgnplknifmhaaGreatDoor.fnSkips
open Go.ChangeShapes Go.WideShapes Go.ChangeAt Go.RowKit
open Go.ChangeMaps (open_string)
theorem readable : ∀ t ∈ Tryz.f5.params.toList, Tryz.prog.readableRec t = true ∧ t < Tryz.prog.types.size := by
  have h : Tryz.f5.params = #[22, 9, 23] := Tryz.params5
  rw [h]
  intro t ht
  simp at ht
  have hm : t = 22 ∨ t = 9 ∨ t = 23 := by omega
  rcases hm with rfl | rfl | rfl
  · exact ⟨by kernel_rfl, of_decide_eq_true (by kernel_rfl)⟩
  · exact ⟨by kernel_rfl, of_decide_eq_true (by kernel_rfl)⟩
  · exact ⟨by kernel_rfl, of_decide_eq_true (by kernel_rfl)⟩
theorem vars : ∀ n ∈ Rows.fnSkipsSpec.vars, ∃ g, Tryz.prog.globalNamed n = some g ∧ (Tryz.prog.globals[g]?).map (·.type) = some 69 := by
  intro n hn
  simp [Rows.fnSkipsSpec] at hn
  rcases hn with rfl | rfl
  · exact ⟨4, by kernel_rfl, by kernel_rfl⟩
  · exact ⟨11, by kernel_rfl, by kernel_rfl⟩

set_option maxRecDepth 100000 in
theorem contract (H : Type) (enc : TypeId × Value → H) (W : World) (base : Nat) (args : Array Value) (ds gs : List (DataW H)) (before : List MemPlace)
    (hval : ∀ (j : Nat) t v, Tryz.f5.params[j]? = some t → args[j]? = some v → Value.okWide Tryz.prog W .any base t v)
    (hW : DataW.Whole enc Tryz.prog Tryz.f5.params.toList Rows.fnSkipsSpec.vars false W args.toList ds gs before) (hL : laidMetH Tryz.prog Rows.fnSkipsRow.laid W) :
    Calls Tryz.prog 5 args W fun e W' => ∃ v, e = .returned v ∧ Rows.fnSkipsSpec.post enc Tryz.prog Tryz.f5 false true false false W args v W' := by
  have hW' := hW
  obtain ⟨p, q, hA0, hV, rfl, _, _⟩ := hW
  have hA : DataW.TrodAll enc Tryz.prog W 0 (fun _ => true) true Tryz.f5.params.toList args.toList ds p := hA0
  rw [Tryz.params5] at hA hval
  obtain ⟨v0, v1, v2, d0, d1, d2, p0, p1, p2, rfl, rfl, rfl, h0, h1, h2⟩ := trodAll_three hA
  obtain ⟨a0, l0, c0, rfl⟩ := okWide_slice elem22 (hval 0 22 v0 rfl rfl)
  obtain ⟨s1, rfl, rfl, rfl, hsz1⟩ := open_string Tryz.underlying9 (hval 1 9 v1 rfl rfl) h1
  obtain ⟨a2, l2, c2, rfl⟩ := okWide_slice elem23' (hval 2 23 v2 rfl rfl)
  obtain ⟨src0, rfl, hb0, hc0, hn0⟩ := open_bytes h0
  obtain ⟨is2, rfl, hi2⟩ := open_nums h2
  have hL' : laidMetH Tryz.prog Rows.fnReadsRow.laid W := hL
  obtain ⟨E, hE⟩ := env_of_laid hL'
  have walk := fnSkips_any (b := s1.data.toList) (ci := c2) hE hb0 hc0 hn0 hi2
  rw [← str_of s1] at walk
  refine walk.mono fun e W' ⟨he, hk⟩ => ?_
  subst he
  have hg : ∃ g1 g2, gs = [g1, g2] := by
    have hV' : DataW.TrodVars enc Tryz.prog W (fun _ => true) ["loop.example/pub-mailparts/pub/multipart.ErrMessageTooLarge", "loop.example/pub-mailparts/pub/textproto.errMessageTooLarge"] gs q := hV
    cases gs with
    | nil => cases hV'
    | cons g1 gs =>
      obtain ⟨_, _, _, _, _, q1, _, _, _, _, h5, _⟩ := hV'
      cases gs with
      | nil => cases h5
      | cons g2 gs =>
        obtain ⟨_, _, _, _, _, q2, _, _, _, _, h6, _⟩ := h5
        cases gs with
        | nil => exact ⟨g1, g2, rfl⟩
        | cons g3 gs => cases h6
  obtain ⟨g1, g2, rfl⟩ := hg
  exact ⟨_, rfl, post_true readable vars (by kernel_rfl) hW' hk rfl⟩

end Go.Proofs.YtkbgnplknifmhaaGreatDoor.fnSkips
