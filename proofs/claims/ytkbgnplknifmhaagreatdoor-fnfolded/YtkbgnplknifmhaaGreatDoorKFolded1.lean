/-
  laws.FnFolded: whatever the arguments, the law answers true and leaves its arguments and the two named variables as they read: a value of a header that goes on in another line, behind blanks, is both with a space between. No condition beyond the row's own.
-/
import Derived.Test.YtkbgnplknifmhaaGreatDoorKFo2ToFo3
import Derived.Test.YtkbgnplknifmhaaGreatDoorKRow3
namespace Go.Proofs.YtkbgnplknifmhaaGreatDoor.fnFolded
open Go.ChangeShapes Go.WideShapes Go.ChangeAt Go.RowKit
open Go.ChangeMaps (open_string)
theorem readable : ∀ t ∈ Tryz.f4.params.toList, Tryz.prog.readableRec t = true ∧ t < Tryz.prog.types.size := by
  have h : Tryz.f4.params = #[9, 9, 9, 9, 9, 22] := Tryz.params4
  rw [h]
  intro t ht
  simp at ht
  have hm : t = 9 ∨ t = 22 := by omega
  rcases hm with rfl | rfl
  · exact ⟨by kernel_rfl, of_decide_eq_true (by kernel_rfl)⟩
  · exact ⟨by kernel_rfl, of_decide_eq_true (by kernel_rfl)⟩
theorem vars : ∀ n ∈ Rows.fnFoldedSpec.vars, ∃ g, Tryz.prog.globalNamed n = some g ∧ (Tryz.prog.globals[g]?).map (·.type) = some 69 := by
  intro n hn
  simp [Rows.fnFoldedSpec] at hn
  rcases hn with rfl | rfl
  · exact ⟨4, by kernel_rfl, by kernel_rfl⟩
  · exact ⟨11, by kernel_rfl, by kernel_rfl⟩

set_option maxRecDepth 100000 in
theorem contract (H : Type) (enc : TypeId × Value → H) (W : World) (base : Nat) (args : Array Value) (ds gs : List (DataW H)) (before : List MemPlace)
    (hval : ∀ (j : Nat) t v, Tryz.f4.params[j]? = some t → args[j]? = some v → Value.okWide Tryz.prog W .any base t v)
    (hW : DataW.Whole enc Tryz.prog Tryz.f4.params.toList Rows.fnFoldedSpec.vars false W args.toList ds gs before) (hL : laidMetH Tryz.prog Rows.fnFoldedRow.laid W) :
    Calls Tryz.prog 4 args W fun e W' => ∃ v, e = .returned v ∧ Rows.fnFoldedSpec.post enc Tryz.prog Tryz.f4 false true false false W args v W' := by
  have hW' := hW
  obtain ⟨p, q, hA0, hV, rfl, _, _⟩ := hW
  have hA : DataW.TrodAll enc Tryz.prog W 0 (fun _ => true) true Tryz.f4.params.toList args.toList ds p := hA0
  rw [Tryz.params4] at hA hval
  obtain ⟨v0, v1, v2, v3, v4, v5, d0, d1, d2, d3, d4, d5, p0, p1, p2, p3, p4, p5, rfl, rfl, rfl, h0, h1, h2, h3, h4, h5⟩ := trodAll_six hA
  obtain ⟨s0, rfl, rfl, rfl, hsz0⟩ := open_string Tryz.underlying9 (hval 0 9 v0 rfl rfl) h0
  obtain ⟨s1, rfl, rfl, rfl, hsz1⟩ := open_string Tryz.underlying9 (hval 1 9 v1 rfl rfl) h1
  obtain ⟨s2, rfl, rfl, rfl, hsz2⟩ := open_string Tryz.underlying9 (hval 2 9 v2 rfl rfl) h2
  obtain ⟨s3, rfl, rfl, rfl, hsz3⟩ := open_string Tryz.underlying9 (hval 3 9 v3 rfl rfl) h3
  obtain ⟨s4, rfl, rfl, rfl, hsz4⟩ := open_string Tryz.underlying9 (hval 4 9 v4 rfl rfl) h4
  obtain ⟨a5, l5, c5, rfl⟩ := okWide_slice elem22 (hval 5 22 v5 rfl rfl)
  obtain ⟨src5, rfl, hb5, hc5, hn5⟩ := open_bytes h5
  have hL' : laidMetH Tryz.prog Rows.fnReadsRow.laid W := hL
  obtain ⟨E, hE⟩ := env_of_laid hL'
  have walk := fnFolded_any (b := s0.data.toList) (key := s1.data.toList) (a := s2.data.toList) (v := s3.data.toList) (sp := s4.data.toList) hE hb5 hc5 hn5
  rw [← str_of s0] at walk
  rw [← str_of s1] at walk
  rw [← str_of s2] at walk
  rw [← str_of s3] at walk
  rw [← str_of s4] at walk
  refine walk.mono fun e W' ⟨he, hk⟩ => ?_
  subst he
  have hg : ∃ g1 g2, gs = [g1, g2] := by
    have hV' : DataW.TrodVars enc Tryz.prog W (fun _ => true) ["loop.example/pub-mailparts/pub/multipart.ErrMessageTooLarge", "loop.example/pub-mailparts/pub/textproto.errMessageTooLarge"] gs q := hV
    cases gs with
    | nil => cases hV'
    | cons g1 gs =>
      obtain ⟨_, _, _, _, _, q1, _, _, _, _, h5, _⟩ := hV'
      cases gs with
      | nil => cases h5
      | cons g2 gs =>
        obtain ⟨_, _, _, _, _, q2, _, _, _, _, h6, _⟩ := h5
        cases gs with
        | nil => exact ⟨g1, g2, rfl⟩
        | cons g3 gs => cases h6
  obtain ⟨g1, g2, rfl⟩ := hg
  exact ⟨_, rfl, post_true readable vars (by kernel_rfl) hW' hk rfl⟩

end Go.Proofs.YtkbgnplknifmhaaGreatDoor.fnFolded
