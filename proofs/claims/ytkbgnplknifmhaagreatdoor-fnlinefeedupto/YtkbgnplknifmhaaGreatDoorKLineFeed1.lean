/-
  laws.FnLineFeed: where the arguments are of bulk at most 1048576, the law answers true and leaves its arguments and the two named variables as they read: a body in which LF alone ends the lines gives the same parts, if there is no CR in these. Condition: the bound on the bulk (the second form), and the row's own.
-/
import Derived.Test.YtkbgnplknifmhaaGreatDoorKBd10ToLw7
import Derived.Test.YtkbgnplknifmhaaGreatDoorKRow4ToExactBody1
namespace Go.Proofs.YtkbgnplknifmhaaGreatDoor.fnLineFeedUpto
open Go.ChangeShapes Go.WideShapes Go.ChangeAt Go.RowKit
open Go.ChangeMaps (open_string)
theorem readable : ∀ t ∈ Tryz.f7.params.toList, Tryz.prog.readableRec t = true ∧ t < Tryz.prog.types.size := by
  have h : Tryz.f7.params = #[48, 9] := Tryz.params7
  rw [h]
  intro t ht
  simp at ht
  have hm : t = 48 ∨ t = 9 := by omega
  rcases hm with rfl | rfl
  · exact ⟨by kernel_rfl, of_decide_eq_true (by kernel_rfl)⟩
  · exact ⟨by kernel_rfl, of_decide_eq_true (by kernel_rfl)⟩
theorem vars : ∀ n ∈ Rows.fnLineFeedSpec.vars, ∃ g, Tryz.prog.globalNamed n = some g ∧ (Tryz.prog.globals[g]?).map (·.type) = some 69 := by
  intro n hn
  simp [Rows.fnLineFeedSpec] at hn
  rcases hn with rfl | rfl
  · exact ⟨4, by kernel_rfl, by kernel_rfl⟩
  · exact ⟨11, by kernel_rfl, by kernel_rfl⟩

set_option maxRecDepth 100000 in
theorem contract (H : Type) (enc : TypeId × Value → H) (W : World) (base : Nat) (args : Array Value) (ds gs : List (DataW H)) (before : List MemPlace)
    (hval : ∀ (j : Nat) t v, Tryz.f7.params[j]? = some t → args[j]? = some v → Value.okWide Tryz.prog W .any base t v)
    (hW : DataW.Whole enc Tryz.prog Tryz.f7.params.toList Rows.fnLineFeedSpec.vars false W args.toList ds gs before) (hk : Rows.uptoSmall H (ds ++ gs) = true) (hL : laidMetH Tryz.prog Rows.fnLineFeedUptoRow.laid W) :
    Calls Tryz.prog 7 args W fun e W' => ∃ v, e = .returned v ∧ Rows.fnLineFeedSpec.post enc Tryz.prog Tryz.f7 false true false false W args v W' := by
  have hW' := hW
  obtain ⟨p, q, hA0, hV, rfl, _, _⟩ := hW
  have hA : DataW.TrodAll enc Tryz.prog W 0 (fun _ => true) true Tryz.f7.params.toList args.toList ds p := hA0
  rw [Tryz.params7] at hA hval
  obtain ⟨v0, v1, d0, d1, p0, p1, rfl, rfl, rfl, h0, h1⟩ := trodAll_two hA
  obtain ⟨s1, rfl, rfl, rfl, hsz1⟩ := open_string Tryz.underlying9 (hval 1 9 v1 rfl rfl) h1
  obtain ⟨cs, ls, ps, pads, after, rfl, hb, hbk⟩ := open_bodyB (hval 0 48 v0 rfl rfl) h0
  have hsm := of_decide_eq_true hk
  simp only [List.cons_append, Rows.uptoBulkAll, Rows.uptoBulk] at hsm
  have hL' : laidMetH Tryz.prog Rows.fnReadsRow.laid W := hL
  obtain ⟨E, hE⟩ := env_of_laid hL'
  have walk := fnLineFeed_walk (b := s1.data.toList) hE hb (by omega) (by omega)
  rw [← str_of s1] at walk
  refine walk.mono fun e W' ⟨he, hkp⟩ => ?_
  subst he
  have hg : ∃ g1 g2, gs = [g1, g2] := by
    have hV' : DataW.TrodVars enc Tryz.prog W (fun _ => true) ["loop.example/pub-mailparts/pub/multipart.ErrMessageTooLarge", "loop.example/pub-mailparts/pub/textproto.errMessageTooLarge"] gs q := hV
    cases gs with
    | nil => cases hV'
    | cons g1 gs =>
      obtain ⟨_, _, _, _, _, q1, _, _, _, _, h5, _⟩ := hV'
      cases gs with
      | nil => cases h5
      | cons g2 gs =>
        obtain ⟨_, _, _, _, _, q2, _, _, _, _, h6, _⟩ := h5
        cases gs with
        | nil => exact ⟨g1, g2, rfl⟩
        | cons g3 gs => cases h6
  obtain ⟨g1, g2, rfl⟩ := hg
  exact ⟨_, rfl, post_true readable vars (by kernel_rfl) hW' hkp rfl⟩

end Go.Proofs.YtkbgnplknifmhaaGreatDoor.fnLineFeedUpto
