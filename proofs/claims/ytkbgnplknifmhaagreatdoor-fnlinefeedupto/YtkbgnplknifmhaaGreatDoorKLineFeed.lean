/-
  laws.FnLineFeed: where the arguments are of bulk at most 1048576, the law answers true and leaves its arguments and the two named variables as they read: a body in which LF alone ends the lines gives the same parts, if there is no CR in these. Condition: the bound on the bulk (the second form), and the row's own.
-/
import Derived.Test.YtkbgnplknifmhaaGreatDoorKLineFeed1
import Derived.Test.YtkbgnplknifmhaaGreatDoorKWitToWitC
import Derived.Test.YtkbgnplknifmhaaGreatDoorCards
import Derived.Test.YtkbgnplknifmhaaGreatDoorTie
import Derived.SevenTiedAt
namespace Go.Proofs.YtkbgnplknifmhaaGreatDoor.fnLineFeedUpto
open Go.ChangeShapes Go.WideShapes Go.ChangeAt Go.RowKit
open Go.ChangeMaps (open_string)

theorem reads (os : Os) {H : Type} (enc : TypeId × Value → H) : ∃ x, DataW.whole enc Tryz.prog ((laidWorld os).forCall (fun _ _ => 0) ⟨#[], #[.agg #[.slice none 0 0, .slice none 0 0, .slice none 0 0, .slice none 0 0], .string ⟨#[]⟩], []⟩).memory Tryz.f7.params.toList Rows.fnLineFeedSpec.vars false #[.agg #[.slice none 0 0, .slice none 0 0, .slice none 0 0, .slice none 0 0], .string ⟨#[]⟩].toList 8 = some x ∧ Rows.uptoSmall H (x.1 ++ x.2.1) = true := by
  have h : (DataW.whole enc Tryz.prog ((laidWorld os).forCall (fun _ _ => 0) ⟨#[], #[.agg #[.slice none 0 0, .slice none 0 0, .slice none 0 0, .slice none 0 0], .string ⟨#[]⟩], []⟩).memory Tryz.f7.params.toList Rows.fnLineFeedSpec.vars false #[Value.agg #[.slice none 0 0, .slice none 0 0, .slice none 0 0, .slice none 0 0], .string ⟨#[]⟩].toList 8).map (fun x => Rows.uptoSmall H (x.1 ++ x.2.1)) = some true := by kernel_rfl
  exact Option.map_eq_some_iff.1 h
set_option maxRecDepth 100000 in
theorem lifted (os : Os) (started : os.Started) (H : Type) (enc : TypeId × Value → H) (F : Stop.Interp) :
    ReturnsInHanded {} Tryz.checked os 7 .any ((Rows.OpenSpec.upto Rows.fnLineFeedSpec).preRow enc Tryz.prog Tryz.f7 Rows.fnLineFeedUptoRow.domain false Rows.fnLineFeedUptoRow.laid) (((Rows.OpenSpec.upto Rows.fnLineFeedSpec).at F).post enc Tryz.prog Tryz.f7 false true false false) := by
  obtain ⟨x, hx, hsm⟩ := reads os enc
  refine returnsInHanded_of_row (C := Tryz.checked) (s := Rows.OpenSpec.upto Rows.fnLineFeedSpec) own started (by kernel_rfl) Tryz.func7
    (witness_row_atRef (enc := enc) (C := Tryz.checked) false (laidWorld os) #[.agg #[.slice none 0 0, .slice none 0 0, .slice none 0 0, .slice none 0 0], .string ⟨#[]⟩] rfl (by kernel_rfl) (by kernel_rfl) (by kernel_rfl)
      (OpenSpec.preRow_of_cond 8 hx rfl (fun k hk => by cases hk; exact hsm) (by kernel_rfl) (laid_met os _))) ?_
  intro W base args ds gs before hval hW _ hcond _ hL _ _
  exact contract H enc W base args ds gs before hval hW (hcond _ rfl) hL
theorem jf1 : (Rows.fnLineFeedUptoRow.inPlace == Tryz.pinned.checked.prog.inPlace 7) = true := by kernel_rfl
theorem jf2 : (Rows.fnLineFeedUptoRow.unfollowed == Tryz.pinned.checked.prog.unfollowed 7) = true := by kernel_rfl
theorem jf3 : (Rows.fnLineFeedUptoRow.recurses == Tryz.pinned.checked.prog.recurses 7) = true := by kernel_rfl
theorem jf4 : (Rows.fnLineFeedUptoRow.named == Tryz.pinned.checked.prog.varsNamed 7) = true := by kernel_rfl
theorem closed : joinedFacts Tryz.pinned.checked.prog 7 Tryz.f7 (Rows.OpenSpec.upto Rows.fnLineFeedSpec).bare Rows.fnLineFeedUptoRow = true := by
  unfold joinedFacts
  rw [jf1, jf2, jf3, jf4]
  kernel_rfl
theorem said : Rows.FnLineFeedUptoSaid :=
  OpenClaim.holds_of_cond 7 Tryz.f7 rfl rfl rfl rfl rfl rfl rfl ⟨rfl, rfl, rfl, rfl, rfl⟩ rfl rfl rfl rfl rfl (by kernel_rfl) Tryz.func7 closed
    (of_decide_eq_true (by kernel_rfl)) (by unfold Func.isWrapper; first | (rw [if_pos (by decide +kernel)]; kernel_rfl) | (rw [if_neg (by decide +kernel)]; exact ⟨rfl, rfl⟩))
    (fun os started H enc _ F => by rw [OpenClaim.pre_eq_preRow]; exact lifted os started H enc F)
theorem plain (f : FuncId) (fn : Func) (hf : Tryz.pinned.checked.prog.funcNamed "loop.example/pub-mailparts/laws.FnLineFeed" = some f) (hfn : Tryz.pinned.checked.prog.funcs[f]? = some fn) :
    true = Tryz.pinned.checked.prog.looks [] ∧ ∀ (j : Nat) t, fn.params[j]? = some t → Tryz.pinned.checked.prog.wantsStandIn t = false := by
  obtain rfl : f = 7 := Option.some.inj ((show Tryz.prog.funcNamed "loop.example/pub-mailparts/laws.FnLineFeed" = some 7 by kernel_rfl).symm.trans hf) |>.symm
  obtain rfl : fn = Tryz.f7 := (Option.some.inj (Tryz.func7.symm.trans hfn)).symm
  refine ⟨by kernel_rfl, fun j t ht => ?_⟩
  rw [Tryz.params7] at ht
  have hm0 := Array.mem_of_getElem? ht
  simp at hm0
  have hm : t = 48 ∨ t = 9 := by omega
  rcases hm with rfl | rfl
  · exact (show Tryz.prog.wantsStandIn 48 = false by kernel_rfl)
  · exact (show Tryz.prog.wantsStandIn 9 = false by kernel_rfl)
theorem card : Rows.FnLineFeedUptoCardSaid :=
  Claim7.holds_tied_plain_at .later [] _ _ _ _ said (fun _ h => by cases h) (by kernel_rfl) (fun _ h => by cases h) fnLineFeedUpto_row_tie rfl ⟨rfl, rfl⟩ (by kernel_rfl) rfl plain (by kernel_rfl)
#print axioms card
end Go.Proofs.YtkbgnplknifmhaaGreatDoor.fnLineFeedUpto
