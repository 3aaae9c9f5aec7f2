/-
  laws.FnFolded: whatever the arguments, the law answers true and leaves its arguments and the two named variables as they read: a value of a header that goes on in another line, behind blanks, is both with a space between. No condition beyond the row's own.
-/
import Derived.Test.YtkbgnplknifmhaaGreatDoorKFolded1
import Derived.Test.YtkbgnplknifmhaaGreatDoorKWitToWitC
import Derived.Test.YtkbgnplknifmhaaGreatDoorCards
import Derived.Test.YtkbgnplknifmhaaGreatDoorTie
import Derived.SevenTiedAt
namespace Go.Proofs.YtkbgnplknifmhaaGreatDoor.fnFolded
open Go.ChangeShapes Go.WideShapes Go.ChangeAt Go.RowKit
open Go.ChangeMaps (open_string)

theorem reads (os : Os) {H : Type} (enc : TypeId × Value → H) : ∃ x, DataW.whole enc Tryz.prog ((laidWorld os).forCall (fun _ _ => 0) ⟨#[], #[.string ⟨#[]⟩, .string ⟨#[]⟩, .string ⟨#[]⟩, .string ⟨#[]⟩, .string ⟨#[]⟩, .slice none 0 0], []⟩).memory Tryz.f4.params.toList Rows.fnFoldedSpec.vars false #[.string ⟨#[]⟩, .string ⟨#[]⟩, .string ⟨#[]⟩, .string ⟨#[]⟩, .string ⟨#[]⟩, .slice none 0 0].toList 8 = some x := by
  have h : (DataW.whole enc Tryz.prog ((laidWorld os).forCall (fun _ _ => 0) ⟨#[], #[.string ⟨#[]⟩, .string ⟨#[]⟩, .string ⟨#[]⟩, .string ⟨#[]⟩, .string ⟨#[]⟩, .slice none 0 0], []⟩).memory Tryz.f4.params.toList Rows.fnFoldedSpec.vars false #[Value.string ⟨#[]⟩, .string ⟨#[]⟩, .string ⟨#[]⟩, .string ⟨#[]⟩, .string ⟨#[]⟩, .slice none 0 0].toList 8).isSome = true := by kernel_rfl
  exact Option.isSome_iff_exists.1 h
set_option maxRecDepth 100000 in
theorem lifted (os : Os) (started : os.Started) (H : Type) (enc : TypeId × Value → H) (F : Stop.Interp) :
    ReturnsInHanded {} Tryz.checked os 4 .any ((OpenSpec.ofChange Rows.fnFoldedSpec).preRow enc Tryz.prog Tryz.f4 Rows.fnFoldedRow.domain false Rows.fnFoldedRow.laid) (((OpenSpec.ofChange Rows.fnFoldedSpec).at F).post enc Tryz.prog Tryz.f4 false true false false) := by
  obtain ⟨x, hx⟩ := reads os enc
  refine returnsInHanded_of_row (C := Tryz.checked) (s := OpenSpec.ofChange Rows.fnFoldedSpec) own started (by kernel_rfl) Tryz.func4
    (witness_row_atRef (enc := enc) (C := Tryz.checked) false (laidWorld os) #[.string ⟨#[]⟩, .string ⟨#[]⟩, .string ⟨#[]⟩, .string ⟨#[]⟩, .string ⟨#[]⟩, .slice none 0 0] rfl (by kernel_rfl) (by kernel_rfl) (by kernel_rfl)
      (OpenSpec.preRow_of_cond 8 hx rfl (fun k hk => by cases hk) (by kernel_rfl) (laid_met os _))) ?_
  intro W base args ds gs before hval hW _ _ _ hL _ _
  exact contract H enc W base args ds gs before hval hW hL
theorem jf1 : (Rows.fnFoldedRow.inPlace == Tryz.pinned.checked.prog.inPlace 4) = true := by kernel_rfl
theorem jf2 : (Rows.fnFoldedRow.unfollowed == Tryz.pinned.checked.prog.unfollowed 4) = true := by kernel_rfl
theorem jf3 : (Rows.fnFoldedRow.recurses == Tryz.pinned.checked.prog.recurses 4) = true := by kernel_rfl
theorem jf4 : (Rows.fnFoldedRow.named == Tryz.pinned.checked.prog.varsNamed 4) = true := by kernel_rfl
theorem closed : joinedFacts Tryz.pinned.checked.prog 4 Tryz.f4 (OpenSpec.ofChange Rows.fnFoldedSpec).bare Rows.fnFoldedRow = true := by
  unfold joinedFacts
  rw [jf1, jf2, jf3, jf4]
  kernel_rfl
theorem said : Rows.FnFoldedSaid :=
  OpenClaim.holds_of_cond 4 Tryz.f4 rfl rfl rfl rfl rfl rfl rfl ⟨rfl, rfl, rfl, rfl, rfl⟩ rfl rfl rfl rfl rfl (by kernel_rfl) Tryz.func4 closed
    (of_decide_eq_true (by kernel_rfl)) (by unfold Func.isWrapper; first | (rw [if_pos (by decide +kernel)]; kernel_rfl) | (rw [if_neg (by decide +kernel)]; exact ⟨rfl, rfl⟩))
    (fun os started H enc _ F => by rw [OpenClaim.pre_eq_preRow]; exact lifted os started H enc F)
theorem plain (f : FuncId) (fn : Func) (hf : Tryz.pinned.checked.prog.funcNamed "loop.example/pub-mailparts/laws.FnFolded" = some f) (hfn : Tryz.pinned.checked.prog.funcs[f]? = some fn) :
    true = Tryz.pinned.checked.prog.looks [] ∧ ∀ (j : Nat) t, fn.params[j]? = some t → Tryz.pinned.checked.prog.wantsStandIn t = false := by
  obtain rfl : f = 4 := Option.some.inj ((show Tryz.prog.funcNamed "loop.example/pub-mailparts/laws.FnFolded" = some 4 by kernel_rfl).symm.trans hf) |>.symm
  obtain rfl : fn = Tryz.f4 := (Option.some.inj (Tryz.func4.symm.trans hfn)).symm
  refine ⟨by kernel_rfl, fun j t ht => ?_⟩
  rw [Tryz.params4] at ht
  have hm0 := Array.mem_of_getElem? ht
  simp at hm0
  have hm : t = 9 ∨ t = 22 := by omega
  rcases hm with rfl | rfl
  · exact (show Tryz.prog.wantsStandIn 9 = false by kernel_rfl)
  · exact (show Tryz.prog.wantsStandIn 22 = false by kernel_rfl)
theorem card : Rows.FnFoldedCardSaid :=
  Claim7.holds_tied_plain_at .later [] _ _ _ _ said (fun _ h => by cases h) (by kernel_rfl) (fun _ h => by cases h) fnFolded_row_tie rfl ⟨rfl, rfl⟩ (by kernel_rfl) rfl plain (by kernel_rfl)
#print axioms card
end Go.Proofs.YtkbgnplknifmhaaGreatDoor.fnFolded
