/-
  laws.FnSkips: whatever the arguments, the law answers true and leaves its arguments and the two named variables as they read: parts that are not read whole, or not at all, change nothing of the others. No condition beyond the row's own.
-/
import Derived.Test.YtkbgnplknifmhaaGreatDoorKSkips1
import Derived.Test.YtkbgnplknifmhaaGreatDoorKWitToWitC
import Derived.Test.YtkbgnplknifmhaaGreatDoorCards
import Derived.Test.YtkbgnplknifmhaaGreatDoorTie
import Derived.SevenTiedAt
namespace Go.Proofs.YtkbgnplknifmhaaGreatDoor.fnSkips
open Go.ChangeShapes Go.WideShapes Go.ChangeAt Go.RowKit
open Go.ChangeMaps (open_string)

theorem reads (os : Os) {H : Type} (enc : TypeId × Value → H) : ∃ x, DataW.whole enc Tryz.prog ((laidWorld os).forCall (fun _ _ => 0) ⟨#[], #[.slice none 0 0, .string ⟨#[]⟩, .slice none 0 0], []⟩).memory Tryz.f5.params.toList Rows.fnSkipsSpec.vars false #[.slice none 0 0, .string ⟨#[]⟩, .slice none 0 0].toList 8 = some x := by
  have h : (DataW.whole enc Tryz.prog ((laidWorld os).forCall (fun _ _ => 0) ⟨#[], #[.slice none 0 0, .string ⟨#[]⟩, .slice none 0 0], []⟩).memory Tryz.f5.params.toList Rows.fnSkipsSpec.vars false #[Value.slice none 0 0, .string ⟨#[]⟩, .slice none 0 0].toList 8).isSome = true := by kernel_rfl
  exact Option.isSome_iff_exists.1 h
set_option maxRecDepth 100000 in
theorem lifted (os : Os) (started : os.Started) (H : Type) (enc : TypeId × Value → H) (F : Stop.Interp) :
    ReturnsInHanded {} Tryz.checked os 5 .any ((OpenSpec.ofChange Rows.fnSkipsSpec).preRow enc Tryz.prog Tryz.f5 Rows.fnSkipsRow.domain false Rows.fnSkipsRow.laid) (((OpenSpec.ofChange Rows.fnSkipsSpec).at F).post enc Tryz.prog Tryz.f5 false true false false) := by
  obtain ⟨x, hx⟩ := reads os enc
  refine returnsInHanded_of_row (C := Tryz.checked) (s := OpenSpec.ofChange Rows.fnSkipsSpec) own started (by kernel_rfl) Tryz.func5
    (witness_row_atRef (enc := enc) (C := Tryz.checked) false (laidWorld os) #[.slice none 0 0, .string ⟨#[]⟩, .slice none 0 0] rfl (by kernel_rfl) (by kernel_rfl) (by kernel_rfl)
      (OpenSpec.preRow_of_cond 8 hx rfl (fun k hk => by cases hk) (by kernel_rfl) (laid_met os _))) ?_
  intro W base args ds gs before hval hW _ _ _ hL _ _
  exact contract H enc W base args ds gs before hval hW hL
theorem jf1 : (Rows.fnSkipsRow.inPlace == Tryz.pinned.checked.prog.inPlace 5) = true := by kernel_rfl
theorem jf2 : (Rows.fnSkipsRow.unfollowed == Tryz.pinned.checked.prog.unfollowed 5) = true := by kernel_rfl
theorem jf3 : (Rows.fnSkipsRow.recurses == Tryz.pinned.checked.prog.recurses 5) = true := by kernel_rfl
theorem jf4 : (Rows.fnSkipsRow.named == Tryz.pinned.checked.prog.varsNamed 5) = true := by kernel_rfl
theorem closed : joinedFacts Tryz.pinned.checked.prog 5 Tryz.f5 (OpenSpec.ofChange Rows.fnSkipsSpec).bare Rows.fnSkipsRow = true := by
  unfold joinedFacts
  rw [jf1, jf2, jf3, jf4]
  kernel_rfl
theorem said : Rows.FnSkipsSaid :=
  OpenClaim.holds_of_cond 5 Tryz.f5 rfl rfl rfl rfl rfl rfl rfl ⟨rfl, rfl, rfl, rfl, rfl⟩ rfl rfl rfl rfl rfl (by kernel_rfl) Tryz.func5 closed
    (of_decide_eq_true (by kernel_rfl)) (by unfold Func.isWrapper; first | (rw [if_pos (by decide +kernel)]; kernel_rfl) | (rw [if_neg (by decide +kernel)]; exact ⟨rfl, rfl⟩))
    (fun os started H enc _ F => by rw [OpenClaim.pre_eq_preRow]; exact lifted os started H enc F)
theorem plain (f : FuncId) (fn : Func) (hf : Tryz.pinned.checked.prog.funcNamed "loop.example/pub-mailparts/laws.FnSkips" = some f) (hfn : Tryz.pinned.checked.prog.funcs[f]? = some fn) :
    true = Tryz.pinned.checked.prog.looks [] ∧ ∀ (j : Nat) t, fn.params[j]? = some t → Tryz.pinned.checked.prog.wantsStandIn t = false := by
  obtain rfl : f = 5 := Option.some.inj ((show Tryz.prog.funcNamed "loop.example/pub-mailparts/laws.FnSkips" = some 5 by kernel_rfl).symm.trans hf) |>.symm
  obtain rfl : fn = Tryz.f5 := (Option.some.inj (Tryz.func5.symm.trans hfn)).symm
  refine ⟨by kernel_rfl, fun j t ht => ?_⟩
  rw [Tryz.params5] at ht
  have hm0 := Array.mem_of_getElem? ht
  simp at hm0
  have hm : t = 22 ∨ t = 9 ∨ t = 23 := by omega
  rcases hm with rfl | rfl | rfl
  · exact (show Tryz.prog.wantsStandIn 22 = false by kernel_rfl)
  · exact (show Tryz.prog.wantsStandIn 9 = false by kernel_rfl)
  · exact (show Tryz.prog.wantsStandIn 23 = false by kernel_rfl)
theorem card : Rows.FnSkipsCardSaid :=
  Claim7.holds_tied_plain_at .later [] _ _ _ _ said (fun _ h => by cases h) (by kernel_rfl) (fun _ h => by cases h) fnSkips_row_tie rfl ⟨rfl, rfl⟩ (by kernel_rfl) rfl plain (by kernel_rfl)
#print axioms card
end Go.Proofs.YtkbgnplknifmhaaGreatDoor.fnSkips
