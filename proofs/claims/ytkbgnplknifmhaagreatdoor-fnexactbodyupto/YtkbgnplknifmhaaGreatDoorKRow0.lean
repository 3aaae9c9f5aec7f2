/-
  Walks and facts for the mailparts program.
-/
import Derived.Test.YtkbgnplknifmhaaGreatDoorRows
import Derived.Test.YtkbgnplknifmhaaGreatDoorKRd1ToPure7
import Derived.WalkKit
import Derived.ProofKit
import Derived.OpenShut
import Derived.Carry
import Derived.Deep.DeepHandedRow
import Derived.Deep.DeepWitnessRowRef
import Derived.Lib.LaidIn
import Derived.Stop.LaidErr
import Derived.PinnedBridge
import Derived.Lib.LaidCaseMet
namespace Go.Proofs.YtkbgnplknifmhaaGreatDoor
open Go.ChangeShapes Go.WideShapes Go.ChangeAt Go.RowKit

/-! ### What all rows share -/
theorem own : ownKnob Tryz.prog.godebug = none := by kernel_rfl
theorem laidOut : laidOutB Tryz.prog = true := by kernel_rfl
theorem iface69 : ∃ ms, Tryz.prog.underlying 69 = some (.interface ms) := by
  have h : ((Tryz.prog.underlying 69).map fun u => match u with | .interface _ => true | _ => false) = some true := by kernel_rfl
  cases hu : Tryz.prog.underlying 69 with
  | none => rw [hu] at h; cases h
  | some u =>
    rw [hu] at h
    cases u with
    | interface ms => exact ⟨ms, rfl⟩
    | _ => simp at h
section
variable {H : Type} {enc : TypeId × Value → H}
theorem keptBut_of_kp {W W' : World} (h : Kp [] W W') (may : MemPlace → Prop) : W.keptBut W' may := by
  refine ⟨h.os, h.output, fun i hi => ?_⟩
  rw [h.block i hi (by simp)]
  cases W.heap[i]? with
  | none => simp
  | some o =>
    cases o with
    | cells c t fr => exact ⟨rfl, rfl, rfl, fun _ _ => rfl⟩
    | map es clock => exact .inr ⟨rfl, rfl⟩
    | _ => simp
theorem trodAll_stays {W W' : World} (hk : Kp [] W W') : ∀ (ts : List TypeId) (vs : List Value) (ds : List (DataW H)) (ps : List MemPlace), (∀ t ∈ ts, Tryz.prog.readableRec t = true ∧ t < Tryz.prog.types.size) → (∀ p ∈ ps, p.block < W.heap.size) → DataW.TrodAll enc Tryz.prog W 0 (fun _ => true) true ts vs ds ps → DataW.TrodAll enc Tryz.prog W' 0 (fun b => decide (b < W.heap.size)) true ts vs ds ps := by
  intro ts
  induction ts with
  | nil =>
    intro vs ds ps _ _ h
    cases vs <;> cases ds <;> simp_all [DataW.TrodAll]
  | cons t ts ih =>
    intro vs ds ps ht hlt h
    cases vs with
    | nil => cases h
    | cons v vs =>
      cases ds with
      | nil => cases h
      | cons d ds =>
        obtain ⟨p, q, h1, h2, rfl⟩ := h
        refine ⟨p, q, WideElems.Trod_stays laidOut (ht t (by simp)).1 (ht t (by simp)).2 h1 (fun x hx => ?_) (fun x hx => by simpa using hlt x (by simp [hx])), ih vs ds q (fun t h => ht t (by simp [h])) (fun x hx => hlt x (by simp [hx])) h2, rfl⟩
        have hb := hlt x (by simp [hx])
        cases x with
        | cell b o => exact cell_congr (hk.block b hb (by simp))
        | map b => exact hk.block b hb (by simp)
set_option maxRecDepth 100000 in
theorem trod69 {W W' : World} {sp sp' : Nat → Bool} {fuel : Nat} {cs : List Value} {x : DataW H × List MemPlace} (h : DataW.trod enc Tryz.prog W 0 sp true fuel 69 cs = some x) : DataW.trod enc Tryz.prog W' 0 sp' true fuel 69 cs = some x := by
  obtain ⟨ms, hu⟩ := iface69
  cases fuel with
  | zero => simp [DataW.trod] at h
  | succ n =>
    unfold DataW.trod at h ⊢
    rw [hu] at h ⊢
    cases cs with
    | nil => simp at h
    | cons y l =>
      cases l with
      | nil => cases y <;> first | exact h | (simp at h; done)
      | cons z l => simp at h
set_option maxRecDepth 100000 in
theorem trodVars_stays {W W' : World} (hk : Kp [] W W') : ∀ (ns : List String) (ds : List (DataW H)) (ps : List MemPlace), (∀ n ∈ ns, ∃ g, Tryz.prog.globalNamed n = some g ∧ (Tryz.prog.globals[g]?).map (·.type) = some 69) → (∀ p ∈ ps, p.block < W.heap.size) → DataW.TrodVars enc Tryz.prog W (fun _ => true) ns ds ps → DataW.TrodVars enc Tryz.prog W' (fun b => decide (b < W.heap.size)) ns ds ps := by
  intro ns
  induction ns with
  | nil => intro ds ps _ _ h; cases ds <;> simp_all [DataW.TrodVars]
  | cons n ns ih =>
    intro ds ps hn hlt h
    cases ds with
    | nil => cases h
    | cons d ds =>
      obtain ⟨g, t, cs, fuel, p, q, h1, h2, h3, h4, h5, rfl⟩ := h
      obtain ⟨g', h6, h7⟩ := hn n (by simp)
      obtain rfl := Option.some.inj (h1.symm.trans h6)
      obtain rfl := Option.some.inj (h2.symm.trans h7)
      refine ⟨g, 69, cs, fuel, p, q, h1, h2, ?_, trod69 h4, ih ds q (fun n h => hn n (by simp [h])) (fun x hx => hlt x (by simp [hx])) h5, rfl⟩
      unfold World.var? at h3 ⊢
      rw [h1] at h3 ⊢
      simp only [Option.bind_some] at h3 ⊢
      have hg : g < W.heap.size := by
        rcases Nat.lt_or_ge g W.heap.size with h' | h'
        · exact h'
        · rw [Array.getElem?_eq_none h'] at h3; cases h3
      rw [hk.block g hg (by simp)]
      exact h3
theorem underlying4 : Tryz.prog.underlying 4 = some .bool := by kernel_rfl
/-- A law that answers true and writes nothing that was there. -/
theorem post_true {f : Func} {s : ChangeSpec} {W W' : World} {args : Array Value} {ds gs : List (DataW H)} {before : List MemPlace}
    (hp : ∀ t ∈ f.params.toList, Tryz.prog.readableRec t = true ∧ t < Tryz.prog.types.size) (hv : ∀ n ∈ s.vars, ∃ g, Tryz.prog.globalNamed n = some g ∧ (Tryz.prog.globals[g]?).map (·.type) = some 69) (hr : f.resultTypes = #[4])
    (hW : DataW.Whole enc Tryz.prog f.params.toList s.vars false W args.toList ds gs before) (hk : Kp [] W W') (hs : s.fn H (ds ++ gs) = { results := [.lit (.bool true)], args := ds, vars := gs }) :
    s.post enc Tryz.prog f false true false false W args (.bool true) W' := by
  have hlt : ∀ p ∈ before, p.block < W.heap.size := fun p hp => by simpa using hW.lt p hp
  have hW' := hW
  obtain ⟨p, q, h1, h2, rfl, h4, h5⟩ := hW
  refine ⟨ds, gs, p ++ q, [], p, q, hW', ?_, ?_, ?_, keptBut_of_kp hk _, fun h => by cases h⟩
  · rw [hs, hr]
    exact trodAll_cons_mk (shut_bool underlying4 _) trodAll_mk0
  · rw [hs]
    exact trodAll_stays hk _ _ _ _ hp (fun x hx => hlt x (by simp [hx])) h1
  · rw [hs]
    exact trodVars_stays hk _ _ _ hv (fun x hx => hlt x (by simp [hx])) h2
end
end Go.Proofs.YtkbgnplknifmhaaGreatDoor
