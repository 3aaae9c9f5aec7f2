/-
  Walks and facts for the mailparts program.
-/
import Derived.Test.YtkbgnplknifmhaaGreatDoorKRow0
import Derived.LaidEqlPtr
namespace Go.Proofs.YtkbgnplknifmhaaGreatDoor
open Go.ChangeShapes Go.WideShapes Go.ChangeAt Go.RowKit

/-! ### What the rows' list lays: the walk's environment, and the witness -/
theorem row144 (u : TypeId) (h : Tryz.prog.typeName? 3 u = some "*errors.errorString") : u = 144 :=
  have star : "*" ++ "errors.errorString" = "*errors.errorString" := by decide
  typeName_ptr_named (nm := "errors.errorString") (by rw [star]; kernel_rfl) (by kernel_rfl) (by decide) u (by rw [star]; exact h)
theorem u144 : Tryz.prog.underlying 144 = some (.pointer 146) := by kernel_rfl
theorem u146 : ∃ f, Tryz.prog.underlying 146 = some (.struct #[f]) ∧ f.type = 9 ∧ f.offset = 0 := by
  have h : ((Tryz.prog.underlying 146).bind fun u => match u with | .struct fs => (if fs.size = 1 then fs[0]? else none).map (fun f => (f.type, f.offset)) | _ => none) = some (9, 0) := by kernel_rfl
  cases hu : Tryz.prog.underlying 146 with
  | none => rw [hu] at h; cases h
  | some u =>
    rw [hu] at h
    cases u with
    | struct fs =>
      simp only [Option.bind_some] at h
      split at h
      · rename_i h1
        cases hf : fs[0]? with
        | none => rw [hf] at h; cases h
        | some f =>
          rw [hf] at h
          injection h with h
          injection h with h2 h3
          refine ⟨f, ?_, h2, h3⟩
          have : fs = #[f] := by
            apply Array.ext
            · simp [h1]
            · intro i hi1 hi2
              have : i = 0 := by simp at hi2; omega
              subst this
              have := (Array.getElem?_eq_some_iff.1 hf).2
              simpa using this
          rw [this]
      · cases h
    | _ => simp at h
theorem cells146 : Tryz.prog.cellsOf 146 = 1 := by kernel_rfl
theorem cells9 : Tryz.prog.cellsOf 9 = 1 := by kernel_rfl
theorem i146 : ∃ j, Tryz.prog.info? 146 = some j := by
  have h : (Tryz.prog.info? 146).isSome = true := by kernel_rfl
  exact Option.isSome_iff_exists.1 h
theorem i144 : ∃ i, Tryz.prog.info? 144 = some i ∧ i.comparable = true := by
  have h : (Tryz.prog.info? 144).map (·.comparable) = some true := by kernel_rfl
  exact Option.map_eq_some_iff.1 h
theorem eqE_ptr (a : Addr) : EqE (.iface 144 (.pointer (some a))) := by
  intro w
  obtain ⟨j, hj⟩ := i146
  obtain ⟨i, hi, hc⟩ := i144
  obtain ⟨ms, h69⟩ := iface69
  exact run_eql_iface_ptr_same w a h69 u144 hi hc hj
theorem laid_err {n : String} {text : List UInt8} {r : List (String × DataW Unit)} {W : World} {g : Nat}
    (h : laidMet Tryz.prog ((n, .iface "*errors.errorString" (.ptr (.agg [.lit (.string text)]))) :: r) W) (hg : Tryz.prog.globalNamed n = some g) (ht : (Tryz.prog.globals[g]?).map (·.type) = some 69) :
    ∃ a : Addr, W.cell? ⟨g, 0, none⟩ = some (.iface 144 (.pointer (some a))) ∧ g < W.heap.size := by
  obtain ⟨ms, h69⟩ := iface69
  obtain ⟨f, hf, hft, hfo⟩ := u146
  obtain ⟨a, s, hv, _⟩ := laid_sentinel (g := g) h hg ht h69 row144 u144 hf hft hfo Tryz.underlying9 cells146 cells9
  have hc := World.var?_cell hg hv 0
  refine ⟨a, by simpa using hc, cell_lt (by simpa using hc)⟩
theorem env_of_laid {W : World} (h : laidMet Tryz.prog Rows.fnReadsRow.laid W) : ∃ E, Env W E := by
  obtain ⟨a0, h0, _⟩ := laid_err (g := 0) h.tail (by kernel_rfl) (by kernel_rfl)
  obtain ⟨a13, h13, _⟩ := laid_err (g := 13) h.tail.tail (by kernel_rfl) (by kernel_rfl)
  obtain ⟨a14, h14, hsz⟩ := laid_err (g := 14) h.tail.tail.tail.tail.tail.tail (by kernel_rfl) (by kernel_rfl)
  obtain ⟨a1, h1, _⟩ := laid_err (g := 1) h.tail.tail.tail.tail.tail.tail.tail (by kernel_rfl) (by kernel_rfl)
  exact ⟨.iface 144 (.pointer (some a0)), h0, ⟨_, _, rfl⟩, ⟨⟨_, _, h1⟩, ⟨_, _, h13⟩⟩, eqE_ptr a0, by omega⟩
end Go.Proofs.YtkbgnplknifmhaaGreatDoor
namespace Go.Proofs.YtkbgnplknifmhaaGreatDoor
open Go.ChangeShapes Go.WideShapes Go.ChangeAt Go.RowKit
/-! ### Arguments, as the walks want them -/
section
variable {H : Type} {enc : TypeId × Value → H} {W : World}
theorem underlying3 : Tryz.prog.underlying 3 = some (.int .i64) := by kernel_rfl
theorem elem23' : Tryz.prog.underlying 23 = some (.slice 3) := by kernel_rfl
theorem cells5 : Tryz.prog.cellsOf 5 = 1 := by kernel_rfl
theorem cells3 : Tryz.prog.cellsOf 3 = 1 := by kernel_rfl
theorem open_bytes {a0 : Option Addr} {len cap : Nat} {d : DataW H} {p : List MemPlace} (h : DataW.Trod enc Tryz.prog W 0 (fun _ => true) true 22 (.slice a0 len cap) d p) :
    ∃ l : Bytes, len = l.length ∧ HB W a0 l ∧ l.length ≤ cap ∧ (a0 = none → cap = 0) := by
  obtain ⟨fuel, hf⟩ := h
  rcases open_ints elem22 Tryz.underlying5 cells5 hf with ⟨hcs, _⟩ | ⟨a, len', cap', zs, hcs, _, hl, hm, hz, _, hcell, hwf⟩
  · simp [Value.cells] at hcs
    obtain ⟨rfl, rfl, rfl⟩ := hcs
    exact ⟨[], rfl, HB.nil _ _, Nat.le_refl _, fun _ => rfl⟩
  · simp [Value.cells] at hcs
    obtain ⟨rfl, rfl, rfl⟩ := hcs
    simp only [if_true] at hz
    have hl2 : ((zs.take len).map fun n => UInt8.ofNat n.toNat).length = len := by simp; omega
    refine ⟨(zs.take len).map fun n => UInt8.ofNat n.toNat, hl2.symm, ⟨fun _ => rfl, fun i hi => ?_⟩, by rw [hl2]; exact hl, fun e => by cases e⟩
    rw [hl2] at hi
    have h1 := hcell i (by omega)
    have h2 : zs.getD i 0 ∈ zs := by
      rw [List.getD, List.getElem?_eq_getElem (by omega)]; simp
    have h3 := hwf _ h2
    have h4 : byt ((zs.take len).map fun n => UInt8.ofNat n.toNat) i = UInt8.ofNat (zs.getD i 0).toNat := by
      unfold byt
      simp [List.getD, List.getElem?_map, hi, List.getElem?_eq_getElem (show i < zs.length by omega)]
    rw [h4]
    have h5 : 0 ≤ zs.getD i 0 ∧ zs.getD i 0 ≤ 255 := by
      have e1 : IntKind.u8.min = 0 := rfl
      have e2 : IntKind.u8.max = 255 := rfl
      simpa [Lit.wf, e1, e2] using h3
    have h6 : ((UInt8.ofNat (zs.getD i 0).toNat).toNat : Int) = zs.getD i 0 := by
      rw [UInt8.toNat_ofNat']
      omega
    rw [h6]
    exact h1
theorem open_nums {a0 : Option Addr} {len cap : Nat} {d : DataW H} {p : List MemPlace} (h : DataW.Trod enc Tryz.prog W 0 (fun _ => true) true 23 (.slice a0 len cap) d p) :
    ∃ l : List Int, len = l.length ∧ IB W a0 l := by
  obtain ⟨fuel, hf⟩ := h
  rcases open_ints elem23' underlying3 cells3 hf with ⟨hcs, _⟩ | ⟨a, len', cap', zs, hcs, _, hl, hm, hz, _, hcell, hwf⟩
  · simp [Value.cells] at hcs
    obtain ⟨rfl, rfl, rfl⟩ := hcs
    exact ⟨[], rfl, ⟨fun e => absurd rfl e, fun i hi => by simp at hi⟩⟩
  · simp [Value.cells] at hcs
    obtain ⟨rfl, rfl, rfl⟩ := hcs
    simp only [if_true] at hz
    have hl2 : (zs.take len).length = len := by simp; omega
    refine ⟨zs.take len, hl2.symm, ⟨fun _ => rfl, fun i hi => ?_⟩⟩
    rw [hl2] at hi
    have h1 := hcell i (by omega)
    have h4 : (zs.take len).getD i 0 = zs.getD i 0 := by
      simp [List.getD, hi]
    rw [h4]
    exact h1
end
end Go.Proofs.YtkbgnplknifmhaaGreatDoor
