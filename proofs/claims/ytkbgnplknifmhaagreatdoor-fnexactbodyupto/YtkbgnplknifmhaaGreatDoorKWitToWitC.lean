/-
  Walks and facts for the mailparts program.
-/
import Derived.Test.YtkbgnplknifmhaaGreatDoorRows
import Derived.WalkKit
import Derived.ProofKit
import Derived.Lib.LaidIn
import Derived.PinnedBridge
import Derived.Lib.LaidCaseMet
import Derived.Deep.DeepHandedRow
import Derived.Deep.DeepWitnessRowRef
namespace Go.Proofs.YtkbgnplknifmhaaGreatDoor
open Go.ChangeShapes Go.WideShapes Go.ChangeAt Go.RowKit
/-! ### The witness' world: what the rows' list says lies in it -/
def litV : DataW Unit → Value
  | .lit (.int k n) => .int k n
  | _ => .nilIface
def rowV : DataW Unit → List Value
  | .agg l => l.map litV
  | d => [litV d]
def tabV : DataW Unit → List Value
  | .agg l => l.flatMap rowV
  | .slice l _ => l.flatMap rowV
  | _ => []
def textV : DataW Unit → Value
  | .iface _ (.ptr (.agg [.lit (.string t)])) => .string ⟨t.toArray⟩
  | _ => .string ⟨#[]⟩
def putC (h : Array Obj) (g : Nat) (cs : Array Value) : Array Obj := h.modify g fun
  | .cells _ t frozen => .cells cs t frozen
  | o => o
noncomputable def laidWorld (os : Os) : World :=
  let w0 := World.holding Tryz.prog os ⟨#[
    .cells #[textV Rows.laid_io_EOF] 146, .cells #[textV Rows.laid_bufio_ErrBufferFull] 146, .cells #[textV Rows.laid_bufio_errNegativeRead] 146, .cells #[textV Rows.laid_io_ErrNoProgress] 146, .cells #[textV Rows.laid_loop_example_pub_mailparts_pub_multipart_ErrMessageTooLarge] 146,
    .cells #[textV Rows.laid_loop_example_pub_mailparts_pub_textproto_errMessageTooLarge] 146, .cells #[textV Rows.laid_bufio_ErrNegativeCount] 146, .cells #[textV Rows.laid_io_ErrUnexpectedEOF] 146, .cells #[textV Rows.laid_bufio_ErrInvalidUnreadByte] 146,
    .cells (tabV Rows.laid_unicode_caseOrbit).toArray 194, .cells Lib.caseCells5 210], #[], []⟩
  let N := (World.settled Tryz.prog os).heap.size
  let e (h : Array Obj) (g i : Nat) : Array Obj := putC h g #[.iface 144 (.pointer (some ⟨N + i, 0, none⟩))]
  let h1 := e (e (e (e (e w0.heap 0 0) 1 1) 2 2) 3 3) 4 4
  let h2 := e (e (e (e h1 11 5) 12 6) 13 7) 14 8
  let h3 := putC (putC h2 6 (tabV Rows.laid_unicode_asciiFold).toArray) 7 #[.slice (some ⟨N + 9, 0, none⟩) 94 94]
  let h4 := putC (putC h3 9 (Lib.firstTab.map fun z => Value.int .u8 z).toArray) 10 (tabV Rows.laid_unicode_utf8_acceptRanges).toArray
  let h5 := putC h4 8 #[.slice (some ⟨N + 10, 0, none⟩) Lib.caseA.size Lib.caseA.size]
  { w0 with heap := h5 }
noncomputable abbrev N0 : Nat := (World.settled Tryz.prog default).heap.size
set_option maxRecDepth 1000000 in
theorem pieceA (os : Os) (args : Array Value) : LaidIn Tryz.prog ((laidWorld os).forCall (fun _ _ => 0) ⟨#[], args, []⟩).memory (Rows.fnReadsRow.laid.take 5) [10, 0, N0, 13, N0 + 7, 3, N0 + 3, 6] :=
  LaidIn.of_run [10, 0, N0, 13, N0 + 7, 3, N0 + 3, 6] 10 (by kernel_rfl) (by kernel_rfl) (by kernel_rfl) (by kernel_rfl)
set_option maxRecDepth 1000000 in
theorem pieceB (os : Os) (args : Array Value) : LaidIn Tryz.prog ((laidWorld os).forCall (fun _ _ => 0) ⟨#[], args, []⟩).memory ((Rows.fnReadsRow.laid.drop 5).take 7) [7, N0 + 9, 14, N0 + 8, 1, N0 + 1, 12, N0 + 6, 2, N0 + 2, 11, N0 + 5, 4, N0 + 4] :=
  LaidIn.of_run [7, N0 + 9, 14, N0 + 8, 1, N0 + 1, 12, N0 + 6, 2, N0 + 2, 11, N0 + 5, 4, N0 + 4] 10 (by kernel_rfl) (by kernel_rfl) (by kernel_rfl) (by kernel_rfl)
set_option maxRecDepth 1000000 in
theorem pieceD (os : Os) (args : Array Value) : LaidIn Tryz.prog ((laidWorld os).forCall (fun _ _ => 0) ⟨#[], args, []⟩).memory (Rows.fnReadsRow.laid.drop 13) [9] :=
  LaidIn.of_run [9] 10 (by kernel_rfl) (by kernel_rfl) (by kernel_rfl) (by kernel_rfl)
end Go.Proofs.YtkbgnplknifmhaaGreatDoor
namespace Go.Proofs.YtkbgnplknifmhaaGreatDoor
open Go.ChangeShapes Go.WideShapes Go.ChangeAt Go.RowKit Go.Lib
theorem cell21 : Tryz.prog.cellsOf 21 = 1 := by kernel_rfl
theorem cell208 : Tryz.prog.cellsOf 208 = 3 := by kernel_rfl
theorem cell210 : Tryz.prog.cellsOf 210 = 5 := by kernel_rfl
theorem shape210 : ∃ f0 f1 f2 : Field, Tryz.prog.underlying 210 = some (.struct #[f0, f1, f2]) ∧ Tryz.prog.underlying f0.type = some (.int .u32) ∧ Tryz.prog.underlying f1.type = some (.int .u32) ∧ f2.type = 208 ∧ f0.offset = 0 ∧ f1.offset = 1 ∧ f2.offset = 2 ∧ Tryz.prog.cellsOf f0.type = 1 ∧ Tryz.prog.cellsOf f1.type = 1 :=
  ⟨_, _, _, Tryz.underlying210, by kernel_rfl, by kernel_rfl, rfl, rfl, rfl, rfl, by kernel_rfl, by kernel_rfl⟩
theorem u208 : Tryz.prog.underlying 208 = some (.array 3 21) := by kernel_rfl
section
variable {H : Type} {enc : TypeId × Value → H} {w : World} {base : Nat} {sp : Nat → Bool} {held : Bool}
set_option maxRecDepth 100000 in
theorem caseRow_here (x : CaseRow) (hw : rowWf x = true) (fuel : Nat) : DataW.trod enc Tryz.prog w base sp held (fuel + 3) 210 (cells5 x) = some (rowData x, []) := by
  obtain ⟨f0, f1, f2, h1, h2, h3, h4, h5, h6, h7, h8, h9⟩ := shape210
  simp only [rowWf, Bool.and_eq_true] at hw
  obtain ⟨⟨⟨⟨w0, w1⟩, w2⟩, w3⟩, w4⟩ := hw
  have r3 : List.range 3 = [0, 1, 2] := rfl
  simp [DataW.trod, h1, h2, h3, h4, h5, h6, h7, h8, h9, Tryz.underlying21, cell21, cell208, cell210, cells5, rowData, w0, w1, w2, w3, w4, r3]
end
set_option maxRecDepth 100000 in
theorem case_here {w : World} {R oR : Nat} {T : Array CaseRow} (hT : CaseTab R oR T w)
    (hwf : ∀ i, i < T.size → rowWf (T.getD i (0, 0, 0, 0, 0)) = true) (hn : T.size ≤ maxLen) (fuel : Nat) :
    DataW.trod (fun _ => ()) Tryz.prog w 0 (fun _ => true) false (fuel + 4) 197 [.slice (some ⟨R, oR, none⟩) T.size T.size] =
      some (.slice ((List.range T.size).map fun i => rowData (T.getD i (0, 0, 0, 0, 0))) [], MemPlace.row ⟨R, oR, none⟩ (T.size * 5)) := by
  have helem : ∀ i ∈ List.range T.size, (w.cells? 0 ((⟨R, oR, none⟩ : Addr).add (i * 5)) 5).bind (DataW.trod (fun _ => ()) Tryz.prog w 0 (fun _ => true) false (fuel + 3) 210) = some ((fun i => ((rowData (T.getD i (0, 0, 0, 0, 0)) : DataW Unit), ([] : List MemPlace))) i) := by
    intro i hi
    have hi' := List.mem_range.1 hi
    rw [case_cells5 hT i hi']
    exact caseRow_here _ (hwf i hi') fuel
  show DataW.trod _ _ _ _ _ _ ((fuel + 3) + 1) _ _ = _
  unfold DataW.trod
  simp only [Tryz.underlying197, cell210]
  rw [if_pos ⟨Nat.zero_le _, Nat.le_refl _, hn⟩, mapM_some _ _ _ helem]
  simp [Function.comp_def]
theorem case_block (os : Os) (args : Array Value) : ((laidWorld os).forCall (fun _ _ => 0) ⟨#[], args, []⟩).memory.heap[N0 + 10]? = some (.cells caseCells5 210 (0, 0)) := by kernel_rfl
theorem case_var (os : Os) (args : Array Value) : ((laidWorld os).forCall (fun _ _ => 0) ⟨#[], args, []⟩).memory.heap[8]? = some (.cells #[.slice (some ⟨N0 + 10, 0, none⟩) caseA.size caseA.size] 197 (0, 0)) := by kernel_rfl
theorem n8 : Tryz.prog.globalNamed "unicode.CaseRanges" = some 8 := by kernel_rfl
set_option maxRecDepth 1000000 in
theorem pieceC (os : Os) (args : Array Value) : LaidIn Tryz.prog ((laidWorld os).forCall (fun _ _ => 0) ⟨#[], args, []⟩).memory [("unicode.CaseRanges", Rows.laid_unicode_CaseRanges)] [8, N0 + 10] := by
  have hb := case_block os args
  have hv0 := case_var os args
  generalize ((laidWorld os).forCall (fun _ _ => 0) ⟨#[], args, []⟩).memory = w at hb hv0 ⊢
  have hread := case_here (caseTab_of_block hb) caseA_wf (by rw [caseA_size]; unfold maxLen; omega) 0
  rw [case_rows_data] at hread
  have hd : Rows.laid_unicode_CaseRanges = caseData := Pinned.caseRanges_eq
  rw [hd]
  have hv : w.var? Tryz.prog "unicode.CaseRanges" = some #[.slice (some ⟨N0 + 10, 0, none⟩) caseA.size caseA.size] := by simp [World.var?, n8, hv0]
  have hne : (8 : Nat) ≠ N0 + 10 := by omega
  have hT := caseTab_of_block hb
  refine LaidIn.one [8, N0 + 10] n8 (by kernel_rfl) hv hread ?_ ?_ ?_
  · refine List.nodup_append.2 ⟨row_nodup _ _, row_nodup _ _, ?_⟩
    intro a ha b hb e
    obtain ⟨i, _, rfl⟩ := MemPlace.mem_row.1 ha
    obtain ⟨j, _, rfl⟩ := MemPlace.mem_row.1 hb
    simp at e
  · intro b off hp
    rcases List.mem_append.1 hp with hp | hp
    · obtain ⟨i, hi, e⟩ := MemPlace.mem_row.1 hp
      cases e
      refine ⟨⟨_, _, hv0⟩, fun u v hc => ?_⟩
      have hi1 : i < 1 := hi
      obtain rfl : i = 0 := by omega
      rw [Lib.cell_of_heap hv0] at hc
      simp at hc
    · obtain ⟨i, hi, e⟩ := MemPlace.mem_row.1 hp
      cases e
      refine ⟨⟨_, _, hb⟩, fun u v hc => ?_⟩
      obtain ⟨c0, c1, c2, c3, c4⟩ := hT (i / 5) (by omega)
      have hi5 : 0 + i = 0 + i / 5 * 5 + i % 5 := by omega
      simp only at hc
      rw [hi5] at hc
      have hm : i % 5 < 5 := Nat.mod_lt _ (by omega)
      match hk : i % 5, hm with
      | 0, _ => rw [hk] at hc; exact absurd ((show w.cell? ⟨N0 + 10, 0 + i / 5 * 5 + 0, none⟩ = _ from c0).symm.trans hc) (by simp)
      | 1, _ => rw [hk, c1] at hc; cases hc
      | 2, _ => rw [hk, c2] at hc; cases hc
      | 3, _ => rw [hk, c3] at hc; cases hc
      | 4, _ => rw [hk, c4] at hc; cases hc
  · intro x hx
    rcases List.mem_append.1 hx with hp | hp
    · obtain ⟨i, hi, rfl⟩ := MemPlace.mem_row.1 hp
      exact List.mem_cons_self
    · obtain ⟨i, hi, rfl⟩ := MemPlace.mem_row.1 hp
      exact List.mem_cons_of_mem _ List.mem_cons_self
theorem laid_met (os : Os) (args : Array Value) : laidMet Tryz.prog Rows.fnReadsRow.laid ((laidWorld os).forCall (fun _ _ => 0) ⟨#[], args, []⟩).memory :=
  ((((pieceA os args).append (pieceB os args) (by kernel_rfl)).append (pieceC os args) (by kernel_rfl)).append (pieceD os args) (by kernel_rfl)).met
end Go.Proofs.YtkbgnplknifmhaaGreatDoor
