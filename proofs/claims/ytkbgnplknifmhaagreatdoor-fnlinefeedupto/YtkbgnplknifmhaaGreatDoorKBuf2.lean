/-
  Walks and facts for the mailparts program.
-/
import Derived.Test.YtkbgnplknifmhaaGreatDoorKBlkToBuf1
import Derived.StillTailTactics
namespace Go.Proofs.YtkbgnplknifmhaaGreatDoor
open Go.RowKit
attribute [local go_sem ↓] Go.wp_at_zero Go.wp_at_succ

/-- The blocks of a buffered reader: its own, its buffer's, the sticky reader's under it, and the one under that. -/
structure RS where
  rb : Nat
  bb : Nat
  st : Nat
  ur : Nat
  da : Nat
def RS.far (R : RS) : Far := ⟨R.da⟩
def RS.own (R : RS) : List Nat := [R.rb, R.bb, R.st, R.ur]
/-- The buffered reader's seven cells. -/
def brCells (R : RS) (r wr : Int) (err : Value) (lb lr : Int) : Array Value :=
  #[.slice (some ⟨R.bb, 0, none⟩) 4096 4096, .iface 104 (.pointer (some ⟨R.st, 0, none⟩)), .int .i64 r, .int .i64 wr, err, .int .i64 lb, .int .i64 lr]
/-- A buffered reader: n bytes from place r on of its buffer bs wait; src is still to come from below. -/
structure BRx (w : World) (E : Value) (R : RS) (r n : Nat) (bs src : Bytes) (err : Value) (lb lr : Int) : Prop where
  blk : Blk w R.rb (brCells R r ((r : Int) + n) err lb lr) 127
  buf : BufB w R.bb bs
  len : bs.length = 4096
  fit : r + n ≤ 4096
  below : Src w E R.st R.ur R.far src
  ap : R.own.Nodup
  gl : ∀ b ∈ R.own, ¬ b = 0
  er : err = .nilIface ∨ (err = E ∧ src = [])
  eof : w.cell? ⟨0, 0, none⟩ = some E
  isE : ∃ t v, E = .iface t v
  dn : R.da ∉ R.own
/-- What waits in the buffer. -/
def win (bs : Bytes) (r n : Nat) : Bytes := (bs.drop r).take n
theorem win_len {bs : Bytes} {r n : Nat} (h : r + n ≤ bs.length) : (win bs r n).length = n := by unfold win; rw [List.length_take, List.length_drop]; omega
theorem BRx.d {w : World} {E : Value} {R : RS} {r n : Nat} {bs src : Bytes} {err : Value} {lb lr : Int} (h : BRx w E R r n bs src err lb lr) : (¬ R.rb = R.bb ∧ ¬ R.rb = R.st ∧ ¬ R.rb = R.ur) ∧ (¬ R.bb = R.st ∧ ¬ R.bb = R.ur) ∧ ¬ R.st = R.ur := by
  have := h.ap
  simp [RS.own] at this
  exact ⟨⟨this.1.1, this.1.2.1, this.1.2.2⟩, ⟨this.2.1.1, this.2.1.2⟩, this.2.2⟩

theorem Src.drew {w : World} {E : Value} {st ur : Nat} {own : Far} {src : Bytes} (h : Src w E st ur own src) : Src w.drew E st ur own src := h.kp (S := []) (Kp.refl [] w).drew (by simp) (by simp) (by simp)
theorem Src.drewN {w : World} {E : Value} {st ur : Nat} {own : Far} {src : Bytes} (h : Src w E st ur own src) (n : Nat) : Src (w.drewN n) E st ur own src := h.kp (S := []) (Kp.drewN [] w n) (by simp) (by simp) (by simp)
theorem cell_kp {S : List Nat} {w w' : World} {b o : Nat} {v : Value} (h : w.cell? ⟨b, o, none⟩ = some v) (k : Kp S w w') (hb : b ∉ S) : w'.cell? ⟨b, o, none⟩ = some v := by
  rw [← h]; exact World.cell?_of_block (w := w) (k.block b (World.block_lt_of_cell? w _ h) hb)

theorem cut_bb (b n c : Nat) (h : n < c) : cutAt (some ⟨b, 0, none⟩) c n = some ⟨b, n, none⟩ := by
  unfold cutAt
  rw [if_neg (by omega)]
  simp [Addr.add]
  intro e; exact e.symm

/-! ### fill: function 100 -/
section
variable (w : World) (E : Value) (R : RS) (r n : Nat) (bs src : Bytes) (err : Value) (lb lr : Int)
/-- What the loop of fill does from the moved buffer on. -/
def FillPost (w : World) (E : Value) (R : RS) (buf src : Bytes) (n : Nat) (err : Value) (lb lr : Int) (e : Ending) (w' : World) : Prop :=
  e = .returned (.tuple #[]) ∧ Kp R.own w w' ∧
    ((0 < src.length ∧ ∃ k bs', 1 ≤ k ∧ k ≤ src.length ∧ BRx w' E R 0 (n + k) bs' (src.drop k) err lb lr ∧ win bs' 0 (n + k) = buf ++ src.take k) ∨
     (src = [] ∧ ∃ bs', BRx w' E R 0 n bs' [] E lb lr ∧ win bs' 0 n = buf))

set_option maxRecDepth 20000 in
set_option maxHeartbeats 2000000 in
theorem fill_some (h : BRx w E R r n bs src .nilIface lb lr) (hn : n < 4096) (h0 : 0 < src.length) :
    Calls Tryz.prog 100 #[.pointer (some ⟨R.rb, 0, none⟩)] w (FillPost w E R (win bs r n) src n .nilIface lb lr) := by
  obtain ⟨⟨d1, d2, d3⟩, ⟨d4, d5⟩, d6⟩ := h.d
  have hb : Blk w R.rb #[.slice (some ⟨R.bb, 0, none⟩) 4096 4096, .iface 104 (.pointer (some ⟨R.st, 0, none⟩)), .int .i64 r, .int .i64 ((r : Int) + n), .nilIface, .int .i64 lb, .int .i64 lr] 127 := h.blk
  have k := hb.cell
  have f := hb.free
  have mt := method104
  have hcut := cut_bb R.bb n 4096 hn
  have hn1 : decide (4096 ≤ (n : Int)) = false := by simp; omega
  have hn2 : (n : Int) ≤ 4096 := by omega
  have hn3 : (0 : Int) ≤ (n : Int) := by omega
  have hlen := h.len
  have hfit := h.fit
  have hmem : R.bb ∈ R.own ∧ R.st ∈ R.own ∧ R.ur ∈ R.own := ⟨by simp [RS.own], by simp [RS.own], by simp [RS.own]⟩
  have hrbo : R.rb ∈ R.own := by simp [RS.own]
  have hdn := h.dn
  have hfar : ∀ b ∈ R.own, b ∈ R.far := fun b hb (e : b = R.da) => hdn (e ▸ hb)
  have hfmem : R.bb ∈ R.far ∧ R.st ∈ R.far ∧ R.ur ∈ R.far := ⟨hfar _ hmem.1, hfar _ hmem.2.1, hfar _ hmem.2.2⟩
  have hrb0 := h.gl R.rb hrbo
  have hst0 := h.gl R.st hmem.2.1
  have hnd := h.ap
  have hgl := h.gl
  have hE := h.isE
  have hdis : R.rb ∉ [R.st, R.ur, R.bb] := by simp; exact ⟨d2, d3, d1⟩
  have hdis0 : 0 ∉ [R.st, R.ur, R.bb] := by simp; exact ⟨fun e => h.gl R.st (by simp [RS.own]) e.symm, fun e => h.gl R.ur (by simp [RS.own]) e.symm, fun e => h.gl R.bb (by simp [RS.own]) e.symm⟩
  have hsub : ∀ k, k ∈ [R.st, R.ur, R.bb] → k < w.heap.size ∨ True → k ∈ R.own := by intro k hk _; simp at hk; rcases hk with rfl | rfl | rfl <;> simp [RS.own]
  by_cases hr0 : r = 0
  · subst hr0
    simp only [Int.natCast_zero, Int.zero_add] at hb k
    have hb1 := hb
    have hB1 := h.buf
    have hS1 := h.below
    have hK1 := Kp.refl R.own w
    have hE1 := h.eof
    obtain ⟨bs1, rfl⟩ : ∃ x, x = bs := ⟨_, rfl⟩
    have hl1 := hlen
    have hw1 : Hid (bs1.take n = win bs1 0 n) := rfl
    clear hb h
    go_enter Tryz.func100, Tryz.ntmps100
    go_wp2
    go_quiet (fail)
    go_wp2
    refine wp_world (fun w2 H2 => ?_)
    have hb2 : Blk w2 R.rb #[.slice (some ⟨R.bb, 0, none⟩) 4096 4096, .iface 104 (.pointer (some ⟨R.st, 0, none⟩)), .int .i64 0, .int .i64 n, .nilIface, .int .i64 lb, .int .i64 lr] 127 := by rw [H2.out]; exact hb1.drewN nq
    have hB2 : BufB w2 R.bb bs1 := by rw [H2.out]; exact Blk.drewN hB1 nq
    have hS2 : Src w2.drew E R.st R.ur R.far src := by rw [H2.out]; exact (hS1.drewN nq).drew
    have hK2 : Kp R.own w w2 := by rw [H2.out]; exact hK1.drewN' nq
    have hE2 : w2.cell? ⟨0, 0, none⟩ = some E := by rw [H2.out]; exact hE1
    clear H2 hb1 hB1 hS1 hK1 hE1 k
    have k := hb2.cell
    refine wp_loop_once ?_
    go_wp2
    go_region_held3 (fun w' => ∀ i', w'.cell? ⟨R.rb, i', none⟩ = (#[.slice (some ⟨R.bb, 0, none⟩) 4096 4096, .iface 104 (.pointer (some ⟨R.st, 0, none⟩)), .int .i64 0, .int .i64 n, .nilIface, .int .i64 lb, .int .i64 lr] : Array Value)[i']?)
      (first | exact k | exact (Blk.kp (Blk.drew hb2) hK3 hdis).cell)
      ((go_at_call 183; refine (sticky_some R.st R.ur R.bb n (4096 - n) (4096 - n) R.far src bs1 w2.drew E hS2 h0 (Blk.drew hB2) (by omega) (Nat.le_refl _) (by omega) (by omega) (fun e => d5 e.symm) (fun e => d4 e.symm) d6 hfmem).mono ?_; rintro e w3 ⟨kk, q1, q2, q3, rfl, hS3, hB3, hK3⟩))
    have hb3 := Blk.kp (Blk.drew hb2) hK3 hdis
    have hE3 := cell_kp (w := w2.drew) hE2 hK3 hdis0
    have hK3' : Kp R.own w w3 := hK2.drew.trans (hK3.mono (fun b hb _ => hsub b hb (.inr trivial)))
    clear k
    have k := hb3.cell
    have f := hb3.free
    have hk1 : decide ((kk : Int) < 0) = false := by simp
    have hk2 : decide ((0 : Int) < (kk : Int)) = true := by simp; omega
    have hk3 : (kk : Int) ≤ 4096 := by omega
    clear hB2 hS2 hE2 hb2
    go_wp2
    go_end0
    refine ⟨rfl, hK3'.setCell (.inl hrbo) _, .inl ⟨h0, kk, _, q1, q3, ⟨?_, Blk.far hB3 (fun e => d1 e.symm) _, ?_, by omega, hS3.kp (S := [R.rb]) ((Kp.refl _ _).setCell (.inl (by simp)) _) (by simp; exact fun e => d2 e.symm) (by simp; exact fun e => d3 e.symm) (by intro b hb _; simp at hb; subst hb; exact hfar _ hrbo), hnd, hgl, .inl rfl, ?_, hE, hdn⟩, ?_⟩⟩
    · have := hb3.set 3 (.int .i64 ((n : Int) + kk))
      simpa [brCells] using this
    · rw [length_spliceB _ _ _ (by rw [List.length_take]; omega)]; exact hl1
    · exact (World.cell?_setCell_other _ _ _ _ (by intro e; injection e with e; exact hrb0 e)).trans hE3
    · have e1 : (src.take kk).length = kk := by rw [List.length_take]; omega
      have hw := hw1.out
      unfold win at hw ⊢
      rw [List.drop_zero]
      unfold spliceB
      rw [← hw]
      rw [List.take_append_of_le_length (by rw [List.length_append, List.length_take, e1]; omega), List.take_of_length_le (by rw [List.length_append, List.length_take, e1]; omega)]
  · have hrp : (0 : Int) < (r : Int) := by omega
    have hwrap : IntKind.i64.wrap ((r : Int) + (n : Int) - (r : Int)) = (n : Int) := by rw [IntWalk.i64_in _ (by omega)]; omega
    have hcutw : ∀ w : World, (Instr.sliceAt 22 (.slice (some ⟨R.bb, 0, none⟩) 4096 4096) (some (.int .i64 (r : Int))) (some (.int .i64 ((r : Int) + (n : Int)))) none).run Tryz.prog w = .ok (.slice (cutAt (some ⟨R.bb, 0, none⟩) 4096 r) n (4096 - r)) w := by
      intro w
      rw [run_cut_lh w _ 4096 4096 r ((r : Int) + n) (by omega) (by omega) (by omega)]
      rw [show ((r : Int) + n).toNat - (r : Int).toNat = n from by omega, show (r : Int).toNat = r from by omega]
    have hsrcB : HB w (cutAt (some ⟨R.bb, 0, none⟩) 4096 r) (win bs r n) := by
      have h1 := (h.buf.hb' 0).drop (c := 4096) (k := r) (by simp [hlen]) (by simp [hlen]; omega)
      rw [List.drop_zero] at h1
      exact h1.take n
    have hwl : (win bs r n).length = n := win_len (by omega)
    have hB := h.buf
    go_enter Tryz.func100, Tryz.ntmps100
    go_wp2
    go_region_held3 (fun w' => ∀ i', w'.cell? ⟨R.rb, i', none⟩ = (#[.slice (some ⟨R.bb, 0, none⟩) 4096 4096, .iface 104 (.pointer (some ⟨R.st, 0, none⟩)), .int .i64 r, .int .i64 ((r : Int) + n), .nilIface, .int .i64 lb, .int .i64 lr] : Array Value)[i']?) (first | exact k | exact fun j => (putB_cell _ _ _ _ d1).trans (k j))
      ((refine step_copy_bytes rfl (.tmp 13) (.tmp 26) rfl R.bb 0 4096 4096 (by rfl) (cutAt (some ⟨R.bb, 0, none⟩) 4096 r) (win bs r n) n (4096 - r) (by rfl) hwl.symm bs hB hsrcB.drew (by omega) ?_))
    refine then_world (fun wa Ha => ?_)
    have hba : Blk wa R.rb #[.slice (some ⟨R.bb, 0, none⟩) 4096 4096, .iface 104 (.pointer (some ⟨R.st, 0, none⟩)), .int .i64 r, .int .i64 ((r : Int) + n), .nilIface, .int .i64 lb, .int .i64 lr] 127 := by rw [Ha.out]; exact (hb.drew).putB d1 _
    have hBa : BufB wa R.bb (spliceB bs 0 ((win bs r n).take 4096)) := by rw [Ha.out]; exact BufB.put (Blk.drew hB) _
    have hKa : Kp [R.bb] w wa := by rw [Ha.out]; exact (Kp.refl _ w).drew.putB (.inl (by simp)) _
    have hSa : Src wa E R.st R.ur R.far src := h.below.kp hKa (by simp; exact fun e => d4 e.symm) (by simp; exact fun e => d5 e.symm) (by intro b hb _; simp at hb; subst hb; exact hfmem.1)
    have hEa : wa.cell? ⟨0, 0, none⟩ = some E := cell_kp h.eof hKa (by simp; exact fun e => h.gl R.bb (by simp [RS.own]) e.symm)
    rw [List.take_of_length_le (by omega)] at hBa
    have hl1 : (spliceB bs 0 (win bs r n)).length = 4096 := by rw [length_spliceB _ _ _ (by omega)]; exact hlen
    have hw1 : Hid ((spliceB bs 0 (win bs r n)).take n = win bs r n) := by
      show _ = _
      unfold spliceB
      rw [List.take_zero, List.nil_append, List.take_append_of_le_length (by omega), List.take_of_length_le (by omega)]
    generalize spliceB bs 0 (win bs r n) = bs1 at hBa hl1 hw1
    clear Ha k f hb hB hsrcB h
    have k := hba.cell
    have f := hba.free
    go_wp2
    go_still_tail 11, (by kernel_rfl)
    change wpList _ _ _ _ _ wa.drew
    go_wp2
    refine wp_world (fun wb Hb => ?_)
    have hb1 : Blk wb R.rb #[.slice (some ⟨R.bb, 0, none⟩) 4096 4096, .iface 104 (.pointer (some ⟨R.st, 0, none⟩)), .int .i64 0, .int .i64 n, .nilIface, .int .i64 lb, .int .i64 lr] 127 := by rw [Hb.out]; exact Blk.drew ((hba.set 3 _).set 2 _)
    have hB1 : BufB wb R.bb bs1 := by rw [Hb.out]; exact Blk.drew (Blk.far (Blk.far hBa (fun e => d1 e.symm) _) (fun e => d1 e.symm) _)
    have hKb : Kp [R.rb] wa wb := by rw [Hb.out]; exact (((Kp.refl _ _).setCell (.inl (by simp)) _).setCell (.inl (by simp)) _).drew
    have hS1 : Src wb E R.st R.ur R.far src := hSa.kp hKb (by simp; exact fun e => d2 e.symm) (by simp; exact fun e => d3 e.symm) (by intro b hb _; simp at hb; subst hb; exact hfar _ hrbo)
    have hE1 : wb.cell? ⟨0, 0, none⟩ = some E := cell_kp hEa hKb (by simp; exact fun e => hrb0 e.symm)
    have hK1 : Kp R.own w wb := (hKa.mono (by intro b hb _; simp at hb; subst hb; exact hmem.1)).trans (hKb.mono (by intro b hb _; simp at hb; subst hb; exact hrbo))
    clear Hb k f hba hBa hSa hEa hKa hKb
    have k := hb1.cell
    have f := hb1.free
    go_quiet (fail)
    go_wp2
    refine wp_world (fun w2 H2 => ?_)
    have hb2 : Blk w2 R.rb #[.slice (some ⟨R.bb, 0, none⟩) 4096 4096, .iface 104 (.pointer (some ⟨R.st, 0, none⟩)), .int .i64 0, .int .i64 n, .nilIface, .int .i64 lb, .int .i64 lr] 127 := by rw [H2.out]; exact hb1.drewN nq
    have hB2 : BufB w2 R.bb bs1 := by rw [H2.out]; exact Blk.drewN hB1 nq
    have hS2 : Src w2.drew E R.st R.ur R.far src := by rw [H2.out]; exact (hS1.drewN nq).drew
    have hK2 : Kp R.own w w2 := by rw [H2.out]; exact hK1.drewN' nq
    have hE2 : w2.cell? ⟨0, 0, none⟩ = some E := by rw [H2.out]; exact hE1
    clear H2 hb1 hB1 hS1 hK1 hE1 k
    have k := hb2.cell
    refine wp_loop_once ?_
    go_wp2
    go_region_held3 (fun w' => ∀ i', w'.cell? ⟨R.rb, i', none⟩ = (#[.slice (some ⟨R.bb, 0, none⟩) 4096 4096, .iface 104 (.pointer (some ⟨R.st, 0, none⟩)), .int .i64 0, .int .i64 n, .nilIface, .int .i64 lb, .int .i64 lr] : Array Value)[i']?)
      (first | exact k | exact (Blk.kp (Blk.drew hb2) hK3 hdis).cell)
      ((go_at_call 183; refine (sticky_some R.st R.ur R.bb n (4096 - n) (4096 - n) R.far src bs1 w2.drew E hS2 h0 (Blk.drew hB2) (by omega) (Nat.le_refl _) (by omega) (by omega) (fun e => d5 e.symm) (fun e => d4 e.symm) d6 hfmem).mono ?_; rintro e w3 ⟨kk, q1, q2, q3, rfl, hS3, hB3, hK3⟩))
    have hb3 := Blk.kp (Blk.drew hb2) hK3 hdis
    have hE3 := cell_kp (w := w2.drew) hE2 hK3 hdis0
    have hK3' : Kp R.own w w3 := hK2.drew.trans (hK3.mono (fun b hb _ => hsub b hb (.inr trivial)))
    clear k
    have k := hb3.cell
    have f := hb3.free
    have hk1 : decide ((kk : Int) < 0) = false := by simp
    have hk2 : decide ((0 : Int) < (kk : Int)) = true := by simp; omega
    have hk3 : (kk : Int) ≤ 4096 := by omega
    clear hB2 hS2 hE2 hb2
    go_wp2
    go_end0
    refine ⟨rfl, hK3'.setCell (.inl hrbo) _, .inl ⟨h0, kk, _, q1, q3, ⟨?_, Blk.far hB3 (fun e => d1 e.symm) _, ?_, by omega, hS3.kp (S := [R.rb]) ((Kp.refl _ _).setCell (.inl (by simp)) _) (by simp; exact fun e => d2 e.symm) (by simp; exact fun e => d3 e.symm) (by intro b hb _; simp at hb; subst hb; exact hfar _ hrbo), hnd, hgl, .inl rfl, ?_, hE, hdn⟩, ?_⟩⟩
    · have := hb3.set 3 (.int .i64 ((n : Int) + kk))
      simpa [brCells] using this
    · rw [length_spliceB _ _ _ (by rw [List.length_take]; omega)]; exact hl1
    · exact (World.cell?_setCell_other _ _ _ _ (by intro e; injection e with e; exact hrb0 e)).trans hE3
    · have e1 : (src.take kk).length = kk := by rw [List.length_take]; omega
      have hw := hw1.out
      unfold win at hw ⊢
      rw [List.drop_zero]
      unfold spliceB
      rw [← hw]
      rw [List.take_append_of_le_length (by rw [List.length_append, List.length_take, e1]; omega), List.take_of_length_le (by rw [List.length_append, List.length_take, e1]; omega)]

set_option maxRecDepth 20000 in
set_option maxHeartbeats 2000000 in
theorem fill_eof (h : BRx w E R r n bs [] .nilIface lb lr) (hn : n < 4096) :
    Calls Tryz.prog 100 #[.pointer (some ⟨R.rb, 0, none⟩)] w (FillPost w E R (win bs r n) [] n .nilIface lb lr) := by
  obtain ⟨⟨d1, d2, d3⟩, ⟨d4, d5⟩, d6⟩ := h.d
  have hb : Blk w R.rb #[.slice (some ⟨R.bb, 0, none⟩) 4096 4096, .iface 104 (.pointer (some ⟨R.st, 0, none⟩)), .int .i64 r, .int .i64 ((r : Int) + n), .nilIface, .int .i64 lb, .int .i64 lr] 127 := h.blk
  have k := hb.cell
  have f := hb.free
  have mt := method104
  have hcut := cut_bb R.bb n 4096 hn
  have hn1 : decide (4096 ≤ (n : Int)) = false := by simp; omega
  have hn2 : (n : Int) ≤ 4096 := by omega
  have hn3 : (0 : Int) ≤ (n : Int) := by omega
  have hlen := h.len
  have hfit := h.fit
  have hmem : R.bb ∈ R.own ∧ R.st ∈ R.own ∧ R.ur ∈ R.own := ⟨by simp [RS.own], by simp [RS.own], by simp [RS.own]⟩
  have hrbo : R.rb ∈ R.own := by simp [RS.own]
  have hdn := h.dn
  have hfar : ∀ b ∈ R.own, b ∈ R.far := fun b hb (e : b = R.da) => hdn (e ▸ hb)
  have hfmem : R.bb ∈ R.far ∧ R.st ∈ R.far ∧ R.ur ∈ R.far := ⟨hfar _ hmem.1, hfar _ hmem.2.1, hfar _ hmem.2.2⟩
  have hrb0 := h.gl R.rb hrbo
  have hst0 := h.gl R.st hmem.2.1
  have hnd := h.ap
  have hgl := h.gl
  have hE := h.isE
  have hdis : R.rb ∉ [R.st] := by simp; exact d2
  have hdis0 : 0 ∉ [R.st] := by simp; exact fun e => h.gl R.st (by simp [RS.own]) e.symm
  have hsub : ∀ k, k ∈ [R.st] → k < w.heap.size ∨ True → k ∈ R.own := by intro k hk _; simp at hk; subst hk; simp [RS.own]
  by_cases hr0 : r = 0
  · subst hr0
    simp only [Int.natCast_zero, Int.zero_add] at hb k
    have hb1 := hb
    have hB1 := h.buf
    have hS1 := h.below
    have hK1 := Kp.refl R.own w
    have hE1 := h.eof
    obtain ⟨bs1, rfl⟩ : ∃ x, x = bs := ⟨_, rfl⟩
    have hl1 := hlen
    have hw1 : Hid (bs1.take n = win bs1 0 n) := rfl
    clear hb h
    go_enter Tryz.func100, Tryz.ntmps100
    go_wp2
    go_quiet (fail)
    go_wp2
    refine wp_world (fun w2 H2 => ?_)
    have hb2 : Blk w2 R.rb #[.slice (some ⟨R.bb, 0, none⟩) 4096 4096, .iface 104 (.pointer (some ⟨R.st, 0, none⟩)), .int .i64 0, .int .i64 n, .nilIface, .int .i64 lb, .int .i64 lr] 127 := by rw [H2.out]; exact hb1.drewN nq
    have hB2 : BufB w2 R.bb bs1 := by rw [H2.out]; exact Blk.drewN hB1 nq
    have hS2 : Src w2.drew E R.st R.ur R.far [] := by rw [H2.out]; exact (hS1.drewN nq).drew
    have hK2 : Kp R.own w w2 := by rw [H2.out]; exact hK1.drewN' nq
    have hE2 : w2.cell? ⟨0, 0, none⟩ = some E := by rw [H2.out]; exact hE1
    clear H2 hb1 hB1 hS1 hK1 hE1 k
    have k := hb2.cell
    refine wp_loop_once ?_
    go_wp2
    go_region_held3 (fun w' => ∀ i', w'.cell? ⟨R.rb, i', none⟩ = (#[.slice (some ⟨R.bb, 0, none⟩) 4096 4096, .iface 104 (.pointer (some ⟨R.st, 0, none⟩)), .int .i64 0, .int .i64 n, .nilIface, .int .i64 lb, .int .i64 lr] : Array Value)[i']?)
      (first | exact k | exact (Blk.kp (Blk.drew hb2) hK3 hdis).cell)
      ((go_at_call 183; refine (sticky_eof R.st R.ur (4096 - n) (4096 - n) R.far w2.drew E (some ⟨R.bb, n, none⟩) hE2 hE hS2 d6 hst0 hfmem.2.1).mono ?_; rintro e w3 ⟨rfl, hS3, hK3⟩))
    have hb3 := Blk.kp (Blk.drew hb2) hK3 hdis
    have hE3 := cell_kp (w := w2.drew) hE2 hK3 hdis0
    have hK3' : Kp R.own w w3 := hK2.drew.trans (hK3.mono (fun b hb _ => hsub b hb (.inr trivial)))
    have hB3 : BufB w3 R.bb bs1 := Blk.kp (Blk.drew hB2) hK3 (by simp; exact d4)
    clear k
    have k := hb3.cell
    have f := hb3.free
    clear hB2 hS2 hE2 hb2
    obtain ⟨et, ev, rfl⟩ := hE
    go_wp2
    go_end0
    refine ⟨rfl, (hK3'.setCell (.inl hrbo) _).setCell (.inl hrbo) _, .inr ⟨rfl, bs1, ⟨?_, Blk.far (Blk.far hB3 (fun e => d1 e.symm) _) (fun e => d1 e.symm) _, hl1, by omega, hS3.kp (S := [R.rb]) (((Kp.refl _ _).setCell (.inl (by simp)) _).setCell (.inl (by simp)) _) (by simp; exact fun e => d2 e.symm) (by simp; exact fun e => d3 e.symm) (by intro b hb _; simp at hb; subst hb; exact hfar _ hrbo), hnd, hgl, .inr ⟨rfl, rfl⟩, ?_, ⟨_, _, rfl⟩, hdn⟩, ?_⟩⟩
    · have := (hb3.set 3 (.int .i64 (n : Int))).set 4 (.iface et ev)
      simpa [brCells] using this
    · exact (World.cell?_setCell_other _ _ _ _ (by intro e; injection e with e; exact hrb0 e)).trans ((World.cell?_setCell_other _ _ _ _ (by intro e; injection e with e; exact hrb0 e)).trans hE3)
    · simp [win]
  · have hrp : (0 : Int) < (r : Int) := by omega
    have hwrap : IntKind.i64.wrap ((r : Int) + (n : Int) - (r : Int)) = (n : Int) := by rw [IntWalk.i64_in _ (by omega)]; omega
    have hcutw : ∀ w : World, (Instr.sliceAt 22 (.slice (some ⟨R.bb, 0, none⟩) 4096 4096) (some (.int .i64 (r : Int))) (some (.int .i64 ((r : Int) + (n : Int)))) none).run Tryz.prog w = .ok (.slice (cutAt (some ⟨R.bb, 0, none⟩) 4096 r) n (4096 - r)) w := by
      intro w
      rw [run_cut_lh w _ 4096 4096 r ((r : Int) + n) (by omega) (by omega) (by omega)]
      rw [show ((r : Int) + n).toNat - (r : Int).toNat = n from by omega, show (r : Int).toNat = r from by omega]
    have hsrcB : HB w (cutAt (some ⟨R.bb, 0, none⟩) 4096 r) (win bs r n) := by
      have h1 := (h.buf.hb' 0).drop (c := 4096) (k := r) (by simp [hlen]) (by simp [hlen]; omega)
      rw [List.drop_zero] at h1
      exact h1.take n
    have hwl : (win bs r n).length = n := win_len (by omega)
    have hB := h.buf
    go_enter Tryz.func100, Tryz.ntmps100
    go_wp2
    go_region_held3 (fun w' => ∀ i', w'.cell? ⟨R.rb, i', none⟩ = (#[.slice (some ⟨R.bb, 0, none⟩) 4096 4096, .iface 104 (.pointer (some ⟨R.st, 0, none⟩)), .int .i64 r, .int .i64 ((r : Int) + n), .nilIface, .int .i64 lb, .int .i64 lr] : Array Value)[i']?) (first | exact k | exact fun j => (putB_cell _ _ _ _ d1).trans (k j))
      ((refine step_copy_bytes rfl (.tmp 13) (.tmp 26) rfl R.bb 0 4096 4096 (by rfl) (cutAt (some ⟨R.bb, 0, none⟩) 4096 r) (win bs r n) n (4096 - r) (by rfl) hwl.symm bs hB hsrcB.drew (by omega) ?_))
    refine then_world (fun wa Ha => ?_)
    have hba : Blk wa R.rb #[.slice (some ⟨R.bb, 0, none⟩) 4096 4096, .iface 104 (.pointer (some ⟨R.st, 0, none⟩)), .int .i64 r, .int .i64 ((r : Int) + n), .nilIface, .int .i64 lb, .int .i64 lr] 127 := by rw [Ha.out]; exact (hb.drew).putB d1 _
    have hBa : BufB wa R.bb (spliceB bs 0 ((win bs r n).take 4096)) := by rw [Ha.out]; exact BufB.put (Blk.drew hB) _
    have hKa : Kp [R.bb] w wa := by rw [Ha.out]; exact (Kp.refl _ w).drew.putB (.inl (by simp)) _
    have hSa : Src wa E R.st R.ur R.far [] := h.below.kp hKa (by simp; exact fun e => d4 e.symm) (by simp; exact fun e => d5 e.symm) (by intro b hb _; simp at hb; subst hb; exact hfmem.1)
    have hEa : wa.cell? ⟨0, 0, none⟩ = some E := cell_kp h.eof hKa (by simp; exact fun e => h.gl R.bb (by simp [RS.own]) e.symm)
    rw [List.take_of_length_le (by omega)] at hBa
    have hl1 : (spliceB bs 0 (win bs r n)).length = 4096 := by rw [length_spliceB _ _ _ (by omega)]; exact hlen
    have hw1 : Hid ((spliceB bs 0 (win bs r n)).take n = win bs r n) := by
      show _ = _
      unfold spliceB
      rw [List.take_zero, List.nil_append, List.take_append_of_le_length (by omega), List.take_of_length_le (by omega)]
    generalize spliceB bs 0 (win bs r n) = bs1 at hBa hl1 hw1
    clear Ha k f hb hB hsrcB h
    have k := hba.cell
    have f := hba.free
    go_wp2
    go_still_tail 11, (by kernel_rfl)
    change wpList _ _ _ _ _ wa.drew
    go_wp2
    refine wp_world (fun wb Hb => ?_)
    have hb1 : Blk wb R.rb #[.slice (some ⟨R.bb, 0, none⟩) 4096 4096, .iface 104 (.pointer (some ⟨R.st, 0, none⟩)), .int .i64 0, .int .i64 n, .nilIface, .int .i64 lb, .int .i64 lr] 127 := by rw [Hb.out]; exact Blk.drew ((hba.set 3 _).set 2 _)
    have hB1 : BufB wb R.bb bs1 := by rw [Hb.out]; exact Blk.drew (Blk.far (Blk.far hBa (fun e => d1 e.symm) _) (fun e => d1 e.symm) _)
    have hKb : Kp [R.rb] wa wb := by rw [Hb.out]; exact (((Kp.refl _ _).setCell (.inl (by simp)) _).setCell (.inl (by simp)) _).drew
    have hS1 : Src wb E R.st R.ur R.far [] := hSa.kp hKb (by simp; exact fun e => d2 e.symm) (by simp; exact fun e => d3 e.symm) (by intro b hb _; simp at hb; subst hb; exact hfar _ hrbo)
    have hE1 : wb.cell? ⟨0, 0, none⟩ = some E := cell_kp hEa hKb (by simp; exact fun e => hrb0 e.symm)
    have hK1 : Kp R.own w wb := (hKa.mono (by intro b hb _; simp at hb; subst hb; exact hmem.1)).trans (hKb.mono (by intro b hb _; simp at hb; subst hb; exact hrbo))
    clear Hb k f hba hBa hSa hEa hKa hKb
    have k := hb1.cell
    have f := hb1.free
    go_quiet (fail)
    go_wp2
    refine wp_world (fun w2 H2 => ?_)
    have hb2 : Blk w2 R.rb #[.slice (some ⟨R.bb, 0, none⟩) 4096 4096, .iface 104 (.pointer (some ⟨R.st, 0, none⟩)), .int .i64 0, .int .i64 n, .nilIface, .int .i64 lb, .int .i64 lr] 127 := by rw [H2.out]; exact hb1.drewN nq
    have hB2 : BufB w2 R.bb bs1 := by rw [H2.out]; exact Blk.drewN hB1 nq
    have hS2 : Src w2.drew E R.st R.ur R.far [] := by rw [H2.out]; exact (hS1.drewN nq).drew
    have hK2 : Kp R.own w w2 := by rw [H2.out]; exact hK1.drewN' nq
    have hE2 : w2.cell? ⟨0, 0, none⟩ = some E := by rw [H2.out]; exact hE1
    clear H2 hb1 hB1 hS1 hK1 hE1 k
    have k := hb2.cell
    refine wp_loop_once ?_
    go_wp2
    go_region_held3 (fun w' => ∀ i', w'.cell? ⟨R.rb, i', none⟩ = (#[.slice (some ⟨R.bb, 0, none⟩) 4096 4096, .iface 104 (.pointer (some ⟨R.st, 0, none⟩)), .int .i64 0, .int .i64 n, .nilIface, .int .i64 lb, .int .i64 lr] : Array Value)[i']?)
      (first | exact k | exact (Blk.kp (Blk.drew hb2) hK3 hdis).cell)
      ((go_at_call 183; refine (sticky_eof R.st R.ur (4096 - n) (4096 - n) R.far w2.drew E (some ⟨R.bb, n, none⟩) hE2 hE hS2 d6 hst0 hfmem.2.1).mono ?_; rintro e w3 ⟨rfl, hS3, hK3⟩))
    have hb3 := Blk.kp (Blk.drew hb2) hK3 hdis
    have hE3 := cell_kp (w := w2.drew) hE2 hK3 hdis0
    have hK3' : Kp R.own w w3 := hK2.drew.trans (hK3.mono (fun b hb _ => hsub b hb (.inr trivial)))
    have hB3 : BufB w3 R.bb bs1 := Blk.kp (Blk.drew hB2) hK3 (by simp; exact d4)
    clear k
    have k := hb3.cell
    have f := hb3.free
    clear hB2 hS2 hE2 hb2
    obtain ⟨et, ev, rfl⟩ := hE
    go_wp2
    go_end0
    refine ⟨rfl, (hK3'.setCell (.inl hrbo) _).setCell (.inl hrbo) _, .inr ⟨rfl, bs1, ⟨?_, Blk.far (Blk.far hB3 (fun e => d1 e.symm) _) (fun e => d1 e.symm) _, hl1, by omega, hS3.kp (S := [R.rb]) (((Kp.refl _ _).setCell (.inl (by simp)) _).setCell (.inl (by simp)) _) (by simp; exact fun e => d2 e.symm) (by simp; exact fun e => d3 e.symm) (by intro b hb _; simp at hb; subst hb; exact hfar _ hrbo), hnd, hgl, .inr ⟨rfl, rfl⟩, ?_, ⟨_, _, rfl⟩, hdn⟩, ?_⟩⟩
    · have := (hb3.set 3 (.int .i64 (n : Int))).set 4 (.iface et ev)
      simpa [brCells] using this
    · exact (World.cell?_setCell_other _ _ _ _ (by intro e; injection e with e; exact hrb0 e)).trans ((World.cell?_setCell_other _ _ _ _ (by intro e; injection e with e; exact hrb0 e)).trans hE3)
    · simpa [win] using hw1.out
end

end Go.Proofs.YtkbgnplknifmhaaGreatDoor
