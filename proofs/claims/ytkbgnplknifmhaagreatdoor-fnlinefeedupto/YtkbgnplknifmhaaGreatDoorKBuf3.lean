/-
  Walks and facts for the mailparts program.
-/
import Derived.Test.YtkbgnplknifmhaaGreatDoorKBuf2
import Derived.Deep.LoopGhost
namespace Go.Proofs.YtkbgnplknifmhaaGreatDoor
open Go.RowKit
attribute [local go_sem ↓] Go.wp_at_zero Go.wp_at_succ

section
variable {w w' : World} {E : Value} {R : RS} {r n : Nat} {bs src : Bytes} {err : Value} {lb lr : Int}
theorem BRx.rbo (_h : BRx w E R r n bs src err lb lr) : R.rb ∈ R.own := by simp [RS.own]
theorem BRx.far (h : BRx w E R r n bs src err lb lr) {b : Nat} (hb : b ∈ R.own) : b ∈ R.far := fun (e : b = R.da) => h.dn (e ▸ hb)
/-- What turns other blocks leaves the reader as it is. -/
theorem BRx.kp {S : List Nat} (h : BRx w E R r n bs src err lb lr) (k : Kp S w w') (hS : ∀ b ∈ R.own, b ∉ S) (hda : R.da ∉ S) (h0 : 0 ∉ S) : BRx w' E R r n bs src err lb lr :=
  ⟨h.blk.kp k (hS _ (by simp [RS.own])), h.buf.kp k (hS _ (by simp [RS.own])), h.len, h.fit, h.below.kp k (hS _ (by simp [RS.own])) (hS _ (by simp [RS.own])) (fun b hb _ (e : b = R.da) => hda (e ▸ hb)), h.ap, h.gl, h.er, cell_kp h.eof k h0, h.isE, h.dn⟩
theorem BRx.rb0 (h : BRx w E R r n bs src err lb lr) : ¬ R.rb = 0 := h.gl _ h.rbo
/-- Only the reader's own block has turned. -/
theorem BRx.turn (h : BRx w E R r n bs src err lb lr) (k : Kp [R.rb] w w') {r' n' : Nat} {err' : Value} {lb' lr' : Int} {a b : Int}
    (hb : Blk w' R.rb #[.slice (some ⟨R.bb, 0, none⟩) 4096 4096, .iface 104 (.pointer (some ⟨R.st, 0, none⟩)), .int .i64 a, .int .i64 b, err', .int .i64 lb', .int .i64 lr'] 127)
    (ha : a = r') (hb' : b = (r' : Int) + n') (hfit : r' + n' ≤ 4096) (he : err' = .nilIface ∨ (err' = E ∧ src = [])) : BRx w' E R r' n' bs src err' lb' lr' := by
  obtain ⟨⟨d1, d2, d3⟩, ⟨d4, d5⟩, d6⟩ := h.d
  subst ha; subst hb'
  exact ⟨hb, h.buf.kp k (by simp; exact fun e => d1 e.symm), h.len, hfit, h.below.kp k (by simp; exact fun e => d2 e.symm) (by simp; exact fun e => d3 e.symm) (by intro b hb _; simp at hb; subst hb; exact h.far h.rbo), h.ap, h.gl, he, cell_kp h.eof k (by simp; exact fun e => h.rb0 e.symm), h.isE, h.dn⟩
theorem BRx.cells (h : BRx w E R r n bs src err lb lr) : Blk w R.rb #[.slice (some ⟨R.bb, 0, none⟩) 4096 4096, .iface 104 (.pointer (some ⟨R.st, 0, none⟩)), .int .i64 r, .int .i64 ((r : Int) + n), err, .int .i64 lb, .int .i64 lr] 127 := h.blk
theorem BRx.drewN (h : BRx w E R r n bs src err lb lr) (m : Nat) : BRx (w.drewN m) E R r n bs src err lb lr :=
  ⟨h.blk.drewN m, Blk.drewN h.buf m, h.len, h.fit, h.below.drewN m, h.ap, h.gl, h.er, h.eof, h.isE, h.dn⟩
theorem wrap_sub (r n : Nat) (h : r + n ≤ 4096) : IntKind.i64.wrap ((r : Int) + (n : Int) - (r : Int)) = (n : Int) := by rw [IntWalk.i64_in _ (by omega)]; omega
theorem Kp.rb_own (k : Kp [R.rb] w w') : Kp R.own w w' := k.mono (by intro b hb _; simp at hb; subst hb; simp [RS.own])

/-! ### Buffered (99), readErr (98) -/
set_option maxHeartbeats 400000 in
theorem buffered_any (h : BRx w E R r n bs src err lb lr) :
    Calls Tryz.prog 99 #[.pointer (some ⟨R.rb, 0, none⟩)] w fun e w' => e = .returned (.int .i64 n) ∧ ∃ m, w' = w.drewN m := by
  have k := h.cells.cell
  have hw := wrap_sub r n h.fit
  clear h
  go_enter Tryz.func99, Tryz.ntmps99
  go_wp2
  go_quiet (fail)
  go_wp2
  go_ret
  exact ⟨rfl, _, rfl⟩

set_option maxHeartbeats 400000 in
theorem readErr_any (h : BRx w E R r n bs src err lb lr) (herr : err = .nilIface ∨ ∃ t v, err = .iface t v) :
    Calls Tryz.prog 98 #[.pointer (some ⟨R.rb, 0, none⟩)] w fun e w' => e = .returned err ∧ BRx w' E R r n bs src .nilIface lb lr ∧ Kp [R.rb] w w' := by
  have hb := h.cells
  have k := hb.cell
  have f := hb.free
  rcases herr with rfl | ⟨t, v, rfl⟩
  all_goals
    go_enter Tryz.func98, Tryz.ntmps98
    go_wp2
    go_ret
    have hK : ∀ v, Kp [R.rb] w (w.setCell ⟨R.rb, 4, none⟩ v) := fun v => (Kp.refl _ w).setCell (.inl (by simp)) v
    exact ⟨rfl, h.turn (hK _) (hb.set 4 .nilIface) rfl rfl h.fit (.inl rfl), hK _⟩

/-! ### Peek (141) -/
/-- Where place r of the buffer lies. -/
def bbAt (R : RS) (r : Nat) : Option Addr := cutAt (some ⟨R.bb, 0, none⟩) 4096 r
theorem BRx.hb_win (h : BRx w E R r n bs src err lb lr) (m : Nat) (hm : r + m ≤ 4096) : HB w (bbAt R r) (win bs r m) := by
  have h1 := (h.buf.hb' 0).drop (c := 4096) (k := r) (by simp [h.len]) (by simp [h.len]; omega)
  rw [List.drop_zero] at h1
  exact h1.take m
theorem cut_run (R : RS) (r m : Nat) (h : r + m ≤ 4096) (b : Int) (hb : b = (r : Int) + m) : ∀ w : World, (Instr.sliceAt 22 (.slice (some ⟨R.bb, 0, none⟩) 4096 4096) (some (.int .i64 (r : Int))) (some (.int .i64 b)) none).run Tryz.prog w = .ok (.slice (bbAt R r) m (4096 - r)) w := by
  intro w
  rw [run_cut_lh w _ 4096 4096 r b (by omega) (by omega) (by omega)]
  rw [show b.toNat - (r : Int).toNat = m from by omega, show (r : Int).toNat = r from by omega]
  rfl

set_option maxRecDepth 20000 in
set_option maxHeartbeats 1000000 in
/-- What is there is given, and nothing is read. -/
theorem peek_there (h : BRx w E R r n bs src err lb lr) (m : Nat) (hm : m ≤ n) :
    Calls Tryz.prog 141 #[.pointer (some ⟨R.rb, 0, none⟩), .int .i64 m] w fun e w' => e = .returned (.tuple #[.slice (bbAt R r) m (4096 - r), .nilIface]) ∧ BRx w' E R r n bs src err (-1) (-1) ∧ Kp [R.rb] w w' := by
  have hb := h.cells
  have k := hb.cell
  have f := hb.free
  have hfit := h.fit
  have hw := wrap_sub r n h.fit
  have hlt : decide (n < m) = false := by simp; omega
  have hm2 : decide ((4096 : Int) < (m : Int)) = false := by simp; omega
  have hm0 : decide ((m : Int) < 0) = false := by simp
  have hw2 : IntKind.i64.wrap ((r : Int) + (m : Int)) = (r : Int) + m := IntWalk.i64_in _ (by omega)
  have hcut := cut_run R r m (by omega) ((r : Int) + m) rfl
  go_enter Tryz.func141, Tryz.ntmps141
  go_wp2
  refine wp_world (fun w1 H1 => ?_)
  have hK1 : Kp [R.rb] w w1 := by rw [H1.out]; exact ((Kp.refl _ w).setCell (.inl (by simp)) _).setCell (.inl (by simp)) _
  have hb1 : Blk w1 R.rb #[.slice (some ⟨R.bb, 0, none⟩) 4096 4096, .iface 104 (.pointer (some ⟨R.st, 0, none⟩)), .int .i64 r, .int .i64 ((r : Int) + n), err, .int .i64 (-1), .int .i64 (-1)] 127 := by rw [H1.out]; exact (hb.set 5 _).set 6 _
  have h1 : BRx w1 E R r n bs src err (-1) (-1) := h.turn hK1 hb1 rfl rfl h.fit h.er
  clear H1 k f hb h
  have k := hb1.cell
  refine wp_loop_once ?_
  go_wp2
  go_quiet (fail)
  go_wp2
  go_quiet (fail)
  go_wp2
  go_quiet (fail)
  go_wp2
  go_ret2
  try simp only [World.drewN_drewN]
  exact ⟨rfl, h1.drewN _, hK1.drewN' _⟩


/-- What the loop of Peek holds. -/
structure PeekInv (w w1 : World) (E : Value) (R : RS) (whole : Bytes) (m q : Nat) (r n : Nat) (bs src : Bytes) : Prop where
  br : BRx w1 E R r n bs src .nilIface (-1) (-1)
  kp : Kp R.own w w1
  eq : win bs r n ++ src = whole
  q : src.length = q
  r0 : r = 0 ∨ n < m
def PeekRel (w w1 : World) (E : Value) (R : RS) (whole : Bytes) (m q : Nat) : Prop := ∃ r n bs src, PeekInv w w1 E R whole m q r n bs src
theorem Kp.w1 {S : List Nat} (h : Kp S w w') : w.heap.size ≤ w'.heap.size := h.size
set_option maxRecDepth 20000 in
set_option maxHeartbeats 2000000 in
theorem peek_more (h : BRx w E R r n bs src .nilIface lb lr) (m : Nat) (hm : n < m) (hm4 : m ≤ 4096) (hs : m ≤ n + src.length) :
    Calls Tryz.prog 141 #[.pointer (some ⟨R.rb, 0, none⟩), .int .i64 m] w fun e w' => ∃ n1 bs1 src1, e = .returned (.tuple #[.slice (bbAt R 0) m 4096, .nilIface]) ∧ m ≤ n1 ∧
      BRx w' E R 0 n1 bs1 src1 .nilIface (-1) (-1) ∧ win bs1 0 n1 ++ src1 = win bs r n ++ src ∧ Kp R.own w w' := by
  have hb := h.cells
  have k := hb.cell
  have f := hb.free
  have hm2 : decide ((4096 : Int) < (m : Int)) = false := by simp; omega
  have hm0 : decide ((m : Int) < 0) = false := by simp
  have hwl : (win bs r n).length = n := win_len (by have := h.len; have := h.fit; omega)
  go_enter Tryz.func141, Tryz.ntmps141
  go_wp2
  refine wp_world (fun w1 H1 => ?_)
  have hK1 : Kp [R.rb] w w1 := by rw [H1.out]; exact ((Kp.refl _ w).setCell (.inl (by simp)) _).setCell (.inl (by simp)) _
  have hb1 : Blk w1 R.rb #[.slice (some ⟨R.bb, 0, none⟩) 4096 4096, .iface 104 (.pointer (some ⟨R.st, 0, none⟩)), .int .i64 r, .int .i64 ((r : Int) + n), .nilIface, .int .i64 (-1), .int .i64 (-1)] 127 := by rw [H1.out]; exact (hb.set 5 _).set 6 _
  have h1 : BRx w1 E R r n bs src .nilIface (-1) (-1) := h.turn hK1 hb1 rfl rfl h.fit h.er
  have hR : PeekRel w w1 E R (win bs r n ++ src) m src.length := ⟨r, n, bs, src, h1, hK1.rb_own, rfl, rfl, .inr hm⟩
  have hwhole : Hid ((win bs r n ++ src).length = n + src.length) := by show _ = _; rw [List.length_append, hwl]
  have hs' : m ≤ (win bs r n ++ src).length := by rw [hwhole.out]; exact hs
  generalize hW : win bs r n ++ src = whole at hR hs' hwhole
  have HW := Lib.hid hW
  clear hW
  generalize src.length = q at hR
  clear H1 k f hb h hb1 h1 hK1 hwl hwhole hs hm
  go_loopg [52] q (fun q v w' => PeekRel w w' E R whole m q)
  case atStart => exact hR
  case round =>
    clear hR
    obtain ⟨r1, n1, bs1, src1, hI⟩ := hrel
    have hbr := hI.br
    have hlen1 : whole.length = n1 + src1.length := by rw [← hI.eq, List.length_append, win_len (by have := hbr.len; have := hbr.fit; omega)]
    have hb1 := hbr.cells
    have k := hb1.cell
    have hw := wrap_sub r1 n1 hbr.fit
    have hfit := hbr.fit
    by_cases hlt : n1 < m
    · have e1 : decide (n1 < m) = true := by simp [hlt]
      have e2 : decide ((n1 : Int) < 4096) = true := by simp; omega
      have hcon := fun j => fill_some (wr.drewN j) E R r1 n1 bs1 src1 (-1) (-1) (hbr.drewN j) (by omega) (by omega)
      clear hb1
      go_wp2
      go_quiet (fail)
      go_wp2_with fail
      refine (hcon _).mono ?_
      rintro e w3 ⟨rfl, hK3, ⟨h0, kk, bs3, q1, q2, hbr3, hwin⟩ | ⟨hnil, _⟩⟩
      · have hR3 : PeekRel w w3 E R whole m (src1.length - kk) := ⟨0, n1 + kk, bs3, src1.drop kk, hbr3, (hI.kp.drewN' _).trans hK3, by rw [hwin, List.append_assoc, List.take_append_drop]; exact hI.eq, List.length_drop, .inl rfl⟩
        have hq : Hid (src1.length = gk) := hI.q
        clear hI hbr hbr3 hcon hwin hK3 k
        go_wp2
        go_roundg (src1.length - kk)
        case measure => have := hq.out; omega
        case rel => exact hR3
      · subst hnil
        simp at hlen1
        omega
    · have e1 : decide (n1 < m) = false := by simp; omega
      have hr0 : r1 = 0 := by
        rcases hI.r0 with h | h
        · exact h
        · omega
      subst hr0
      have hw2 : IntKind.i64.wrap ((0 : Int) + (m : Int)) = (m : Int) := by rw [IntWalk.i64_in _ (by omega)]; omega
      have hw3 : IntKind.i64.wrap (m : Int) = (m : Int) := IntWalk.i64_in _ (by omega)
      have hcut := cut_run R 0 m (by omega) (m : Int) (by simp)
      simp only [Int.natCast_zero, Int.zero_add] at hb1 k hw hcut
      clear hb1
      go_wp2
      go_quiet (fail)
      go_wp2
      go_quiet (fail)
      go_wp2
      go_quiet (fail)
      go_wp2
      go_ret2
      try simp only [World.drewN_drewN]
      exact ⟨n1, bs1, src1, rfl, by omega, hbr.drewN _, hI.eq.trans HW.out.symm, hI.kp.drewN' _⟩

end
end Go.Proofs.YtkbgnplknifmhaaGreatDoor
