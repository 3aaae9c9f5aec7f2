/-
  Walks and facts for the mailparts program.
-/
import Derived.Test.YtkbgnplknifmhaaGreatDoorKBuf4ToBuf5
import Derived.LaidEql
import Derived.Test.YtkbgnplknifmhaaGreatDoorKBaseToTx0
import Derived.Test.YtkbgnplknifmhaaGreatDoorKBlkToBuf1
import Derived.Deep.LoopGhost
namespace Go.Proofs.YtkbgnplknifmhaaGreatDoor
open Go.RowKit
attribute [local go_sem ↓] Go.wp_at_zero Go.wp_at_succ

/-- The globals that the walks read: errors, none of them nil. -/
structure GV (w : World) : Prop where
  g1 : ∃ t v, w.cell? ⟨1, 0, none⟩ = some (.iface t v)
  g13 : ∃ t v, w.cell? ⟨13, 0, none⟩ = some (.iface t v)
theorem GV.kp {S : List Nat} {w w' : World} (h : GV w) (k : Kp S w w') (hs : ∀ b ∈ S, 15 ≤ b) : GV w' := by
  obtain ⟨⟨t1, v1, h1⟩, ⟨t2, v2, h2⟩⟩ := h
  exact ⟨⟨t1, v1, cell_kp h1 k (fun e => by have := hs _ e; omega)⟩, ⟨t2, v2, cell_kp h2 k (fun e => by have := hs _ e; omega)⟩⟩

section
variable {w : World} {E : Value} {R : RS} {r n : Nat} {bs src : Bytes} {lb lr : Int}
/-! ### ReadLine (149) -/
/-- A line without the CR at its end. -/
def dropCR (l : Bytes) : Bytes := if l.getLast? = some 13 then l.dropLast else l
theorem dropCR_cr (l : Bytes) : dropCR (l ++ [13]) = l := by unfold dropCR; simp
theorem dropCR_no (l : Bytes) (h : l.getLast? ≠ some 13) : dropCR l = l := by unfold dropCR; rw [if_neg h]
theorem dropCR_cases (l : Bytes) : (∃ m, l = m ++ [13] ∧ dropCR l = m) ∨ (l.getLast? ≠ some 13 ∧ dropCR l = l) := by
  by_cases h : l.getLast? = some 13
  · left
    obtain ⟨m, rfl⟩ := List.getLast?_eq_some_iff.1 h
    exact ⟨m, rfl, dropCR_cr m⟩
  · exact .inr ⟨h, dropCR_no l h⟩

set_option maxRecDepth 20000 in
set_option maxHeartbeats 2000000 in
theorem readLine_hit (h : BRx w E R r n bs src .nilIface lb lr) (hG : GV w) (hRG : ∀ b ∈ R.own, 15 ≤ b) (l rest : Bytes) (hl : (10 : UInt8) ∉ l) (hl2 : l.length + 1 ≤ 4096)
    (hw : win bs r n ++ src = l ++ 10 :: rest) :
    Calls Tryz.prog 149 #[.pointer (some ⟨R.rb, 0, none⟩)] w fun e w' => ∃ r1 n1 bs1 src1, e = .returned (.tuple #[.slice (bbAt R r1) (dropCR l).length (4096 - r1), .bool false, .nilIface]) ∧ Slid w w' E R (l ++ [10]) rest r1 n1 bs1 src1 10 := by
  have hcon := readSlice_hit h l rest hl hl2 hw
  have hlen : (l ++ [10]).length = l.length + 1 := by simp
  rw [hlen] at hcon
  clear hw hl h
  rcases dropCR_cases l with ⟨m, hm, hd⟩ | ⟨hm, hd⟩
  · rw [hd]
    have hlm : l.length = m.length + 1 := by rw [hm]; simp
    have HM := Lib.hid hm
    have HL := Lib.hid hlm
    clear hm hd
    go_enter Tryz.func149, Tryz.ntmps149
    go_wp2_with fail
    refine hcon.mono ?_
    rintro e w3 ⟨r1, n1, bs1, src1, rfl, hS⟩
    obtain ⟨t1, v1, g1⟩ := (hG.kp hS.kp hRG).g1
    have he1 := fun (w : World) => run_eql_iface_nil_left (P := Tryz.prog) w t1 v1 Tryz.underlying69
    have hbr := hS.br
    have hfit := hbr.fit
    rw [hlen] at hfit
    have hb10 : byt (win bs1 r1 (l.length + 1)) l.length = 10 := by
      have := hS.line
      rw [hlen] at this
      rw [this]; simp [byt, List.getD]
    have hcell := hbr.byte r1 (l.length + 1) l.length (by omega) (by omega) hb10
    have hix := hbr.ixk r1 (l.length + 1) (4096 - r1) l.length (by omega) (by omega) ((m.length : Int) + 1) (by omega)
    have h10 : ((10 : UInt8).toNat : Int) = 10 := rfl
    rw [h10] at hcell
    have hb13 : byt (win bs1 r1 (l.length + 1)) m.length = 13 := by
      have := hS.line
      rw [hlen] at this
      rw [this, HM.out]; simp [byt, List.getD]
    have hcell2 := hbr.byte r1 (l.length + 1) m.length (by omega) (by omega) hb13
    have hix2 := hbr.ixk r1 (l.length + 1) (4096 - r1) m.length (by omega) (by omega) ((m.length : Int) + 1 + 1 - 2) (by omega)
    have h13 : ((13 : UInt8).toNat : Int) = 13 := rfl
    rw [h13] at hcell2
    have HS := Lib.hid hS
    clear hS hbr hlen hb10 hb13 h10 h13 hcon
    rw [HL.out] at hcell hix hix2 hfit hl2 ⊢
    clear hlm
    go_wp2
    go_ret3
    exact ⟨r1, n1, bs1, src1, rfl, HS.out⟩
  · rw [hd]
    have HM := Lib.hid hm
    clear hm hd
    go_enter Tryz.func149, Tryz.ntmps149
    go_wp2_with fail
    refine hcon.mono ?_
    rintro e w3 ⟨r1, n1, bs1, src1, rfl, hS⟩
    obtain ⟨t1, v1, g1⟩ := (hG.kp hS.kp hRG).g1
    have he1 := fun (w : World) => run_eql_iface_nil_left (P := Tryz.prog) w t1 v1 Tryz.underlying69
    have hbr := hS.br
    have hfit := hbr.fit
    rw [hlen] at hfit
    have hb10 : byt (win bs1 r1 (l.length + 1)) l.length = 10 := by
      have := hS.line
      rw [hlen] at this
      rw [this]; simp [byt, List.getD]
    have hcell := hbr.byte r1 (l.length + 1) l.length (by omega) (by omega) hb10
    have hix := hbr.ixk r1 (l.length + 1) (4096 - r1) l.length (by omega) (by omega) (l.length : Int) rfl
    have h10 : ((10 : UInt8).toNat : Int) = 10 := rfl
    rw [h10] at hcell
    have HS := Lib.hid hS
    rcases Nat.eq_zero_or_pos l.length with h0 | h0
    · clear hS hbr hlen hb10 h10 hcon
      have H0 := Lib.hid h0
      rw [h0] at hcell hix hfit hl2 ⊢
      have hix : ∀ w : World, (Instr.indexAt 22 (.slice (bbAt R r1) 1 (4096 - r1)) (.int .i64 0)).run Tryz.prog w = .ok (.pointer (some ⟨R.bb, r1, none⟩)) w := hix
      rw [Nat.add_zero] at hcell
      clear h0
      go_wp2
      go_ret3
      exact ⟨r1, n1, bs1, src1, by rw [H0.out]; rfl, HS.out⟩
    · have hb12 : byt (win bs1 r1 (l.length + 1)) (l.length - 1) = byt l (l.length - 1) := by
        have := hS.line
        rw [hlen] at this
        rw [this]; unfold byt; simp [List.getD, List.getElem?_append_left (show l.length - 1 < l.length by omega)]
      have hcell2 := hbr.byte r1 (l.length + 1) (l.length - 1) (by omega) (by omega) hb12
      have hix2 := hbr.ixk r1 (l.length + 1) (4096 - r1) (l.length - 1) (by omega) (by omega) ((l.length : Int) + 1 - 2) (by omega)
      have hne13 : ((byt l (l.length - 1)).toNat == 13) = false := by
        rw [beq_eq_false_iff_ne]
        intro e
        apply HM.out
        rw [List.getLast?_eq_getElem?, List.getElem?_eq_getElem (by omega)]
        congr 1
        have e2 : byt l (l.length - 1) = l[l.length - 1] := byt_lt l _ (by omega)
        rw [← e2]
        exact UInt8.toNat_inj.1 e
      have hne13' : (((byt l (l.length - 1)).toNat : Int) == 13) = false := by
        rw [beq_eq_false_iff_ne] at hne13 ⊢
        omega
      clear hS hbr hlen hb10 hb12 h10 hcon
      go_wp2
      go_ret3
      exact ⟨r1, n1, bs1, src1, rfl, HS.out⟩
end
end Go.Proofs.YtkbgnplknifmhaaGreatDoor
namespace Go.Proofs.YtkbgnplknifmhaaGreatDoor
open Go.RowKit
attribute [local go_sem ↓] Go.wp_at_zero Go.wp_at_succ
theorem BRx.ixbb {w : World} {E : Value} {R : RS} {r n : Nat} {bs src : Bytes} {err : Value} {lb lr : Int} (h : BRx w E R r n bs src err lb lr) (k : Nat) (hk : k < 4096) (j : Int) (hj : j = k) :
    ∀ w : World, (Instr.indexAt 22 (.slice (some ⟨R.bb, 0, none⟩) 4096 4096) (.int .i64 j)).run Tryz.prog w = .ok (.pointer (some ⟨R.bb, k, none⟩)) w := by
  intro w1
  have := (h.buf.hb' 0).ixk 4096 4096 (by rw [List.drop_zero, h.len]; exact Nat.le_refl _) j k hj hk w1
  rw [at_mk, Nat.zero_add] at this
  exact this
theorem BRx.bytebb {w : World} {E : Value} {R : RS} {r n : Nat} {bs src : Bytes} {err : Value} {lb lr : Int} (h : BRx w E R r n bs src err lb lr) (k : Nat) (hk : k < 4096) {c : UInt8} (hc : byt bs k = c) :
    w.cell? ⟨R.bb, k, none⟩ = some (.int .u8 c.toNat) := by
  have := (h.buf.hb' 0).cell k (by rw [List.drop_zero, h.len]; exact hk)
  rw [List.drop_zero, at_mk, Nat.zero_add, hc] at this
  exact this
theorem win_head {bs : Bytes} {r n : Nat} (h : r + n ≤ bs.length) (hn : 0 < n) {c : UInt8} {rest src : Bytes} (he : win bs r n ++ src = c :: rest) : byt bs r = c ∧ win bs r 1 = [c] ∧ win bs (r + 1) (n - 1) ++ src = rest := by
  obtain ⟨m, rfl⟩ : ∃ m, n = m + 1 := ⟨n - 1, by omega⟩
  have e1 : win bs r (m + 1) = byt bs r :: win bs (r + 1) (m + 1 - 1) := by
    unfold win
    rw [List.drop_eq_getElem_cons (by omega : r < bs.length), List.take_succ_cons, byt_lt _ _ (by omega)]
    rfl
  rw [e1, List.cons_append] at he
  injection he with h1 h2
  refine ⟨h1, ?_, h2⟩
  unfold win
  rw [List.drop_eq_getElem_cons (by omega : r < bs.length)]
  simp only [List.take_succ_cons, List.take_zero]
  rw [← h1, byt_lt _ _ (by omega)]

section
variable {w : World} {E : Value} {R : RS} {r n : Nat} {bs src : Bytes} {lb lr : Int}
/-! ### ReadByte (159) -/
structure RBInv (w w1 : World) (E : Value) (R : RS) (whole : Bytes) (q : Nat) (lb lr : Int) (r n : Nat) (bs src : Bytes) : Prop where
  br : BRx w1 E R r n bs src .nilIface lb lr
  kp : Kp R.own w w1
  eq : win bs r n ++ src = whole
  q : src.length = q
def RBRel (w w1 : World) (E : Value) (R : RS) (whole : Bytes) (lb lr : Int) (q : Nat) : Prop := ∃ r n bs src, RBInv w w1 E R whole q lb lr r n bs src

set_option maxRecDepth 20000 in
set_option maxHeartbeats 2000000 in
theorem readByte_hit (h : BRx w E R r n bs src .nilIface lb lr) (c : UInt8) (rest : Bytes) (hw : win bs r n ++ src = c :: rest) :
    Calls Tryz.prog 159 #[.pointer (some ⟨R.rb, 0, none⟩)] w fun e w' => ∃ r1 n1 bs1 src1, e = .returned (.tuple #[.int .u8 c.toNat, .nilIface]) ∧ Slid w w' E R [c] rest r1 n1 bs1 src1 c.toNat := by
  have hb := h.cells
  have k := hb.cell
  have f := hb.free
  have hlt : (c.toNat : Int) ≤ 255 := by have := c.toNat_lt; omega
  have hge : (0 : Int) ≤ (c.toNat : Int) := by omega
  go_enter Tryz.func159, Tryz.ntmps159
  go_wp2
  refine wp_world (fun w1 H1 => ?_)
  have hK1 : Kp [R.rb] w w1 := by rw [H1.out]; exact (Kp.refl _ w).setCell (.inl (by simp)) _
  have hb1 : Blk w1 R.rb #[.slice (some ⟨R.bb, 0, none⟩) 4096 4096, .iface 104 (.pointer (some ⟨R.st, 0, none⟩)), .int .i64 r, .int .i64 ((r : Int) + n), .nilIface, .int .i64 lb, .int .i64 (-1)] 127 := by rw [H1.out]; exact hb.set 6 _
  have h1 : BRx w1 E R r n bs src .nilIface lb (-1) := h.turn hK1 hb1 rfl rfl h.fit h.er
  have hR : RBRel w w1 E R (c :: rest) lb (-1) src.length := ⟨r, n, bs, src, h1, hK1.rb_own, hw, rfl⟩
  clear H1 k f hb h hb1 h1 hK1 hw
  generalize src.length = q at hR
  go_loopg [2] q (fun q v w' => RBRel w w' E R (c :: rest) lb (-1) q)
  case atStart => exact hR
  case round =>
    clear hR
    obtain ⟨r1, n1, bs1, src1, hI⟩ := hrel
    have hbr := hI.br
    have hlen := hbr.len
    have hfit := hbr.fit
    have hb := hbr.cells
    have k := hb.cell
    by_cases hn : n1 = 0
    · subst hn
      have heq : ((r1 : Int) == (r1 : Int) + (0 : Nat)) = true := by simp
      have hs : src1 = c :: rest := by have := hI.eq; simpa [win] using this
      have HS := Lib.hid hs
      have h0 : 0 < src1.length := by rw [hs]; simp
      have hfill := fun j => fill_some (wr.drewN j) E R r1 0 bs1 src1 lb (-1) (hbr.drewN j) (by omega) h0
      clear hb hs
      simp only [Int.natCast_zero, Int.add_zero] at k heq
      go_wp2
      go_quiet (fail)
      go_wp2_with fail
      refine (hfill _).mono ?_
      rintro e w3 ⟨rfl, hK3, ⟨_, kk, bs3, q1, q2, hbr3, hwin3⟩ | ⟨hnil, _⟩⟩
      · have hR3 : RBRel w w3 E R (c :: rest) lb (-1) (src1.length - kk) := ⟨0, 0 + kk, bs3, src1.drop kk, hbr3, (hI.kp.drewN' _).trans hK3, by rw [hwin3, List.append_assoc, List.take_append_drop]; exact hI.eq, List.length_drop⟩
        have hq : Hid (src1.length = gk) := hI.q
        clear hI hbr hbr3 hfill hwin3 hK3 k
        go_wp2
        go_roundg (src1.length - kk)
        case measure => have := hq.out; omega
        case rel => exact hR3
      · subst hnil
        simp at h0
    · have heq : ((r1 : Int) == (r1 : Int) + (n1 : Int)) = false := by simp; omega
      obtain ⟨e1, e2, e3⟩ := win_head (by omega) (by omega) hI.eq
      have hix := hbr.ixbb r1 (by omega) (r1 : Int) rfl
      have hcell := hbr.bytebb r1 (by omega) e1
      have hne : ¬ R.bb = R.rb := fun e => hbr.d.1.1 e.symm
      have f := hb.free
      have E2 := Lib.hid e2
      have E3 := Lib.hid e3
      clear hb e1 e2 e3
      go_wp2
      go_quiet (fail)
      go_wp2
      go_quiet (fail)
      go_wp2
      go_ret2
      have hK : ∀ a, Kp [R.rb] wr (((wr.drewN a).setCell ⟨R.rb, 2, none⟩ (.int .i64 ((r1 : Int) + 1))).setCell ⟨R.rb, 5, none⟩ (.int .i64 c.toNat)) := fun a =>
        (((Kp.refl _ _).drewN' _).setCell (.inl (by simp)) _).setCell (.inl (by simp)) _
      have hb' := fun a => ((hbr.cells.drewN a).set 2 (.int .i64 ((r1 : Int) + 1))).set 5 (.int .i64 c.toNat)
      exact ⟨r1, n1 - 1, bs1, src1, rfl, ⟨hbr.turn (r' := r1 + 1) (n' := n1 - 1) (hK _) (hb' _) (by omega) (by omega) (by omega) (.inl rfl), E2.out, E3.out, hI.kp.trans (hK _).rb_own⟩⟩

/-! ### UnreadByte (160) behind a byte that was read -/
theorem encB_set (bs : Bytes) (i : Nat) (c : UInt8) : (encB bs).setIfInBounds i (.int .u8 c.toNat) = encB (bs.set i c) := by
  apply Array.ext'
  simp [encB, B8, List.map_set]
theorem BufB.set {b : Nat} {bs : Bytes} (h : BufB w b bs) (i : Nat) (c : UInt8) : BufB (w.setCell ⟨b, i, none⟩ (.int .u8 c.toNat)) b (bs.set i c) := by
  have := Blk.set h i (.int .u8 c.toNat)
  rwa [encB_set] at this
set_option maxRecDepth 20000 in
set_option maxHeartbeats 2000000 in
theorem unread_hit {r1 n1 : Nat} {bs1 src1 : Bytes} {c : UInt8} (h : BRx w E R (r1 + 1) n1 bs1 src1 .nilIface c.toNat (-1)) (hc : win bs1 r1 1 = [c]) :
    Calls Tryz.prog 160 #[.pointer (some ⟨R.rb, 0, none⟩)] w fun e w' => e = .returned .nilIface ∧ BRx w' E R r1 (n1 + 1) bs1 src1 .nilIface (-1) (-1) ∧ Kp R.own w w' := by
  have hb := h.cells
  have k := hb.cell
  have f := hb.free
  have hlt : (c.toNat : Int) ≤ 255 := by have := c.toNat_lt; omega
  have hge : (0 : Int) ≤ (c.toNat : Int) := by omega
  have hneg : decide ((c.toNat : Int) < 0) = false := by simp
  have h0 : (((r1 : Int) + 1) == 0) = false := by simp; omega
  have hfit := h.fit
  have hix := h.ixbb r1 (by omega) (r1 : Int) rfl
  have hu8 : IntKind.u8.wrap (c.toNat : Int) = c.toNat := by simp [IntKind.wrap, IntKind.bits, IntKind.signed]; try omega
  have hb' := h.buf.free r1
  go_enter Tryz.func160, Tryz.ntmps160
  go_wp2
  refine wp_world (fun w1 H1 => ?_)
  have hK1 : Kp [R.rb] w w1 := by rw [H1.out]; exact (Kp.refl _ w).setCell (.inl (by simp)) _
  have hb1 : Blk w1 R.rb #[.slice (some ⟨R.bb, 0, none⟩) 4096 4096, .iface 104 (.pointer (some ⟨R.st, 0, none⟩)), .int .i64 r1, .int .i64 ((r1 : Int) + 1 + n1), .nilIface, .int .i64 c.toNat, .int .i64 (-1)] 127 := by
    have := hb.set 2 (.int .i64 r1)
    rw [H1.out]; simpa using this
  have hfz : w1.frozen? ⟨R.bb, r1, none⟩ = false := Blk.free (h.buf.kp hK1 (by simp; exact fun e => h.d.1.1 e.symm)) r1
  have k1 := hb1.cell
  have f1 := hb1.free
  have hx := h.bytebb r1 (by omega) (c := byt bs1 r1) rfl
  have hne : ¬ R.bb = R.rb := fun e => h.d.1.1 e.symm
  have hcell := cell_kp hx hK1 (by simp; exact hne)
  have hbc : Hid (byt bs1 r1 = c) := by
    have e := congrArg (fun l => byt l 0) hc
    show _ = _
    have e2 : byt (win bs1 r1 1) 0 = byt bs1 r1 := by unfold win; rw [byt_take _ _ _ (by omega), byt_drop]; rfl
    rw [← e2, hc]; rfl
  clear H1 k f hb h0 hx hb'
  go_still_tail 14, (by kernel_rfl)
  change wpList _ _ _ _ _ w1.drew
  go_wp2
  go_ret
  have hB1 : BufB w1 R.bb bs1 := h.buf.kp hK1 (by simp; exact fun e => h.d.1.1 e.symm)
  have hlen := h.len
  have hsame : bs1.set r1 c = bs1 := by
    rw [← hbc.out, byt_lt _ _ (by omega)]; exact List.set_getElem_self (by omega)
  have hB2 := BufB.set hB1 r1 c
  rw [hsame] at hB2
  have hb2 := ((Blk.drew (hb1.far (fun e => hne e.symm) (.int .u8 c.toNat) (p := ⟨R.bb, r1, none⟩))).set 5 (.int .i64 (-1))).set 6 (.int .i64 (-1))
  have hKb : Kp [R.rb, R.bb] w ((((w1.setCell ⟨R.bb, r1, none⟩ (.int .u8 c.toNat)).drew).setCell ⟨R.rb, 5, none⟩ (.int .i64 (-1))).setCell ⟨R.rb, 6, none⟩ (.int .i64 (-1))) :=
    (((((hK1.mono (by intro b hb _; simp at hb; simp [hb]))).setCell (.inl (by simp)) _).drew).setCell (.inl (by simp)) _).setCell (.inl (by simp)) _
  obtain ⟨⟨d1, d2, d3⟩, ⟨d4, d5⟩, d6⟩ := h.d
  have hsub : ∀ b ∈ [R.rb, R.bb], b ∈ R.own := by intro b hb; simp at hb; rcases hb with rfl | rfl <;> simp [RS.own]
  refine ⟨rfl, ⟨?_, ?_, hlen, by omega, h.below.kp hKb (by simp; exact ⟨fun e => d2 e.symm, fun e => d4 e.symm⟩) (by simp; exact ⟨fun e => d3 e.symm, fun e => d5 e.symm⟩) (fun b hb _ => h.far (hsub b hb)), h.ap, h.gl, .inl rfl, cell_kp h.eof hKb (by simp; exact ⟨fun e => h.gl R.rb (by simp [RS.own]) e.symm, fun e => h.gl R.bb (by simp [RS.own]) e.symm⟩), h.isE, h.dn⟩, hKb.mono (fun b hb _ => hsub b hb)⟩
  · have e : (r1 : Int) + ((n1 + 1 : Nat) : Int) = (r1 : Int) + 1 + n1 := by omega
    unfold brCells
    rw [e]
    exact hb2
  · exact ((Blk.drew hB2).far (fun e => hne e) _).far (fun e => hne e) _

end
end Go.Proofs.YtkbgnplknifmhaaGreatDoor
namespace Go.Proofs.YtkbgnplknifmhaaGreatDoor
open Go.RowKit
attribute [local go_sem ↓] Go.wp_at_zero Go.wp_at_succ
theorem step_copy_bytes' {w : World} {ops : Array Oper} {o : Oper} {a : Act} {K : Act → World → Prop} {Q : Exit → Act → World → Prop} {E : Prop} (hgd : o.guard = none) (d s : Operand)
    (ho : o.op = .call { callee := .builtin .copy, args := #[d, s], argTypes := #[22, 22] }) (b off m c : Nat) (hd : a.eval d = .slice (some ⟨b, off, none⟩) m c)
    (x : Option Addr) (l : List UInt8) (n c' : Nat) (hs : a.eval s = .slice x n c') (hn : n = l.length) (bs : List UInt8) {t : TypeId} (hB : Blk w b (encB bs) t) (hl : HB w x l) (hfit : off + m ≤ bs.length) (q : Nat) (hq : min l.length m = q)
    (h : K (a.put o.dst (.int .i64 (q : Nat))) (putB w b (spliceB bs off (l.take m)))) : if Region.wanted o (yielded ops a.tmps) = true then Oper.wp Tryz.prog o a w K Q else E := by
  subst hq
  exact step_copy_bytes hgd d s ho b off m c hd x l n c' hs hn bs hB hl hfit h

section
variable {w : World} {E : Value} {R : RS} {r n : Nat} {bs src : Bytes} {lb lr : Int}
/-! ### Read (182) of bytes that wait -/
set_option maxRecDepth 20000 in
set_option maxHeartbeats 2000000 in
theorem bread0 {err : Value} (h : BRx w E R r n bs src err lb lr) (hn : 0 < n) (a : Option Addr) (c : Nat) :
    Calls Tryz.prog 182 #[.pointer (some ⟨R.rb, 0, none⟩), .slice a 0 c] w fun e w' => e = .returned (.tuple #[.int .i64 0, .nilIface]) ∧ ∃ j, w' = w.drewN j := by
  have hcon := buffered_any h
  have hpos : decide ((0 : Int) < (n : Int)) = true := by simp; omega
  clear h
  go_enter Tryz.func182, Tryz.ntmps182
  go_wp2_with fail
  refine hcon.mono ?_
  rintro e w3 ⟨rfl, j, rfl⟩
  go_wp2
  go_ret2
  exact ⟨rfl, _, rfl⟩

set_option maxRecDepth 20000 in
set_option maxHeartbeats 2000000 in
theorem bread_hit (h : BRx w E R r n bs src .nilIface lb lr) (m : Nat) (hm0 : 0 < m) (hm : m ≤ n) (db : Nat) (dbs : Bytes) (t : TypeId) (c : Nat) (hd : Blk w db (encB dbs) t) (hdl : m ≤ dbs.length) (hdb : db ∉ R.own) (hdda : R.da ≠ db) (hd0 : db ≠ 0) :
    Calls Tryz.prog 182 #[.pointer (some ⟨R.rb, 0, none⟩), .slice (some ⟨db, 0, none⟩) m c] w fun e w' => e = .returned (.tuple #[.int .i64 m, .nilIface]) ∧
      ∃ lb', BRx w' E R (r + m) (n - m) bs src .nilIface lb' (-1) ∧ Blk w' db (encB (spliceB dbs 0 (win bs r m))) t ∧ Kp (db :: R.own) w w' := by
  have hb := h.cells
  have k := hb.cell
  have f := hb.free
  have hfit := h.fit
  have hlen := h.len
  have hne : ¬ R.rb = db := fun e => hdb (by rw [← e]; simp [RS.own])
  have hne2 : ¬ R.bb = R.rb := fun e => h.d.1.1 e.symm
  have heq : ((r : Int) == (r : Int) + (n : Int)) = false := by simp; omega
  have hm00 : ((m : Int) == 0) = false := by simp; omega
  have hcut := cut_run R r n (by omega) ((r : Int) + n) rfl
  have hsrc := h.hb_at r n (by omega)
  have hwl : (win bs r n).length = n := win_len (by omega)
  go_enter Tryz.func182, Tryz.ntmps182
  go_wp2
  go_quiet (fail)
  go_wp2
  refine wp_world (fun w1 H1 => ?_)
  have hb1 : Blk w1 R.rb #[.slice (some ⟨R.bb, 0, none⟩) 4096 4096, .iface 104 (.pointer (some ⟨R.st, 0, none⟩)), .int .i64 r, .int .i64 ((r : Int) + n), .nilIface, .int .i64 lb, .int .i64 lr] 127 := by rw [H1.out]; exact hb.drewN nq
  have hd1 : Blk w1 db (encB dbs) t := by rw [H1.out]; exact hd.drewN nq
  have hs1 : HB w1 (bbAt R r) (win bs r n) := by rw [H1.out]; exact hsrc.drewN nq
  have h1 : BRx w1 E R r n bs src .nilIface lb lr := by rw [H1.out]; exact h.drewN nq
  have hK1 : Kp (db :: R.own) w w1 := by rw [H1.out]; exact (Kp.refl _ _).drewN' nq
  clear H1 k f hb hd hsrc h
  have k := hb1.cell
  go_region_held3 (fun w' => ∀ i', w'.cell? ⟨R.rb, i', none⟩ = (#[.slice (some ⟨R.bb, 0, none⟩) 4096 4096, .iface 104 (.pointer (some ⟨R.st, 0, none⟩)), .int .i64 r, .int .i64 ((r : Int) + n), .nilIface, .int .i64 lb, .int .i64 lr] : Array Value)[i']?) (first | exact k | exact fun j => (putB_cell _ _ _ _ hne).trans (k j))
    ((refine step_copy_bytes' rfl (.tmp 109) (.tmp 122) rfl db 0 m c (by rfl) (bbAt R r) (win bs r n) n (4096 - r) (by rfl) hwl.symm dbs hd1 hs1.drew (by omega) m (by omega) ?_))
  refine then_world (fun wa Ha => ?_)
  have hba : Blk wa R.rb #[.slice (some ⟨R.bb, 0, none⟩) 4096 4096, .iface 104 (.pointer (some ⟨R.st, 0, none⟩)), .int .i64 r, .int .i64 ((r : Int) + n), .nilIface, .int .i64 lb, .int .i64 lr] 127 := by rw [Ha.out]; exact (hb1.drew).putB hne _
  have hda : Blk wa db (encB (spliceB dbs 0 (win bs r m))) t := by rw [Ha.out, win_take bs r n m hm]; exact BufT.put (Blk.drew hd1) _
  have hKa : Kp [db] w1 wa := by rw [Ha.out]; exact (Kp.refl _ w1).drew.putB (.inl (by simp)) _
  have hdb' : ∀ b ∈ R.own, b ∉ [db] := by intro b hb e; simp at e; subst e; exact hdb hb
  have hxa : BRx wa E R r n bs src .nilIface lb lr := h1.kp hKa hdb' (by simp; exact hdda) (by simp; exact fun e => hd0 e.symm)
  have k := hba.cell
  have f := hba.free
  clear Ha hb1 hd1 hs1 h1
  go_wp2
  refine wp_world (fun wb Hb => ?_)
  have hKb : Kp [R.rb] wa wb := by rw [Hb.out]; exact (Kp.refl _ _).setCell (.inl (by simp)) _
  have hbb : Blk wb R.rb #[.slice (some ⟨R.bb, 0, none⟩) 4096 4096, .iface 104 (.pointer (some ⟨R.st, 0, none⟩)), .int .i64 ((r : Int) + m), .int .i64 ((r : Int) + n), .nilIface, .int .i64 lb, .int .i64 lr] 127 := by rw [Hb.out]; exact hba.set 2 _
  have hxb : BRx wb E R (r + m) (n - m) bs src .nilIface lb lr := hxa.turn hKb hbb (by omega) (by omega) (by omega) (.inl rfl)
  have hdb2 : Blk wb db (encB (spliceB dbs 0 (win bs r m))) t := hda.kp hKb (by simp; exact fun e => hne e.symm)
  have hK2 : Kp (db :: R.own) w wb := (hK1.trans (hKa.mono (by intro b hb _; simp at hb; simp [hb]))).trans (hKb.mono (by intro b hb _; simp at hb; simp [hb, RS.own]))
  have hix := hxb.ixbb (r + m - 1) (by omega) ((r : Int) + m - 1) (by omega)
  have hcell := hxb.bytebb (r + m - 1) (by omega) (c := byt bs (r + m - 1)) rfl
  generalize byt bs (r + m - 1) = u at hcell
  have hu1 : (u.toNat : Int) ≤ 255 := by have := u.toNat_lt; omega
  have hs : IntKind.i64.wrap ((r : Int) + (m : Int) - 1) = (r : Int) + m - 1 := IntWalk.i64_in _ (by omega)
  have hwr : IntKind.i64.wrap (u.toNat : Int) = u.toNat := IntWalk.i64_in _ (by omega)
  clear Hb k f hba hda hxa hKa hKb hK1
  have k := hbb.cell
  have f := hbb.free
  go_still_tail 15, (by kernel_rfl)
  change wpList _ _ _ _ _ wb.drew
  go_wp2
  go_ret2
  have hKc : Kp [R.rb] wb (((wb.drew).setCell ⟨R.rb, 5, none⟩ (.int .i64 u.toNat)).setCell ⟨R.rb, 6, none⟩ (.int .i64 (-1))) := ((Kp.refl _ _).drew.setCell (.inl (by simp)) _).setCell (.inl (by simp)) _
  refine ⟨rfl, u.toNat, hxb.turn hKc (((Blk.drew hbb).set 5 (.int .i64 u.toNat)).set 6 (.int .i64 (-1))) (by omega) (by omega) (by omega) (.inl rfl), ?_, hK2.trans (hKc.mono (by intro b hb _; simp at hb; simp [hb, RS.own]))⟩
  exact ((Blk.drew hdb2).far (fun e => hne e.symm) _).far (fun e => hne e.symm) _

end
end Go.Proofs.YtkbgnplknifmhaaGreatDoor
namespace Go.Proofs.YtkbgnplknifmhaaGreatDoor
open Go.RowKit
attribute [local go_sem ↓] Go.wp_at_zero Go.wp_at_succ

/-! ### trim (151) of a line that does not begin with a blank -/
def trB (l : Bytes) : Bytes := (l.reverse.dropWhile blankC).reverse
theorem trB_blank (l : Bytes) (k : Nat) (hk : k < l.length) (h : blankC (byt l k) = true) : trB (l.take (k + 1)) = trB (l.take k) := by
  unfold trB
  rw [List.take_succ_eq_append_getElem hk, List.reverse_append]
  rw [byt_lt l k hk] at h
  simp [h]
theorem trB_not (l : Bytes) (k : Nat) (hk : k < l.length) (h : blankC (byt l k) = false) : trB (l.take (k + 1)) = l.take (k + 1) := by
  unfold trB
  rw [List.take_succ_eq_append_getElem hk, List.reverse_append]
  rw [byt_lt l k hk] at h
  simp [h]
set_option maxRecDepth 20000 in
set_option maxHeartbeats 1000000 in
theorem trim_any (a : Option Addr) (c : Nat) (l : Bytes) (w : World) (h : HB w a l) (hc : l.length ≤ c) (hl : l.length ≤ 281474976710656) (h0 : 0 < l.length) (hb : blankC (byt l 0) = false) :
    Calls Tryz.prog 151 #[.slice a l.length c] w fun e w' => e = .returned (.slice a (trB l).length c) ∧ w = w' := by
  have hix := h.ix l.length c (Nat.le_refl _)
  have hix0 : ∀ w : World, (Instr.indexAt 22 (.slice a l.length c) (.int .i64 0)).run Tryz.prog w = .ok (.pointer (some (at_ a 0))) w := fun w => hix w 0 (by omega) (by omega)
  have hcell0 := h.cell 0 h0
  have h32 : ¬ ((byt l 0).toNat : Int) = 32 := fun e => by rw [(u8_iff _ 32).1 e] at hb; simp [blankC] at hb
  have h9 : ¬ ((byt l 0).toNat : Int) = 9 := fun e => by rw [(u8_iff _ 9).1 e] at hb; simp [blankC] at hb
  obtain ⟨e1, e2⟩ := i_not h32
  obtain ⟨e3, e4⟩ := i_not h9
  have hcut : ∀ w : World, (Instr.sliceAt 22 (.slice a l.length c) (some (.int .i64 0)) none none).run Tryz.prog w = .ok (.slice a l.length c) w := by
    intro w1
    rw [run_cut_l w1 a l.length c 0 (by omega) (by omega)]
    obtain ⟨x, rfl⟩ := Option.isSome_iff_exists.1 (h.some_ (fun e => by rw [e] at h0; simp at h0))
    simp only [cutAt, Int.toNat_zero, Nat.sub_zero, Option.map_some]
    split <;> simp [Addr.add]
  have HBl : Hid (blankC (byt l 0) = false) := hb
  have HH := Lib.hid h
  clear h32 h9 hb h
  go_enter Tryz.func151, Tryz.ntmps151
  go_wp2
  refine wp_loop_once ?_
  go_wp2
  clear e1 e2 e3 e4 hcell0 hix0
  go_loop [4] (fun v => ∃ k : Nat, k ≤ l.length ∧ v = .int .i64 ((k : Int) - 1) ∧ Hid (trB (l.take k) = trB l)) (fun v => (intOf v + 1).toNat)
  case atStart => exact ⟨l.length, Nat.le_refl _, rfl, by show _ = _; rw [List.take_of_length_le (Nat.le_refl _)]⟩
  case round =>
    obtain ⟨k, hk, rfl, H⟩ := hrel
    by_cases hk0 : k = 0
    · exfalso
      subst hk0
      have h1 := H.out
      obtain ⟨x, s, hxs⟩ : ∃ x s, l = x :: s := by cases l with
        | nil => simp at h0
        | cons x s => exact ⟨x, s, rfl⟩
      have hb := HBl.out
      rw [hxs] at hb h1
      have e : trB (x :: s) ≠ [] := by
        unfold trB
        intro e
        have e5 : byt (x :: s) 0 = x := rfl
        rw [e5] at hb
        rw [List.reverse_eq_nil_iff, List.reverse_cons] at e
        have hd : ∀ (t : Bytes), (t ++ [x]).dropWhile blankC ≠ [] := by
          intro t
          induction t with
          | nil => simp [hb]
          | cons y t ih =>
            rw [List.cons_append]
            unfold List.dropWhile
            split
            · exact ih
            · simp
        exact hd _ e
      exact e (by rw [← h1]; rfl)
    · obtain ⟨j, rfl⟩ : ∃ j, k = j + 1 := ⟨k - 1, by omega⟩
      have hixk : ∀ w : World, (Instr.indexAt 22 (.slice a l.length c) (.int .i64 (j : Int))).run Tryz.prog w = .ok (.pointer (some (at_ a j))) w := fun w => by
        have := hix w (j : Int) (by omega) (by omega)
        rwa [show (j : Int).toNat = j from by omega] at this
      have hcell := HH.out.cell j (by omega)
      have ej : (((j + 1 : Nat) : Int) - 1) = (j : Int) := by omega
      rw [ej]
      have hge : decide ((0 : Int) ≤ (j : Int)) = true := by simp
      by_cases h1 : ((byt l j).toNat : Int) = 32
      · have H1 : Hid (trB (l.take j) = trB l) := by show _ = _; rw [← H.out, trB_blank l j (by omega) (by simp [blankC, (u8_iff _ 32).1 h1])]
        obtain ⟨e1, e2⟩ := i_is h1
        clear h1 H hix hcut
        go_wp2
        go_round
        case rel => exact ⟨j, by omega, rfl, H1⟩
        case measure => first | (simp [intOf]; done) | (simp [intOf]; omega)
      · by_cases h2 : ((byt l j).toNat : Int) = 9
        · have H1 : Hid (trB (l.take j) = trB l) := by show _ = _; rw [← H.out, trB_blank l j (by omega) (by simp [blankC, (u8_iff _ 9).1 h2])]
          obtain ⟨e1, e2⟩ := i_not h1
          obtain ⟨e3, e4⟩ := i_is h2
          clear h1 h2 H hix hcut
          go_wp2
          go_round
          case rel => exact ⟨j, by omega, rfl, H1⟩
          case measure => first | (simp [intOf]; done) | (simp [intOf]; omega)
        · have hnb : blankC (byt l j) = false := by simp [blankC]; exact ⟨fun e => h1 ((u8_iff _ 32).2 e), fun e => h2 ((u8_iff _ 9).2 e)⟩
          have H1 : Hid (trB l = l.take (j + 1)) := by show _ = _; rw [← H.out, trB_not l j (by omega) hnb]
          obtain ⟨e1, e2⟩ := i_not h1
          obtain ⟨e3, e4⟩ := i_not h2
          clear h1 h2 H hix hcut hnb
          go_wp2
          go_ret
          refine ⟨?_, rfl⟩
          rw [H1.out, List.length_take, Nat.min_eq_left hk]
          simp

end Go.Proofs.YtkbgnplknifmhaaGreatDoor
namespace Go.Proofs.YtkbgnplknifmhaaGreatDoor
open Go.RowKit
attribute [local go_sem ↓] Go.wp_at_zero Go.wp_at_succ

/-- A textproto reader: its block tb, over the buffered reader, with the buffer v. -/
def TX (w : World) (tb : Nat) (rb : Nat) (v : Value) : Prop := Blk w tb #[.pointer (some ⟨rb, 0, none⟩), .pointer none, v] 189
theorem TX.kp {S : List Nat} {w w' : World} {tb rb : Nat} {v : Value} (h : TX w tb rb v) (k : Kp S w w') (hS : tb ∉ S) : TX w' tb rb v := Blk.kp h k hS

theorem nilSlice_eq (w : World) : (binOp .eql 22 (.slice none 0 0) (.slice none 0 0)).run Tryz.prog w = .ok (.bool true) w := by kernel_rfl
set_option maxHeartbeats 400000 in
theorem closeDot_any {w : World} {tb rb : Nat} {v : Value} (hT : TX w tb rb v) : Calls Tryz.prog 148 #[.pointer (some ⟨tb, 0, none⟩)] w fun e w' => e = .returned (.tuple #[]) ∧ w = w' := by
  have k : ∀ i, w.cell? ⟨tb, i, none⟩ = (#[.pointer (some ⟨rb, 0, none⟩), .pointer none, v] : Array Value)[i]? := hT.cell
  clear hT
  go_enter Tryz.func148, Tryz.ntmps148
  go_wp2
  refine bodyPost_ret (results_none rfl _ _ _) rfl ?_
  exact ⟨rfl, rfl⟩

section
variable {w : World} {E : Value} {R : RS} {r n : Nat} {bs src : Bytes} {lb lr : Int} {tb : Nat} {v : Value}
set_option maxRecDepth 20000 in
set_option maxHeartbeats 1000000 in
theorem readLineSlice_hit (hT : TX w tb R.rb v) (h : BRx w E R r n bs src .nilIface lb lr) (hG : GV w) (hRG : ∀ b ∈ R.own, 15 ≤ b) (l rest : Bytes) (hl : (10 : UInt8) ∉ l) (hl2 : l.length + 1 ≤ 4096)
    (hw : win bs r n ++ src = l ++ 10 :: rest) (lim : Int) (hlim : lim < 0 ∨ ((dropCR l).length : Int) ≤ lim) :
    Calls Tryz.prog 142 #[.pointer (some ⟨tb, 0, none⟩), .int .i64 lim] w fun e w' => ∃ r1 n1 bs1 src1, e = .returned (.tuple #[.slice (bbAt R r1) (dropCR l).length (4096 - r1), .nilIface]) ∧ Slid w w' E R (l ++ [10]) rest r1 n1 bs1 src1 10 := by
  have k : ∀ i, w.cell? ⟨tb, i, none⟩ = (#[.pointer (some ⟨R.rb, 0, none⟩), .pointer none, v] : Array Value)[i]? := hT.cell
  have hcd := closeDot_any hT
  have hns := nilSlice_eq
  have hcon := readLine_hit h hG hRG l rest hl hl2 hw
  have hd : (dropCR l).length ≤ 4096 := by
    rcases dropCR_cases l with ⟨m, hm, hd⟩ | ⟨_, hd⟩
    · rw [hd]; have := congrArg List.length hm; simp at this; omega
    · rw [hd]; omega
  clear hw hl h hT
  generalize (dropCR l).length = q at hcon hlim hd ⊢
  rcases hlim with hlim | hlim
  · have hneg : decide ((0 : Int) ≤ lim) = false := by simp; omega
    go_enter Tryz.func142, Tryz.ntmps142
    go_wp2_with fail
    refine hcd.mono ?_
    rintro e w' ⟨rfl, rfl⟩
    clear hcd
    go_wp2
    refine wp_loop_once ?_
    go_wp2_with fail
    refine hcon.mono ?_
    rintro e w3 ⟨r1, n1, bs1, src1, rfl, hS⟩
    have HS := Lib.hid hS
    clear hS
    go_wp2
    go_ret2
    exact ⟨r1, n1, bs1, src1, rfl, HS.out⟩
  · have hneg : decide ((0 : Int) ≤ lim) = true := by simp; omega
    have hle : decide (lim < (q : Int)) = false := by simp; omega
    go_enter Tryz.func142, Tryz.ntmps142
    go_wp2_with fail
    refine hcd.mono ?_
    rintro e w' ⟨rfl, rfl⟩
    clear hcd
    go_wp2
    refine wp_loop_once ?_
    go_wp2_with fail
    refine hcon.mono ?_
    rintro e w3 ⟨r1, n1, bs1, src1, rfl, hS⟩
    have HS := Lib.hid hS
    clear hS
    go_wp2
    go_ret2
    exact ⟨r1, n1, bs1, src1, rfl, HS.out⟩

/-! ### skipSpace (152) -/
structure SSInv (w w1 : World) (E : Value) (R : RS) (tb : Nat) (v : Value) (sp rest : Bytes) (j q : Nat) (r n : Nat) (bs src : Bytes) (lb lr : Int) : Prop where
  br : BRx w1 E R r n bs src .nilIface lb lr
  tx : TX w1 tb R.rb v
  kp : Kp R.own w w1
  eq : win bs r n ++ src = sp.drop j ++ rest
  q : sp.length - j = q
  le : j ≤ sp.length
def SSRel (w w1 : World) (E : Value) (R : RS) (tb : Nat) (v : Value) (sp rest : Bytes) (q : Nat) (x : Value) : Prop := ∃ j r n bs src lb lr, x = .int .i64 (j : Nat) ∧ SSInv w w1 E R tb v sp rest j q r n bs src lb lr
set_option maxRecDepth 20000 in
set_option maxHeartbeats 1000000 in
theorem skipSpace_hit (hT : TX w tb R.rb v) (htb : tb ∉ R.own) (h : BRx w E R r n bs src .nilIface lb lr) (sp : Bytes) (c : UInt8) (rest : Bytes) (hsp : sp.all blankC = true) (hc : blankC c = false) (hspl : sp.length ≤ 4096)
    (hw : win bs r n ++ src = sp ++ c :: rest) :
    Calls Tryz.prog 152 #[.pointer (some ⟨tb, 0, none⟩)] w fun e w' => e = .returned (.int .i64 sp.length) ∧ ∃ r1 n1 bs1 src1, BRx w' E R r1 n1 bs1 src1 .nilIface (-1) (-1) ∧ win bs1 r1 n1 ++ src1 = c :: rest ∧ Kp R.own w w' := by
  have hR : SSRel w w E R tb v sp (c :: rest) sp.length (.int .i64 ((0 : Nat) : Int)) := ⟨0, r, n, bs, src, lb, lr, rfl, h, hT, Kp.refl _ _, hw, rfl, Nat.zero_le _⟩
  have HSP := Lib.hid hsp
  have HC := Lib.hid hc
  clear hsp hc h hT hw
  go_enter Tryz.func152, Tryz.ntmps152
  go_wp2
  go_loopg [3] (sp.length) (fun q x w' => SSRel w w' E R tb v sp (c :: rest) q x)
  case atStart => exact hR
  case round =>
    clear hR
    obtain ⟨j, r1, n1, bs1, src1, lb1, lr1, rfl, hI⟩ := hrel
    have k : ∀ i, wr.cell? ⟨tb, i, none⟩ = (#[.pointer (some ⟨R.rb, 0, none⟩), .pointer none, v] : Array Value)[i]? := hI.tx.cell
    have hle := hI.le
    by_cases hj : j = sp.length
    · have hd : sp.drop j = [] := List.drop_eq_nil_of_le (by omega)
      have he := hI.eq
      rw [hd, List.nil_append] at he
      have hcon := readByte_hit hI.br c rest he
      have h32 : ¬ (c.toNat : Int) = 32 := fun e => by have := HC.out; rw [(u8_iff _ 32).1 e] at this; simp [blankC] at this
      have h9 : ¬ (c.toNat : Int) = 9 := fun e => by have := HC.out; rw [(u8_iff _ 9).1 e] at this; simp [blankC] at this
      obtain ⟨e1, e2⟩ := i_not h32
      obtain ⟨e3, e4⟩ := i_not h9
      clear h32 h9 he hd
      go_wp2_with fail
      refine hcon.mono ?_
      rintro e w3 ⟨r2, n2, bs2, src2, rfl, hS⟩
      have hun := unread_hit hS.br hS.line
      have k3 : ∀ i, w3.cell? ⟨tb, i, none⟩ = (#[.pointer (some ⟨R.rb, 0, none⟩), .pointer none, v] : Array Value)[i]? := (hI.tx.kp hS.kp htb).cell
      have HS := Lib.hid hS
      have HI := Lib.hid hI
      clear hS hI hcon k
      go_wp2_with fail
      refine hun.mono ?_
      rintro e w4 ⟨rfl, hbr4, hK4⟩
      clear hun k3
      go_wp2
      go_ret
      refine ⟨ret_int rfl, r2, n2 + 1, bs2, src2, hbr4, ?_, (HI.out.kp.trans HS.out.kp).trans hK4⟩
      have e1 := HS.out.line
      have e2 := HS.out.rest
      have e3 : win bs2 r2 (n2 + 1) = win bs2 r2 1 ++ win bs2 (r2 + 1) n2 := by
        unfold win
        rw [Nat.add_comm n2 1, List.take_add, List.drop_drop]
      have e4 : ([c] : Bytes).length = 1 := rfl
      rw [e4] at e1 e2
      rw [e3, List.append_assoc, e1, e2]
      rfl
    · have hjl : j < sp.length := by omega
      have he := hI.eq
      rw [List.drop_eq_getElem_cons hjl, List.cons_append] at he
      have hb : blankC sp[j] = true := List.all_eq_true.1 HSP.out _ (List.getElem_mem hjl)
      generalize sp[j] = x at he hb
      have hcon := readByte_hit hI.br x _ he
      have hq := hI.q
      have HI := Lib.hid hI
      clear hI he
      have hor : (x.toNat : Int) = 32 ∨ (x.toNat : Int) = 9 := by
        simp [blankC] at hb
        rcases hb with rfl | rfl <;> simp
      clear hb
      have hcon' := Lib.hid hcon
      clear hcon
      have fin : ∀ w3, (∃ r1 n1 bs1 src1, Slid wr w3 E R [x] (sp.drop (j + 1) ++ c :: rest) r1 n1 bs1 src1 x.toNat) → SSRel w w3 E R tb v sp (c :: rest) (gk - 1) (.int .i64 ((j : Int) + 1)) := by
        rintro w3 ⟨r2, n2, bs2, src2, hS⟩
        exact ⟨j + 1, r2 + 1, n2, bs2, src2, x.toNat, -1, by simp, hS.br, HI.out.tx.kp hS.kp htb, HI.out.kp.trans hS.kp, hS.rest, by omega, by omega⟩
      have fin' := Lib.hid fin
      clear fin HI
      rcases hor with h1 | h1
      · obtain ⟨e1, e2⟩ := i_is h1
        go_wp2_with fail
        refine hcon'.out.mono ?_
        rintro e w3 ⟨r2, n2, bs2, src2, rfl, hS⟩
        have hrel3 := fin'.out w3 ⟨r2, n2, bs2, src2, hS⟩
        clear hS fin' hcon' k
        go_wp2
        go_roundg (gk - 1)
        case measure => omega
        case rel => exact hrel3
      · have h2 : ¬ (x.toNat : Int) = 32 := by omega
        obtain ⟨e1, e2⟩ := i_is h1
        obtain ⟨e3, e4⟩ := i_not h2
        go_wp2_with fail
        refine hcon'.out.mono ?_
        rintro e w3 ⟨r2, n2, bs2, src2, rfl, hS⟩
        have hrel3 := fin'.out w3 ⟨r2, n2, bs2, src2, hS⟩
        clear hS fin' hcon' k
        go_wp2
        go_roundg (gk - 1)
        case measure => omega
        case rel => exact hrel3
end
end Go.Proofs.YtkbgnplknifmhaaGreatDoor
namespace Go.Proofs.YtkbgnplknifmhaaGreatDoor
open Go.RowKit
attribute [local go_sem ↓] Go.wp_at_zero Go.wp_at_succ

/-! ### a key in canonical form -/
def canC (up : Bool) (b : UInt8) : UInt8 := if up && (97 ≤ b && b ≤ 122) then b - 32 else if !up && (65 ≤ b && b ≤ 90) then b + 32 else b
def canonGo : Bool → Bytes → Bytes
  | _, [] => []
  | up, b :: l => canC up b :: canonGo (b == 45) l
def canonB (l : Bytes) : Bytes := canonGo true l
def upAt (up : Bool) (l : Bytes) (i : Nat) : Bool := if i = 0 then up else byt l (i - 1) == 45
theorem canonGo_length (up : Bool) (l : Bytes) : (canonGo up l).length = l.length := by
  induction l generalizing up with
  | nil => rfl
  | cons b l ih => simp [canonGo, ih]
theorem canonGo_get (up : Bool) (l : Bytes) (i : Nat) (h : i < l.length) : byt (canonGo up l) i = canC (upAt up l i) (byt l i) := by
  induction l generalizing up i with
  | nil => simp at h
  | cons b l ih =>
    cases i with
    | zero => rfl
    | succ i =>
      have h' : i < l.length := by simpa using h
      have e1 : byt (canonGo up (b :: l)) (i + 1) = byt (canonGo (b == 45) l) i := rfl
      have e2 : byt (b :: l) (i + 1) = byt l i := rfl
      rw [e1, e2, ih _ _ h']
      congr 1
      unfold upAt
      cases i with
      | zero => rfl
      | succ i => rfl

/-! ### bytes in the middle of a block -/
def putAt (cs : Array Value) (o : Nat) (l : Bytes) : Array Value := (cs.toList.take o ++ l.map B8 ++ cs.toList.drop (o + l.length)).toArray
theorem putAt_get (cs : Array Value) (o : Nat) (l : Bytes) (i : Nat) (h : i < l.length) (ho : o + l.length ≤ cs.size) : (putAt cs o l)[o + i]? = some (.int .u8 (byt l i).toNat) := by
  have e : (List.take o cs.toList).length = o := by simp; omega
  unfold putAt
  rw [List.getElem?_toArray, List.append_assoc, List.getElem?_append_right (by rw [e]; omega), e,
    show o + i - o = i from by omega, List.getElem?_append_left (by simpa using h), List.getElem?_map, List.getElem?_eq_getElem h, byt_lt _ _ h]
  rfl
theorem putAt_set (cs : Array Value) (o : Nat) (l : Bytes) (i : Nat) (h : i < l.length) (ho : o + l.length ≤ cs.size) (c : UInt8) : (putAt cs o l).setIfInBounds (o + i) (.int .u8 c.toNat) = putAt cs o (l.set i c) := by
  apply Array.ext'
  unfold putAt
  rw [Array.toList_setIfInBounds]
  have e : (List.take o cs.toList).length = o := by rw [List.length_take, Array.length_toList]; omega
  rw [List.append_assoc, List.set_append, if_neg (by rw [e]; omega), e, show o + i - o = i from by omega, List.set_append, if_pos (by simpa using h), List.length_set, List.append_assoc, List.map_set]
  rfl
theorem Blk.hbAt {w : World} {b o : Nat} {cs : Array Value} {t : TypeId} {l : Bytes} (h : Blk w b (putAt cs o l) t) (ho : o + l.length ≤ cs.size) : HB w (some ⟨b, o, none⟩) l :=
  HB.of_cells (fun i hi => by rw [Blk.cell h, putAt_get _ _ _ _ hi ho])

/-! ### canonicalMIMEHeaderKey (137): the first loop -/
structure CKInv (w w1 : World) (xb o : Nat) (t : TypeId) (cs : Array Value) (key : Bytes) (i q : Nat) : Prop where
  blk : Blk w1 xb (putAt cs o ((canonB key).take i ++ key.drop i)) t
  kp : Kp [xb] w w1
  q : key.length - i = q
  le : i ≤ key.length
def CKRel (w w1 : World) (xb o : Nat) (t : TypeId) (cs : Array Value) (key : Bytes) (q : Nat) (v7 v : Value) : Prop := ∃ i : Nat, v = .int .i64 i ∧ v7 = .bool (upAt true key i) ∧ CKInv w w1 xb o t cs key i q
theorem canon_step (key : Bytes) (i : Nat) (h : i < key.length) : ((canonB key).take i ++ key.drop i).set i (canC (upAt true key i) (byt key i)) = (canonB key).take (i + 1) ++ key.drop (i + 1) := by
  have hl : (canonB key).length = key.length := canonGo_length _ _
  have e1 : ((canonB key).take i).length = i := by rw [List.length_take]; omega
  rw [List.set_append, if_neg (by omega), e1, Nat.sub_self, List.drop_eq_getElem_cons h, List.set_cons_zero, List.take_succ_eq_append_getElem (by omega), List.append_assoc]
  congr 1
  rw [← canonGo_get true key i h]
  show byt (canonB key) i :: _ = _
  rw [byt_lt _ _ (by omega)]
  rfl
theorem mid_byt (key : Bytes) (i : Nat) (h : i < key.length) : byt ((canonB key).take i ++ key.drop i) i = byt key i := by
  have hl : (canonB key).length = key.length := canonGo_length _ _
  have e1 : ((canonB key).take i).length = i := by rw [List.length_take]; omega
  unfold byt
  rw [List.getD_eq_getElem?_getD, List.getElem?_append_right (by omega), e1, Nat.sub_self, List.getElem?_drop]
  rfl
theorem mid_len (key : Bytes) (i : Nat) (h : i ≤ key.length) : ((canonB key).take i ++ key.drop i).length = key.length := by
  have hl : (canonB key).length = key.length := canonGo_length _ _
  simp; omega

theorem canC_all : ∀ up : Bool, ∀ n : Fin 256, ((canC up (UInt8.ofNat n)).toNat : Int) =
    if up = true ∧ (97 : Int) ≤ (n.val : Int) ∧ (n.val : Int) ≤ 122 then (n.val : Int) - 32 else if up = false ∧ (65 : Int) ≤ (n.val : Int) ∧ (n.val : Int) ≤ 90 then (n.val : Int) + 32 else n.val := by decide +kernel
theorem canC_int (up : Bool) (c : UInt8) : ((canC up c).toNat : Int) =
    if up = true ∧ (97 : Int) ≤ c.toNat ∧ (c.toNat : Int) ≤ 122 then (c.toNat : Int) - 32 else if up = false ∧ (65 : Int) ≤ c.toNat ∧ (c.toNat : Int) ≤ 90 then (c.toNat : Int) + 32 else c.toNat := by
  have := canC_all up ⟨c.toNat, c.toNat_lt⟩
  simp only [UInt8.ofNat_toNat] at this
  exact this

def CK1 (n : Nat) (v4 v : Value) : Prop := v4 = .bool false ∧ ∃ k : Nat, k ≤ n ∧ v = .int .i64 k
set_option maxRecDepth 20000 in
set_option maxHeartbeats 1000000 in
theorem canonKey_any (xb o c : Nat) (t : TypeId) (cs : Array Value) (key : Bytes) (w : World) (h : Blk w xb (putAt cs o key) t) (ho : o + key.length ≤ cs.size) (hk : key.all keyC = true) (h0 : 0 < key.length) (hl : key.length ≤ 4096) :
    Calls Tryz.prog 137 #[.slice (some ⟨xb, o, none⟩) key.length c] w fun e w' => e = .returned (.tuple #[.string (str (canonB key)), .bool true]) ∧ Blk w' xb (putAt cs o (canonB key)) t ∧ Kp [xb] w w' := by
  have hix : ∀ (i : Nat), i < key.length → ∀ w : World, (Instr.indexAt 22 (.slice (some ⟨xb, o, none⟩) key.length c) (.int .i64 (i : Int))).run Tryz.prog w = .ok (.pointer (some ⟨xb, o + i, none⟩)) w := by
    intro i hi w1
    have := ix_any (some ⟨xb, o, none⟩) key.length c (fun _ => rfl) w1 (i : Int) (by omega) (by omega)
    rw [this, show (i : Int).toNat = i from by omega, at_mk]
  have hbs := fun i (hi : i < key.length) => fieldByte (byt key i) w (List.all_eq_true.1 hk _ (by rw [byt_lt _ _ hi]; exact List.getElem_mem hi))
  have H := Lib.hid h
  have HX := Lib.hid hix
  have HBS := Lib.hid hbs
  clear hix hbs hk h
  have hz0 : ((key.length : Int) == 0) = false := by rw [beq_eq_false_iff_ne]; omega
  go_enter Tryz.func137, Tryz.ntmps137
  go_wp2
  go_loop [4, 15] (fun v4 v => CK1 key.length v4 v) (fun v4 v => key.length - (intOf v).toNat)
  case atStart => exact ⟨rfl, 0, Nat.zero_le _, rfl⟩
  case round =>
    obtain ⟨rfl, k, hk, rfl⟩ := hrel
    by_cases hlt : k < key.length
    · have hix := HX.out k hlt
      have hcell : w.cell? ⟨xb, o + k, none⟩ = some (.int .u8 (byt key k).toNat) := by rw [Blk.cell H.out, putAt_get _ _ _ _ hlt ho]
      have hcon := HBS.out k hlt
      go_wp2_with fail
      refine hcon.mono ?_
      rintro e w' ⟨rfl, rfl⟩
      clear hcon hix
      go_wp2
      go_round
      case rel => exact ⟨rfl, k + 1, hlt, by go_num⟩
      case measure => simp [intOf]; omega
    · clear HBS
      go_wp2
      have hR : CKRel w w xb o t cs key key.length (.bool true) (.int .i64 ((0 : Nat) : Int)) := ⟨0, rfl, rfl, ⟨by simpa using H.out, Kp.refl _ _, rfl, Nat.zero_le _⟩⟩
      go_loopg [7, 31] (key.length) (fun q v7 v w' => CKRel w w' xb o t cs key q v7 v)
      case atStart => exact hR
      case round =>
        clear hR H
        obtain ⟨i, rfl, rfl, hI⟩ := hrel
        have hle := hI.le
        by_cases hi : i < key.length
        · have hix := HX.out i hi
          have hlen := mid_len key i hle
          have hcell : wr.cell? ⟨xb, o + i, none⟩ = some (.int .u8 (byt key i).toNat) := by rw [Blk.cell hI.blk, putAt_get _ _ _ _ (by omega) (by omega), mid_byt _ _ hi]
          have hfz : wr.frozen? ⟨xb, o + i, none⟩ = false := Blk.free hI.blk _
          have hint := canC_int (upAt true key i) (byt key i)
          have hnext : ∀ x : Value, x = .int .u8 (canC (upAt true key i) (byt key i)).toNat → ∀ y : Value, y = .bool ((byt key i) == 45) → CKRel w (wr.setCell ⟨xb, o + i, none⟩ x) xb o t cs key (gk - 1) y (.int .i64 ((i : Int) + 1)) := by
            rintro x rfl y rfl
            refine ⟨i + 1, by simp, ?_, ⟨?_, hI.kp.setCell (.inl (by simp)) _, by have := hI.q; omega, by omega⟩⟩
            · unfold upAt; simp
            · have := hI.blk.set (o + i) (.int .u8 (canC (upAt true key i) (byt key i)).toNat)
              rw [putAt_set _ _ _ _ (by omega) (by omega), canon_step _ _ hi] at this
              exact this
          have h45 : ((canC (upAt true key i) (byt key i)) == 45) = (byt key i == 45) := by
            have : ∀ up : Bool, ∀ n : Fin 256, ((canC up (UInt8.ofNat n)) == 45) = (UInt8.ofNat n == 45) := by decide +kernel
            have := this (upAt true key i) ⟨(byt key i).toNat, (byt key i).toNat_lt⟩
            simpa using this
          have hq : Hid (key.length - i = gk) := hI.q
          have HN := Lib.hid hnext
          have H45 := Lib.hid h45
          clear hnext hI hlen h45
          generalize upAt true key i = up at hint HN H45 ⊢
          generalize byt key i = b at hcell hint HN H45
          generalize canC up b = u at hint HN H45
          have hb1 : (b.toNat : Int) ≤ 255 := by have := b.toNat_lt; omega
          have hb0 : (0 : Int) ≤ (b.toNat : Int) := by omega
          have fin : ∀ x : Int, (u.toNat : Int) = x → ∀ y : Bool, (x == 45) = y → CKRel w (wr.setCell ⟨xb, o + i, none⟩ (.int .u8 x)) xb o t cs key (gk - 1) (.bool y) (.int .i64 ((i : Int) + 1)) := by
            rintro x rfl y rfl
            refine HN.out _ rfl _ ?_
            rw [u8_beq u 45 45 rfl, H45.out]
          have HF := Lib.hid fin
          clear fin HN H45
          have hdone : ∀ x : Int, (u.toNat : Int) = x → Hid (CKRel w (wr.setCell ⟨xb, o + i, none⟩ (.int .u8 x)) xb o t cs key (gk - 1) (.bool (x == 45)) (.int .i64 ((i : Int) + 1))) := fun x hx => HF.out x hx _ rfl
          have HD := Lib.hid hdone
          clear hdone HF
          rcases up with _ | _
          · by_cases hu1 : (65 : Int) ≤ b.toNat
            · by_cases hu2 : (b.toNat : Int) ≤ 90
              · rw [if_neg (by simp), if_pos ⟨rfl, hu1, hu2⟩] at hint
                have hrel := HD.out _ hint
                clear hint HD
                go_wp2
                go_roundg (gk - 1)
                case measure => have := hq.out; omega
                case rel => exact hrel.out
              · rw [if_neg (by simp), if_neg (by simp; omega)] at hint
                have hrel := HD.out _ hint
                clear hint HD
                go_wp2
                go_roundg (gk - 1)
                case measure => have := hq.out; omega
                case rel => exact hrel.out
            · rw [if_neg (by simp), if_neg (by simp; omega)] at hint
              have hrel := HD.out _ hint
              clear hint HD
              go_wp2
              go_roundg (gk - 1)
              case measure => have := hq.out; omega
              case rel => exact hrel.out
          · by_cases hu1 : (97 : Int) ≤ b.toNat
            · by_cases hu2 : (b.toNat : Int) ≤ 122
              · rw [if_pos ⟨rfl, hu1, hu2⟩] at hint
                have hrel := HD.out _ hint
                clear hint HD
                go_wp2
                go_roundg (gk - 1)
                case measure => have := hq.out; omega
                case rel => exact hrel.out
              · rw [if_neg (by simp; omega), if_neg (by simp)] at hint
                have hrel := HD.out _ hint
                clear hint HD
                go_wp2
                go_roundg (gk - 1)
                case measure => have := hq.out; omega
                case rel => exact hrel.out
            · rw [if_neg (by simp; omega), if_neg (by simp)] at hint
              have hrel := HD.out _ hint
              clear hint HD
              go_wp2
              go_roundg (gk - 1)
              case measure => have := hq.out; omega
              case rel => exact hrel.out
        · have hi' : i = key.length := by omega
          have hblk := hI.blk
          rw [hi', List.drop_length, List.append_nil, List.take_of_length_le (by rw [show (canonB key).length = key.length from canonGo_length _ _]; exact Nat.le_refl _)] at hblk
          have hl2 : (canonB key).length = key.length := canonGo_length _ _
          have hstr := run_str wr (some ⟨xb, o, none⟩) (canonB key) key.length c (hblk.hbAt (by omega)) hl2.symm
          have hkp := hI.kp
          clear hI HX
          go_wp2
          go_ret2
          exact ⟨rfl, hblk, hkp⟩
end Go.Proofs.YtkbgnplknifmhaaGreatDoor
