/-
  Walks and facts for the mailparts program.
-/
import Derived.Test.YtkbgnplknifmhaaGreatDoorKBuf3
import Derived.Shelf.Bytes.SlIndexAt
namespace Go.Proofs.YtkbgnplknifmhaaGreatDoor
open Go.RowKit
attribute [local go_sem ↓] Go.wp_at_zero Go.wp_at_succ

/-! ### IndexByte (97) -/
theorem bytesOf_nums (l : List UInt8) : Lib.bytesOf (l.map fun c => (c.toNat : Int)) = l := by
  induction l with
  | nil => rfl
  | cons c l ih => simp only [Lib.bytesOf, List.map_cons] at ih ⊢; rw [ih]; simp
theorem run_indexByte_hb (w : World) (a : Option Addr) (l : Bytes) (n c : Nat) (h : HB w a l) (hn : l.length = n) (cv : Int) :
    (Extern.BytealgIndexByte.indexByte #[.slice a n c, .int .u8 cv]).run Tryz.prog w = .ok (.int .i64 (Lib.indexByte l cv.toNat.toUInt8)) w := by
  cases l with
  | nil =>
    subst hn
    cases a with
    | none => rfl
    | some a => rfl
  | cons x xs =>
    obtain ⟨ad, rfl⟩ := Option.isSome_iff_exists.1 (h.some_ (by simp))
    have := Lib.run_indexByteAt (P := Tryz.prog) w ad n c ((x :: xs).map fun c => (c.toNat : Int)) (by simpa using hn) (by
      intro i hi
      have := h.cell i (by omega)
      unfold at_ at this
      rw [Option.getD_some] at this
      rw [this]
      congr 1
      congr 1
      simp only [byt, List.getD_eq_getElem?_getD, List.getElem?_map]
      rw [List.getElem?_eq_getElem (by omega)]
      rfl) cv
    rw [this, bytesOf_nums]

def ixB (c : UInt8) (l : Bytes) : Int := Lib.indexByte l c
theorem ixB_miss {c : UInt8} {l : Bytes} (h : c ∉ l) : ixB c l = -1 := by
  unfold ixB
  induction l with
  | nil => rfl
  | cons b l ih =>
    simp at h
    unfold Lib.indexByte
    rw [ih h.2, if_neg (by simp; exact fun e => h.1 e.symm)]; rfl
theorem ixB_hit {c : UInt8} {p q : Bytes} (h : c ∉ p) : ixB c (p ++ c :: q) = p.length := by
  unfold ixB
  induction p with
  | nil => simp [Lib.indexByte]
  | cons b l ih =>
    simp at h
    rw [List.cons_append]
    unfold Lib.indexByte
    rw [ih h.2, if_neg (by simp; exact fun e => h.1 e.symm), if_neg (by simp)]
    simp

set_option maxRecDepth 1000000 in
set_option maxHeartbeats 400000 in
theorem indexByte_any (a : Option Addr) (n c : Nat) (l : Bytes) (cv : UInt8) (w : World) (h : HB w a l) (hn : l.length = n) :
    Calls Tryz.prog 97 #[.slice a n c, .int .u8 cv.toNat] w fun e w' => e = .returned (.int .i64 (ixB cv l)) ∧ w' = w := by
  have hr := run_indexByte_hb w a l n c h hn (cv.toNat : Int)
  have hc : ((cv.toNat : Int)).toNat.toUInt8 = cv := by simp
  rw [hc, show Lib.indexByte l cv = ixB cv l from rfl] at hr
  clear h hn hc
  generalize ixB cv l = r at hr ⊢
  go_enter Tryz.func97, Tryz.ntmps97
  go_wp2
  rw [run_callFunc_extern Tryz.func119 (by kernel_rfl) (by kernel_rfl) (by kernel_rfl) (e := Extern.BytealgIndexByte.indexByte) (by kernel_rfl), hr]
  simp only [Result.andThen]
  rw [Oper.upon_value]
  go_wp2
  go_ret
  exact ⟨rfl, rfl⟩

theorem quiet_add {P : Program} {f : FuncId} {args : Array Value} {w : World} {a n : Nat} {v : Value}
    (h : Calls P f args (w.drewN (a + n)) fun e w' => e = .returned v ∧ ∃ m, w' = (w.drewN (a + n)).drewN m) :
    Calls P f args (w.drewN (a + n)) fun e w'' => e = .returned v ∧ ∃ m, w'' = w.drewN (a + m) :=
  h.mono fun _ _ ⟨he, m, hm⟩ => ⟨he, n + m, by rw [hm, World.drewN_drewN, Nat.add_assoc]⟩
theorem quiet_add_same {P : Program} {f : FuncId} {args : Array Value} {w : World} {a n : Nat} {v : Value}
    (h : Calls P f args (w.drewN (a + n)) fun e w' => e = .returned v ∧ w' = w.drewN (a + n)) :
    Calls P f args (w.drewN (a + n)) fun e w'' => e = .returned v ∧ ∃ m, w'' = w.drewN (a + m) :=
  h.mono fun _ _ ⟨he, hm⟩ => ⟨he, n, hm⟩

/-! ### ReadSlice (87) at a line feed -/
theorem BRx.hb_at {w : World} {E : Value} {R : RS} {r n : Nat} {bs src : Bytes} {err : Value} {lb lr : Int} (h : BRx w E R r n bs src err lb lr) (k m : Nat) (hm : k + m ≤ 4096) : HB w (bbAt R k) (win bs k m) := by
  have h1 := (h.buf.hb' 0).drop (c := 4096) (k := k) (by simp [h.len]) (by simp [h.len]; omega)
  rw [List.drop_zero] at h1
  exact h1.take m
theorem cut_run2 (R : RS) (r m : Nat) (h : r + m ≤ 4096) (a b : Int) (ha : a = r) (hb : b = (r : Int) + m) : ∀ w : World, (Instr.sliceAt 22 (.slice (some ⟨R.bb, 0, none⟩) 4096 4096) (some (.int .i64 a)) (some (.int .i64 b)) none).run Tryz.prog w = .ok (.slice (bbAt R r) m (4096 - r)) w := by
  subst ha
  exact cut_run R r m h b hb
theorem win_drop (bs : Bytes) (r n s : Nat) (_h : s ≤ n) : win bs (r + s) (n - s) = (win bs r n).drop s := by
  unfold win; rw [List.drop_take, List.drop_drop]
theorem win_take (bs : Bytes) (r n m : Nat) (h : m ≤ n) : win bs r m = (win bs r n).take m := by
  unfold win; rw [List.take_take, Nat.min_eq_left h]

theorem bbAt_at (R : RS) (r i : Nat) (h : r < 4096) : at_ (bbAt R r) i = ⟨R.bb, r + i, none⟩ := by
  unfold bbAt; rw [cut_bb _ _ _ h, at_mk]
/-- A byte of the buffer, by the slice that shows it. -/
theorem BRx.byte {w : World} {E : Value} {R : RS} {r n : Nat} {bs src : Bytes} {err : Value} {lb lr : Int} (h : BRx w E R r n bs src err lb lr) (k m i : Nat) (hm : k + m ≤ 4096) (hi : i < m) {c : UInt8} (hc : byt (win bs k m) i = c) :
    w.cell? ⟨R.bb, k + i, none⟩ = some (.int .u8 c.toNat) := by
  have := (h.hb_at k m hm).cell i (by rw [win_len (by have := h.len; omega)]; exact hi)
  rw [bbAt_at _ _ _ (by omega), hc] at this
  exact this
theorem BRx.ixk {w : World} {E : Value} {R : RS} {r n : Nat} {bs src : Bytes} {err : Value} {lb lr : Int} (h : BRx w E R r n bs src err lb lr) (k m c i : Nat) (hm : k + m ≤ 4096) (hi : i < m) (j : Int) (hj : j = i) :
    ∀ w : World, (Instr.indexAt 22 (.slice (bbAt R k) m c) (.int .i64 j)).run Tryz.prog w = .ok (.pointer (some ⟨R.bb, k + i, none⟩)) w := by
  intro w1
  have := (h.hb_at k m hm).ixk m c (by rw [win_len (by have := h.len; omega)]; exact Nat.le_refl _) j i hj hi w1
  rw [bbAt_at _ _ _ (by omega)] at this
  exact this

structure RSInv (w w1 : World) (E : Value) (R : RS) (whole : Bytes) (s q : Nat) (lb lr : Int) (r n : Nat) (bs src : Bytes) : Prop where
  br : BRx w1 E R r n bs src .nilIface lb lr
  kp : Kp R.own w w1
  eq : win bs r n ++ src = whole
  q : src.length = q
  sn : s ≤ n
def RSRel (w w1 : World) (E : Value) (R : RS) (whole : Bytes) (m : Nat) (lb lr : Int) (q : Nat) (v5 v : Value) : Prop :=
  v5 = .nilIface ∧ ∃ s r n bs src, v = .int .i64 (s : Nat) ∧ s ≤ m ∧ RSInv w w1 E R whole s q lb lr r n bs src
/-- What a line's reading leaves: the line (with its LF) stands in the buffer just ahead of what waits. -/
structure Slid (w w' : World) (E : Value) (R : RS) (l rest : Bytes) (r n : Nat) (bs src : Bytes) (lb : Int) : Prop where
  br : BRx w' E R (r + l.length) n bs src .nilIface lb (-1)
  line : win bs r l.length = l
  rest : win bs (r + l.length) n ++ src = rest
  kp : Kp R.own w w'

set_option maxRecDepth 20000 in
set_option maxHeartbeats 2000000 in
theorem readSlice_hit {w : World} {E : Value} {R : RS} {r n : Nat} {bs src : Bytes} {lb lr : Int} (h : BRx w E R r n bs src .nilIface lb lr) (l rest : Bytes) (hl : (10 : UInt8) ∉ l) (hl2 : l.length + 1 ≤ 4096)
    (hw : win bs r n ++ src = l ++ 10 :: rest) :
    Calls Tryz.prog 87 #[.pointer (some ⟨R.rb, 0, none⟩), .int .u8 10] w fun e w' => ∃ r1 n1 bs1 src1, e = .returned (.tuple #[.slice (bbAt R r1) (l ++ [10]).length (4096 - r1), .nilIface]) ∧ Slid w w' E R (l ++ [10]) rest r1 n1 bs1 src1 10 := by
  have hR : RSRel w w E R (l ++ 10 :: rest) l.length lb lr src.length .nilIface (.int .i64 ((0 : Nat) : Int)) := ⟨rfl, 0, r, n, bs, src, rfl, Nat.zero_le _, h, Kp.refl _ _, hw, rfl, Nat.zero_le _⟩
  have HL := Lib.hid hl
  clear hw h hl
  generalize src.length = q at hR
  go_enter Tryz.func87, Tryz.ntmps87
  go_wp2
  go_loopg [5, 6] q (fun q v5 v w' => RSRel w w' E R (l ++ 10 :: rest) l.length lb lr q v5 v)
  case atStart => exact hR
  case round =>
    clear hR
    obtain ⟨rfl, s, r1, n1, bs1, src1, rfl, hsm, hI⟩ := hrel
    have hbr := hI.br
    have hlen := hbr.len
    have hfit := hbr.fit
    have hsn := hI.sn
    have hwl : (win bs1 r1 n1).length = n1 := win_len (by omega)
    have hb := hbr.cells
    have k := hb.cell
    have hhb := hbr.hb_at (r1 + s) (n1 - s) (by omega)
    have hcut := cut_run2 R (r1 + s) (n1 - s) (by omega) ((r1 : Int) + s) ((r1 : Int) + n1) (by omega) (by omega)
    have hsum : IntKind.i64.wrap ((r1 : Int) + (s : Int)) = (r1 : Int) + s := IntWalk.i64_in _ (by omega)
    have hcon := fun j => indexByte_any (bbAt R (r1 + s)) (n1 - s) (4096 - (r1 + s)) _ 10 (wr.drewN j) (hhb.drewN j) (by rw [win_len (by omega)])
    by_cases hf : l.length < n1
    · have hwin : Hid (win bs1 r1 n1 = l ++ 10 :: rest.take (n1 - l.length - 1)) := by
        show _ = _
        have := congrArg (List.take n1) hI.eq
        rw [List.take_append_of_le_length (by omega), List.take_of_length_le (by omega), List.take_append, List.take_of_length_le (by omega)] at this
        rw [this]
        congr 1
        rw [show n1 - l.length = (n1 - l.length - 1) + 1 from by omega, List.take_succ_cons]
        rfl
      obtain ⟨d, hd⟩ : ∃ d, l.length = s + d := ⟨l.length - s, by omega⟩
      have hix : ixB 10 (win bs1 (r1 + s) (n1 - s)) = d := by
        rw [win_drop _ _ _ _ hsn, hwin.out, List.drop_append_of_le_length (by omega), ixB_hit (fun e => HL.out (List.mem_of_mem_drop e)), List.length_drop]
        omega
      rw [hix] at hcon
      clear hix hhb
      have f := hb.free
      have hs1 : IntKind.i64.wrap ((r1 : Int) + ((d : Int) + (s : Int))) = (r1 : Int) + ((d : Int) + s) := IntWalk.i64_in _ (by omega)
      have hs2 : IntKind.i64.wrap ((r1 : Int) + ((d : Int) + s) + 1) = (r1 : Int) + ((d : Int) + s) + 1 := IntWalk.i64_in _ (by omega)
      have hcut2 := cut_run2 R r1 (s + d + 1) (by omega) (r1 : Int) ((r1 : Int) + ((d : Int) + s) + 1) rfl (by omega)
      have hbyt : byt (win bs1 r1 (s + d + 1)) (s + d) = 10 := by
        rw [win_take bs1 r1 n1 _ (by omega), byt_take _ _ _ (by omega), hwin.out]
        simp [byt, List.getD, ← hd]
      have hcell := hbr.byte r1 (s + d + 1) (s + d) (by omega) (by omega) hbyt
      have hix := hbr.ixk r1 (s + d + 1) (4096 - r1) (s + d) (by omega) (by omega) ((s : Int) + d) (by omega)
      have hne : ¬ R.bb = R.rb := fun e => hbr.d.1.1 e.symm
      clear hbyt
      have h10 : ((10 : UInt8).toNat : Int) = 10 := rfl
      rw [h10] at hcon hcell
      clear hb h10
      go_wp2
      go_quiet ((go_at_call 97; exact Calls.quiet_of_same (hcon _)))
      clear hcon hcut hsum
      go_wp2
      go_quiet (fail)
      go_wp2
      clear hcut2 hs1 hs2
      go_ret2
      have hK : ∀ a, Kp [R.rb] wr ((((wr.drewN a).setCell ⟨R.rb, 2, none⟩ (.int .i64 ((r1 : Int) + ((d : Int) + (s : Int) + 1)))).setCell ⟨R.rb, 5, none⟩ (.int .i64 10)).setCell ⟨R.rb, 6, none⟩ (.int .i64 (-1))) := fun a =>
        ((((Kp.refl _ _).drewN' _).setCell (.inl (by simp)) _).setCell (.inl (by simp)) _).setCell (.inl (by simp)) _
      have hb' := fun a => (((hbr.cells.drewN a).set 2 (.int .i64 ((r1 : Int) + ((d : Int) + (s : Int) + 1)))).set 5 (.int .i64 10)).set 6 (.int .i64 (-1))
      have hl10 : (l ++ [10]).length = s + d + 1 := by simp [hd]
      have hlw : win bs1 r1 (s + d + 1) = l ++ [10] := by rw [win_take bs1 r1 n1 _ (by omega), hwin.out, List.take_append, List.take_of_length_le (by omega), show s + d + 1 - l.length = 1 from by omega]; rfl
      try simp only
      refine ⟨r1, n1 - (s + d + 1), bs1, src1, by rw [hl10]; rfl, ⟨?_, by rw [hl10]; exact hlw, ?_, hI.kp.trans (hK _).rb_own⟩⟩
      · rw [hl10]
        exact hbr.turn (hK _) (hb' _) (by omega) (by omega) (by omega) (.inl rfl)
      · have := hI.eq
        rw [hl10, win_drop _ _ _ _ (by omega)]
        rw [← List.drop_append_of_le_length (by omega), this, show s + d + 1 = l.length + 1 from by omega, ← List.drop_drop, List.drop_left]
        rfl
    · have hnw : Hid ((10 : UInt8) ∉ win bs1 r1 n1) := by
        show _
        have := congrArg (List.take n1) hI.eq
        rw [List.take_append_of_le_length (by omega), List.take_of_length_le (by omega), List.take_append_of_le_length (by omega)] at this
        rw [this]
        exact fun e => HL.out (List.mem_of_mem_take e)
      have hix : ixB 10 (win bs1 (r1 + s) (n1 - s)) = -1 := by
        rw [win_drop _ _ _ _ hsn]
        exact ixB_miss (fun e => hnw.out (List.mem_of_mem_drop e))
      have h10 : ((10 : UInt8).toNat : Int) = 10 := rfl
      rw [hix, h10] at hcon
      have hbuf := fun j => buffered_any (hbr.drewN j)
      have hfull : decide ((4096 : Int) ≤ (n1 : Int)) = false := by simp; omega
      have hsub := wrap_sub r1 n1 hfit
      have h0 : 0 < src1.length := by
        have := congrArg List.length hI.eq
        simp at this
        omega
      have hfill := fun j => fill_some (wr.drewN j) E R r1 n1 bs1 src1 lb lr (hbr.drewN j) (by omega) h0
      clear hb h10 hhb hix
      go_wp2
      go_quiet ((go_at_call 97; exact Calls.quiet_of_same (hcon _)))
      clear hcon hcut hsum
      go_wp2
      go_quiet ((go_at_call 99; first | exact Calls.quiet_of (hbuf _) | exact quiet_add (hbuf _)))
      clear hbuf hfull
      go_wp2
      go_quiet (fail)
      clear hsub
      go_wp2_with fail
      try simp only [World.drewN_drewN]
      refine (hfill _).mono ?_
      rintro e w3 ⟨rfl, hK3, ⟨_, kk, bs3, q1, q2, hbr3, hwin3⟩ | ⟨hnil, _⟩⟩
      · have hR3 : RSRel w w3 E R (l ++ 10 :: rest) l.length lb lr (src1.length - kk) .nilIface (.int .i64 (n1 : Nat)) := ⟨rfl, n1, 0, n1 + kk, bs3, src1.drop kk, rfl, by omega, hbr3, (hI.kp.drewN' _).trans hK3, by rw [hwin3, List.append_assoc, List.take_append_drop]; exact hI.eq, List.length_drop, by omega⟩
        have hq : Hid (src1.length = gk) := hI.q
        clear hI hbr hbr3 hfill hwin3 hK3 k hnw
        go_wp2
        go_roundg (src1.length - kk)
        case measure => have := hq.out; omega
        case rel => exact hR3
      · subst hnil
        simp at h0

end Go.Proofs.YtkbgnplknifmhaaGreatDoor
namespace Go.Proofs.YtkbgnplknifmhaaGreatDoor
open Go.RowKit
attribute [local go_sem ↓] Go.wp_at_zero Go.wp_at_succ

/-! ### ReadSlice (87) where no line feed comes -/
structure REInv (w w1 : World) (E : Value) (R : RS) (whole : Bytes) (s q : Nat) (lb lr : Int) (r n : Nat) (bs src : Bytes) (err : Value) : Prop where
  br : BRx w1 E R r n bs src err lb lr
  kp : Kp R.own w w1
  eq : win bs r n ++ src = whole
  q : (err = .nilIface ∧ src.length + 1 = q) ∨ (err = E ∧ src = [] ∧ q = 0)
  sn : s ≤ n
def RERel (w w1 : World) (E : Value) (R : RS) (whole : Bytes) (lb lr : Int) (q : Nat) (v5 v : Value) : Prop :=
  v5 = .nilIface ∧ ∃ s r n bs src err, v = .int .i64 (s : Nat) ∧ REInv w w1 E R whole s q lb lr r n bs src err

set_option maxRecDepth 20000 in
set_option maxHeartbeats 2000000 in
theorem readSlice_eof {w : World} {E : Value} {R : RS} {r n : Nat} {bs src : Bytes} {lb lr : Int} (h : BRx w E R r n bs src .nilIface lb lr) (whole : Bytes) (hl : (10 : UInt8) ∉ whole) (hl2 : whole.length < 4096) (hl3 : 0 < whole.length)
    (hw : win bs r n ++ src = whole) :
    Calls Tryz.prog 87 #[.pointer (some ⟨R.rb, 0, none⟩), .int .u8 10] w fun e w' => ∃ r1 bs1 lb1, e = .returned (.tuple #[.slice (bbAt R r1) whole.length (4096 - r1), E]) ∧ Slid w w' E R whole [] r1 0 bs1 [] lb1 := by
  obtain ⟨et, ev, rfl⟩ := h.isE
  have hR : RERel w w (.iface et ev) R whole lb lr (src.length + 1) .nilIface (.int .i64 ((0 : Nat) : Int)) := ⟨rfl, 0, r, n, bs, src, _, rfl, h, Kp.refl _ _, hw, .inl ⟨rfl, rfl⟩, Nat.zero_le _⟩
  have HL := Lib.hid hl
  clear hw h hl
  generalize src.length + 1 = q at hR
  go_enter Tryz.func87, Tryz.ntmps87
  go_wp2
  go_loopg [5, 6] q (fun q v5 v w' => RERel w w' (.iface et ev) R whole lb lr q v5 v)
  case atStart => exact hR
  case round =>
    clear hR
    obtain ⟨rfl, s, r1, n1, bs1, src1, err1, rfl, hI⟩ := hrel
    have hbr := hI.br
    have hlen := hbr.len
    have hfit := hbr.fit
    have hsn := hI.sn
    have hwl : (win bs1 r1 n1).length = n1 := win_len (by omega)
    have hb := hbr.cells
    have hhb := hbr.hb_at (r1 + s) (n1 - s) (by omega)
    have hcut := cut_run2 R (r1 + s) (n1 - s) (by omega) ((r1 : Int) + s) ((r1 : Int) + n1) (by omega) (by omega)
    have hsum : IntKind.i64.wrap ((r1 : Int) + (s : Int)) = (r1 : Int) + s := IntWalk.i64_in _ (by omega)
    have hcon := fun j => indexByte_any (bbAt R (r1 + s)) (n1 - s) (4096 - (r1 + s)) _ 10 (wr.drewN j) (hhb.drewN j) (by rw [win_len (by omega)])
    have hnw : Hid ((10 : UInt8) ∉ win bs1 r1 n1) := by
      show _
      rw [← hI.eq] at HL
      exact fun e => HL.out (List.mem_append_left _ e)
    have hix : ixB 10 (win bs1 (r1 + s) (n1 - s)) = -1 := by
      rw [win_drop _ _ _ _ hsn]
      exact ixB_miss (fun e => hnw.out (List.mem_of_mem_drop e))
    have h10 : ((10 : UInt8).toNat : Int) = 10 := rfl
    rw [hix, h10] at hcon
    have hn4 : n1 < 4096 := by
      have := congrArg List.length hI.eq
      simp at this
      omega
    rcases hI.q with ⟨rfl, hq⟩ | ⟨rfl, rfl, hq⟩
    · have k := hb.cell
      have hbuf := fun j => buffered_any (hbr.drewN j)
      have hfull : decide ((4096 : Int) ≤ (n1 : Int)) = false := by simp; omega
      have hsub := wrap_sub r1 n1 hfit
      have HQ := Lib.hid hq
      clear hq
      rcases Nat.eq_zero_or_pos src1.length with h0 | h0
      · have hs0 : src1 = [] := List.eq_nil_of_length_eq_zero h0
        subst hs0
        have hfill := fun j => fill_eof (wr.drewN j) (.iface et ev) R r1 n1 bs1 lb lr (hbr.drewN j) (by omega)
        clear hb h10 hhb hix
        go_wp2
        go_quiet ((go_at_call 97; exact Calls.quiet_of_same (hcon _)))
        clear hcon hcut hsum
        go_wp2
        go_quiet ((go_at_call 99; first | exact Calls.quiet_of (hbuf _) | exact quiet_add (hbuf _)))
        clear hbuf hfull
        go_wp2
        go_quiet (fail)
        clear hsub
        go_wp2_with fail
        try simp only [World.drewN_drewN]
        refine (hfill _).mono ?_
        rintro e w3 ⟨rfl, hK3, ⟨hnil, _⟩ | ⟨_, bs3, hbr3, hwin3⟩⟩
        · simp at hnil
        · have hR3 : RERel w w3 (.iface et ev) R whole lb lr 0 .nilIface (.int .i64 (n1 : Nat)) := ⟨rfl, n1, 0, n1, bs3, [], _, rfl, hbr3, (hI.kp.drewN' _).trans hK3, by rw [hwin3]; exact hI.eq, .inr ⟨rfl, rfl, rfl⟩, Nat.le_refl _⟩
          clear hI hbr hbr3 hfill hwin3 hK3 k hnw
          go_wp2
          go_roundg 0
          case measure => have := HQ.out; omega
          case rel => exact hR3
      · have hfill := fun j => fill_some (wr.drewN j) (.iface et ev) R r1 n1 bs1 src1 lb lr (hbr.drewN j) (by omega) h0
        clear hb h10 hhb hix
        go_wp2
        go_quiet ((go_at_call 97; exact Calls.quiet_of_same (hcon _)))
        clear hcon hcut hsum
        go_wp2
        go_quiet ((go_at_call 99; first | exact Calls.quiet_of (hbuf _) | exact quiet_add (hbuf _)))
        clear hbuf hfull
        go_wp2
        go_quiet (fail)
        clear hsub
        go_wp2_with fail
        try simp only [World.drewN_drewN]
        refine (hfill _).mono ?_
        rintro e w3 ⟨rfl, hK3, ⟨_, kk, bs3, q1, q2, hbr3, hwin3⟩ | ⟨hnil, _⟩⟩
        · have hR3 : RERel w w3 (.iface et ev) R whole lb lr (src1.length - kk + 1) .nilIface (.int .i64 (n1 : Nat)) := ⟨rfl, n1, 0, n1 + kk, bs3, src1.drop kk, _, rfl, hbr3, (hI.kp.drewN' _).trans hK3, by rw [hwin3, List.append_assoc, List.take_append_drop]; exact hI.eq, .inl ⟨rfl, by rw [List.length_drop]⟩, by omega⟩
          clear hI hbr hbr3 hfill hwin3 hK3 k hnw
          go_wp2
          go_roundg (src1.length - kk + 1)
          case measure => have := HQ.out; omega
          case rel => exact hR3
        · subst hnil
          simp at h0
    · have hwn : whole.length = n1 := by
        have := congrArg List.length hI.eq
        simp at this
        omega
      have hweq : Hid (win bs1 r1 n1 = whole) := by have := hI.eq; rw [List.append_nil] at this; exact this
      clear hq
      have k := hb.cell
      have f := hb.free
      have hcut2 := cut_run2 R r1 n1 (by omega) (r1 : Int) ((r1 : Int) + n1) rfl rfl
      have hbyt : byt (win bs1 r1 n1) (n1 - 1) = byt whole (n1 - 1) := by rw [hweq.out]
      have hcell := hbr.byte r1 n1 (n1 - 1) (by omega) (by omega) hbyt
      have hixx := hbr.ixk r1 n1 (4096 - r1) (n1 - 1) (by omega) (by omega) ((n1 : Int) - 1) (by omega)
      have hne : ¬ R.bb = R.rb := fun e => hbr.d.1.1 e.symm
      have hge : decide ((0 : Int) ≤ (n1 : Int) - 1) = true := by simp; omega
      clear hbyt hb h10 hhb hix
      go_wp2
      go_quiet ((go_at_call 97; exact Calls.quiet_of_same (hcon _)))
      clear hcon hcut hsum
      go_wp2
      go_quiet (fail)
      clear hcut2
      go_wp2_with fail
      have hKm : ∀ m, Kp [R.rb] wr ((wr.drewN m).setCell ⟨R.rb, 2, none⟩ (.int .i64 ((r1 : Int) + n1))) := fun m => ((Kp.refl _ _).drewN' _).setCell (.inl (by simp)) _
      have hxm := fun m => hbr.turn (hKm m) ((hbr.cells.drewN m).set 2 (.int .i64 ((r1 : Int) + n1))) (r' := r1 + n1) (n' := 0) (by omega) (by omega) (by omega) (.inr ⟨rfl, rfl⟩)
      refine (readErr_any (hxm _) (.inr ⟨et, ev, rfl⟩)).mono ?_
      rintro e w3 ⟨rfl, hbr3, hK3⟩
      have hcell3 : w3.cell? ⟨R.bb, r1 + (n1 - 1), none⟩ = some (.int .u8 (byt whole (n1 - 1)).toNat) := cell_kp (cell_kp hcell (hKm _) (by simp; exact hne)) hK3 (by simp; exact hne)
      have hK4 : Kp R.own w w3 := (hI.kp.trans (hKm _).rb_own).trans hK3.rb_own
      have hb3 := hbr3.cells
      have hW : Hid (win bs1 r1 n1 = whole) := hweq
      clear hI hbr hxm hKm hcell k f hnw hweq hK3
      have k := hb3.cell
      have f := hb3.free
      go_wp2
      go_ret2
      have hK5 : Kp [R.rb] w3 ((w3.setCell ⟨R.rb, 5, none⟩ (.int .i64 (wrap64 (byt whole (n1 - 1)).toNat))).setCell ⟨R.rb, 6, none⟩ (.int .i64 (-1))) := ((Kp.refl _ _).setCell (.inl (by simp)) _).setCell (.inl (by simp)) _
      refine ⟨r1, bs1, wrap64 (byt whole (n1 - 1)).toNat, by rw [hwn]; rfl, ⟨?_, by rw [hwn]; exact hW.out, rfl, hK4.trans hK5.rb_own⟩⟩
      rw [hwn]
      exact hbr3.turn (r' := r1 + n1) (n' := 0) hK5 ((hb3.set 5 (.int .i64 (wrap64 (byt whole (n1 - 1)).toNat))).set 6 (.int .i64 (-1))) (by omega) (by omega) (by omega) (.inl rfl)

end Go.Proofs.YtkbgnplknifmhaaGreatDoor
