/-
  Walks and facts for the mailparts program.
-/
import Derived.Test.YtkbgnplknifmhaaGreatDoorKTx4ToScan1
import Derived.Lib.SmallJoins
namespace Go.Proofs.YtkbgnplknifmhaaGreatDoor
open Go.RowKit
attribute [local go_sem ↓] Go.wp_at_zero Go.wp_at_succ

/-! ### bytesCut (145) -/
section
variable (a b : Option Addr) (c d : Nat) (l m : Bytes) (w : World)
set_option maxRecDepth 20000 in
set_option maxHeartbeats 1000000 in
theorem cutB_some (i : Nat) (ha : HB w a l) (hc : l.length ≤ c) (hb : HB w b m) (hl : l.length ≤ 281474976710656) (hm : m.length ≤ 281474976710656) (hf : findL m l = some i) :
    Calls Tryz.prog 145 #[.slice a l.length c, .slice b m.length d] w fun e w' => e = .returned (.tuple #[.slice a i c, .slice (cutAt a c (i + m.length)) (l.length - (i + m.length)) (c - (i + m.length)), .bool true]) ∧ ∃ n, w' = w.drewN n := by
  have hcon := index153_any a b c d l m w ha hc hb hl hm
  rw [findI_some hf] at hcon
  have hle := (findL_le hf).1
  have hs : IntKind.i64.wrap ((i : Int) + (m.length : Int)) = (i : Int) + (m.length : Int) := IntWalk.i64_in _ (by omega)
  have hcut1 : ∀ w : World, (Instr.sliceAt 22 (.slice a l.length c) none (some (.int .i64 (i : Int))) none).run Tryz.prog w = .ok (.slice a i c) w := fun w => by
    rw [run_cut_h w a l.length c (i : Int) (by omega) (by omega), show (i : Int).toNat = i from by omega]
  have hcut2 : ∀ w : World, (Instr.sliceAt 22 (.slice a l.length c) (some (.int .i64 ((i : Int) + (m.length : Int)))) none none).run Tryz.prog w = .ok (.slice (cutAt a c (i + m.length)) (l.length - (i + m.length)) (c - (i + m.length))) w := fun w => by
    rw [run_cut_l w a l.length c ((i : Int) + m.length) (by omega) (by omega), show ((i : Int) + (m.length : Int)).toNat = i + m.length from by omega]
  clear ha hb hf
  go_enter Tryz.func145, Tryz.ntmps145
  go_wp2_with fail
  refine hcon.mono ?_
  rintro e w' ⟨rfl, j, rfl⟩
  clear hcon
  go_wp2
  go_quiet (fail)
  go_wp2
  go_ret3
  try simp only [World.drewN_drewN]
  exact ⟨rfl, _, rfl⟩
set_option maxRecDepth 20000 in
set_option maxHeartbeats 1000000 in
theorem cutB_none (ha : HB w a l) (hc : l.length ≤ c) (hb : HB w b m) (hl : l.length ≤ 281474976710656) (hm : m.length ≤ 281474976710656) (hf : findL m l = none) :
    Calls Tryz.prog 145 #[.slice a l.length c, .slice b m.length d] w fun e w' => e = .returned (.tuple #[.slice a l.length c, .slice none 0 0, .bool false]) ∧ ∃ n, w' = w.drewN n := by
  have hcon := index153_any a b c d l m w ha hc hb hl hm
  rw [findI_none hf] at hcon
  clear ha hb hf
  go_enter Tryz.func145, Tryz.ntmps145
  go_wp2_with fail
  refine hcon.mono ?_
  rintro e w' ⟨rfl, j, rfl⟩
  clear hcon
  go_wp2
  go_ret3
  exact ⟨rfl, j, rfl⟩
end

theorem cutB_any (a b : Option Addr) (c d : Nat) (l m : Bytes) (w : World) (ha : HB w a l) (hc : l.length ≤ c) (hb : HB w b m) (hl : l.length ≤ 281474976710656) (hm : m.length ≤ 281474976710656) (hm0 : 0 < m.length) :
    Calls Tryz.prog 145 #[.slice a l.length c, .slice b m.length d] w fun e w' => ∃ (i : Nat) (a' : Option Addr) (c' : Nat) (l' : Bytes) (f : Bool), e = .returned (.tuple #[.slice a i c, .slice a' l'.length c', .bool f]) ∧ i ≤ l.length ∧ HB w a' l' ∧ l'.length ≤ c' ∧ (0 < l.length → l'.length < l.length) ∧ ∃ n, w' = w.drewN n := by
  cases hf : findL m l with
  | none =>
    refine (cutB_none a b c d l m w ha hc hb hl hm hf).mono ?_
    rintro e w' ⟨rfl, n, rfl⟩
    exact ⟨_, none, 0, [], _, rfl, Nat.le_refl _, HB.nil _ _, Nat.le_refl _, fun h => h, _, rfl⟩
  | some i =>
    have hle := (findL_le hf).1
    refine (cutB_some a b c d l m w i ha hc hb hl hm hf).mono ?_
    rintro e w' ⟨rfl, n, rfl⟩
    have h1 := ha.drop (c := c) (k := i + m.length) hc hle
    exact ⟨_, _, _, l.drop (i + m.length), _, by rw [List.length_drop], by omega, h1, by rw [List.length_drop]; omega, fun h => by rw [List.length_drop]; omega, _, rfl⟩

/-! ### Peek of bytes that are to come -/
theorem peek_any {w : World} {E : Value} {R : RS} {r n : Nat} {bs src : Bytes} {lb lr : Int} (h : BRx w E R r n bs src .nilIface lb lr) (m : Nat) (hm4 : m ≤ 4096) (hs : m ≤ n + src.length) :
    Calls Tryz.prog 141 #[.pointer (some ⟨R.rb, 0, none⟩), .int .i64 m] w fun e w' => ∃ r1 n1 bs1 src1, e = .returned (.tuple #[.slice (bbAt R r1) m (4096 - r1), .nilIface]) ∧ m ≤ n1 ∧
      BRx w' E R r1 n1 bs1 src1 .nilIface (-1) (-1) ∧ win bs1 r1 n1 ++ src1 = win bs r n ++ src ∧ Kp R.own w w' := by
  by_cases hm : m ≤ n
  · refine (peek_there h m hm).mono ?_
    rintro e w' ⟨rfl, h1, h2⟩
    exact ⟨r, n, bs, src, rfl, hm, h1, rfl, h2.rb_own⟩
  · refine (peek_more h m (by omega) hm4 hs).mono ?_
    rintro e w' ⟨n1, bs1, src1, rfl, h1, h2, h3, h4⟩
    exact ⟨0, n1, bs1, src1, rfl, h1, h2, h3, h4⟩

/-! ### upcomingHeaderKeys (140): some number of 0 to 1000 -/
def UKRel (w1 : World) (w : World) (q : Nat) (v2 v4 : Value) : Prop := ∃ (n : Nat) (a : Option Addr) (c : Nat) (l : Bytes), v2 = .int .i64 n ∧ v4 = .slice a l.length c ∧ HB w a l ∧ l.length ≤ c ∧ l.length ≤ 4096 ∧ n ≤ 1000 ∧ l.length = q ∧ Kp [] w1 w
theorem conv22 (w : World) (C : Array Value) (n c : Nat) : (convert 22 22 (.slice (some ⟨w.heap.size, 0, none⟩) n c)).run Tryz.prog (w.alloc (.cells C 5)) = .ok (.slice (some ⟨w.heap.size, 0, none⟩) n c) (w.alloc (.cells C 5 (C.size, C.size + 1))) :=
  Lib.run_convert_bytes_const (P := Tryz.prog) w 22 5 C n c elem22 Tryz.underlying5
/-- The row of a constant of one byte. -/
theorem hb_const (w : World) (u : UInt8) (fr : Nat × Nat) : HB (w.alloc (.cells #[.int .u8 u.toNat] 5 fr)) (some ⟨w.heap.size, 0, none⟩) [u] :=
  HB.of_cells (fun i hi => by
    have : i = 0 := by simp at hi; exact hi
    subst this
    rw [World.cell?_alloc_mark]; rfl)
def UpPost (w w' : World) (E : Value) (R : RS) (tb : Nat) (v : Value) (bl whole : Bytes) (e : Ending) : Prop := ∃ (k : Nat) (r1 n1 : Nat) (bs1 src1 : Bytes), e = .returned (.int .i64 k) ∧ k ≤ 1000 ∧ TSx w' E R tb v bl r1 n1 bs1 src1 (-1) (-1) whole ∧ Kp R.own w w'
section
variable {w : World} {E : Value} {R : RS} {tb : Nat} {v : Value} {bl : Bytes} {r n : Nat} {bs src : Bytes} {lb lr : Int} {whole : Bytes}
set_option maxRecDepth 20000 in
set_option maxHeartbeats 2000000 in
theorem upcoming_any (h : TSx w E R tb v bl r n bs src lb lr whole) (h0 : 0 < whole.length) :
    Calls Tryz.prog 140 #[.pointer (some ⟨tb, 0, none⟩)] w fun e w' => UpPost w w' E R tb v bl whole e := by
  have k : ∀ i, w.cell? ⟨tb, i, none⟩ = (#[.pointer (some ⟨R.rb, 0, none⟩), .pointer none, v] : Array Value)[i]? := h.tx.cell
  have hfit := h.br.fit
  have hlen := h.br.len
  have hwl : whole.length = n + src.length := by rw [← h.eq, List.length_append, win_len (by omega)]
  have hp := peek_any h.br 1 (by omega) (by omega)
  have e1 : ((1 : Nat) : Int) = 1 := rfl
  rw [e1] at hp
  go_enter Tryz.func140, Tryz.ntmps140
  go_wp2_with fail
  refine hp.mono ?_
  rintro e w1 ⟨r1, n1, bs1, src1, rfl, hn1, hbr1, heq1, hK1⟩
  have hts1 := h.next hK1 hbr1 (heq1.trans h.eq)
  have k1 : ∀ i, w1.cell? ⟨tb, i, none⟩ = (#[.pointer (some ⟨R.rb, 0, none⟩), .pointer none, v] : Array Value)[i]? := hts1.tx.cell
  have hbf := buffered_any hbr1
  clear hp k
  go_wp2_with fail
  refine hbf.mono ?_
  rintro e w2 ⟨rfl, j, rfl⟩
  have hz : ((n1 : Int) == 0) = false := by rw [beq_eq_false_iff_ne]; omega
  have hp2 := peek_there (hbr1.drewN j) n1 (Nat.le_refl _)
  have hfit1 := hbr1.fit
  have hlen1 := hbr1.len
  clear hbf
  go_wp2_with fail
  refine hp2.mono ?_
  rintro e w3 ⟨rfl, hbr3, hK3⟩
  have hK13 : Kp R.own w w3 := hK1.trans (((Kp.refl R.own w1).drewN' j).trans hK3.rb_own)
  have hts3 := h.next hK13 hbr3 (heq1.trans h.eq)
  rw [bbAt_eq _ _ (by omega)]
  have hhb := hbr3.hb_at r1 n1 (by omega)
  rw [bbAt_eq _ _ (by omega)] at hhb
  have hwin : (win bs1 r1 n1).length = n1 := win_len (by omega)
  have hR : UKRel w3 w3 n1 (.int .i64 ((0 : Nat) : Int)) (.slice (some ⟨R.bb, r1, none⟩) n1 (4096 - r1)) := ⟨0, _, _, win bs1 r1 n1, rfl, by rw [hwin], hhb, by omega, by omega, by omega, hwin, Kp.refl _ _⟩
  have HF : Hid (∀ (w4 : World) (q : Nat), q ≤ 1000 → Kp [] w3 w4 → UpPost w w4 E R tb v bl whole (.returned (.int .i64 (q : Int)))) := by
    intro w4 q hq hk
    have hk' : Kp R.own w3 w4 := hk.mono (by intro b hb; simp at hb)
    exact ⟨q, r1, n1, bs1, src1, rfl, hq, hts3.next hk' (hbr3.kp hk (by simp) (by simp) (by simp)) (heq1.trans h.eq), hK13.trans hk'⟩
  clear hts3 hbr3 hp2 hts1 hbr1 k1 h heq1 hhb hwin
  go_wp2
  go_loopg [2, 4] n1 (fun q v2 v4 w' => UKRel w3 w' q v2 v4)
  case atStart => exact hR
  case round =>
    clear hR
    obtain ⟨nn, a, c, l, rfl, rfl, hh, hc, hl4, hnn, hq, hkk⟩ := hrel
    have HQ := Lib.hid hq
    clear hq
    by_cases hl0 : l.length = 0
    · have hfin := HF.out wr nn hnn hkk
      have HFI := Lib.hid hfin
      rw [hl0]
      clear hfin HF hh hkk
      go_wp2
      go_ret
      exact HFI.out
    · have hpos : decide ((0 : Int) < (l.length : Int)) = true := by simp; omega
      by_cases hn1 : (nn : Int) < 1000
      · have hcon := cutB_any a (some ⟨wr.heap.size, 0, none⟩) c 1 l [10] (wr.alloc (.cells #[.int .u8 10] 5 (1, 2))) (hh.kp (S := []) ((Kp.refl _ _).alloc _) (by simp)) hc (hb_const wr 10 (1, 2)) (by omega) (by simp) (by simp)
        have hkA : Kp [] w3 (wr.alloc (.cells #[.int .u8 10] 5 (1, 2))) := hkk.alloc _
        have hh2 : HB (wr.alloc (.cells #[.int .u8 10] 5 (1, 2))) a l := hh.kp (S := []) ((Kp.refl _ _).alloc _) (by simp)
        have hlt1 : decide ((nn : Int) < 1000) = true := by simp; omega
        have hcv := conv22
        clear hh hkk
        go_wp2_with fail
        refine hcon.mono ?_
        rintro e wB ⟨i, a', c', l', fd, rfl, hil, hh', hc', hlt', jj, rfl⟩
        have hltl := hlt' (by omega)
        have hR3 : ∀ m : Nat, m ≤ 1000 → UKRel w3 ((wr.alloc (.cells #[.int .u8 10] 5 (1, 2))).drewN jj) l'.length (.int .i64 (m : Int)) (.slice a' l'.length c') := fun m hm => ⟨m, a', c', l', rfl, rfl, hh'.drewN jj, hc', by omega, hm, rfl, hkA.drewN' jj⟩
        have hR4 : UKRel w3 ((wr.alloc (.cells #[.int .u8 10] 5 (1, 2))).drewN jj) l'.length (.int .i64 ((nn : Int) + 1)) (.slice a' l'.length c') := by
          have := hR3 (nn + 1) (by omega)
          rwa [show ((nn + 1 : Nat) : Int) = (nn : Int) + 1 from by omega] at this
        have hR5 := hR3 nn hnn
        have hfin := HF.out ((wr.alloc (.cells #[.int .u8 10] 5 (1, 2))).drewN jj) nn hnn (hkA.drewN' jj)
        have hB := hh2.drewN jj
        clear hR3 hcon HF hkA hh2 hh' hcv
        generalize (wr.alloc (.cells #[.int .u8 10] 5 (1, 2))).drewN jj = wB at *
        have hixx : 0 < i → ∀ w : World, (Instr.indexAt 22 (.slice a i c) (.int .i64 0)).run Tryz.prog w = .ok (.pointer (some (at_ a 0))) w := fun h => hB.ixk i c hil 0 0 rfl h
        have hcell := hB.cell 0 (by omega)
        generalize byt l 0 = x at hcell
        have HFI := Lib.hid hfin
        have HR4 := Lib.hid hR4
        have HR5 := Lib.hid hR5
        have hmeas : Hid (l'.length < gk) := by show _; rw [← HQ.out]; exact hltl
        clear hfin hR4 hR5 hB hlt' hltl
        rcases Nat.lt_or_ge 1 i with hi1 | hi1
        · have h1 := hixx (by omega)
          have hi0 : ((i : Int) == 0) = false := by rw [beq_eq_false_iff_ne]; omega
          have hi2 : ((i : Int) == 1) = false := by rw [beq_eq_false_iff_ne]; omega
          clear hixx
          by_cases h32 : (x.toNat : Int) = 32
          · obtain ⟨e1, e2⟩ := i_is h32
            clear h32 HR4
            go_wp2
            go_roundg l'.length
            case measure => exact hmeas.out
            case rel => exact HR5.out
          · by_cases h9 : (x.toNat : Int) = 9
            · obtain ⟨e1, e2⟩ := i_not h32
              obtain ⟨e3, e4⟩ := i_is h9
              clear h32 h9 HR4
              go_wp2
              go_roundg l'.length
              case measure => exact hmeas.out
              case rel => exact HR5.out
            · obtain ⟨e1, e2⟩ := i_not h32
              obtain ⟨e3, e4⟩ := i_not h9
              clear h32 h9 HR5
              go_wp2
              go_roundg l'.length
              case measure => exact hmeas.out
              case rel => exact HR4.out
        · rcases Nat.eq_zero_or_pos i with rfl | hi0
          · clear hixx hcell HR4 HR5
            go_wp2
            go_ret
            exact HFI.out
          · obtain rfl : i = 1 := by omega
            have h1 := hixx (by omega)
            clear hixx
            by_cases h13 : (x.toNat : Int) = 13
            · obtain ⟨e1, e2⟩ := i_is h13
              clear h13 HR4 HR5
              go_wp2
              go_ret
              exact HFI.out
            · obtain ⟨f1, f2⟩ := i_not h13
              by_cases h32 : (x.toNat : Int) = 32
              · obtain ⟨e1, e2⟩ := i_is h32
                clear h32 h13 HR4
                go_wp2
                go_roundg l'.length
                case measure => exact hmeas.out
                case rel => exact HR5.out
              · by_cases h9 : (x.toNat : Int) = 9
                · obtain ⟨e1, e2⟩ := i_not h32
                  obtain ⟨e3, e4⟩ := i_is h9
                  clear h32 h9 h13 HR4
                  go_wp2
                  go_roundg l'.length
                  case measure => exact hmeas.out
                  case rel => exact HR5.out
                · obtain ⟨e1, e2⟩ := i_not h32
                  obtain ⟨e3, e4⟩ := i_not h9
                  clear h32 h9 h13 HR5
                  go_wp2
                  go_roundg l'.length
                  case measure => exact hmeas.out
                  case rel => exact HR4.out
      · have hfin := HF.out wr nn hnn hkk
        have HFI := Lib.hid hfin
        have hlt1 : decide ((nn : Int) < 1000) = false := by simp; omega
        clear hfin HF hh hkk
        go_wp2
        go_ret
        exact HFI.out
end
end Go.Proofs.YtkbgnplknifmhaaGreatDoor
