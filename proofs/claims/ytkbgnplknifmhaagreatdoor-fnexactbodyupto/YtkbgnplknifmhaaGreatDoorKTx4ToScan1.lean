/-
  Walks and facts for the mailparts program.
-/
import Derived.Test.YtkbgnplknifmhaaGreatDoorKBuf6ToTx3
import Derived.Test.YtkbgnplknifmhaaGreatDoorKOwn1
import Derived.Deep.CutRange
import Derived.Deep.AppendLies
import Derived.Test.YtkbgnplknifmhaaGreatDoorKBaseToTx0
namespace Go.Proofs.YtkbgnplknifmhaaGreatDoor
open Go.RowKit
attribute [local go_sem ↓] Go.wp_at_zero Go.wp_at_succ

set_option maxHeartbeats 400000 in
theorem colon_any (a : Option Addr) (c : Nat) (l : Bytes) (w : World) (h : HB w a l) (hc : (58 : UInt8) ∈ l) :
    Calls Tryz.prog 144 #[.slice a l.length c] w fun e w' => e = .returned .nilIface ∧ w = w' := by
  have hcon := indexByte_any a l.length c l 58 w h rfl
  have hge : decide (ixB 58 l < 0) = false := by
    obtain ⟨p, q, hpq, hp⟩ := List.eq_append_cons_of_mem hc
    rw [hpq, ixB_hit hp]; simp
  generalize ixB 58 l = x at hcon hge
  have h10 : ((58 : UInt8).toNat : Int) = 58 := rfl
  rw [h10] at hcon
  clear h hc h10
  go_enter Tryz.func144, Tryz.ntmps144
  go_wp2_with fail
  refine hcon.mono ?_
  rintro e w' ⟨rfl, rfl⟩
  go_wp2
  go_ret
  exact ⟨rfl, rfl⟩

/-- The block's cells hold kv from place o on. -/
def HasB (cs : Array Value) (o : Nat) (kv : Bytes) : Prop := cs = putAt cs o kv ∧ o + kv.length ≤ cs.size
/-- Where a logical line stands: in the buffer ahead of what waits, or in the reader's own row. -/
structure LineAt (w : World) (R : RS) (r : Nat) (bs : Bytes) (v : Value) (bl : Bytes) (xb o c : Nat) (cs : Array Value) (kv : Bytes) : Prop where
  blk : Blk w xb cs 5
  has : HasB cs o kv
  cap : kv.length ≤ c
  cmax : c ≤ 9223372036854775807
  at_ : (xb = R.bb ∧ cs = encB bs ∧ o + kv.length ≤ r) ∨ (v = .slice (some ⟨xb, 0, none⟩) kv.length c ∧ o = 0 ∧ bl = kv)
theorem encB_size (bs : Bytes) : (encB bs).size = bs.length := by simp [encB]
theorem hasB_enc (bs : Bytes) (o n : Nat) (h : o + n ≤ bs.length) : HasB (encB bs) o (win bs o n) := by
  have hl : (win bs o n).length = n := win_len h
  refine ⟨?_, by rw [hl, encB_size]; exact h⟩
  apply Array.ext'
  unfold putAt win
  rw [List.length_take, List.length_drop, Nat.min_eq_left (by omega)]
  have e : (encB bs).toList = bs.map B8 := rfl
  rw [e, List.map_take, List.map_drop, ← List.map_take, ← List.map_drop, ← List.map_drop, ← List.map_take, ← List.map_append, ← List.map_append]
  congr 1
  rw [List.append_assoc, ← List.drop_drop, List.take_append_drop, List.take_append_drop]
theorem HasB.take {cs : Array Value} {o : Nat} {kv : Bytes} (h : HasB cs o kv) (k : Nat) (hk : k ≤ kv.length) : HasB cs o (kv.take k) := by
  have h2 := h.2
  refine ⟨?_, by rw [List.length_take]; omega⟩
  have e := congrArg Array.toList h.1
  apply Array.ext'
  unfold putAt at e ⊢
  simp only at e ⊢
  rw [List.length_take, Nat.min_eq_left hk]
  conv => lhs; rw [← List.take_append_drop o cs.toList, ← List.take_append_drop k (cs.toList.drop o)]
  rw [List.append_assoc, List.drop_drop]
  congr 2
  have e2 : (cs.toList.drop o).take kv.length = kv.map B8 := by
    have h3 : (cs.toList.take o).length = o := by simp; omega
    have e3 := congrArg (fun l => (l.drop o).take kv.length) e
    rw [e3, List.append_assoc, List.drop_append_of_le_length (by omega), List.drop_of_length_le (by omega), List.nil_append, List.take_append_of_le_length (by simp), List.take_of_length_le (by simp)]
  rw [List.map_take, ← e2, List.take_take, Nat.min_eq_left hk]
theorem LineAt.hb {w : World} {R : RS} {r : Nat} {bs : Bytes} {v : Value} {bl : Bytes} {xb o c : Nat} {cs : Array Value} {kv : Bytes} (h : LineAt w R r bs v bl xb o c cs kv) : HB w (some ⟨xb, o, none⟩) kv := by
  have := h.blk
  rw [h.has.1] at this
  exact this.hbAt h.has.2
end Go.Proofs.YtkbgnplknifmhaaGreatDoor
namespace Go.Proofs.YtkbgnplknifmhaaGreatDoor
open Go.RowKit
attribute [local go_sem ↓] Go.wp_at_zero Go.wp_at_succ

/-- A textproto reader over a buffered reader, of which whole is still to come. -/
structure TSx (w : World) (E : Value) (R : RS) (tb : Nat) (v : Value) (bl : Bytes) (r n : Nat) (bs src : Bytes) (lb lr : Int) (whole : Bytes) : Prop where
  tx : TX w tb R.rb v
  ob : OB w 0 v bl
  br : BRx w E R r n bs src .nilIface lb lr
  eq : win bs r n ++ src = whole
  gv : GV w
  rg : ∀ b ∈ R.own, 15 ≤ b
  tn : tb ∉ R.own
  td : tb ≠ R.da
  tg : 15 ≤ tb
  vo : ∀ b, v.ownBlock = some b → b ∉ R.own ∧ b ≠ R.da ∧ b ≠ tb ∧ 15 ≤ b
  dl : R.da < w.heap.size
theorem Src.lts {w : World} {E : Value} {st ur : Nat} {own : Far} {src : Bytes} (h : Src w E st ur own src) : st < w.heap.size ∧ ur < w.heap.size := by
  cases h with
  | bytes a c i pr data serr h1 h2 h3 hc hi hl ha he => exact ⟨h1.lt, h2.lt⟩
  | slow a c piece data serr h1 h2 h3 hc hl hp hp0 ha he => exact ⟨h1.lt, h2.lt⟩
theorem BRx.lts {w : World} {E : Value} {R : RS} {r n : Nat} {bs src : Bytes} {err : Value} {lb lr : Int} (h : BRx w E R r n bs src err lb lr) : ∀ b ∈ R.own, b < w.heap.size := by
  intro b hb
  simp [RS.own] at hb
  rcases hb with rfl | rfl | rfl | rfl
  · exact h.blk.lt
  · exact Blk.lt h.buf
  · exact h.below.lts.1
  · exact h.below.lts.2
theorem OB.cmax {w : World} {base : Nat} {a : Option Addr} {n c : Nat} {l : Bytes} (h : OB w base (.slice a n c) l) : c ≤ 9223372036854775807 := by
  rcases h.2 with ⟨h0, _⟩ | ⟨g, cap, cur, hv, hb, hg, hnc, hcm, _⟩
  · injection h0 with h0 h1 h2; subst h2; omega
  · injection hv with h0 h1 h2; subst h2; unfold maxLen at hcm; omega
theorem OB.line {w : World} {a : Option Addr} {n c : Nat} {kv : Bytes} (h : OB w 0 (.slice a n c) kv) (h0 : kv ≠ []) : ∃ g cur, a = some ⟨g, 0, none⟩ ∧ Blk w g cur 5 ∧ HasB cur 0 kv := by
  rcases h.2 with ⟨_, h1⟩ | ⟨g, cap, cur, hv, hb, hg, hnc, hcm, hcs, htake⟩
  · exact absurd (List.eq_nil_of_length_eq_zero h1) h0
  · injection hv with hv
    refine ⟨g, cur, hv, hg, ?_, by omega⟩
    apply Array.ext'
    unfold putAt
    rw [List.take_zero, List.nil_append, Nat.zero_add]
    rw [Nat.mul_one] at htake
    rw [← htake, List.take_append_drop]
/-- The blocks that a step of the reader may turn. -/
def TS (R : RS) (tb : Nat) (v : Value) : List Nat := tb :: (R.own ++ v.ownBlock.toList)
theorem TS.own {R : RS} {tb : Nat} {v : Value} {b : Nat} (h : b ∈ R.own) : b ∈ TS R tb v := by simp [TS, h]
theorem TS.tb {R : RS} {tb : Nat} {v : Value} : tb ∈ TS R tb v := by simp [TS]
theorem TS.v {R : RS} {tb : Nat} {v : Value} {b : Nat} (h : v.ownBlock = some b) : b ∈ TS R tb v := by simp [TS, h]
theorem Kp.ts {R : RS} {tb : Nat} {v : Value} {w w' : World} (h : Kp R.own w w') : Kp (TS R tb v) w w' := h.mono (fun _ hb _ => TS.own hb)
/-- What reading a logical line leaves. -/
structure ContPost (w w' : World) (E : Value) (R : RS) (tb : Nat) (v : Value) (kv rest : Bytes) (v1 : Value) (bl1 : Bytes) (r1 n1 : Nat) (bs1 src1 : Bytes) (lb1 lr1 : Int) (xb o c : Nat) (cs : Array Value) : Prop where
  ts : TSx w' E R tb v1 bl1 r1 n1 bs1 src1 lb1 lr1 rest
  at_ : LineAt w' R r1 bs1 v1 bl1 xb o c cs kv
  kp : Kp (TS R tb v) w w'
  nw : ∀ b, v1.ownBlock = some b → v.ownBlock = some b ∨ w.heap.size ≤ b

theorem TSx.next {w w' : World} {E : Value} {R : RS} {tb : Nat} {v : Value} {bl : Bytes} {r n : Nat} {bs src : Bytes} {lb lr : Int} {whole : Bytes} (h : TSx w E R tb v bl r n bs src lb lr whole) (k : Kp R.own w w')
    {r1 n1 : Nat} {bs1 src1 : Bytes} {lb1 lr1 : Int} {whole1 : Bytes} (hb : BRx w' E R r1 n1 bs1 src1 .nilIface lb1 lr1) (he : win bs1 r1 n1 ++ src1 = whole1) : TSx w' E R tb v bl r1 n1 bs1 src1 lb1 lr1 whole1 :=
  ⟨h.tx.kp k h.tn, h.ob.kp k (fun b hb e => (h.vo b e).1 hb), hb, he, h.gv.kp k h.rg, h.rg, h.tn, h.td, h.tg, h.vo, Nat.lt_of_lt_of_le h.dl k.size⟩
section
variable {w : World} {E : Value} {R : RS} {tb : Nat} {v : Value} {bl : Bytes} {r n : Nat} {bs src : Bytes} {lb lr : Int} {whole : Bytes}
theorem bbAt_eq (R : RS) (r : Nat) (h : r < 4096) : bbAt R r = some ⟨R.bb, r, none⟩ := cut_bb _ _ _ h
theorem trB_pre (l : Bytes) : ∃ k, trB l = l.take k ∧ k ≤ l.length ∧ (trB l).length = k := by
  unfold trB
  have h := List.dropWhile_suffix (l := l.reverse) blankC
  have h2 : (List.dropWhile blankC l.reverse).reverse <+: l := by
    rw [← List.reverse_suffix, List.reverse_reverse]
    exact h
  refine ⟨_, (List.prefix_iff_eq_take.1 h2), h2.length_le, rfl⟩
theorem win_pre {bs : Bytes} {r n k : Nat} {l m : Bytes} (h : win bs r n = l ++ m) (hk : k ≤ l.length) : win bs r k = l.take k := by
  have h1 : (win bs r n).length ≤ n := by unfold win; rw [List.length_take]; omega
  have h2 := congrArg List.length h
  rw [List.length_append] at h2
  rw [win_take bs r n k (by omega), h, List.take_append_of_le_length hk]

def AfterPeek (w1 wx : World) (E : Value) (R : RS) (r n : Nat) (bs src : Bytes) : Prop := ∃ lb lr, BRx wx E R r n bs src .nilIface lb lr ∧ Kp [R.rb] w1 wx
/-- What the appending to the reader's row leaves. -/
def AppPost (wc wx : World) (R : RS) (tb : Nat) (v0 : Value) (kv : Bytes) : Prop := ∃ a c, kv.length ≤ c ∧ OB wx 0 (.slice a kv.length c) kv ∧ TX wx tb R.rb (.slice a kv.length c) ∧ Kp (tb :: v0.ownBlock.toList) wc wx ∧ (∀ b, (Value.slice a kv.length c).ownBlock = some b → v0.ownBlock = some b ∨ wc.heap.size ≤ b) ∧ ((Value.slice a kv.length c).ownBlock = some tb → False)
theorem func_nil (w : World) : (binOp .eql 215 (.func (.func 144) #[] #[]) .nilFunc).run Tryz.prog w = .ok (.bool false) w := by kernel_rfl
set_option maxRecDepth 20000 in
set_option maxHeartbeats 4000000 in
theorem cont_plain (h : TSx w E R tb v bl r n bs src lb lr whole) (l : Bytes) (c0 : UInt8) (rest : Bytes) (hw : whole = l ++ 10 :: c0 :: rest) (hl : (10 : UInt8) ∉ l) (hl2 : l.length ≤ 2000)
    (hne : 0 < (dropCR l).length) (hb0 : blankC (byt (dropCR l) 0) = false) (hcol : (58 : UInt8) ∈ dropCR l) (hc0 : blankC c0 = false) (lim : Int) (hlim : ((dropCR l).length : Int) ≤ lim) (hlim2 : lim ≤ 4611686018427387904) :
    Calls Tryz.prog 143 #[.pointer (some ⟨tb, 0, none⟩), .int .i64 lim, .func (.func 144) #[] #[]] w fun e w' => ∃ v1 bl1 r1 n1 bs1 src1 lb1 lr1 xb o c cs,
      e = .returned (.tuple #[.slice (some ⟨xb, o, none⟩) (trB (dropCR l)).length c, .nilIface]) ∧ ContPost w w' E R tb v (trB (dropCR l)) (c0 :: rest) v1 bl1 r1 n1 bs1 src1 lb1 lr1 xb o c cs := by
  subst hw
  have hll : (dropCR l).length ≤ l.length := by
    rcases dropCR_cases l with ⟨m, hm, hd⟩ | ⟨_, hd⟩
    · rw [hd]; have := congrArg List.length hm; simp at this; omega
    · rw [hd]; omega
  have hpre : ∃ s, l ++ [10] = dropCR l ++ s := by
    rcases dropCR_cases l with ⟨m, hm, hd⟩ | ⟨_, hd⟩
    · rw [hd]; exact ⟨[13, 10], by rw [hm]; simp⟩
    · rw [hd]; exact ⟨_, rfl⟩
  have hcon := readLineSlice_hit h.tx h.br h.gv h.rg l (c0 :: rest) hl (by omega) h.eq lim (.inr hlim)
  obtain ⟨va, vc, hv, hvl, hvb, hvh, hvo⟩ := h.ob.len
  subst hv
  have hz : (((dropCR l).length : Int) == 0) = false := by rw [beq_eq_false_iff_ne]; omega
  have H := Lib.hid h
  have HP := Lib.hid hpre
  have HB0 := Lib.hid hb0
  have HC := Lib.hid hcol
  have HC0 := Lib.hid hc0
  clear h hl hpre hb0 hcol hc0
  generalize dropCR l = ll at *
  have hfn := func_nil
  go_enter Tryz.func143, Tryz.ntmps143
  go_wp2_with fail
  refine hcon.mono ?_
  rintro e w1 ⟨r1, n1, bs1, src1, rfl, hS⟩
  have hfit := hS.br.fit
  have hlen := hS.br.len
  have hll10 : (l ++ [10]).length = l.length + 1 := by simp
  rw [hll10] at hfit
  have hline : win bs1 r1 ll.length = ll := by
    obtain ⟨s, hs⟩ := HP.out
    have e := hS.line
    rw [hs] at e
    rw [win_pre e (Nat.le_refl _), List.take_of_length_le (Nat.le_refl _)]
  have hhb := hS.br.hb_at r1 ll.length (by omega)
  rw [hline, bbAt_eq _ _ (by omega)] at hhb
  rw [bbAt_eq _ _ (by omega)]
  have hco := colon_any (some ⟨R.bb, r1, none⟩) (4096 - r1) ll w1 hhb HC.out
  have htr := trim_any (some ⟨R.bb, r1, none⟩) (4096 - r1) ll w1 hhb (by omega) (by omega) hne HB0.out
  clear hcon
  go_wp2_with fail
  refine hco.mono ?_
  rintro e w' ⟨rfl, rfl⟩
  clear hco
  have htx1 := H.out.tx.kp hS.kp H.out.tn
  have k : ∀ i, w1.cell? ⟨tb, i, none⟩ = (#[.pointer (some ⟨R.rb, 0, none⟩), .pointer none, .slice va bl.length vc] : Array Value)[i]? := htx1.cell
  have hbf := buffered_any hS.br
  go_wp2_with fail
  refine hbf.mono ?_
  rintro e w2 ⟨rfl, j, rfl⟩
  have hbr2 := hS.br.drewN j
  rw [hll10] at hbr2
  go_upto_if 42 with (fail)
  have hwk : win bs1 r1 (trB ll).length = trB ll := by
    obtain ⟨q, h1, h2, h3⟩ := trB_pre ll
    rw [h3, win_take bs1 r1 ll.length q h2, hline, h1]
  have fast : ∀ w4 lb lr, BRx w4 E R (r1 + (l.length + 1)) n1 bs1 src1 .nilIface lb lr → Kp [R.rb] w1 w4 → ContPost w w4 E R tb (.slice va bl.length vc) (trB ll) (c0 :: rest) (.slice va bl.length vc) bl (r1 + (l.length + 1)) n1 bs1 src1 lb lr R.bb r1 (4096 - r1) (encB bs1) := by
    intro w4 lb lr hb hk
    have hK : Kp R.own w w4 := hS.kp.trans hk.rb_own
    have hr := hS.rest
    rw [hll10] at hr
    obtain ⟨q, h1, h2, h3⟩ := trB_pre ll
    exact ⟨H.out.next hK hb hr, ⟨hb.buf, by have := hasB_enc bs1 r1 (trB ll).length (by omega); rwa [hwk] at this, by omega, by omega, .inl ⟨rfl, rfl, by omega⟩⟩, hK.ts, fun b hb => .inl hb⟩
  have hc0b : Hid (0 < n1 → byt (win bs1 (r1 + (l.length + 1)) n1) 0 = c0) := by
    intro hn
    have hr := hS.rest
    rw [hll10] at hr
    have e := congrArg (fun l => byt l 0) hr
    have hwl : (win bs1 (r1 + (l.length + 1)) n1).length = n1 := win_len (by omega)
    have e2 : byt (win bs1 (r1 + (l.length + 1)) n1 ++ src1) 0 = byt (win bs1 (r1 + (l.length + 1)) n1) 0 := by
      unfold byt; rw [List.getD_eq_getElem?_getD, List.getElem?_append_left (by omega)]; rfl
    rw [← e2, hr]; rfl
  have HFA := Lib.hid fast
  have HS := Lib.hid hS
  clear fast hS hbf
  go_cut [11, 12, 42] from 43 to 84 (fun v11 v12 v42 wx => AfterPeek w1 wx E R (r1 + (l.length + 1)) n1 bs1 src1)
  case first =>
    by_cases hn : 1 < n1
    · have hdec : decide ((1 : Int) < (n1 : Int)) = true := by simp; omega
      have hpk := peek_there hbr2 2 (by omega)
      have e2 : ((2 : Nat) : Int) = 2 := rfl
      rw [e2, bbAt_eq _ _ (by omega)] at hpk
      rw [hdec]
      go_wp2_with fail
      refine hpk.mono ?_
      rintro e w4 ⟨rfl, hbr4, hK4⟩
      have hK4' : Kp [R.rb] w1 w4 := ((Kp.refl _ w1).drewN' j).trans hK4
      have hix0 := hbr4.ixk (r1 + (l.length + 1)) 2 (4096 - (r1 + (l.length + 1))) 0 (by omega) (by omega) 0 rfl
      have hix1 := hbr4.ixk (r1 + (l.length + 1)) 2 (4096 - (r1 + (l.length + 1))) 1 (by omega) (by omega) 1 rfl
      rw [bbAt_eq _ _ (by omega)] at hix0 hix1
      have hcl0 := hbr4.byte (r1 + (l.length + 1)) 2 0 (by omega) (by omega) (c := c0) (by rw [win_take _ _ n1 2 (by omega), byt_take _ _ _ (by omega)]; exact hc0b.out (by omega))
      have hcl1 := hbr4.byte (r1 + (l.length + 1)) 2 1 (by omega) (by omega) (c := byt (win bs1 (r1 + (l.length + 1)) 2) 1) rfl
      rw [Nat.add_zero] at hix0 hcl0
      have hlet := isLetter_any c0 w4
      have hhb4 : HB w4 (some ⟨R.bb, r1, none⟩) ll := by
        have := hbr4.hb_at r1 ll.length (by omega)
        rwa [hline, bbAt_eq _ _ (by omega)] at this
      have htr4 := trim_any (some ⟨R.bb, r1, none⟩) (4096 - r1) ll w4 hhb4 (by omega) (by omega) hne HB0.out
      have hap : Hid (AfterPeek w1 w4 E R (r1 + (l.length + 1)) n1 bs1 src1) := ⟨_, _, hbr4, hK4'⟩
      have hfin := HFA.out w4 (-1) (-1) hbr4 hK4'
      have HFI := Lib.hid hfin
      generalize byt (win bs1 (r1 + (l.length + 1)) 2) 1 = c1 at hcl1
      clear hfin HFA hbr4 hK4' hK4 hpk hhb4 hdec hbr2 htr k HS
      go_wp2_with fail
      refine hlet.mono ?_
      rintro e w' ⟨⟨bb, rfl⟩, rfl⟩
      clear hlet
      cases bb
      · by_cases h10 : (c0.toNat : Int) = 10
        · obtain ⟨e1, e3⟩ := i_is h10
          clear h10
          go_wp2_with fail
          refine htr4.mono ?_
          rintro e w' ⟨rfl, rfl⟩
          go_wp2
          go_ret2
          exact ⟨_, _, _, _, _, _, _, _, _, _, _, _, rfl, HFI.out⟩
        · obtain ⟨e1, e3⟩ := i_not h10
          clear h10
          by_cases h13 : (c0.toNat : Int) = 13
          · obtain ⟨e4, e5⟩ := i_is h13
            by_cases h1 : (c1.toNat : Int) = 10
            · obtain ⟨e6, e7⟩ := i_is h1
              clear h13 h1
              go_wp2_with fail
              refine htr4.mono ?_
              rintro e w' ⟨rfl, rfl⟩
              go_wp2
              go_ret2
              exact ⟨_, _, _, _, _, _, _, _, _, _, _, _, rfl, HFI.out⟩
            · obtain ⟨e6, e7⟩ := i_not h1
              clear h13 h1
              go_wp2_with fail
              go_meet
              exact hap.out
          · obtain ⟨e4, e5⟩ := i_not h13
            clear h13
            go_wp2_with fail
            go_meet
            exact hap.out
      · go_wp2_with fail
        refine htr4.mono ?_
        rintro e w' ⟨rfl, rfl⟩
        go_wp2
        go_ret2
        exact ⟨_, _, _, _, _, _, _, _, _, _, _, _, rfl, HFI.out⟩
    · have hdec : decide ((1 : Int) < (n1 : Int)) = false := by simp; omega
      have hap : Hid (AfterPeek w1 (w1.drewN j) E R (r1 + (l.length + 1)) n1 bs1 src1) := ⟨_, _, hbr2, (Kp.refl _ w1).drewN' j⟩
      rw [hdec]
      go_wp2_with fail
      go_meet
      exact hap.out
  case rest =>
    obtain ⟨lb3, lr3, hbr3, hK3⟩ := hcut
    have hK : Kp R.own w wc := HS.out.kp.trans hK3.rb_own
    have htx3 := H.out.tx.kp hK H.out.tn
    have k3 : ∀ i, wc.cell? ⟨tb, i, none⟩ = (#[.pointer (some ⟨R.rb, 0, none⟩), .pointer none, .slice va bl.length vc] : Array Value)[i]? := htx3.cell
    have f3 := Blk.free htx3
    have hhb3 : HB wc (some ⟨R.bb, r1, none⟩) ll := by
      have := hbr3.hb_at r1 ll.length (by omega)
      rwa [hline, bbAt_eq _ _ (by omega)] at this
    have hhbT : HB wc.drew (some ⟨R.bb, r1, none⟩) (trB ll) := by
      obtain ⟨q, h1, h2, h3⟩ := trB_pre ll
      rw [h1]; exact (hhb3.take q).drew
    have htr3 := trim_any (some ⟨R.bb, r1, none⟩) (4096 - r1) ll wc.drew hhb3.drew (by omega) (by omega) hne HB0.out
    have hOB3 : OB wc 0 (.slice va bl.length vc) bl := H.out.ob.kp hK (fun b hb e => (H.out.vo b e).1 hb)
    have hOB0 : OB wc.drew 0 (.slice va 0 vc) [] := (OB.zero hOB3).kp (S := []) (Kp.refl _ _).drew (by simp)
    have hTl : (trB ll).length ≤ 4096 := by obtain ⟨q, h1, h2, h3⟩ := trB_pre ll; omega
    have htbv : tb ∉ (Value.slice va 0 vc).ownBlock.toList := by
      intro e
      have e2 : (Value.slice va 0 vc).ownBlock = some tb := by simpa using e
      rw [show (Value.slice va 0 vc).ownBlock = (Value.slice va bl.length vc).ownBlock from by cases va <;> rfl] at e2
      exact (H.out.vo _ e2).2.2.1 rfl
    have hvoz : (Value.slice va 0 vc).ownBlock = (Value.slice va bl.length vc).ownBlock := by cases va <;> rfl
    have htlt : tb < wc.heap.size := Blk.lt htx3
    have hfin5 : ∀ a5 c5 w5, OB w5 0 (.slice a5 (trB ll).length c5) (trB ll) → TX w5 tb R.rb (.slice va bl.length vc) → Kp (Value.slice va 0 vc).ownBlock.toList wc w5 → NewOr wc.drew (.slice va 0 vc) (.slice a5 (trB ll).length c5) →
        OB (w5.setCell ⟨tb, 2, none⟩ (.slice a5 (trB ll).length c5)) 0 (.slice a5 (trB ll).length c5) (trB ll) ∧ TX (w5.setCell ⟨tb, 2, none⟩ (.slice a5 (trB ll).length c5)) tb R.rb (.slice a5 (trB ll).length c5) ∧ Kp (tb :: (Value.slice va bl.length vc).ownBlock.toList) wc (w5.setCell ⟨tb, 2, none⟩ (.slice a5 (trB ll).length c5)) ∧ (∀ b, (Value.slice a5 (trB ll).length c5).ownBlock = some b → (Value.slice va bl.length vc).ownBlock = some b ∨ wc.heap.size ≤ b) ∧ ((Value.slice a5 (trB ll).length c5).ownBlock = some tb → False) := by
      intro a5 c5 w5 hOB5 htx5 hK5 hN5
      have hor : ∀ b, (Value.slice a5 (trB ll).length c5).ownBlock = some b → (Value.slice va bl.length vc).ownBlock = some b ∨ wc.heap.size ≤ b := by
        intro b hb
        rcases hN5 with h | h
        · left; rw [← hvoz, ← h]; exact hb
        · right; exact h b hb
      have hntb : (Value.slice a5 (trB ll).length c5).ownBlock = some tb → False := by
        intro e
        rcases hor tb e with h | h
        · exact (H.out.vo _ h).2.2.1 rfl
        · omega
      refine ⟨?_, ?_, ?_, hor, hntb⟩
      · exact hOB5.kp (S := [tb]) ((Kp.refl _ _).setCell (.inl (by simp)) _) (by intro b hb e; simp at hb; subst hb; exact hntb e)
      · exact Blk.set htx5 2 _
      · rw [← hvoz]; exact (hK5.mono (fun b hb _ => by simp at hb; simp [hb])).setCell (.inl (by simp)) _
    clear k hbr2 htr htx1 hhb
    go_wp2
    go_cut [] from 85 to 95 (fun wx => AppPost wc wx R tb (.slice va bl.length vc) (trB ll))
    case first =>
      go_region_law (first | (refine step_append_OB rfl (.tmp 90) (.tmp 92) rfl 0 (.slice va 0 vc) [] (by rfl) hOB0 (some ⟨R.bb, r1, none⟩) (trB ll).length (4096 - r1) (trB ll) (by rfl) hhbT rfl (by simp) (by simp; omega) (Nat.zero_le _) ?_; intro v5 w5 hOB5 hG5 hN5; obtain ⟨a5, c5, hv5, hc5, hb5, hh5, ho5⟩ := hOB5.len; subst hv5; have hK5 : Kp (Value.slice va 0 vc).ownBlock.toList wc w5 := (Kp.refl _ wc).drew.grown hG5 (by intro k hk; left; simp [hk]); have htx5 : TX w5 tb R.rb (.slice va bl.length vc) := htx3.kp hK5 htbv; have k5 : ∀ i, w5.cell? ⟨tb, i, none⟩ = (#[.pointer (some ⟨R.rb, 0, none⟩), .pointer none, .slice va bl.length vc] : Array Value)[i]? := Blk.cell htx5; have f5 := Blk.free htx5) | (go_simp; go_at_call 151; refine htr3.mono ?_; rintro e w' ⟨rfl, rfl⟩))
      all_goals
        go_wp2_with fail
        go_meet
        rw [List.nil_append] at *
        exact ⟨a5, c5, hc5, hfin5 a5 c5 w5 hOB5 htx5 hK5 hN5⟩
    case rest =>
      rename_i w0
      obtain ⟨a5, c5, hc5, hOB5, htx5, hK5, hor5, hnt5⟩ := hcut
      have hSd : ∀ b ∈ R.own, b ∉ tb :: (Value.slice va bl.length vc).ownBlock.toList := by
        intro b hb e
        simp at e
        rcases e with rfl | e
        · exact H.out.tn hb
        · exact (H.out.vo b e).1 hb
      have hSda : R.da ∉ tb :: (Value.slice va bl.length vc).ownBlock.toList := by
        intro e
        simp at e
        rcases e with e | e
        · exact H.out.td e.symm
        · exact (H.out.vo _ e).2.1 rfl
      have hSg : ∀ b ∈ tb :: (Value.slice va bl.length vc).ownBlock.toList, 15 ≤ b := by
        intro b e
        simp at e
        rcases e with rfl | e
        · exact H.out.tg
        · exact (H.out.vo _ e).2.2.2
      have hbr5 := hbr3.kp hK5 hSd hSda (fun e => by have := hSg _ e; omega)
      have hrest : win bs1 (r1 + (l.length + 1)) n1 ++ src1 = [] ++ c0 :: rest := by
        have := HS.out.rest
        rwa [hll10] at this
      have hss := skipSpace_hit htx5 H.out.tn hbr5 [] c0 rest rfl HC0.out (by simp) hrest
      have k5 : ∀ i, wc.cell? ⟨tb, i, none⟩ = (#[.pointer (some ⟨R.rb, 0, none⟩), .pointer none, .slice a5 (trB ll).length c5] : Array Value)[i]? := Blk.cell htx5
      have hneg : decide (lim < 0) = false := by simp; omega
      have hkv : trB ll ≠ [] := by
        intro e
        have hx := trB_not ll 0 hne HB0.out
        obtain ⟨q, h1, h2, h3⟩ := trB_pre ll
        rw [e] at h3
        have h4 : q = 0 := h3.symm
        -- the first byte is no blank, so not all is cut off
        have hall : ∀ (t : Bytes) (x : UInt8), blankC x = false → (t ++ [x]).dropWhile blankC ≠ [] := by
          intro t x hb
          induction t with
          | nil => simp [hb]
          | cons y t ih =>
            rw [List.cons_append]
            unfold List.dropWhile
            split
            · exact ih
            · simp
        cases ll with
        | nil => simp at hne
        | cons x t =>
          unfold trB at e
          rw [List.reverse_eq_nil_iff, List.reverse_cons] at e
          exact hall _ x HB0.out e
      have hnew : ∀ b, (Value.slice a5 (trB ll).length c5).ownBlock = some b → b ∉ R.own ∧ b ≠ R.da ∧ b ≠ tb ∧ 15 ≤ b := by
        intro b hb
        rcases hor5 b hb with h | h
        · exact H.out.vo b h
        · have hlt := hbr3.lts
          have hdl := Nat.lt_of_lt_of_le H.out.dl hK.size
          have htg := H.out.tg
          exact ⟨fun e => by have := hlt b e; omega, by omega, by omega, by omega⟩
      have hend : ∀ w6 r2 n2 bs2 src2, BRx w6 E R r2 n2 bs2 src2 .nilIface (-1) (-1) → win bs2 r2 n2 ++ src2 = c0 :: rest → Kp R.own wc w6 → ∃ g cur, a5 = some ⟨g, 0, none⟩ ∧ ContPost w w6 E R tb (.slice va bl.length vc) (trB ll) (c0 :: rest) (.slice a5 (trB ll).length c5) (trB ll) r2 n2 bs2 src2 (-1) (-1) g 0 c5 cur := by
        intro w6 r2 n2 bs2 src2 hb6 he6 hK6
        have hv6 : ∀ b ∈ R.own, (Value.slice a5 (trB ll).length c5).ownBlock ≠ some b := fun b hb e => (hnew b e).1 hb
        have hOB6 := hOB5.kp hK6 hv6
        obtain ⟨g, cur, e1, e2, e3⟩ := hOB6.line hkv
        have hKall : Kp (TS R tb (.slice va bl.length vc)) w w6 := ((hK.ts).trans (hK5.mono (fun b hb _ => by simp at hb; simp [TS]; rcases hb with h | h <;> simp [h]))).trans hK6.ts
        refine ⟨g, cur, e1, ⟨⟨htx5.kp hK6 H.out.tn, hOB6, hb6, he6, ((H.out.gv.kp hK H.out.rg).kp hK5 hSg).kp hK6 H.out.rg, H.out.rg, H.out.tn, H.out.td, H.out.tg, hnew, Nat.lt_of_lt_of_le H.out.dl hKall.size⟩, ⟨e2, e3, hc5, hOB6.cmax, .inr ⟨by rw [e1], rfl, rfl⟩⟩, hKall, ?_⟩⟩
        intro b hb
        rcases hor5 b hb with h | h
        · exact .inl h
        · exact .inr (Nat.le_trans hK.size h)
      have HE := Lib.hid hend
      have htn := H.out.tn
      have htx5' := Lib.hid htx5
      clear hend hnew hkv hSg hSda hSd hbr5 hrest hK5 hOB5 hfin5 htx5 htr3 hhbT hhb3 hOB3 hOB0 hbr3
      go_wp2
      refine wp_loop_once ?_
      go_wp2_with fail
      refine hss.mono ?_
      rintro e w6 ⟨rfl, r2, n2, bs2, src2, hb6, he6, hK6⟩
      have k6 : ∀ i, w6.cell? ⟨tb, i, none⟩ = (#[.pointer (some ⟨R.rb, 0, none⟩), .pointer none, .slice a5 (trB ll).length c5] : Array Value)[i]? := Blk.cell (htx5'.out.kp hK6 htn)
      obtain ⟨g, cur, hg, hcp⟩ := HE.out w6 r2 n2 bs2 src2 hb6 he6 hK6
      have HCP := Lib.hid hcp
      clear hcp HE hb6 he6 hK6 hss k5
      go_wp2
      go_ret2
      exact ⟨_, _, _, _, _, _, _, _, _, _, _, _, by rw [← hg]; rfl, HCP.out⟩
end
end Go.Proofs.YtkbgnplknifmhaaGreatDoor
namespace Go.Proofs.YtkbgnplknifmhaaGreatDoor
open Go.RowKit

theorem drop_shape (l : Bytes) (k : Nat) (hk : k ≤ l.length) :
    (l.drop k = [] ∧ l.length = k) ∨ (∃ c, l.drop k = [c] ∧ l.length = k + 1 ∧ byt l k = c) ∨
    (∃ c d r, l.drop k = c :: d :: r ∧ k + 1 < l.length ∧ byt l k = c ∧ byt l (k + 1) = d) := by
  rcases h : l.drop k with _ | ⟨c, _ | ⟨d, r⟩⟩
  · left; have := congrArg List.length h; simp at this; exact ⟨rfl, by omega⟩
  · right; left
    have h1 := congrArg List.length h; simp at h1
    have h2 := byt_drop l k 0
    rw [h] at h2
    exact ⟨c, rfl, by omega, by rw [Nat.add_zero] at h2; rw [← h2]; rfl⟩
  · right; right
    have h1 := congrArg List.length h; simp at h1
    have h2 := byt_drop l k 0
    have h3 := byt_drop l k 1
    rw [h] at h2 h3
    exact ⟨c, d, r, rfl, by omega, by rw [Nat.add_zero] at h2; rw [← h2]; rfl, by rw [← h3]; rfl⟩

theorem u8_ne {c d : UInt8} {n : Int} (h : c ≠ d) (hn : n = d.toNat) : ((c.toNat : Int) == n) = false ∧ ((c.toNat : Int) != n) = true := by
  subst hn; exact i_not (fun e => h ((u8_iff c d).1 e))

set_option maxRecDepth 20000 in
set_option maxHeartbeats 400000 in
theorem match_any (a b : Option Addr) (c d : Nat) (l m : Bytes) (w : World) (ha : HB w a l) (hml : m.length ≤ l.length) (hl : l.length ≤ 281474976710656) :
    Calls Tryz.prog 190 #[.slice a l.length c, .slice b m.length d, .nilIface] w fun e w' => e = .returned (.int .i64 (matchP (l.drop m.length))) ∧ w = w' := by
  have hix := ha.ix l.length c (Nat.le_refl _)
  have hcell := ha.cell
  rcases drop_shape l m.length hml with ⟨h1, h2⟩ | ⟨x, h1, h2, h3⟩ | ⟨x, y, r, h1, h2, h3, h4⟩
  · rw [h1]
    have e1 := (i_is (a := (l.length : Int)) (n := (m.length : Int)) (by omega)).1
    clear h1 h2 hix hcell ha
    go_enter Tryz.func190, Tryz.ntmps190
    go_wp2
    go_ret
    exact ⟨rfl, rfl⟩
  · rw [h1]
    have e1 := (i_not (a := (l.length : Int)) (n := (m.length : Int)) (by omega)).1
    have hlt : (m.length : Int) < (l.length : Int) := by omega
    have hc0 := hcell m.length (by omega)
    rw [h3] at hc0
    have e2 := (i_is (a := (l.length : Int)) (n := (m.length : Int) + 1) (by omega)).1
    clear h1 h2 h3 hcell ha
    by_cases hs : stopC x = true
    · have H : Hid (matchP [x] = 1) := by simp [Hid, matchP, hs]
      unfold stopC at hs
      simp only [Bool.or_eq_true, beq_iff_eq] at hs
      rcases hs with ((rfl | rfl) | rfl) | rfl
      all_goals
        go_enter Tryz.func190, Tryz.ntmps190
        go_wp2
        go_ret
        exact ⟨ret_int H.out.symm, rfl⟩
    · have hs' : stopC x = false := by simpa using hs
      unfold stopC at hs
      simp only [Bool.or_eq_true, beq_iff_eq, not_or] at hs
      obtain ⟨⟨⟨n1, n2⟩, n3⟩, n4⟩ := hs
      obtain ⟨f1, g1⟩ := u8_ne (n := 32) n1 rfl
      obtain ⟨f2, g2⟩ := u8_ne (n := 9) n2 rfl
      obtain ⟨f3, g3⟩ := u8_ne (n := 13) n3 rfl
      obtain ⟨f4, g4⟩ := u8_ne (n := 10) n4 rfl
      clear n1 n2 n3 n4
      by_cases h5 : x = 45
      · have H : Hid (matchP [x] = 0) := by simp [Hid, matchP, h5]; rfl
        subst h5
        clear hs'
        go_enter Tryz.func190, Tryz.ntmps190
        go_wp2
        go_ret
        exact ⟨ret_int H.out.symm, rfl⟩
      · have H : Hid (matchP [x] = -1) := by simp [Hid, matchP, hs', h5]
        obtain ⟨f5, g5⟩ := u8_ne (n := 45) h5 rfl
        clear hs' h5
        go_enter Tryz.func190, Tryz.ntmps190
        go_wp2
        go_ret
        exact ⟨ret_int H.out.symm, rfl⟩
  · rw [h1]
    have e1 := (i_not (a := (l.length : Int)) (n := (m.length : Int)) (by omega)).1
    have hlt : (m.length : Int) < (l.length : Int) := by omega
    have hix1 := ha.ixk l.length c (Nat.le_refl _) ((m.length : Int) + 1) (m.length + 1) (by omega) (by omega)
    have hlt2 : (m.length : Int) + 1 < (l.length : Int) := by omega
    have hc0 := hcell m.length (by omega)
    have hc1 := hcell (m.length + 1) (by omega)
    rw [h3] at hc0
    rw [h4] at hc1
    have e2 := (i_not (a := (l.length : Int)) (n := (m.length : Int) + 1) (by omega)).1
    clear h1 h2 h3 h4 hcell ha
    by_cases hs : stopC x = true
    · have H : Hid (matchP (x :: y :: r) = 1) := by simp [Hid, matchP, hs]
      unfold stopC at hs
      simp only [Bool.or_eq_true, beq_iff_eq] at hs
      rcases hs with ((rfl | rfl) | rfl) | rfl
      all_goals
        go_enter Tryz.func190, Tryz.ntmps190
        go_wp2
        go_ret
        exact ⟨ret_int H.out.symm, rfl⟩
    · have hs' : stopC x = false := by simpa using hs
      unfold stopC at hs
      simp only [Bool.or_eq_true, beq_iff_eq, not_or] at hs
      obtain ⟨⟨⟨n1, n2⟩, n3⟩, n4⟩ := hs
      obtain ⟨f1, g1⟩ := u8_ne (n := 32) n1 rfl
      obtain ⟨f2, g2⟩ := u8_ne (n := 9) n2 rfl
      obtain ⟨f3, g3⟩ := u8_ne (n := 13) n3 rfl
      obtain ⟨f4, g4⟩ := u8_ne (n := 10) n4 rfl
      clear n1 n2 n3 n4
      by_cases h5 : x = 45
      · by_cases h6 : y = 45
        · have H : Hid (matchP (x :: y :: r) = 1) := by subst h5; subst h6; rfl
          subst h5
          subst h6
          clear hs'
          go_enter Tryz.func190, Tryz.ntmps190
          go_wp2
          go_ret
          exact ⟨ret_int H.out.symm, rfl⟩
        · have H : Hid (matchP (x :: y :: r) = -1) := by subst h5; simp [Hid, matchP, h6]; rfl
          subst h5
          obtain ⟨f6, g6⟩ := u8_ne (n := 45) h6 rfl
          clear hs' h6
          go_enter Tryz.func190, Tryz.ntmps190
          go_wp2
          go_ret
          exact ⟨ret_int H.out.symm, rfl⟩
      · have H : Hid (matchP (x :: y :: r) = -1) := by simp [Hid, matchP, hs', h5]
        obtain ⟨f5, g5⟩ := u8_ne (n := 45) h5 rfl
        clear hs' h5
        go_enter Tryz.func190, Tryz.ntmps190
        go_wp2
        go_ret
        exact ⟨ret_int H.out.symm, rfl⟩


set_option maxRecDepth 20000 in
set_option maxHeartbeats 400000 in
theorem index191_any (a b : Option Addr) (c d : Nat) (l m : Bytes) (w : World) (ha : HB w a l) (hc : l.length ≤ c) (hb : HB w b m) (hl : l.length ≤ 281474976710656) (hm : m.length ≤ 281474976710656) :
    Calls Tryz.prog 191 #[.slice a l.length c, .slice b m.length d] w fun e w' => e = .returned (.int .i64 (findI m l)) ∧ ∃ n, w' = w.drewN n := by
  have hs2 := fun n => run_str (w.drewN n) b m m.length d (hb.drewN n) rfl
  have H : Hid (findAt m l 0 = findI m l) := Lib.hid (findAt_zero m l)
  go_enter Tryz.func191, Tryz.ntmps191
  go_wp2
  go_loopw [5] (fun i wr => ∃ k : Nat, k ≤ l.length ∧ i = .int .i64 k ∧ Hid (findAt m l k = findI m l) ∧ ∃ n, wr = w.drewN n) (fun i _ => l.length + 1 - (intOf i).toNat)
  case atStart => exact ⟨0, Nat.zero_le _, rfl, H, 0, rfl⟩
  case round =>
    clear H
    obtain ⟨k, hk, rfl, H, n0, rfl⟩ := hrel
    by_cases hlt : k + m.length ≤ l.length
    · have hcut : ∀ w : World, (Instr.sliceAt 22 (.slice a l.length c) (some (.int .i64 (k : Int))) (some (.int .i64 ((k : Int) + (m.length : Int)))) none).run Tryz.prog w = .ok (.slice (cutAt a c k) m.length (c - k)) w := by
        intro w
        rw [run_cut_lh w a l.length c k ((k : Int) + m.length) (by omega) (by omega) (by omega)]
        rw [show ((k : Int) + m.length).toNat - (k : Int).toNat = m.length from by omega, show (k : Int).toNat = k from by omega]
      have hs1 := fun n => run_str (w.drewN n) (cutAt a c k) ((l.drop k).take m.length) m.length (c - k) (((ha.drop hc hk).take _).drewN n) (by rw [List.length_take, List.length_drop]; omega)
      have hwr : IntKind.i64.wrap ((k : Int) + (m.length : Int)) = (k : Int) + m.length := IntWalk.i64_in _ (by omega)
      clear ha hb
      cases hp : m.isPrefixOf (l.drop k) with
      | true =>
        have H1 := H.out
        rw [findAt_hit hp] at H1
        have he : ((l.drop k).take m.length == m) = true := by rw [← hp]; exact (isPrefixOf_take _ _ (by rw [List.length_drop]; omega)).symm
        clear H hp
        have H2 := Lib.hid H1
        clear H1
        generalize (l.drop k).take m.length = l' at he hs1
        obtain rfl := eq_of_beq he
        clear he
        go_wp2
        go_quiet (fail)
        clear hwr
        go_wp2
        go_ret
        exact ⟨ret_int H2.out, _, World.drewN_drewN ..⟩
      | false =>
        have H1 := H.out
        rw [findAt_miss hp hlt] at H1
        have hk1 : k + 1 ≤ l.length := by
          rcases Nat.lt_or_ge k l.length with h1 | h1
          · exact h1
          · have : m = [] := List.eq_nil_of_length_eq_zero (by omega)
            subst this
            simp at hp
        have he : ((l.drop k).take m.length == m) = false := by rw [← hp]; exact (isPrefixOf_take _ _ (by rw [List.length_drop]; omega)).symm
        clear H hp
        have H2 := Lib.hid H1
        clear H1
        generalize (l.drop k).take m.length = l' at he hs1
        go_wp2
        go_quiet (fail)
        clear hwr
        go_wp2
        go_roundw
        case rel => exact ⟨k + 1, hk1, by go_num, H2, _, rfl⟩
        case measure => simp [intOf]; omega
    · have H1 := H.out
      rw [findAt_short hk (by omega)] at H1
      clear H ha hb
      have H2 := Lib.hid H1
      clear H1
      go_wp2
      go_ret
      exact ⟨ret_int H2.out, _, rfl⟩

set_option maxRecDepth 20000 in
set_option maxHeartbeats 400000 in
theorem index153_any (a b : Option Addr) (c d : Nat) (l m : Bytes) (w : World) (ha : HB w a l) (hc : l.length ≤ c) (hb : HB w b m) (hl : l.length ≤ 281474976710656) (hm : m.length ≤ 281474976710656) :
    Calls Tryz.prog 153 #[.slice a l.length c, .slice b m.length d] w fun e w' => e = .returned (.int .i64 (findI m l)) ∧ ∃ n, w' = w.drewN n := by
  have hs2 := fun n => run_str (w.drewN n) b m m.length d (hb.drewN n) rfl
  have H : Hid (findAt m l 0 = findI m l) := Lib.hid (findAt_zero m l)
  go_enter Tryz.func153, Tryz.ntmps153
  go_wp2
  go_loopw [5] (fun i wr => ∃ k : Nat, k ≤ l.length ∧ i = .int .i64 k ∧ Hid (findAt m l k = findI m l) ∧ ∃ n, wr = w.drewN n) (fun i _ => l.length + 1 - (intOf i).toNat)
  case atStart => exact ⟨0, Nat.zero_le _, rfl, H, 0, rfl⟩
  case round =>
    clear H
    obtain ⟨k, hk, rfl, H, n0, rfl⟩ := hrel
    by_cases hlt : k + m.length ≤ l.length
    · have hcut : ∀ w : World, (Instr.sliceAt 22 (.slice a l.length c) (some (.int .i64 (k : Int))) (some (.int .i64 ((k : Int) + (m.length : Int)))) none).run Tryz.prog w = .ok (.slice (cutAt a c k) m.length (c - k)) w := by
        intro w
        rw [run_cut_lh w a l.length c k ((k : Int) + m.length) (by omega) (by omega) (by omega)]
        rw [show ((k : Int) + m.length).toNat - (k : Int).toNat = m.length from by omega, show (k : Int).toNat = k from by omega]
      have hs1 := fun n => run_str (w.drewN n) (cutAt a c k) ((l.drop k).take m.length) m.length (c - k) (((ha.drop hc hk).take _).drewN n) (by rw [List.length_take, List.length_drop]; omega)
      have hwr : IntKind.i64.wrap ((k : Int) + (m.length : Int)) = (k : Int) + m.length := IntWalk.i64_in _ (by omega)
      clear ha hb
      cases hp : m.isPrefixOf (l.drop k) with
      | true =>
        have H1 := H.out
        rw [findAt_hit hp] at H1
        have he : ((l.drop k).take m.length == m) = true := by rw [← hp]; exact (isPrefixOf_take _ _ (by rw [List.length_drop]; omega)).symm
        clear H hp
        have H2 := Lib.hid H1
        clear H1
        generalize (l.drop k).take m.length = l' at he hs1
        obtain rfl := eq_of_beq he
        clear he
        go_wp2
        go_quiet (fail)
        clear hwr
        go_wp2
        go_ret
        exact ⟨ret_int H2.out, _, World.drewN_drewN ..⟩
      | false =>
        have H1 := H.out
        rw [findAt_miss hp hlt] at H1
        have hk1 : k + 1 ≤ l.length := by
          rcases Nat.lt_or_ge k l.length with h1 | h1
          · exact h1
          · have : m = [] := List.eq_nil_of_length_eq_zero (by omega)
            subst this
            simp at hp
        have he : ((l.drop k).take m.length == m) = false := by rw [← hp]; exact (isPrefixOf_take _ _ (by rw [List.length_drop]; omega)).symm
        clear H hp
        have H2 := Lib.hid H1
        clear H1
        generalize (l.drop k).take m.length = l' at he hs1
        go_wp2
        go_quiet (fail)
        clear hwr
        go_wp2
        go_roundw
        case rel => exact ⟨k + 1, hk1, by go_num, H2, _, rfl⟩
        case measure => simp [intOf]; omega
    · have H1 := H.out
      rw [findAt_short hk (by omega)] at H1
      clear H ha hb
      have H2 := Lib.hid H1
      clear H1
      go_wp2
      go_ret
      exact ⟨ret_int H2.out, _, rfl⟩

end Go.Proofs.YtkbgnplknifmhaaGreatDoor
