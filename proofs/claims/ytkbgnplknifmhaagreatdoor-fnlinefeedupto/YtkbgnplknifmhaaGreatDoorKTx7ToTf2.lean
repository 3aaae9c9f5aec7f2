/-
  Walks and facts for the mailparts program.
-/
import Derived.Test.YtkbgnplknifmhaaGreatDoorKTx6
import Derived.Test.YtkbgnplknifmhaaGreatDoorKShelf1
import Derived.Test.YtkbgnplknifmhaaGreatDoorKTx4ToScan1
namespace Go.Proofs.YtkbgnplknifmhaaGreatDoor
open Go.RowKit

/-! ### bytes.TrimLeft (147) of spaces and tabs -/
set_option maxRecDepth 100000 in
theorem trimLeft_any (xb o c : Nat) (l : Bytes) (w : World) (h : HB w (some ⟨xb, o, none⟩) l) (hc : l.length ≤ c) (hc2 : c ≤ 9223372036854775807) :
    Calls Tryz.prog 147 #[.slice (some ⟨xb, o, none⟩) l.length c, .string ⟨#[32, 9]⟩] w fun e w' => ∃ a' c', e = .returned (.slice a' (l.dropWhile blankC).length c') ∧ HB w' a' (l.dropWhile blankC) ∧ Kp [] w w' := by
  have h27 : (Tryz.prog.info? (Tryz.lays8_ren.t 27)).map (fun i => (i.zero, i.size)) = some (some (.agg (Array.replicate 256 (.bool false))), 256) := by kernel_rfl
  have hcon := Any.bytes_TrimLeft_ascii Tryz.lays8 (zero_of_info h27).1 (zero_of_info h27).2 (some ⟨xb, o, none⟩) l.length c l ⟨#[32, 9]⟩ w rfl hc hc2
    (fun _ => ⟨xb, o, rfl, fun i hi => by have := h.cell i hi; rwa [at_mk] at this⟩) (by decide) (fun j b hb => by
      have : b ∈ [(32 : UInt8), 9] := List.mem_of_getElem? hb
      simp at this
      rcases this with rfl | rfl <;> decide)
  refine hcon.mono ?_
  rintro e w' ⟨rfl, hB⟩
  have e1 : Lib.trimLeftS l [32, 9] = l.dropWhile blankC := by
    unfold Lib.trimLeftS
    congr 1
    funext x
    rw [Bool.eq_iff_iff]
    simp [blankC]
  rw [e1]
  have hle : (l.dropWhile blankC).length ≤ l.length := (List.dropWhile_suffix (l := l) blankC).length_le
  have hK : Kp [] w w' := Kp.of_below hB
  unfold Lib.leftV
  by_cases h0 : l.length - (l.dropWhile blankC).length = l.length
  · rw [if_pos h0]
    by_cases hl : l.length = 0
    · have : l = [] := List.eq_nil_of_length_eq_zero hl
      subst this
      exact ⟨none, 0, rfl, HB.nil _ _, hK⟩
    · have : (l.dropWhile blankC).length = 0 := by omega
      have e2 := List.eq_nil_of_length_eq_zero this
      rw [e2]
      exact ⟨none, 0, rfl, HB.nil _ _, hK⟩
  · rw [if_neg h0]
    unfold Lib.fromV
    have e3 : l.dropWhile blankC = l.drop (l.length - (l.dropWhile blankC).length) := by
      obtain ⟨t, ht⟩ := List.dropWhile_suffix (l := l) blankC
      have h4 := congrArg List.length ht
      rw [List.length_append] at h4
      conv => rhs; rw [← ht]
      rw [show (t ++ List.dropWhile blankC l).length - (List.dropWhile blankC (t ++ List.dropWhile blankC l)).length = t.length from by rw [ht]; omega, List.drop_left]
    have h5 := (h.kp (S := []) hK (by simp)).drop (c := c) (k := l.length - (l.dropWhile blankC).length) hc (by omega)
    rw [← e3] at h5
    refine ⟨_, c - (l.length - (l.dropWhile blankC).length), ?_, h5, hK⟩
    rw [show l.length - (l.length - (l.dropWhile blankC).length) = (l.dropWhile blankC).length from by omega]
    rfl

attribute [local go_sem ↓] Go.wp_at_zero Go.wp_at_succ
section
variable {w : World} {E : Value} {R : RS} {tb : Nat} {v : Value} {bl : Bytes} {r n : Nat} {bs src : Bytes} {lb lr : Int} {whole : Bytes}
set_option maxRecDepth 20000 in
set_option maxHeartbeats 2000000 in
/-- The empty line behind a header. -/
theorem cont_end (h : TSx w E R tb v bl r n bs src lb lr whole) (l rest : Bytes) (hw : whole = l ++ 10 :: rest) (hl : (10 : UInt8) ∉ l) (hl2 : l.length ≤ 2000) (hd : dropCR l = []) (lim : Int) (hlim : 0 ≤ lim) :
    Calls Tryz.prog 143 #[.pointer (some ⟨tb, 0, none⟩), .int .i64 lim, .func (.func 144) #[] #[]] w fun e w' => ∃ a c r1 n1 bs1 src1 lb1 lr1, e = .returned (.tuple #[.slice a 0 c, .nilIface]) ∧ TSx w' E R tb v bl r1 n1 bs1 src1 lb1 lr1 rest ∧ Kp R.own w w' := by
  subst hw
  have hcon := readLineSlice_hit h.tx h.br h.gv h.rg l rest hl (by omega) h.eq lim (.inr (by rw [hd]; simpa using hlim))
  rw [hd] at hcon
  simp only [List.length_nil] at hcon
  have H := Lib.hid h
  clear h hl hd
  have hfn := func_nil
  go_enter Tryz.func143, Tryz.ntmps143
  go_wp2_with fail
  refine hcon.mono ?_
  rintro e w1 ⟨r1, n1, bs1, src1, rfl, hS⟩
  have hts := H.out.next hS.kp hS.br hS.rest
  have HT := Lib.hid hts
  have HK := Lib.hid hS.kp
  clear hts hcon hS H
  go_wp2
  go_ret2
  exact ⟨_, _, _, _, _, _, _, _, rfl, HT.out, HK.out⟩
end
end Go.Proofs.YtkbgnplknifmhaaGreatDoor
namespace Go.Proofs.YtkbgnplknifmhaaGreatDoor
open Go.RowKit

theorem TSx.kp {w w' : World} {E : Value} {R : RS} {tb : Nat} {v : Value} {bl : Bytes} {r n : Nat} {bs src : Bytes} {lb lr : Int} {whole : Bytes} {S : List Nat} (h : TSx w E R tb v bl r n bs src lb lr whole) (k : Kp S w w')
    (h1 : ∀ b ∈ R.own, b ∉ S) (h2 : R.da ∉ S) (h3 : tb ∉ S) (h4 : ∀ b, v.ownBlock = some b → b ∉ S) (h5 : ∀ b ∈ S, 15 ≤ b) : TSx w' E R tb v bl r n bs src lb lr whole :=
  ⟨h.tx.kp k h3, h.ob.kp k (fun b hb e => h4 b e hb), h.br.kp k h1 h2 (fun e => by have := h5 _ e; omega), h.eq, h.gv.kp k h5, h.rg, h.tn, h.td, h.tg, h.vo, Nat.lt_of_lt_of_le h.dl k.size⟩
theorem putAt_size (cs : Array Value) (o : Nat) (l : Bytes) (h : o + l.length ≤ cs.size) : (putAt cs o l).size = cs.size := by
  unfold putAt; simp; omega
theorem putAt_take (cs : Array Value) (l kv : Bytes) (hk : HasB cs 0 kv) (hl : l.length ≤ kv.length) : (putAt cs 0 l).toList.take kv.length = (l ++ kv.drop l.length).map B8 := by
  have e := hk.1
  unfold putAt at e ⊢
  simp only [List.take_zero, List.nil_append, Nat.zero_add] at e ⊢
  have e2 := congrArg Array.toList e
  simp only at e2
  rw [e2, List.drop_append_of_le_length (by simpa using hl), ← List.append_assoc, List.take_append_of_le_length (by simp; omega), List.take_of_length_le (by simp; omega), List.map_append, List.map_drop]
theorem encB_splice (bs : Bytes) (o : Nat) (l : Bytes) : putAt (encB bs) o l = encB (spliceB bs o l) := by
  apply Array.ext'
  unfold putAt encB spliceB
  simp [List.map_take, List.map_drop]
theorem win_splice (bs : Bytes) (o : Nat) (l : Bytes) (r n : Nat) (h : o + l.length ≤ r) (hb : o + l.length ≤ bs.length) : win (spliceB bs o l) r n = win bs r n := by
  unfold win spliceB
  have e : (List.take o bs ++ l).length = o + l.length := by simp; omega
  rw [List.drop_append, List.drop_of_length_le (by omega), List.nil_append, e, List.drop_drop, show o + l.length + (r - (o + l.length)) = r from by omega]

/-- The line's own bytes are turned: the reader goes on as it was. -/
theorem TSx.edit {w w' : World} {E : Value} {R : RS} {tb : Nat} {v : Value} {bl : Bytes} {r n : Nat} {bs src : Bytes} {lb lr : Int} {whole : Bytes} {xb o c : Nat} {cs : Array Value} {kv : Bytes}
    (h : TSx w E R tb v bl r n bs src lb lr whole) (ha : LineAt w R r bs v bl xb o c cs kv) (l : Bytes) (hl : l.length ≤ kv.length) (hb : Blk w' xb (putAt cs o l) 5) (k : Kp [xb] w w') : ∃ bl' bs', TSx w' E R tb v bl' r n bs' src lb lr whole := by
  obtain ⟨⟨d1, d2, d3⟩, ⟨d4, d5⟩, d6⟩ := h.br.d
  rcases ha.at_ with ⟨rfl, rfl, hor⟩ | ⟨hv, rfl, hbl⟩
  · have hlen := h.br.len
    have hfit := h.br.fit
    rw [encB_splice] at hb
    have hS0 : (0 : Nat) ∉ [R.bb] := by simp; exact fun e => h.br.gl R.bb (by simp [RS.own]) e.symm
    refine ⟨bl, spliceB bs o l, ⟨h.tx.kp k (by simp; intro e; exact h.tn (by rw [e]; simp [RS.own])), h.ob.kp k (fun b hb' e => by simp at hb'; subst hb'; exact (h.vo _ e).1 (by simp [RS.own])), ?_, ?_, h.gv.kp k (by intro b hb'; simp at hb'; subst hb'; exact h.rg _ (by simp [RS.own])), h.rg, h.tn, h.td, h.tg, h.vo, Nat.lt_of_lt_of_le h.dl k.size⟩⟩
    · exact ⟨h.br.blk.kp k (by simp; exact d1), hb, by rw [length_spliceB _ _ _ (by omega)]; exact hlen, hfit, h.br.below.kp k (by simp; exact fun e => d4 e.symm) (by simp; exact fun e => d5 e.symm) (by intro b hb' _; simp at hb'; subst hb'; exact h.br.far (by simp [RS.own])), h.br.ap, h.br.gl, h.br.er, cell_kp h.br.eof k hS0, h.br.isE, h.br.dn⟩
    · rw [win_splice _ _ _ _ _ (by omega) (by omega)]; exact h.eq
  · subst hv; subst hbl
    have hvo := h.vo xb rfl
    refine ⟨l ++ bl.drop l.length, bs, ⟨h.tx.kp k (by simp; exact fun e => hvo.2.2.1 e.symm), ?_, h.br.kp k (by intro b hb' e; simp at e; subst e; exact hvo.1 hb') (by simp; exact fun e => hvo.2.1 e.symm) (by simp; omega), h.eq, h.gv.kp k (by intro b hb'; simp at hb'; subst hb'; exact hvo.2.2.2), h.rg, h.tn, h.td, h.tg, h.vo, Nat.lt_of_lt_of_le h.dl k.size⟩⟩
    have hll : (l ++ bl.drop l.length).length = bl.length := by simp; omega
    rcases h.ob.2 with ⟨h0, _⟩ | ⟨g, cap, cur, hv, hbb, hg, hnc, hcm, hcs, htake⟩
    · injection h0 with h0; cases h0
    · injection hv with e1 e2 e3
      injection e1 with e1
      injection e1 with e1
      subst e1; subst e3
      have hcc : cur = cs := by
        have := ha.blk
        unfold Blk at this
        rw [hg] at this
        injection this with this
        injection this
      subst hcc
      refine ⟨by simp, .inr ⟨xb, c, putAt cur 0 l, by rw [hll], hbb, hb, by omega, hcm, ?_, ?_⟩⟩
      · rw [putAt_size _ _ _ (by have := ha.has.2; omega)]; exact hcs
      · rw [Nat.mul_one, hll, putAt_take cur l bl ha.has hl]
end Go.Proofs.YtkbgnplknifmhaaGreatDoor
namespace Go.Proofs.YtkbgnplknifmhaaGreatDoor
open Go.RowKit
attribute [local go_sem ↓] Go.wp_at_zero Go.wp_at_succ
/-! ### A line of a header that goes on in another one: the reader's row on the way -/
theorem letter_blank (c : UInt8) (hc : blankC c = true) (w : World) : Calls Tryz.prog 150 #[.int .u8 c.toNat] w fun e w' => e = .returned (.bool false) ∧ w = w' := by
  have h : c = 32 ∨ c = 9 := by simpa [blankC] using hc
  rcases h with rfl | rfl
  · have e : (((32 : UInt8).toNat : Nat) : Int) = 32 := rfl
    rw [e]
    go_enter Tryz.func150, Tryz.ntmps150
    go_wp2
    go_ret
    exact ⟨rfl, rfl⟩
  · have e : (((9 : UInt8).toNat : Nat) : Int) = 9 := rfl
    rw [e]
    go_enter Tryz.func150, Tryz.ntmps150
    go_wp2
    go_ret
    exact ⟨rfl, rfl⟩
theorem Kp.via {S S' : List Nat} {a b c : World} (h : Kp S a b) (k : Kp S' b c) (hs : ∀ x ∈ S', x ∈ S ∨ a.heap.size ≤ x) : Kp S a c :=
  ⟨k.os.trans h.os, k.tape.trans h.tape, k.output.trans h.output, Nat.le_trans h.size k.size, fun i hi hn => by
    rw [k.block i (Nat.lt_of_lt_of_le hi h.size) (fun e => by rcases hs i e with h1 | h1; exact hn h1; omega)]
    exact h.block i hi hn⟩
/-- The reader's own row holds kv. -/
structure CS (w wx : World) (E : Value) (R : RS) (tb : Nat) (v0 : Value) (kv : Bytes) (a : Option Addr) (c : Nat) (whole' : Bytes) : Prop where
  br : ∃ r n bs src lb lr, BRx wx E R r n bs src .nilIface lb lr ∧ win bs r n ++ src = whole'
  ob : OB wx 0 (.slice a kv.length c) kv
  tx : TX wx tb R.rb (.slice a kv.length c)
  kp : Kp (TS R tb v0) w wx
  or_ : ∀ b, (Value.slice a kv.length c).ownBlock = some b → v0.ownBlock = some b ∨ w.heap.size ≤ b
  nt : ∀ b, (Value.slice a kv.length c).ownBlock = some b → b ∉ R.own ∧ b ≠ R.da ∧ b ≠ tb ∧ 15 ≤ b
  gv : GV wx
section
variable {w wx : World} {E : Value} {R : RS} {tb : Nat} {v : Value} {bl kv : Bytes} {r n : Nat} {bs src : Bytes} {lb lr : Int} {whole whole' : Bytes} {a : Option Addr} {c : Nat}
theorem TSx.nts (H : TSx w E R tb v bl r n bs src lb lr whole) {b : Nat} (h : v.ownBlock = some b ∨ w.heap.size ≤ b) : b ∉ R.own ∧ b ≠ R.da ∧ b ≠ tb ∧ 15 ≤ b := by
  rcases h with h | h
  · exact H.vo b h
  · have h1 := H.br.lts
    have h2 := H.dl
    have h3 : tb < w.heap.size := Blk.lt H.tx
    have h4 := H.tg
    exact ⟨fun e => by have := h1 b e; omega, by omega, by omega, by omega⟩
/-- The reader moves on in its buffer. -/
theorem CS.move {wy : World} (h : CS w wx E R tb v kv a c whole') (H : TSx w E R tb v bl r n bs src lb lr whole) (k : Kp R.own wx wy) {r1 n1 : Nat} {bs1 src1 : Bytes} {lb1 lr1 : Int} {whole1 : Bytes} (hb : BRx wy E R r1 n1 bs1 src1 .nilIface lb1 lr1) (he : win bs1 r1 n1 ++ src1 = whole1) :
    CS w wy E R tb v kv a c whole1 :=
  ⟨⟨r1, n1, bs1, src1, lb1, lr1, hb, he⟩, h.ob.kp k (fun b hb e => (h.nt b e).1 hb), h.tx.kp k H.tn, h.kp.trans k.ts, h.or_, h.nt, h.gv.kp k H.rg⟩
/-- More is appended to the row. -/
theorem CS.app {wy w7 : World} {a' : Option Addr} {c' : Nat} {x : Bytes} (h : CS w wx E R tb v kv a c whole') (H : TSx w E R tb v bl r n bs src lb lr whole) (hy : Kp [] wx wy) (hg : wy.grownBy w7 (Value.slice a kv.length c).ownBlock)
    (hob : OB w7 0 (.slice a' (kv ++ x).length c') (kv ++ x)) (hn : NewOr wy (.slice a kv.length c) (.slice a' (kv ++ x).length c')) :
    CS w (w7.setCell ⟨tb, 2, none⟩ (.slice a' (kv ++ x).length c')) E R tb v (kv ++ x) a' c' whole' ∧ TX w7 tb R.rb (.slice a kv.length c) := by
  have hwy : w.heap.size ≤ wy.heap.size := Nat.le_trans h.kp.size hy.size
  have hor : ∀ b, (Value.slice a' (kv ++ x).length c').ownBlock = some b → v.ownBlock = some b ∨ w.heap.size ≤ b := fun b hb => by
    rcases hn with hn | hn
    · rw [hn] at hb; exact h.or_ b hb
    · exact .inr (Nat.le_trans hwy (hn b hb))
  have hnt := fun b hb => H.nts (hor b hb)
  have hS1 : ∀ b ∈ (Value.slice a kv.length c).ownBlock.toList, b ∉ R.own ∧ b ≠ R.da ∧ b ≠ tb ∧ 15 ≤ b := fun b hb => h.nt b (by simpa using hb)
  have hK7 : Kp (Value.slice a kv.length c).ownBlock.toList wx w7 := (hy.mono (by simp)).grown hg (by intro k hk; left; simp [hk])
  have htx7 : TX w7 tb R.rb (.slice a kv.length c) := h.tx.kp hK7 (fun e => (hS1 tb e).2.2.1 rfl)
  have hK8 : Kp (tb :: (Value.slice a kv.length c).ownBlock.toList) wx (w7.setCell ⟨tb, 2, none⟩ (.slice a' (kv ++ x).length c')) := (hK7.mono (fun b hb _ => by simp at hb; simp [hb])).setCell (.inl (by simp)) _
  have hS8 : ∀ b ∈ tb :: (Value.slice a kv.length c).ownBlock.toList, b ∉ R.own ∧ b ≠ R.da ∧ 15 ≤ b := fun b hb => by
    rcases List.mem_cons.1 hb with rfl | hb
    · exact ⟨H.tn, H.td, H.tg⟩
    · exact ⟨(hS1 b hb).1, (hS1 b hb).2.1, (hS1 b hb).2.2.2⟩
  obtain ⟨r1, n1, bs1, src1, lb1, lr1, hb, he⟩ := h.br
  refine ⟨⟨⟨r1, n1, bs1, src1, lb1, lr1, hb.kp hK8 (fun b hb e => (hS8 b e).1 hb) (fun e => (hS8 _ e).2.1 rfl) (fun e => by have := (hS8 _ e).2.2; omega), he⟩, ?_, Blk.set htx7 2 _, ?_, hor, hnt, h.gv.kp hK8 (fun b hb => (hS8 b hb).2.2)⟩, htx7⟩
  · exact hob.kp (S := [tb]) ((Kp.refl _ _).setCell (.inl (by simp)) _) (by intro b hb e; simp at hb; subst hb; exact (hnt _ e).2.2.1 rfl)
  · refine h.kp.via hK8 (fun b hb => ?_)
    rcases List.mem_cons.1 hb with rfl | hb
    · exact .inl TS.tb
    · rcases h.or_ b (by simpa using hb) with h1 | h1
      · exact .inl (TS.v h1)
      · exact .inr h1
theorem CS.fin (h : CS w wx E R tb v kv a c whole') (H : TSx w E R tb v bl r n bs src lb lr whole) (hkv : kv ≠ []) : ∃ g cur r2 n2 bs2 src2 lb2 lr2, a = some ⟨g, 0, none⟩ ∧ ContPost w wx E R tb v kv whole' (.slice a kv.length c) kv r2 n2 bs2 src2 lb2 lr2 g 0 c cur := by
  obtain ⟨g, cur, e1, e2, e3⟩ := h.ob.line hkv
  obtain ⟨r1, n1, bs1, src1, lb1, lr1, hb, he⟩ := h.br
  obtain ⟨_, _, e4, hc, _⟩ := h.ob.len
  injection e4 with _ _ e4
  exact ⟨g, cur, r1, n1, bs1, src1, lb1, lr1, e1, ⟨⟨h.tx, h.ob, hb, he, h.gv, H.rg, H.tn, H.td, H.tg, h.nt, Nat.lt_of_lt_of_le H.dl h.kp.size⟩, ⟨e2, e3, by omega, h.ob.cmax, .inr ⟨by rw [e1], rfl, rfl⟩⟩, h.kp, h.or_⟩⟩
end
end Go.Proofs.YtkbgnplknifmhaaGreatDoor
namespace Go.Proofs.YtkbgnplknifmhaaGreatDoor
open Go.RowKit
attribute [local go_sem ↓] Go.wp_at_zero Go.wp_at_succ
section
variable {w : World} {E : Value} {R : RS} {tb : Nat} {v : Value} {bl : Bytes} {r n : Nat} {bs src : Bytes} {lb lr : Int} {whole : Bytes}
set_option maxRecDepth 20000 in
set_option maxHeartbeats 8000000 in
theorem cont_folded (h : TSx w E R tb v bl r n bs src lb lr whole) (l sp l2 : Bytes) (c0 c1 b0 : UInt8) (rest0 rest : Bytes) (hw : whole = l ++ 10 :: c0 :: rest0) (hr0 : rest0 = sp ++ (b0 :: l2 ++ 10 :: c1 :: rest)) (hl : (10 : UInt8) ∉ l) (hl2 : l.length ≤ 1000)
    (hne : 0 < (dropCR l).length) (hb0 : blankC (byt (dropCR l) 0) = false) (hcol : (58 : UInt8) ∈ dropCR l) (hc0 : blankC c0 = true) (hsp : sp.all blankC = true) (hspl : sp.length ≤ 1000) (hbb : blankC b0 = false) (hm : (10 : UInt8) ∉ b0 :: l2) (hm2 : (b0 :: l2).length ≤ 1000)
    (hne2 : 0 < (dropCR (b0 :: l2)).length) (hb2 : blankC (byt (dropCR (b0 :: l2)) 0) = false) (hc1 : blankC c1 = false) (lim : Int) (hlim : 5000 ≤ lim) (hlim2 : lim ≤ 4611686018427387904) :
    Calls Tryz.prog 143 #[.pointer (some ⟨tb, 0, none⟩), .int .i64 lim, .func (.func 144) #[] #[]] w fun e w' => ∃ v1 bl1 r1 n1 bs1 src1 lb1 lr1 xb o c cs,
      e = .returned (.tuple #[.slice (some ⟨xb, o, none⟩) (trB (dropCR l) ++ 32 :: trB (dropCR (b0 :: l2))).length c, .nilIface]) ∧ ContPost w w' E R tb v (trB (dropCR l) ++ 32 :: trB (dropCR (b0 :: l2))) (c1 :: rest) v1 bl1 r1 n1 bs1 src1 lb1 lr1 xb o c cs := by
  subst hw
  have hll : (dropCR l).length ≤ l.length := by
    rcases dropCR_cases l with ⟨m, hm, hd⟩ | ⟨_, hd⟩
    · rw [hd]; have := congrArg List.length hm; simp at this; omega
    · rw [hd]; omega
  have hpre : ∃ s, l ++ [10] = dropCR l ++ s := by
    rcases dropCR_cases l with ⟨m, hm, hd⟩ | ⟨_, hd⟩
    · rw [hd]; exact ⟨[13, 10], by rw [hm]; simp⟩
    · rw [hd]; exact ⟨_, rfl⟩
  have hcon := readLineSlice_hit h.tx h.br h.gv h.rg l (c0 :: rest0) hl (by omega) h.eq lim (.inr (by omega))
  obtain ⟨va, vc, hv, hvl, hvb, hvh, hvo⟩ := h.ob.len
  subst hv
  have hz : (((dropCR l).length : Int) == 0) = false := by rw [beq_eq_false_iff_ne]; omega
  have H := Lib.hid h
  have HP := Lib.hid hpre
  have HB0 := Lib.hid hb0
  have HC := Lib.hid hcol
  have HC0 := Lib.hid hc0
  have HR0 := Lib.hid (And.intro hr0 (And.intro hsp (And.intro hbb (And.intro hm (And.intro hne2 (And.intro hb2 hc1))))))
  have h10 : ¬ (c0.toNat : Int) = 10 := fun e => by rw [(u8_iff _ 10).1 e] at hc0; simp [blankC] at hc0
  have h13 : ¬ (c0.toNat : Int) = 13 := fun e => by rw [(u8_iff _ 13).1 e] at hc0; simp [blankC] at hc0
  obtain ⟨i1, i2⟩ := i_not h10
  obtain ⟨i3, i4⟩ := i_not h13
  clear h hl hpre hb0 hcol hc0 hr0 hsp hbb hm hne2 hb2 hc1 h10 h13
  generalize dropCR l = ll at *
  have hfn := func_nil
  go_enter Tryz.func143, Tryz.ntmps143
  go_wp2_with fail
  refine hcon.mono ?_
  rintro e w1 ⟨r1, n1, bs1, src1, rfl, hS⟩
  have hfit := hS.br.fit
  have hlen := hS.br.len
  have hll10 : (l ++ [10]).length = l.length + 1 := by simp
  rw [hll10] at hfit
  have hline : win bs1 r1 ll.length = ll := by
    obtain ⟨s, hs⟩ := HP.out
    have e := hS.line
    rw [hs] at e
    rw [win_pre e (Nat.le_refl _), List.take_of_length_le (Nat.le_refl _)]
  have hhb := hS.br.hb_at r1 ll.length (by omega)
  rw [hline, bbAt_eq _ _ (by omega)] at hhb
  rw [bbAt_eq _ _ (by omega)]
  have hco := colon_any (some ⟨R.bb, r1, none⟩) (4096 - r1) ll w1 hhb HC.out
  have htr := trim_any (some ⟨R.bb, r1, none⟩) (4096 - r1) ll w1 hhb (by omega) (by omega) hne HB0.out
  clear hcon
  go_wp2_with fail
  refine hco.mono ?_
  rintro e w' ⟨rfl, rfl⟩
  clear hco
  have htx1 := H.out.tx.kp hS.kp H.out.tn
  have k : ∀ i, w1.cell? ⟨tb, i, none⟩ = (#[.pointer (some ⟨R.rb, 0, none⟩), .pointer none, .slice va bl.length vc] : Array Value)[i]? := htx1.cell
  have hbf := buffered_any hS.br
  go_wp2_with fail
  refine hbf.mono ?_
  rintro e w2 ⟨rfl, j, rfl⟩
  have hbr2 := hS.br.drewN j
  rw [hll10] at hbr2
  go_upto_if 42 with (fail)
  have hwk : win bs1 r1 (trB ll).length = trB ll := by
    obtain ⟨q, h1, h2, h3⟩ := trB_pre ll
    rw [h3, win_take bs1 r1 ll.length q h2, hline, h1]
  have hc0b : Hid (0 < n1 → byt (win bs1 (r1 + (l.length + 1)) n1) 0 = c0) := by
    intro hn
    have hr := hS.rest
    rw [hll10] at hr
    have e := congrArg (fun l => byt l 0) hr
    have hwl : (win bs1 (r1 + (l.length + 1)) n1).length = n1 := win_len (by omega)
    have e2 : byt (win bs1 (r1 + (l.length + 1)) n1 ++ src1) 0 = byt (win bs1 (r1 + (l.length + 1)) n1) 0 := by
      unfold byt; rw [List.getD_eq_getElem?_getD, List.getElem?_append_left (by omega)]; rfl
    rw [← e2, hr]; rfl
  have HS := Lib.hid hS
  clear hS hbf
  go_cut [11, 12, 42] from 43 to 84 (fun v11 v12 v42 wx => AfterPeek w1 wx E R (r1 + (l.length + 1)) n1 bs1 src1)
  case first =>
    by_cases hn : 1 < n1
    · have hdec : decide ((1 : Int) < (n1 : Int)) = true := by simp; omega
      have hpk := peek_there hbr2 2 (by omega)
      have e2 : ((2 : Nat) : Int) = 2 := rfl
      rw [e2, bbAt_eq _ _ (by omega)] at hpk
      rw [hdec]
      go_wp2_with fail
      refine hpk.mono ?_
      rintro e w4 ⟨rfl, hbr4, hK4⟩
      have hK4' : Kp [R.rb] w1 w4 := ((Kp.refl _ w1).drewN' j).trans hK4
      have hix0 := hbr4.ixk (r1 + (l.length + 1)) 2 (4096 - (r1 + (l.length + 1))) 0 (by omega) (by omega) 0 rfl
      have hix1 := hbr4.ixk (r1 + (l.length + 1)) 2 (4096 - (r1 + (l.length + 1))) 1 (by omega) (by omega) 1 rfl
      rw [bbAt_eq _ _ (by omega)] at hix0 hix1
      have hcl0 := hbr4.byte (r1 + (l.length + 1)) 2 0 (by omega) (by omega) (c := c0) (by rw [win_take _ _ n1 2 (by omega), byt_take _ _ _ (by omega)]; exact hc0b.out (by omega))
      have hcl1 := hbr4.byte (r1 + (l.length + 1)) 2 1 (by omega) (by omega) (c := byt (win bs1 (r1 + (l.length + 1)) 2) 1) rfl
      rw [Nat.add_zero] at hix0 hcl0
      have hlet := letter_blank c0 HC0.out w4
      have hap : Hid (AfterPeek w1 w4 E R (r1 + (l.length + 1)) n1 bs1 src1) := ⟨_, _, hbr4, hK4'⟩
      generalize byt (win bs1 (r1 + (l.length + 1)) 2) 1 = cx at hcl1
      clear hbr4 hK4' hK4 hpk hdec hbr2 htr k HS
      go_wp2_with fail
      refine hlet.mono ?_
      rintro e w' ⟨rfl, rfl⟩
      clear hlet
      go_wp2_with fail
      go_meet
      exact hap.out
    · have hdec : decide ((1 : Int) < (n1 : Int)) = false := by simp; omega
      have hap : Hid (AfterPeek w1 (w1.drewN j) E R (r1 + (l.length + 1)) n1 bs1 src1) := ⟨_, _, hbr2, (Kp.refl _ w1).drewN' j⟩
      rw [hdec]
      go_wp2_with fail
      go_meet
      exact hap.out
  case rest =>
    obtain ⟨lb3, lr3, hbr3, hK3⟩ := hcut
    have hK : Kp R.own w wc := HS.out.kp.trans hK3.rb_own
    have htx3 := H.out.tx.kp hK H.out.tn
    have k3 : ∀ i, wc.cell? ⟨tb, i, none⟩ = (#[.pointer (some ⟨R.rb, 0, none⟩), .pointer none, .slice va bl.length vc] : Array Value)[i]? := htx3.cell
    have f3 := Blk.free htx3
    have hhb3 : HB wc (some ⟨R.bb, r1, none⟩) ll := by
      have := hbr3.hb_at r1 ll.length (by omega)
      rwa [hline, bbAt_eq _ _ (by omega)] at this
    have hhbT : HB wc.drew (some ⟨R.bb, r1, none⟩) (trB ll) := by
      obtain ⟨q, h1, h2, h3⟩ := trB_pre ll
      rw [h1]; exact (hhb3.take q).drew
    have htr3 := trim_any (some ⟨R.bb, r1, none⟩) (4096 - r1) ll wc.drew hhb3.drew (by omega) (by omega) hne HB0.out
    have hOB3 : OB wc 0 (.slice va bl.length vc) bl := H.out.ob.kp hK (fun b hb e => (H.out.vo b e).1 hb)
    have hOB0 : OB wc.drew 0 (.slice va 0 vc) [] := (OB.zero hOB3).kp (S := []) (Kp.refl _ _).drew (by simp)
    have hTl : (trB ll).length ≤ 4096 := by obtain ⟨q, h1, h2, h3⟩ := trB_pre ll; omega
    have htbv : tb ∉ (Value.slice va 0 vc).ownBlock.toList := by
      intro e
      have e2 : (Value.slice va 0 vc).ownBlock = some tb := by simpa using e
      rw [show (Value.slice va 0 vc).ownBlock = (Value.slice va bl.length vc).ownBlock from by cases va <;> rfl] at e2
      exact (H.out.vo _ e2).2.2.1 rfl
    have hvoz : (Value.slice va 0 vc).ownBlock = (Value.slice va bl.length vc).ownBlock := by cases va <;> rfl
    have htlt : tb < wc.heap.size := Blk.lt htx3
    have hfin5 : ∀ a5 c5 w5, OB w5 0 (.slice a5 (trB ll).length c5) (trB ll) → TX w5 tb R.rb (.slice va bl.length vc) → Kp (Value.slice va 0 vc).ownBlock.toList wc w5 → NewOr wc.drew (.slice va 0 vc) (.slice a5 (trB ll).length c5) →
        OB (w5.setCell ⟨tb, 2, none⟩ (.slice a5 (trB ll).length c5)) 0 (.slice a5 (trB ll).length c5) (trB ll) ∧ TX (w5.setCell ⟨tb, 2, none⟩ (.slice a5 (trB ll).length c5)) tb R.rb (.slice a5 (trB ll).length c5) ∧ Kp (tb :: (Value.slice va bl.length vc).ownBlock.toList) wc (w5.setCell ⟨tb, 2, none⟩ (.slice a5 (trB ll).length c5)) ∧ (∀ b, (Value.slice a5 (trB ll).length c5).ownBlock = some b → (Value.slice va bl.length vc).ownBlock = some b ∨ wc.heap.size ≤ b) ∧ ((Value.slice a5 (trB ll).length c5).ownBlock = some tb → False) := by
      intro a5 c5 w5 hOB5 htx5 hK5 hN5
      have hor : ∀ b, (Value.slice a5 (trB ll).length c5).ownBlock = some b → (Value.slice va bl.length vc).ownBlock = some b ∨ wc.heap.size ≤ b := by
        intro b hb
        rcases hN5 with h | h
        · left; rw [← hvoz, ← h]; exact hb
        · right; exact h b hb
      have hntb : (Value.slice a5 (trB ll).length c5).ownBlock = some tb → False := by
        intro e
        rcases hor tb e with h | h
        · exact (H.out.vo _ h).2.2.1 rfl
        · omega
      refine ⟨?_, ?_, ?_, hor, hntb⟩
      · exact hOB5.kp (S := [tb]) ((Kp.refl _ _).setCell (.inl (by simp)) _) (by intro b hb e; simp at hb; subst hb; exact hntb e)
      · exact Blk.set htx5 2 _
      · rw [← hvoz]; exact (hK5.mono (fun b hb _ => by simp at hb; simp [hb])).setCell (.inl (by simp)) _
    clear k hbr2 htr htx1 hhb
    go_wp2
    go_cut [] from 85 to 95 (fun wx => AppPost wc wx R tb (.slice va bl.length vc) (trB ll))
    case first =>
      go_region_law (first | (refine step_append_OB rfl (.tmp 90) (.tmp 92) rfl 0 (.slice va 0 vc) [] (by rfl) hOB0 (some ⟨R.bb, r1, none⟩) (trB ll).length (4096 - r1) (trB ll) (by rfl) hhbT rfl (by simp) (by simp; omega) (Nat.zero_le _) ?_; intro v5 w5 hOB5 hG5 hN5; obtain ⟨a5, c5, hv5, hc5, hb5, hh5, ho5⟩ := hOB5.len; subst hv5; have hK5 : Kp (Value.slice va 0 vc).ownBlock.toList wc w5 := (Kp.refl _ wc).drew.grown hG5 (by intro k hk; left; simp [hk]); have htx5 : TX w5 tb R.rb (.slice va bl.length vc) := htx3.kp hK5 htbv; have k5 : ∀ i, w5.cell? ⟨tb, i, none⟩ = (#[.pointer (some ⟨R.rb, 0, none⟩), .pointer none, .slice va bl.length vc] : Array Value)[i]? := Blk.cell htx5; have f5 := Blk.free htx5) | (go_simp; go_at_call 151; refine htr3.mono ?_; rintro e w' ⟨rfl, rfl⟩))
      all_goals
        go_wp2_with fail
        go_meet
        rw [List.nil_append] at *
        exact ⟨a5, c5, hc5, hfin5 a5 c5 w5 hOB5 htx5 hK5 hN5⟩
    case rest =>
      rename_i w0
      obtain ⟨a5, c5, hc5, hOB5, htx5, hK5, hor5, hnt5⟩ := hcut
      have hcs : CS w wc E R tb (.slice va bl.length vc) (trB ll) a5 c5 (c0 :: rest0) := by
        have hSd : ∀ b ∈ tb :: (Value.slice va bl.length vc).ownBlock.toList, b ∉ R.own ∧ b ≠ R.da ∧ 15 ≤ b := by
          intro b e
          simp at e
          rcases e with rfl | e
          · exact ⟨H.out.tn, H.out.td, H.out.tg⟩
          · exact ⟨(H.out.vo b e).1, (H.out.vo b e).2.1, (H.out.vo b e).2.2.2⟩
        have hbr5 := hbr3.kp hK5 (fun b hb e => (hSd b e).1 hb) (fun e => (hSd _ e).2.1 rfl) (fun e => by have := (hSd _ e).2.2; omega)
        have hor : ∀ b, (Value.slice a5 (trB ll).length c5).ownBlock = some b → (Value.slice va bl.length vc).ownBlock = some b ∨ w.heap.size ≤ b := fun b hb => by
          rcases hor5 b hb with h | h
          · exact .inl h
          · exact .inr (Nat.le_trans hK.size h)
        have hrest := HS.out.rest
        rw [hll10] at hrest
        exact ⟨⟨_, _, _, _, _, _, hbr5, hrest⟩, hOB5, htx5, (hK.ts).trans (hK5.mono (fun b hb _ => by simp at hb; simp [TS]; rcases hb with h | h <;> simp [h])), hor, fun b hb => H.out.nts (hor b hb), (H.out.gv.kp hK H.out.rg).kp hK5 (fun b hb => (hSd b hb).2.2)⟩
      have HCS := Lib.hid hcs
      clear hcs hK5 hOB5 hfin5 htx5 htr3 hhbT hhb3 hOB3 hOB0 hbr3
      obtain ⟨hr0, hsp, hbb, hm, hne2, hb2, hc1⟩ := HR0.out
      obtain ⟨rr, nn, bb, ss, lbb, lrr, hbrc, hwc⟩ := HCS.out.br
      have hss := skipSpace_hit HCS.out.tx H.out.tn hbrc (c0 :: sp) b0 (l2 ++ 10 :: c1 :: rest) (by rw [List.all_cons, HC0.out, hsp]; rfl) hbb (by simp; omega) (by rw [hwc, hr0]; simp)
      obtain ⟨ks, hks⟩ : ∃ ks, ((c0 :: sp).length : Int) = ks := ⟨_, rfl⟩
      have hks0 : (0 : Int) < ks := by rw [← hks]; simp; try omega
      rw [hks] at hss
      have kc : ∀ i, wc.cell? ⟨tb, i, none⟩ = (#[.pointer (some ⟨R.rb, 0, none⟩), .pointer none, .slice a5 (trB ll).length c5] : Array Value)[i]? := Blk.cell HCS.out.tx
      have hneg : decide (lim < 0) = false := by simp; omega
      have hT1 : (trB ll).length ≤ 1000 := by obtain ⟨q, h1, h2, h3⟩ := trB_pre ll; omega
      clear hbrc hwc hr0 hsp hbb hm hne2 hb2 hc1 hc0b hwk hor5 hnt5 hline hvh hvb hvo hTl
      generalize hkv1 : trB ll = kv1 at *
      have HKV := Lib.hid hkv1
      clear hkv1
      go_wp2
      refine wp_loop_rounds 2 ?_
      rw [rounds_succ]
      go_wp2_with fail
      refine hss.mono ?_
      rintro e w6 ⟨rfl, r2, n2, bs2, src2, hb6, he6, hK6⟩
      have hcs6 := HCS.out.move H.out hK6 hb6 he6
      have hnew6 := Blk.new w6 #[.int .u8 32] 5
      have hka6 : Kp [] w6 (w6.alloc (.cells #[.int .u8 32] 5)) := (Kp.refl _ _).alloc _
      have hob6 := hcs6.ob.kp hka6 (by simp)
      have hhb6 : HB (w6.alloc (.cells #[.int .u8 32] 5)) (some ⟨w6.heap.size, 0, none⟩) [32] := HB.of_cells (fun i hi => by
        have : i = 0 := by simp at hi; exact hi
        subst this
        rw [hnew6.cell]; rfl)
      have HCS6 := Lib.hid hcs6
      have HA6 := Lib.hid (And.intro hka6 (And.intro hob6 hhb6))
      have k6 : ∀ i, w6.cell? ⟨tb, i, none⟩ = (#[.pointer (some ⟨R.rb, 0, none⟩), .pointer none, .slice a5 kv1.length c5] : Array Value)[i]? := Blk.cell hcs6.tx
      have htl6 : tb < w6.heap.size := Blk.lt hcs6.tx
      have tok1 : True := trivial
      clear hss kc hcs6 hnew6 hka6 hob6 hhb6 hb6 he6 hK6
      go_wp2_with (at_builtin; have _t := tok1; refine wpList_append_OB rfl (.tmp 112) (.tmp 113) rfl 0 (.slice a5 kv1.length c5) kv1 rfl HA6.out.2.1 (some ⟨w6.heap.size, 0, none⟩) 1 1 [32] rfl HA6.out.2.2 rfl (by simp) (by simp; omega) (Nat.zero_le _) ?_; intro v7 w7 hOB7 hG7 hN7; clear tok1; obtain ⟨a7, c7, rfl, hlc7, _, _, _⟩ := hOB7.len; obtain ⟨hcs8, htx7⟩ := HCS6.out.app H.out HA6.out.1 hG7 hOB7 hN7; have k7 := Blk.cell htx7; have f7 := Blk.free htx7; have HCS8 := Lib.hid hcs8; clear hcs8 htx7 hOB7 hG7 hN7 hlc7 k6)
      have hcs8 := HCS8.out
      have e8 : (kv1 ++ [32]).length = kv1.length + 1 := by simp
      rw [e8] at hcs8
      obtain ⟨w8, hw8⟩ : ∃ w8, w7.setCell ⟨tb, 2, none⟩ (.slice a7 (kv1.length + 1) c7) = w8 := ⟨_, rfl⟩
      rw [hw8] at hcs8 ⊢
      obtain ⟨hr0, hsp, hbb, hm, hne2, hb2, hc1⟩ := HR0.out
      obtain ⟨r8, n8, bs8, src8, lb8, lr8, hbr8, he8⟩ := hcs8.br
      have hll2 : (dropCR (b0 :: l2)).length ≤ (b0 :: l2).length := by
        rcases dropCR_cases (b0 :: l2) with ⟨m, hm, hd⟩ | ⟨_, hd⟩
        · rw [hd]; have := congrArg List.length hm; simp at this; simp; omega
        · rw [hd]; omega
      have hpre2 : ∃ s, b0 :: l2 ++ [10] = dropCR (b0 :: l2) ++ s := by
        rcases dropCR_cases (b0 :: l2) with ⟨m, hm, hd⟩ | ⟨_, hd⟩
        · rw [hd]; exact ⟨[13, 10], by rw [hm]; simp⟩
        · rw [hd]; exact ⟨_, rfl⟩
      have hrl := readLineSlice_hit hcs8.tx hbr8 hcs8.gv H.out.rg (b0 :: l2) (c1 :: rest) hm (by omega) (by rw [he8]; simp) (lim - (kv1.length : Int) - ((kv1.length : Int) + 1)) (.inr (by omega))
      have HC8 := Lib.hid hcs8
      have HM := Lib.hid (And.intro hne2 (And.intro hb2 (And.intro hc1 (And.intro hpre2 hll2))))
      have hL2 : (b0 :: l2).length ≤ 1000 := hm2
      generalize hll2e : dropCR (b0 :: l2) = ll2 at *
      have HLL := Lib.hid hll2e
      clear hll2e
      clear hcs8 HCS8 k7 f7 hw8 hbr8 he8 hr0 hsp hbb hm hne2 hb2 hc1 hpre2 hll2 HA6 HCS6 HCS
      refine hrl.mono ?_
      rintro e w9 ⟨r9, n9, bs9, src9, rfl, hS9⟩
      clear hrl
      obtain ⟨hne2, hb2, hc1, hpre2, hll2⟩ := HM.out
      have hfit9 := hS9.br.fit
      have hlen9 := hS9.br.len
      have hl10 : (b0 :: l2 ++ [10]).length = (b0 :: l2).length + 1 := by simp
      rw [hl10] at hfit9
      have hline9 : win bs9 r9 ll2.length = ll2 := by
        obtain ⟨s, hs⟩ := hpre2
        have e := hS9.line
        rw [hs] at e
        rw [win_pre e (Nat.le_refl _), List.take_of_length_le (Nat.le_refl _)]
      have hhb9 := hS9.br.hb_at r9 ll2.length (by omega)
      rw [hline9, bbAt_eq _ _ (by omega)] at hhb9
      rw [bbAt_eq _ _ (by omega)]
      have hcs9 := HC8.out.move H.out hS9.kp hS9.br hS9.rest
      have hob9 : OB w9.drew 0 (.slice a7 (kv1.length + 1) c7) (kv1 ++ [32]) := by
        have := hcs9.ob.kp (S := []) (Kp.refl _ _).drew (by simp)
        rwa [e8] at this
      have hhbT9 : HB w9.drew (some ⟨R.bb, r9, none⟩) (trB ll2) := by
        obtain ⟨q, h1, h2, h3⟩ := trB_pre ll2
        rw [h1]; exact (hhb9.take q).drew
      have htr9 := trim_any (some ⟨R.bb, r9, none⟩) (4096 - r9) ll2 w9.drew hhb9.drew (by omega) (by omega) hne2 hb2
      have hT2 : (trB ll2).length ≤ 1000 := by obtain ⟨q, h1, h2, h3⟩ := trB_pre ll2; omega
      have k9 : ∀ i, w9.cell? ⟨tb, i, none⟩ = (#[.pointer (some ⟨R.rb, 0, none⟩), .pointer none, .slice a7 (kv1.length + 1) c7] : Array Value)[i]? := by
        have := Blk.cell hcs9.tx
        rwa [e8] at this
      have HC9 := Lib.hid hcs9
      have HC1 := Lib.hid hc1
      clear hcs9 hS9 hhb9 hline9 hpre2 HC8 HM
      go_wp2
      go_region_law (first | (refine step_append_OB rfl (.tmp 144) (.tmp 146) rfl 0 (.slice a7 (kv1.length + 1) c7) (kv1 ++ [32]) (by rfl) hob9 (some ⟨R.bb, r9, none⟩) (trB ll2).length (4096 - r9) (trB ll2) (by rfl) hhbT9 rfl (by simp) (by simp; omega) (Nat.zero_le _) ?_; intro v10 w10 hOB10 hG10 hN10; obtain ⟨a10, c10, hv10, hc10, _, _, _⟩ := hOB10.len; subst hv10; rw [← e8] at hG10 hN10; obtain ⟨hcs11, htx10⟩ := HC9.out.app H.out (Kp.refl _ _).drew hG10 hOB10 hN10; have k10 := Blk.cell htx10; have f10 := Blk.free htx10; have HC11 := Lib.hid hcs11; clear hcs11 htx10) | (go_simp; go_at_call 151; refine htr9.mono ?_; rintro e w' ⟨rfl, rfl⟩))
      all_goals
        go_wp2_with fail
        have hcs11 := HC11.out
        have e11 : (kv1 ++ [32] ++ trB ll2).length = kv1.length + ((trB ll2).length + 1) := by simp
        have e12 : kv1 ++ [32] ++ trB ll2 = kv1 ++ 32 :: trB ll2 := by simp
        rw [e11] at hcs11
        generalize hw11 : w10.setCell _ _ = w11 at hcs11 ⊢
        clear hw11 k10 f10 HC11 HC9 hob9 hhbT9 htr9 k9
        obtain ⟨r11, n11, bs11, src11, lb11, lr11, hbr11, he11⟩ := hcs11.br
        have hss2 := skipSpace_hit hcs11.tx H.out.tn hbr11 [] c1 rest rfl HC1.out (by simp) (by rw [he11]; rfl)
        have HC12 := Lib.hid hcs11
        clear hbr11 he11
        rw [rounds_succ]
        go_wp2_with fail
        refine hss2.mono ?_
        rintro e w12 ⟨rfl, r12, n12, bs12, src12, hb12, he12, hK12⟩
        have hcs12 := HC12.out.move H.out hK12 hb12 he12
        have hkv : kv1 ++ [32] ++ trB ll2 ≠ [] := by simp
        obtain ⟨g, cur, r13, n13, bs13, src13, lb13, lr13, hg, hcp⟩ := hcs12.fin H.out hkv
        have k12 : ∀ i, w12.cell? ⟨tb, i, none⟩ = (#[.pointer (some ⟨R.rb, 0, none⟩), .pointer none, .slice a10 (kv1.length + ((trB ll2).length + 1)) c10] : Array Value)[i]? := by
          have := Blk.cell hcs12.tx
          rwa [e11] at this
        rw [e12] at hcp
        have e13 : (kv1 ++ 32 :: trB ll2).length = kv1.length + ((trB ll2).length + 1) := by simp
        have HCP := Lib.hid hcp
        clear hcp hcs12 HC12 hss2 hb12 he12 hK12 hcs11
        subst hg
        go_wp2
        go_ret2
        have hcp := HCP.out
        have hkv1 := HKV.out
        have hll2e := HLL.out
        subst hkv1
        subst hll2e
        refine ⟨_, _, _, _, _, _, _, _, _, _, _, _, ?_, hcp⟩
        rw [e13]
        rfl
end
end Go.Proofs.YtkbgnplknifmhaaGreatDoor
