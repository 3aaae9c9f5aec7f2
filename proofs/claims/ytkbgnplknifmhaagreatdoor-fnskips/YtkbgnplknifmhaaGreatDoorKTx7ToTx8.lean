/-
  Walks and facts for the mailparts program.
-/
import Derived.Test.YtkbgnplknifmhaaGreatDoorKTx6
import Derived.Test.YtkbgnplknifmhaaGreatDoorKShelf1
namespace Go.Proofs.YtkbgnplknifmhaaGreatDoor
open Go.RowKit

/-! ### bytes.TrimLeft (147) of spaces and tabs -/
set_option maxRecDepth 100000 in
theorem trimLeft_any (xb o c : Nat) (l : Bytes) (w : World) (h : HB w (some ⟨xb, o, none⟩) l) (hc : l.length ≤ c) (hc2 : c ≤ 9223372036854775807) :
    Calls Tryz.prog 147 #[.slice (some ⟨xb, o, none⟩) l.length c, .string ⟨#[32, 9]⟩] w fun e w' => ∃ a' c', e = .returned (.slice a' (l.dropWhile blankC).length c') ∧ HB w' a' (l.dropWhile blankC) ∧ Kp [] w w' := by
  have h27 : (Tryz.prog.info? (Tryz.lays8_ren.t 27)).map (fun i => (i.zero, i.size)) = some (some (.agg (Array.replicate 256 (.bool false))), 256) := by kernel_rfl
  have hcon := Any.bytes_TrimLeft_ascii Tryz.lays8 (zero_of_info h27).1 (zero_of_info h27).2 (some ⟨xb, o, none⟩) l.length c l ⟨#[32, 9]⟩ w rfl hc hc2
    (fun _ => ⟨xb, o, rfl, fun i hi => by have := h.cell i hi; rwa [at_mk] at this⟩) (by decide) (fun j b hb => by
      have : b ∈ [(32 : UInt8), 9] := List.mem_of_getElem? hb
      simp at this
      rcases this with rfl | rfl <;> decide)
  refine hcon.mono ?_
  rintro e w' ⟨rfl, hB⟩
  have e1 : Lib.trimLeftS l [32, 9] = l.dropWhile blankC := by
    unfold Lib.trimLeftS
    congr 1
    funext x
    rw [Bool.eq_iff_iff]
    simp [blankC]
  rw [e1]
  have hle : (l.dropWhile blankC).length ≤ l.length := (List.dropWhile_suffix (l := l) blankC).length_le
  have hK : Kp [] w w' := Kp.of_below hB
  unfold Lib.leftV
  by_cases h0 : l.length - (l.dropWhile blankC).length = l.length
  · rw [if_pos h0]
    by_cases hl : l.length = 0
    · have : l = [] := List.eq_nil_of_length_eq_zero hl
      subst this
      exact ⟨none, 0, rfl, HB.nil _ _, hK⟩
    · have : (l.dropWhile blankC).length = 0 := by omega
      have e2 := List.eq_nil_of_length_eq_zero this
      rw [e2]
      exact ⟨none, 0, rfl, HB.nil _ _, hK⟩
  · rw [if_neg h0]
    unfold Lib.fromV
    have e3 : l.dropWhile blankC = l.drop (l.length - (l.dropWhile blankC).length) := by
      obtain ⟨t, ht⟩ := List.dropWhile_suffix (l := l) blankC
      have h4 := congrArg List.length ht
      rw [List.length_append] at h4
      conv => rhs; rw [← ht]
      rw [show (t ++ List.dropWhile blankC l).length - (List.dropWhile blankC (t ++ List.dropWhile blankC l)).length = t.length from by rw [ht]; omega, List.drop_left]
    have h5 := (h.kp (S := []) hK (by simp)).drop (c := c) (k := l.length - (l.dropWhile blankC).length) hc (by omega)
    rw [← e3] at h5
    refine ⟨_, c - (l.length - (l.dropWhile blankC).length), ?_, h5, hK⟩
    rw [show l.length - (l.length - (l.dropWhile blankC).length) = (l.dropWhile blankC).length from by omega]
    rfl

attribute [local go_sem ↓] Go.wp_at_zero Go.wp_at_succ
section
variable {w : World} {E : Value} {R : RS} {tb : Nat} {v : Value} {bl : Bytes} {r n : Nat} {bs src : Bytes} {lb lr : Int} {whole : Bytes}
set_option maxRecDepth 20000 in
set_option maxHeartbeats 2000000 in
/-- The empty line behind a header. -/
theorem cont_end (h : TSx w E R tb v bl r n bs src lb lr whole) (l rest : Bytes) (hw : whole = l ++ 10 :: rest) (hl : (10 : UInt8) ∉ l) (hl2 : l.length ≤ 2000) (hd : dropCR l = []) (lim : Int) (hlim : 0 ≤ lim) :
    Calls Tryz.prog 143 #[.pointer (some ⟨tb, 0, none⟩), .int .i64 lim, .func (.func 144) #[] #[]] w fun e w' => ∃ a c r1 n1 bs1 src1 lb1 lr1, e = .returned (.tuple #[.slice a 0 c, .nilIface]) ∧ TSx w' E R tb v bl r1 n1 bs1 src1 lb1 lr1 rest ∧ Kp R.own w w' := by
  subst hw
  have hcon := readLineSlice_hit h.tx h.br h.gv h.rg l rest hl (by omega) h.eq lim (.inr (by rw [hd]; simpa using hlim))
  rw [hd] at hcon
  simp only [List.length_nil] at hcon
  have H := Lib.hid h
  clear h hl hd
  have hfn := func_nil
  go_enter Tryz.func143, Tryz.ntmps143
  go_wp2_with fail
  refine hcon.mono ?_
  rintro e w1 ⟨r1, n1, bs1, src1, rfl, hS⟩
  have hts := H.out.next hS.kp hS.br hS.rest
  have HT := Lib.hid hts
  have HK := Lib.hid hS.kp
  clear hts hcon hS H
  go_wp2
  go_ret2
  exact ⟨_, _, _, _, _, _, _, _, rfl, HT.out, HK.out⟩
end
end Go.Proofs.YtkbgnplknifmhaaGreatDoor
namespace Go.Proofs.YtkbgnplknifmhaaGreatDoor
open Go.RowKit

theorem TSx.kp {w w' : World} {E : Value} {R : RS} {tb : Nat} {v : Value} {bl : Bytes} {r n : Nat} {bs src : Bytes} {lb lr : Int} {whole : Bytes} {S : List Nat} (h : TSx w E R tb v bl r n bs src lb lr whole) (k : Kp S w w')
    (h1 : ∀ b ∈ R.own, b ∉ S) (h2 : R.da ∉ S) (h3 : tb ∉ S) (h4 : ∀ b, v.ownBlock = some b → b ∉ S) (h5 : ∀ b ∈ S, 15 ≤ b) : TSx w' E R tb v bl r n bs src lb lr whole :=
  ⟨h.tx.kp k h3, h.ob.kp k (fun b hb e => h4 b e hb), h.br.kp k h1 h2 (fun e => by have := h5 _ e; omega), h.eq, h.gv.kp k h5, h.rg, h.tn, h.td, h.tg, h.vo, Nat.lt_of_lt_of_le h.dl k.size⟩
theorem putAt_size (cs : Array Value) (o : Nat) (l : Bytes) (h : o + l.length ≤ cs.size) : (putAt cs o l).size = cs.size := by
  unfold putAt; simp; omega
theorem putAt_take (cs : Array Value) (l kv : Bytes) (hk : HasB cs 0 kv) (hl : l.length ≤ kv.length) : (putAt cs 0 l).toList.take kv.length = (l ++ kv.drop l.length).map B8 := by
  have e := hk.1
  unfold putAt at e ⊢
  simp only [List.take_zero, List.nil_append, Nat.zero_add] at e ⊢
  have e2 := congrArg Array.toList e
  simp only at e2
  rw [e2, List.drop_append_of_le_length (by simpa using hl), ← List.append_assoc, List.take_append_of_le_length (by simp; omega), List.take_of_length_le (by simp; omega), List.map_append, List.map_drop]
theorem encB_splice (bs : Bytes) (o : Nat) (l : Bytes) : putAt (encB bs) o l = encB (spliceB bs o l) := by
  apply Array.ext'
  unfold putAt encB spliceB
  simp [List.map_take, List.map_drop]
theorem win_splice (bs : Bytes) (o : Nat) (l : Bytes) (r n : Nat) (h : o + l.length ≤ r) (hb : o + l.length ≤ bs.length) : win (spliceB bs o l) r n = win bs r n := by
  unfold win spliceB
  have e : (List.take o bs ++ l).length = o + l.length := by simp; omega
  rw [List.drop_append, List.drop_of_length_le (by omega), List.nil_append, e, List.drop_drop, show o + l.length + (r - (o + l.length)) = r from by omega]

/-- The line's own bytes are turned: the reader goes on as it was. -/
theorem TSx.edit {w w' : World} {E : Value} {R : RS} {tb : Nat} {v : Value} {bl : Bytes} {r n : Nat} {bs src : Bytes} {lb lr : Int} {whole : Bytes} {xb o c : Nat} {cs : Array Value} {kv : Bytes}
    (h : TSx w E R tb v bl r n bs src lb lr whole) (ha : LineAt w R r bs v bl xb o c cs kv) (l : Bytes) (hl : l.length ≤ kv.length) (hb : Blk w' xb (putAt cs o l) 5) (k : Kp [xb] w w') : ∃ bl' bs', TSx w' E R tb v bl' r n bs' src lb lr whole := by
  obtain ⟨⟨d1, d2, d3⟩, ⟨d4, d5⟩, d6⟩ := h.br.d
  rcases ha.at_ with ⟨rfl, rfl, hor⟩ | ⟨hv, rfl, hbl⟩
  · have hlen := h.br.len
    have hfit := h.br.fit
    rw [encB_splice] at hb
    have hS0 : (0 : Nat) ∉ [R.bb] := by simp; exact fun e => h.br.gl R.bb (by simp [RS.own]) e.symm
    refine ⟨bl, spliceB bs o l, ⟨h.tx.kp k (by simp; intro e; exact h.tn (by rw [e]; simp [RS.own])), h.ob.kp k (fun b hb' e => by simp at hb'; subst hb'; exact (h.vo _ e).1 (by simp [RS.own])), ?_, ?_, h.gv.kp k (by intro b hb'; simp at hb'; subst hb'; exact h.rg _ (by simp [RS.own])), h.rg, h.tn, h.td, h.tg, h.vo, Nat.lt_of_lt_of_le h.dl k.size⟩⟩
    · exact ⟨h.br.blk.kp k (by simp; exact d1), hb, by rw [length_spliceB _ _ _ (by omega)]; exact hlen, hfit, h.br.below.kp k (by simp; exact fun e => d4 e.symm) (by simp; exact fun e => d5 e.symm) (by intro b hb' _; simp at hb'; subst hb'; exact h.br.far (by simp [RS.own])), h.br.ap, h.br.gl, h.br.er, cell_kp h.br.eof k hS0, h.br.isE, h.br.dn⟩
    · rw [win_splice _ _ _ _ _ (by omega) (by omega)]; exact h.eq
  · subst hv; subst hbl
    have hvo := h.vo xb rfl
    refine ⟨l ++ bl.drop l.length, bs, ⟨h.tx.kp k (by simp; exact fun e => hvo.2.2.1 e.symm), ?_, h.br.kp k (by intro b hb' e; simp at e; subst e; exact hvo.1 hb') (by simp; exact fun e => hvo.2.1 e.symm) (by simp; omega), h.eq, h.gv.kp k (by intro b hb'; simp at hb'; subst hb'; exact hvo.2.2.2), h.rg, h.tn, h.td, h.tg, h.vo, Nat.lt_of_lt_of_le h.dl k.size⟩⟩
    have hll : (l ++ bl.drop l.length).length = bl.length := by simp; omega
    rcases h.ob.2 with ⟨h0, _⟩ | ⟨g, cap, cur, hv, hbb, hg, hnc, hcm, hcs, htake⟩
    · injection h0 with h0; cases h0
    · injection hv with e1 e2 e3
      injection e1 with e1
      injection e1 with e1
      subst e1; subst e3
      have hcc : cur = cs := by
        have := ha.blk
        unfold Blk at this
        rw [hg] at this
        injection this with this
        injection this
      subst hcc
      refine ⟨by simp, .inr ⟨xb, c, putAt cur 0 l, by rw [hll], hbb, hb, by omega, hcm, ?_, ?_⟩⟩
      · rw [putAt_size _ _ _ (by have := ha.has.2; omega)]; exact hcs
      · rw [Nat.mul_one, hll, putAt_take cur l bl ha.has hl]
end Go.Proofs.YtkbgnplknifmhaaGreatDoor
