/-
  Walks and facts for the mailparts program.
-/
import Derived.Test.YtkbgnplknifmhaaGreatDoorKTx7ToTf2
import Derived.Test.YtkbgnplknifmhaaGreatDoorKMp1ToHd2
import Derived.Lib.SliceRun
import Derived.Test.YtkbgnplknifmhaaGreatDoorKBaseToTx0
import Derived.Test.YtkbgnplknifmhaaGreatDoorKBlkToBuf1
import Derived.Test.YtkbgnplknifmhaaGreatDoorKTx4ToScan1
namespace Go.Proofs.YtkbgnplknifmhaaGreatDoor
open Go.RowKit
attribute [local go_sem ↓] Go.wp_at_zero Go.wp_at_succ

/-! ### The lines of a header -/
/-- A logical line kv at the head of whole, rest behind it. -/
inductive LogLine : Bytes → Bytes → Bytes → Prop
  | plain (l : Bytes) (c0 : UInt8) (rest : Bytes) (hl : (10 : UInt8) ∉ l) (hl2 : l.length ≤ 2000) (hne : 0 < (dropCR l).length) (hb0 : blankC (byt (dropCR l) 0) = false) (hcol : (58 : UInt8) ∈ dropCR l) (hc0 : blankC c0 = false) :
      LogLine (l ++ 10 :: c0 :: rest) (trB (dropCR l)) (c0 :: rest)
  | folded (l sp l2 : Bytes) (c0 c1 b0 : UInt8) (rest : Bytes) (hl : (10 : UInt8) ∉ l) (hl2 : l.length ≤ 1000) (hne : 0 < (dropCR l).length) (hb0 : blankC (byt (dropCR l) 0) = false) (hcol : (58 : UInt8) ∈ dropCR l) (hc0 : blankC c0 = true) (hsp : sp.all blankC = true) (hspl : sp.length ≤ 1000)
      (hbb : blankC b0 = false) (hm : (10 : UInt8) ∉ b0 :: l2) (hm2 : (b0 :: l2).length ≤ 1000) (hne2 : 0 < (dropCR (b0 :: l2)).length) (hb2 : blankC (byt (dropCR (b0 :: l2)) 0) = false) (hc1 : blankC c1 = false) :
      LogLine (l ++ 10 :: c0 :: (sp ++ (b0 :: l2 ++ 10 :: c1 :: rest))) (trB (dropCR l) ++ 32 :: trB (dropCR (b0 :: l2))) (c1 :: rest)
inductive Lines : Bytes → List (Bytes × Bytes) → Bytes → Prop
  | done (l rest : Bytes) (hl : (10 : UInt8) ∉ l) (hl2 : l.length ≤ 2000) (hd : dropCR l = []) : Lines (l ++ 10 :: rest) [] rest
  | more (whole kv rest k vt fin : Bytes) (items : List (Bytes × Bytes)) (hL : LogLine whole kv rest) (hkv : kv = k ++ 58 :: vt) (hk : k.all keyC = true) (hk0 : 0 < k.length) (hv : vt.all valueC = true) (hlen : kv.length ≤ 2100) (t : Lines rest items fin) :
      Lines whole ((canonB k, vt.dropWhile blankC) :: items) fin
theorem line_first {l : Bytes} (hne : 0 < (dropCR l).length) (hb0 : blankC (byt (dropCR l) 0) = false) : ∃ x m, l = x :: m ∧ blankC x = false := by
  cases l with
  | nil => simp [dropCR] at hne
  | cons x l =>
    refine ⟨x, l, rfl, ?_⟩
    have e : byt (dropCR (x :: l)) 0 = x := by
      rcases dropCR_cases (x :: l) with ⟨m, hm, hd2⟩ | ⟨_, hd2⟩
      · rw [hd2]
        cases m with
        | nil => rw [hd2] at hne; simp at hne
        | cons y m => injection hm with h1 h2; rw [h1]; rfl
      · rw [hd2]; rfl
    rw [← e]; exact hb0
theorem LogLine.lt {whole kv rest : Bytes} (h : LogLine whole kv rest) : rest.length < whole.length := by
  cases h with
  | plain l c0 rest hl hl2 hne hb0 hcol hc0 => simp; omega
  | folded l sp l2 c0 c1 b0 rest => simp; omega
theorem LogLine.first {whole kv rest : Bytes} (h : LogLine whole kv rest) : ∃ c t, whole = c :: t ∧ blankC c = false := by
  cases h with
  | plain l c0 rest hl hl2 hne hb0 hcol hc0 =>
    obtain ⟨x, m, rfl, hx⟩ := line_first hne hb0
    exact ⟨x, _, rfl, hx⟩
  | folded l sp l2 c0 c1 b0 rest hl hl2 hne hb0 =>
    obtain ⟨x, m, rfl, hx⟩ := line_first hne hb0
    exact ⟨x, _, rfl, hx⟩
theorem Lines.first {whole : Bytes} {items : List (Bytes × Bytes)} {fin : Bytes} (h : Lines whole items fin) : ∃ c rest, whole = c :: rest ∧ blankC c = false := by
  cases h with
  | done l rest hl hl2 hd =>
    rcases dropCR_cases l with ⟨m, hm, hd2⟩ | ⟨_, hd2⟩
    · rw [hd] at hd2; subst hd2; subst hm
      exact ⟨13, 10 :: fin, rfl, by decide⟩
    · rw [hd] at hd2; subst hd2
      exact ⟨10, fin, rfl, by decide⟩
  | more whole kv rest k vt fin items hL hkv hk hk0 hv hlen t => exact hL.first

theorem findL_one (c : UInt8) (p q : Bytes) (h : c ∉ p) : findL [c] (p ++ c :: q) = some p.length := by
  induction p with
  | nil => exact findL_hit (by simp [List.isPrefixOf])
  | cons x p ih =>
    simp at h
    rw [List.cons_append]
    unfold findL
    rw [if_neg (by simp [List.isPrefixOf]; exact h.1), ih h.2]
    rfl
theorem putAt_putAt (cs : Array Value) (o : Nat) (kv l : Bytes) (hl : l.length ≤ kv.length) (ho : o + kv.length ≤ cs.size) : putAt (putAt cs o kv) o l = putAt cs o (l ++ kv.drop l.length) := by
  apply Array.ext'
  have e : (List.take o cs.toList).length = o := by simp; omega
  have e2 : (l ++ kv.drop l.length).length = kv.length := by simp; omega
  unfold putAt
  simp only
  rw [e2, List.append_assoc, List.append_assoc, List.append_assoc, List.take_append_of_le_length (by omega), List.take_of_length_le (by omega)]
  rw [List.drop_append, List.drop_of_length_le (by omega), List.nil_append, e, show o + l.length - o = l.length from by omega, List.drop_append_of_le_length (by simpa using hl), List.map_append, List.map_drop, List.append_assoc]
theorem Kp.trans' {S S' : List Nat} {a b c : World} (h : Kp S a b) (k : Kp S' b c) (hs : ∀ x ∈ S', x ∈ S ∨ a.heap.size ≤ x) : Kp S a c :=
  ⟨k.os.trans h.os, k.tape.trans h.tape, k.output.trans h.output, Nat.le_trans h.size k.size, fun i hi hn => by
    rw [k.block i (Nat.lt_of_lt_of_le hi h.size) (fun e => by rcases hs i e with h1 | h1; exact hn h1; omega)]
    exact h.block i hi hn⟩
theorem not_colon {k : Bytes} (h : k.all keyC = true) : (58 : UInt8) ∉ k := by
  intro e
  have := List.all_eq_true.1 h 58 e
  revert this; decide
theorem canon_len (k : Bytes) : (canonB k).length = k.length := canonGo_length _ _
section
variable {w : World} {E : Value} {R : RS} {tb : Nat} {v : Value} {bl : Bytes} {r n : Nat} {bs src : Bytes} {lb lr : Int} {whole : Bytes}
theorem cont_any (h : TSx w E R tb v bl r n bs src lb lr whole) (kv rest : Bytes) (hL : LogLine whole kv rest) (lim : Int) (hlim : 5000 ≤ lim) (hlim2 : lim ≤ 4611686018427387904) :
    Calls Tryz.prog 143 #[.pointer (some ⟨tb, 0, none⟩), .int .i64 lim, .func (.func 144) #[] #[]] w fun e w' => ∃ v1 bl1 r1 n1 bs1 src1 lb1 lr1 xb o c cs,
      e = .returned (.tuple #[.slice (some ⟨xb, o, none⟩) kv.length c, .nilIface]) ∧ ContPost w w' E R tb v kv rest v1 bl1 r1 n1 bs1 src1 lb1 lr1 xb o c cs := by
  cases hL with
  | plain l c0 rest hl hl2 hne hb0 hcol hc0 =>
    have hd : (dropCR l).length ≤ l.length := by
      rcases dropCR_cases l with ⟨m, hm, hd⟩ | ⟨_, hd⟩
      · rw [hd]; have := congrArg List.length hm; simp at this; omega
      · rw [hd]; omega
    exact cont_plain h l c0 rest rfl hl hl2 hne hb0 hcol hc0 lim (by omega) hlim2
  | folded l sp l2 c0 c1 b0 rest hl hl2 hne hb0 hcol hc0 hsp hspl hbb hm hm2 hne2 hb2 hc1 =>
    exact cont_folded h l sp l2 c0 c1 b0 _ rest rfl rfl hl hl2 hne hb0 hcol hc0 hsp hspl hbb hm hm2 hne2 hb2 hc1 lim hlim hlim2
end
theorem isSlice41 : Tryz.prog.underlying 41 = some (.slice (Tryz.prog.elem 41)) := by kernel_rfl
theorem elem41_eq : Tryz.prog.elem 41 = 9 := by kernel_rfl
theorem sizeOf9 (w : World) : (sizeOf 9).run Tryz.prog w = .ok 1 w := by kernel_rfl
theorem run41_hm (w : World) (a : Option Addr) (n c : Nat) (h : 1 ≤ c) : (Instr.sliceAt 41 (.slice a n c) none (some (.int .i64 1)) (some (.int .i64 1))).run Tryz.prog w = .ok (.slice a 1 1) w := by
  rw [run_sliceAt_slice _ _ _ _ _ _ isSlice41, run_slice_hm _ _ _ _ _ isSlice41 _ _ _ _ (by omega) (by omega) (by omega), elem41_eq, sizeOf9]
  simp [sliced, addr_add0]
theorem run41_l (w : World) (a : Option Addr) (n c : Nat) (h : 1 ≤ n) : (Instr.sliceAt 41 (.slice a n c) (some (.int .i64 1)) none none).run Tryz.prog w = .ok (.slice (cutAt a c 1) (n - 1) (c - 1)) w := by
  rw [run_sliceAt_slice _ _ _ _ _ _ isSlice41, run_slice_l _ _ _ _ _ isSlice41 _ _ (by omega) (by omega), elem41_eq, sizeOf9]
  simp [sliced, cutAt]
theorem run41_ix (w : World) (b o n c : Nat) (h : 0 < n) : (Instr.indexAt 41 (.slice (some ⟨b, o, none⟩) n c) (.int .i64 0)).run Tryz.prog w = .ok (.pointer (some ⟨b, o, none⟩)) w := by
  rw [run_indexAt_slice _ _ _ _ _ _ _ isSlice41]
  rw [if_pos ⟨by omega, by omega⟩, elem41_eq, sizeOf9]
  simp [Addr.add]
theorem cut_bb' (b n o c : Nat) (h : n < c) : cutAt (some ⟨b, o, none⟩) c n = some ⟨b, o + n, none⟩ := by
  unfold cutAt
  rw [if_neg (by omega)]
  simp only [Option.map_some, Addr.add_lit]
theorem make41 (k : Nat) (hk : k ≤ 1000) (w : World) : (Instr.makeSlice 41 (.int .i64 k) (.int .i64 k)).run Tryz.prog w = .ok (.slice (some ⟨w.heap.size, 0, none⟩) k k) (w.alloc (.cells (madeCells #[.string ⟨#[]⟩] k) 9)) := by
  obtain ⟨i, h1, h2, h3, h4⟩ := ti9
  have := run_make (P := Tryz.prog) w 41 9 i _ elem41 h1 h2 .i64 .i64 (k : Int) (k : Int) (by omega) (Int.le_refl _) (by rw [h4]; omega) (by omega)
  rw [this, h3]
  simp
  rfl
theorem makeMap114 (k : Nat) (w : World) : (Instr.makeMap 114 (some (.int .i64 k))).run Tryz.prog w = .ok (.map (some w.heap.size)) (w.alloc (.map #[] 0)) := by
  have h : (Instr.makeMap 114 (some (.int .i64 k))).run Tryz.prog w = (Instr.makeMap 114 none).run Tryz.prog w := by
    simp [Instr.makeMap, run_underlying Tryz.underlying114, asInt, asIntOf]
  rw [h]
  rfl

/-- strs: what is left of the shared block. -/
def strsV (sa : Option Addr) (hint used : Nat) : Value := .slice sa (hint - used) (hint - used)
structure MI (w0 w1 : World) (E : Value) (R : RS) (tb mb sb hint used cnt : Nat) (sa : Option Addr) (v : Value) (bl : Bytes) (r n : Nat) (bs src : Bytes) (lb lr : Int) (whole : Bytes) (kvs : List (Bytes × Value)) (hs : List (Bytes × List Bytes)) : Prop where
  ts : TSx w1 E R tb v bl r n bs src lb lr whole
  hi : HI w1 mb sb used cnt w0.heap.size v kvs hs
  kp : Kp (tb :: R.own) w0 w1
  ul : used ≤ hint
  hl : hint ≤ 1000
  sa_ : used < hint → sa = some ⟨sb, used, none⟩
  sbk : used < hint → ∃ cs, Blk w1 sb cs 9 ∧ cs.size = hint
  sg : used < hint → w0.heap.size ≤ sb
  tlt : tb < w0.heap.size
  old : ∀ b ∈ R.own, b < tb
  old2 : R.da < tb
  old3 : ∀ b, v.ownBlock = some b → w0.heap.size ≤ b
  mw : w0.heap.size ≤ mb
theorem MI.put {w0 w8 w9 : World} {E : Value} {R : RS} {tb mb sb hint used cnt : Nat} {sa : Option Addr} {v : Value} {bl : Bytes} {r n : Nat} {bs src : Bytes} {lb lr : Int} {whole : Bytes} {kvs : List (Bytes × Value)} {hs hs' : List (Bytes × List Bytes)}
    (h : MI w0 w8 E R tb mb sb hint used cnt sa v bl r n bs src lb lr whole kvs hs) (k : Bytes) (val : Value)
    (hi9 : HI w9 mb sb used (cnt + 1) w0.heap.size v (kvPut k val kvs) hs') (hg9 : w8.grownBy w9 (some mb)) :
    MI w0 w9 E R tb mb sb hint used (cnt + 1) sa v bl r n bs src lb lr whole (kvPut k val kvs) hs' := by
  have hK9 : Kp [mb] w8 w9 := (Kp.refl _ _).grown hg9 (by intro q hq; left; injection hq with hq; simp [hq])
  have hmb := h.hi.mbase
  have htg := h.ts.tg
  have ho2 := h.old2
  have htlt := h.tlt
  have hsz0 := h.kp.size
  refine ⟨h.ts.kp hK9 ?_ (by simp; omega) (by simp; omega) ?_ (by simp; omega), hi9, h.kp.trans' hK9 (fun x hx => by simp at hx; subst hx; exact .inr h.mw), h.ul, h.hl, h.sa_, fun hu => ?_, h.sg, h.tlt, h.old, h.old2, h.old3, h.mw⟩
  · intro b hb; simp; intro e; have := h.old b hb; omega
  · intro b hb; simp; exact fun e => (h.hi.vsep b hb).1 e
  · obtain ⟨cs, h1, h2⟩ := h.sbk hu
    exact ⟨cs, h1.kp hK9 (by simp; exact fun e => h.hi.ms e.symm), h2⟩
theorem MI.stored {w0 w7 w8 : World} {E : Value} {R : RS} {tb mb sb hint used cnt : Nat} {sa : Option Addr} {v : Value} {bl : Bytes} {r n : Nat} {bs src : Bytes} {lb lr : Int} {whole : Bytes} {kvs : List (Bytes × Value)} {hs : List (Bytes × List Bytes)}
    (h : MI w0 w7 E R tb mb sb hint used cnt sa v bl r n bs src lb lr whole kvs hs) (hu : used < hint) (k s : Bytes) (hk : kvGet k kvs = none) (cs : Array Value) (hb7 : Blk w7 sb cs 9) (hcs : cs.size = hint) (hK8 : Kp [sb] w7 w8) (hb8 : Blk w8 sb (cs.setIfInBounds used (S1 s)) 9) :
    MI w0 w8 E R tb mb sb hint (used + 1) cnt (cutAt (some ⟨sb, used, none⟩) (hint - used) 1) v bl r n bs src lb lr whole kvs hs ∧ VV w8 sb (used + 1) (.slice (some ⟨sb, used, none⟩) 1 1) [s] := by
  have hsame : ∀ o, o < used → w8.cell? ⟨sb, o, none⟩ = w7.cell? ⟨sb, o, none⟩ := by
    intro o ho
    rw [Blk.cell hb8, Blk.cell hb7, Array.getElem?_setIfInBounds, if_neg (by omega)]
  have hc8 : w8.cell? ⟨sb, used, none⟩ = some (S1 s) := by
    rw [Blk.cell hb8, Array.getElem?_setIfInBounds, if_pos rfl, if_pos (by omega)]
  obtain ⟨hi8, hvv⟩ := h.hi.addS k s hk hK8 hsame hc8
  have hsg := h.sg hu
  have htg := h.ts.tg
  have ho2 := h.old2
  have htlt := h.tlt
  have hsz0 := h.kp.size
  refine ⟨⟨h.ts.kp hK8 ?_ (by simp; omega) (by simp; omega) ?_ (by simp; omega), hi8, h.kp.trans' hK8 (fun x hx => by simp at hx; subst hx; exact .inr (h.sg hu)), by omega, h.hl, fun _ => cut_bb' _ _ _ _ (by omega), fun _ => ⟨_, hb8, by simp; exact hcs⟩, fun _ => hsg, h.tlt, h.old, h.old2, h.old3, h.mw⟩, hvv⟩
  · intro b hb; simp; intro e; have := h.old b hb; omega
  · intro b hb; simp; exact fun e => (h.hi.vsep b hb).2.1 e
theorem MI.finS {w0 w8 w9 : World} {E : Value} {R : RS} {tb mb sb hint used cnt : Nat} {sa : Option Addr} {v : Value} {bl : Bytes} {r n : Nat} {bs src : Bytes} {lb lr : Int} {whole : Bytes} {kvs : List (Bytes × Value)} {hs : List (Bytes × List Bytes)}
    (h : MI w0 w8 E R tb mb sb hint used cnt sa v bl r n bs src lb lr whole kvs hs) (k s : Bytes) (o : Nat) (hvv : VV w8 sb used (.slice (some ⟨sb, o, none⟩) 1 1) [s]) (hsg : w0.heap.size ≤ sb) (hk : kvGet k hs = none)
    (hmp : MP w9 mb (cnt + 1) (kvPut k (.slice (some ⟨sb, o, none⟩) 1 1) kvs)) (hg9 : w8.grownBy w9 (some mb)) :
    MI w0 w9 E R tb mb sb hint used (cnt + 1) sa v bl r n bs src lb lr whole (kvPut k (.slice (some ⟨sb, o, none⟩) 1 1) kvs) (hAdd k s hs) := by
  have hK9 : Kp [mb] w8 w9 := (Kp.refl _ _).grown hg9 (by intro q hq; left; injection hq with hq; simp [hq])
  have hms := h.hi.ms
  have hi9 := h.hi.put (w' := w9) k _ [s] hvv (by simp) (by simp) (fun b hb => by
    injection hb with hb
    subst hb
    exact ⟨hsg, fun e => hms e.symm, fun _ _ _ _ => rfl, fun e => (h.hi.vsep _ e).2.1 rfl⟩) hmp hK9
  have hadd : kvPut k [s] hs = hAdd k s hs := by unfold hAdd; rw [hk]; rfl
  rw [hadd] at hi9
  exact h.put k _ hi9 hg9
/-- What is left of a map's key gets a value more by an append. -/
theorem MI.appended {w0 w7 w8 : World} {E : Value} {R : RS} {tb mb sb hint used cnt : Nat} {sa : Option Addr} {v : Value} {bl : Bytes} {r n : Nat} {bs src : Bytes} {lb lr : Int} {whole : Bytes} {kvs : List (Bytes × Value)} {hs : List (Bytes × List Bytes)}
    (h : MI w0 w7 E R tb mb sb hint used cnt sa v bl r n bs src lb lr whole kvs hs) (k s : Bytes) (v' : Value)
    (hvv : VV w8 sb used v' ((kvGet k hs).getD [] ++ [s])) (hK8 : Kp (turns sb ((kvGet k kvs).getD (.slice none 0 0))) w7 w8) (hn : ∀ b, v'.ownBlock = some b → b ≠ sb ∧ (((kvGet k kvs).getD (.slice none 0 0)).ownBlock = some b ∨ w7.heap.size ≤ b)) :
    MP w8 mb cnt kvs ∧ ∀ w9, MP w9 mb (cnt + 1) (kvPut k v' kvs) → w8.grownBy w9 (some mb) → MI w0 w9 E R tb mb sb hint used (cnt + 1) sa v bl r n bs src lb lr whole (kvPut k v' kvs) (hAdd k s hs) := by
  obtain ⟨hg1, hg2, hg3, hg4, hg5⟩ := h.hi.get k
  have hmb := h.hi.mbase
  have htg := h.ts.tg
  have ho2 := h.old2
  have htlt := h.tlt
  have hsz0 := h.kp.size
  have hml := h.hi.mp.lt
  have hsl := h.hi.slt
  have htl : tb < w7.heap.size := Blk.lt h.ts.tx
  have hT : ∀ b ∈ turns sb ((kvGet k kvs).getD (.slice none 0 0)), w0.heap.size ≤ b ∧ b ≠ mb ∧ b < w7.heap.size ∧ (∀ q ∈ kvs, q.1 ≠ k → q.2.ownBlock = some b → b = sb) ∧ v.ownBlock ≠ some b ∧ b ≠ sb := by
    intro b hb
    obtain ⟨h1, h2⟩ := mem_turns.1 hb
    obtain ⟨q1, q2, q3, q4, q5⟩ := hg3 b h1
    exact ⟨q1, q2, q3, q4, q5, h2⟩
  have hmp8 : MP w8 mb cnt kvs := h.hi.mp.kp hK8 (fun e => (hT mb e).2.1 rfl)
  refine ⟨hmp8, fun w9 hmp9 hg9 => ?_⟩
  have hK9 : Kp [mb] w8 w9 := (Kp.refl _ _).grown hg9 (by intro q hq; left; injection hq with hq; simp [hq])
  -- the other keys' values stand
  have hv'ok : ∀ b, v'.ownBlock = some b → w0.heap.size ≤ b ∧ b ≠ mb ∧ (∀ q ∈ kvs, q.1 ≠ k → q.2.ownBlock = some b → b = sb) ∧ v.ownBlock ≠ some b := by
    intro b hb
    obtain ⟨h1, h2⟩ := hn b hb
    rcases h2 with h2 | h2
    · obtain ⟨q1, q2, q3, q4, q5⟩ := hg3 b h2
      exact ⟨q1, q2, q4, q5⟩
    · refine ⟨by omega, by omega, fun q hq hqk e => by have := h.hi.lts q hq b e; omega, fun e => ?_⟩
      obtain ⟨a, c, e1, e2, e3, e4, e5⟩ := h.ts.ob.len
      have : v.ownBlock = a.map (·.block) := e5
      rw [this] at e
      cases a with
      | none => cases e
      | some x => simp at e; have := (e3 x rfl).2; rw [e] at this; omega
  have hi9 : HI w9 mb sb used (cnt + 1) w0.heap.size v (kvPut k v' kvs) (hAdd k s hs) := by
    refine ⟨hmp9, ?_, ?_, ?_, h.hi.ms, h.hi.mbase, Nat.lt_of_lt_of_le (Nat.lt_of_lt_of_le h.hi.slt hK8.size) hK9.size, ?_⟩
    · have hflt := h.hi.two.filter (fun x => !(x == k))
      have h9 : Two (fun v vs => VV w9 sb used v vs ∧ vs ≠ [] ∧ vs.length ≤ cnt + 1) (kvs.filter fun p => !(p.1 == k)) (hs.filter fun p => !(p.1 == k)) := hflt.mono (fun p hp b ⟨h1, h2, h3⟩ => by
        simp at hp
        obtain ⟨hp, hpk⟩ := hp
        refine ⟨(h1.kp hK8 (fun x hx e => ?_)).kp hK9 (fun x hx e => ?_), h2, by omega⟩
        · exact (hT x hx).2.2.2.2.2 ((hT x hx).2.2.2.1 p hp hpk e)
        · simp at hx; subst hx; exact (h.hi.new p hp _ e).2 rfl)
      refine Two.ins h9 k v' _ ⟨hvv.kp hK9 (fun x hx e => ?_), by simp, by simp; omega⟩
      simp at hx; subst hx; exact (hv'ok _ e).2.1 rfl
    · intro p hp q hq hpq b h1 h2
      rw [mem_kvPut] at hp hq
      rcases hp with rfl | ⟨hp, hpk⟩
      · rcases hq with rfl | ⟨hq, hqk⟩
        · exact absurd rfl hpq
        · exact (hv'ok b h1).2.2.1 q hq hqk h2
      · rcases hq with rfl | ⟨hq, hqk⟩
        · exact (hv'ok b h2).2.2.1 p hp hpk h1
        · exact h.hi.sep p hp q hq hpq b h1 h2
    · intro p hp b hb
      rw [mem_kvPut] at hp
      rcases hp with rfl | ⟨hp, _⟩
      · exact ⟨(hv'ok b hb).1, (hv'ok b hb).2.1⟩
      · exact h.hi.new p hp b hb
    · intro b hb
      obtain ⟨h1, h2, h3⟩ := h.hi.vsep b hb
      refine ⟨h1, h2, fun p hp e => ?_⟩
      rw [mem_kvPut] at hp
      rcases hp with rfl | ⟨hp, _⟩
      · exact (hv'ok b e).2.2.2 hb
      · exact h3 p hp e
  have hmi8 : TSx w8 E R tb v bl r n bs src lb lr whole := by
    refine h.ts.kp hK8 ?_ ?_ ?_ ?_ ?_
    · intro b hb e; have := h.old b hb; have := (hT b e).1; omega
    · intro e; have := (hT _ e).1; omega
    · intro e; have := (hT _ e).1; omega
    · intro b hb e; exact (hT b e).2.2.2.2.1 hb
    · intro b e; have := (hT b e).1; omega
  refine ⟨hmi8.kp hK9 ?_ (by simp; omega) (by simp; omega) ?_ (by simp; omega), hi9, (h.kp.trans' hK8 (fun x hx => ?_)).trans' hK9 (fun x hx => by simp at hx; subst hx; exact .inr h.mw), h.ul, h.hl, h.sa_, fun hu => ?_, h.sg, h.tlt, h.old, h.old2, h.old3, h.mw⟩
  · intro b hb; simp; intro e; have := h.old b hb; omega
  · intro b hb; simp; exact fun e => (h.hi.vsep b hb).1 e
  · exact .inr (hT x hx).1
  · obtain ⟨cs, h1, h2⟩ := h.sbk hu
    exact ⟨cs, (h1.kp hK8 (fun e => (hT sb e).2.2.2.2.2 rfl)).kp hK9 (by simp; exact fun e => h.hi.ms e.symm), h2⟩
theorem wpList_appendHdr {w0 w7 : World} {E : Value} {R : RS} {tb mb sb hint used cnt : Nat} {sa : Option Addr} {v : Value} {bl : Bytes} {r n : Nat} {bs src : Bytes} {lb lr : Int} {whole : Bytes} {kvs : List (Bytes × Value)} {hs : List (Bytes × List Bytes)}
    {ops : Array Oper} {rest : List Oper} {o : Oper} {a : Act} {Q : Exit → Act → World → Prop} (hgd : o.guard = none) (d s : Operand) (ho : o.op = .call { callee := .builtin .append, args := #[d, s], argTypes := #[41, 41] })
    (h : MI w0 w7 E R tb mb sb hint used cnt sa v bl r n bs src lb lr whole kvs hs) (k sv : Bytes) (vv : Value) (hvv : vv = (kvGet k kvs).getD (.slice none 0 0)) (hd : a.eval d = vv) (hsv : a.eval s = .slice (some ⟨w7.heap.size, 0, none⟩) 1 1) (hcnt : cnt ≤ 1000)
    (hK : ∀ v' w8, MP w8 mb cnt kvs → (∀ w9, MP w9 mb (cnt + 1) (kvPut k v' kvs) → w8.grownBy w9 (some mb) → MI w0 w9 E R tb mb sb hint used (cnt + 1) sa v bl r n bs src lb lr whole (kvPut k v' kvs) (hAdd k sv hs)) → wpList Tryz.prog ops Q rest (a.put o.dst v') w8) :
    wpList Tryz.prog ops Q (o :: rest) a (w7.alloc (.cells #[S1 sv] 9)) := by
  subst hvv
  obtain ⟨hg1, hg2, _⟩ := h.hi.get k
  have hKA : Kp [] w7 (w7.alloc (.cells #[S1 sv] 9)) := (Kp.refl _ _).alloc _
  obtain ⟨v', w8, e1, e2, e3, e4⟩ := run_append_VV (w7.alloc (.cells #[S1 sv] 9)) o.type sb used _ _ (hg1.kp hKA (by simp)) (Nat.lt_of_lt_of_le h.hi.slt hKA.size) w7.heap.size sv (by rw [Blk.cell (Blk.new w7 #[S1 sv] 9)]; rfl) (by omega)
  obtain ⟨hmp, hmi⟩ := h.appended k sv v' e2 ((hKA.mono (by simp)).trans e3) (fun b hb => ⟨(e4 b hb).1, by rcases (e4 b hb).2 with h1 | h1; exact .inl h1; exact .inr (Nat.le_trans hKA.size h1)⟩)
  refine wpList_plain hgd fun K hK' => ?_
  unfold Oper.wp
  simp [execOp, ho, resolve, invoke, builtin, hd, hsv, e1, Result.andThen]
  exact hK' _ _ (hK v' w8 hmp hmi)
def RMRel (w0 : World) (E : Value) (R : RS) (tb mb hint : Nat) (rest : Bytes) (HF : List (Bytes × List Bytes)) (wr : World) (q : Nat) (v1 v2 v8 : Value) : Prop :=
  ∃ sb used cnt sa v bl r n bs src lb lr whole kvs hs items, ∃ mm mh : Int, v1 = .int .i64 mm ∧ v2 = .int .i64 mh ∧ v8 = strsV sa hint used ∧ MI w0 wr E R tb mb sb hint used cnt sa v bl r n bs src lb lr whole kvs hs ∧
    Lines whole items rest ∧ items.length = q ∧ items.foldl (fun h p => hAdd p.1 p.2 h) hs = HF ∧ 10485760 ≤ mm + 5000 * (cnt : Int) ∧ mm ≤ 10485760 ∧ mh = 10000 - (cnt : Int) ∧ cnt + q ≤ 150
/-- What reading a header leaves. -/
structure HdPost (w0 w' : World) (E : Value) (R : RS) (tb : Nat) (rest : Bytes) (HF : List (Bytes × List Bytes)) (mb : Nat) (kvs : List (Bytes × Value)) : Prop where
  ts : ∃ v bl r n bs src lb lr, TSx w' E R tb v bl r n bs src lb lr rest
  hi : ∃ sb used cnt v, HI w' mb sb used cnt w0.heap.size v kvs HF
  kp : Kp (tb :: R.own) w0 w'
/-- The block that the values of a header share, or none. -/
structure StrsOK (w1 wx : World) (k : Nat) (v8 v9 : Value) (tb sb : Nat) (sa : Option Addr) : Prop where
  e8 : v8 = strsV sa k 0
  e9 : v9 = .int .i64 k
  kp : Kp [] w1 wx
  lt : sb < wx.heap.size
  ge : tb ≤ sb
  sa_ : 0 < k → sa = some ⟨sb, 0, none⟩ ∧ ∃ cs, Blk wx sb cs 9 ∧ cs.size = k
  nw : sb = tb ∨ w1.heap.size ≤ sb
  ng : 0 < k → sb = tb → tb + 1 ≤ sb
section
variable {w : World} {E : Value} {R : RS} {tb : Nat} {r n : Nat} {bs src : Bytes} {lb lr : Int} {whole : Bytes}
set_option maxRecDepth 20000 in
set_option maxHeartbeats 4000000 in
theorem readMIME_any (h : TSx w E R tb (.slice none 0 0) [] r n bs src lb lr whole) (hold : ∀ b ∈ R.own, b < tb) (hold2 : R.da < tb) (items : List (Bytes × Bytes)) (rest : Bytes) (hL : Lines whole items rest) (hlen : items.length ≤ 150) (HF : List (Bytes × List Bytes)) (hHF : items.foldl (fun h p => hAdd p.1 p.2 h) [] = HF) :
    Calls Tryz.prog 139 #[.pointer (some ⟨tb, 0, none⟩), .int .i64 10485760, .int .i64 10000] w fun e w' => ∃ mb kvs, e = .returned (.tuple #[.map (some mb), .nilIface]) ∧ HdPost w w' E R tb rest HF mb kvs := by
  obtain ⟨c1, rest1, hw1, hc1⟩ := hL.first
  have h0 : 0 < whole.length := by rw [hw1]; simp
  have hup := upcoming_any h h0
  have hHF' := Lib.hid hHF
  have HC1 := Lib.hid hc1
  have HW1 := Lib.hid hw1
  have HLL := Lib.hid hL
  have htlt : tb < w.heap.size := Blk.lt h.tx
  have H := Lib.hid h
  clear hc1 hw1 hL h
  go_enter Tryz.func139, Tryz.ntmps139
  go_wp2_with fail
  refine hup.mono ?_
  rintro e w1 ⟨k, r1, n1, bs1, src1, rfl, hk, hts1, hK1⟩
  have HTS := Lib.hid hts1
  clear hup hts1
  have htl : tb < w1.heap.size := Blk.lt HTS.out.tx
  go_upto_if 31 with (fail)
  go_cut [8, 9, 31] from 32 to 35 (fun v8 v9 v31 wx => ∃ sb sa, StrsOK w1 wx k v8 v9 tb sb sa)
  case first =>
    by_cases hk0 : k = 0
    · subst hk0
      go_wp2
      go_meet
      exact ⟨tb, none, rfl, rfl, Kp.refl _ _, htl, Nat.le_refl _, fun h => absurd h (Nat.lt_irrefl _), .inl rfl, fun h => absurd h (Nat.lt_irrefl _)⟩
    · have hd1 : decide ((0 : Int) < (k : Int)) = true := by simp; omega
      have hd2 : decide ((1000 : Int) < (k : Int)) = false := by simp; omega
      have hmk := make41 k hk
      go_wp2
      go_meet
      exact ⟨w1.heap.size, some ⟨w1.heap.size, 0, none⟩, rfl, rfl, (Kp.refl _ _).alloc _, by simp, by omega, fun _ => ⟨rfl, _, Blk.new _ _ _, by rw [size_madeCells]⟩, .inr (Nat.le_refl _), fun _ h => by omega⟩
  case rest =>
    obtain ⟨sb, sa, hst⟩ := hcut
    have HST := Lib.hid hst
    have e8 := hst.e8
    have e9 := hst.e9
    have hmm := makeMap114 k
    have hts2 : TSx (wc.alloc (.map #[] 0)) E R tb (.slice none 0 0) [] r1 n1 bs1 src1 (-1) (-1) whole := (HTS.out.kp hst.kp (by simp) (by simp) (by simp) (by simp) (by simp)).kp (S := []) ((Kp.refl _ _).alloc _) (by simp) (by simp) (by simp) (by simp) (by simp)
    have k2 : ∀ i, (wc.alloc (.map #[] 0)).cell? ⟨tb, i, none⟩ = (#[.pointer (some ⟨R.rb, 0, none⟩), .pointer none, .slice none 0 0] : Array Value)[i]? := Blk.cell hts2.tx
    have hwl : whole.length = n1 + src1.length := by rw [← hts2.eq, List.length_append, win_len (by have := hts2.br.len; have := hts2.br.fit; omega)]
    have hpk := peek_any hts2.br 1 (by omega) (by omega)
    have e1 : ((1 : Nat) : Int) = 1 := rfl
    rw [e1] at hpk
    have HT2 := Lib.hid hts2
    clear hst hts2 hwl
    subst e8; subst e9
    go_wp2_with fail
    refine hpk.mono ?_
    rintro e w3 ⟨r3, n3, bs3, src3, rfl, hn3, hbr3, heq3, hK3⟩
    have hfit3 := hbr3.fit
    have hlen3 := hbr3.len
    have heqw : win bs3 r3 n3 ++ src3 = whole := heq3.trans HT2.out.eq
    have hts3 := HT2.out.next hK3 hbr3 heqw
    obtain ⟨hby, _, _⟩ := win_head (by omega) (by omega) (heqw.trans HW1.out)
    have hcell := hbr3.bytebb r3 (by omega) hby
    have hix := hbr3.ixk r3 1 (4096 - r3) 0 (by omega) (by omega) 0 rfl
    rw [Nat.add_zero] at hix
    have h32 : ¬ (c1.toNat : Int) = 32 := fun e => by have := HC1.out; rw [(u8_iff _ 32).1 e] at this; simp [blankC] at this
    have h9 : ¬ (c1.toNat : Int) = 9 := fun e => by have := HC1.out; rw [(u8_iff _ 9).1 e] at this; simp [blankC] at this
    obtain ⟨f1, f2⟩ := i_not h32
    obtain ⟨f3, f4⟩ := i_not h9
    have hmbt : tb < wc.heap.size := Nat.lt_of_lt_of_le htl HST.out.kp.size
    have hown : ∀ b, tb ≤ b → b ∉ R.own := fun b hb e => by have := hold b e; omega
    have hsbt := HST.out.ge
    have hslt := HST.out.lt
    have hsz : wc.heap.size ≤ w3.heap.size := Nat.le_trans (by simp) hK3.size
    have hwwc : w.heap.size ≤ wc.heap.size := Nat.le_trans hK1.size HST.out.kp.size
    have hmi : MI w w3 E R tb wc.heap.size sb k 0 0 sa (.slice none 0 0) [] r3 n3 bs3 src3 (-1) (-1) whole [] [] := by
      refine ⟨hts3, ⟨(MP.made wc).kp hK3 (hown _ (by omega)), .nil, by simp, by simp, by omega, by omega, by omega, by simp [Value.ownBlock]⟩, ?_, Nat.zero_le _, hk, fun h => (HST.out.sa_ h).1, fun h => ?_, fun h => ?_, htlt, hold, hold2, by simp [Value.ownBlock], Nat.le_trans hK1.size HST.out.kp.size⟩
      · exact ((hK1.trans (HST.out.kp.mono (by simp))).alloc _).trans hK3 |>.mono (fun b hb _ => by simp [hb])
      · obtain ⟨cs, h1, h2⟩ := (HST.out.sa_ h).2
        exact ⟨cs, (h1.alloc _).kp hK3 (hown _ hsbt), h2⟩
      · rcases HST.out.nw with h5 | h5
        · have := HST.out.ng h h5; omega
        · exact Nat.le_trans hK1.size h5
    have hR : RMRel w E R tb wc.heap.size k rest HF w3 items.length (.int .i64 10485760) (.int .i64 10000) (strsV sa k 0) :=
      ⟨sb, 0, 0, sa, _, _, _, _, _, _, _, _, whole, [], [], items, _, _, rfl, rfl, rfl, hmi, HLL.out, rfl, hHF, by omega, by omega, by omega, by omega⟩
    clear hmi hts3 hbr3 hby hpk h32 h9 HT2 HST HTS k2 heq3 heqw hK3 hHF
    go_wp2
    clear hcell hix f1 f2 f3 f4
    go_loopg [1, 2, 8] items.length (fun q v1 v2 v8 w' => RMRel w E R tb wc.heap.size k rest HF w' q v1 v2 v8)
    case atStart => exact hR
    case round =>
      clear hR
      obtain ⟨sb1, used, cnt, sa1, v1, bl1, r4, n4, bs4, src4, lb4, lr4, whole4, kvs, hs, items4, mm, mh, rfl, rfl, rfl, hmi, hLn, hq, hfo, hm1, hm2, hm3, hm4⟩ := hrel
      cases hLn with
      | done l rest' hl hl2 hd =>
        have hce := cont_end hmi.ts l rest rfl hl hl2 hd mm (by omega)
        have HMI := Lib.hid hmi
        have HFO : Hid (hs = HF) := hfo
        clear hmi hfo hl hd
        go_wp2_with fail
        refine hce.mono ?_
        rintro e w4 ⟨a, c, r5, n5, bs5, src5, lb5, lr5, rfl, hts5, hK5⟩
        have hpost : HdPost w w4 E R tb rest HF wc.heap.size kvs := by
          refine ⟨⟨_, _, _, _, _, _, _, _, hts5⟩, ⟨sb1, used, cnt, v1, ?_⟩, HMI.out.kp.trans (hK5.mono (fun b hb _ => by simp [hb]))⟩
          rw [← HFO.out]
          exact HMI.out.hi.kp hK5 (fun e => by have := HMI.out.old _ e; have := HMI.out.hi.mbase; omega) (fun b hb p hp e => by have := HMI.out.old b hb; have := (HMI.out.hi.new p hp b e).1; omega) (fun b hb => .inl hb)
        have HP := Lib.hid hpost
        clear hpost hts5 hK5 hce HMI
        go_wp2
        go_ret2
        exact ⟨_, _, rfl, HP.out⟩
      | more whole' kv rest' key vt fin items' hL hkv hk hk0 hv hlen4 t =>
        have hce := cont_any hmi.ts kv rest' hL mm (by omega) (by omega)
        have HMI := Lib.hid hmi
        have HFO := Lib.hid hfo
        have HT := Lib.hid t
        have HKV := Lib.hid hkv
        have HM3 := Lib.hid hm3
        have hmh : 9000 ≤ mh := by omega
        have hmh2 : mh ≤ 10000 := by omega
        have HKK := Lib.hid hk
        have HVV := Lib.hid hv
        have hkvl : kv.length = key.length + (vt.length + 1) := by rw [hkv]; simp
        have HKL := Lib.hid hkvl
        have hkl1 : key.length + 1 ≤ kv.length := by omega
        clear hmi hfo hL hk hv t hkv hm3 hkvl
        go_wp2_with fail
        refine hce.mono ?_
        rintro e w4 ⟨v5, bl5, r5, n5, bs5, src5, lb5, lr5, xb, o, c, cs, rfl, hcp⟩
        clear hce
        have hmbt' := HMI.out.hi.mbase
        have hownd := HMI.out.old
        have hvse := HMI.out.hi.vsep
        have hSmb : wc.heap.size ∉ TS R tb v1 := by
          intro e
          simp [TS] at e
          rcases e with e | e | e
          · omega
          · have := hownd _ e; omega
          · exact (hvse _ e).1 rfl
        have hSkv : ∀ b ∈ TS R tb v1, ∀ p ∈ kvs, p.2.ownBlock ≠ some b := by
          intro b hb p hp e
          have := (HMI.out.hi.new p hp b e).1
          simp [TS] at hb
          rcases hb with rfl | hb | hb
          · omega
          · have := hownd _ hb; omega
          · exact (hvse _ hb).2.2 p hp e
        have hi4 := HMI.out.hi.kp hcp.kp hSmb hSkv hcp.nw
        have hK4 : Kp (tb :: R.own) w w4 := HMI.out.kp.trans' hcp.kp (fun x hx => by
          simp [TS] at hx
          rcases hx with rfl | hx | hx
          · left; simp
          · left; simp [hx]
          · right; exact HMI.out.old3 x hx)
        have hsb4 : used < k → ∃ cs, Blk w4 sb1 cs 9 ∧ cs.size = k := fun hu => by
          obtain ⟨cs, h1, h2⟩ := HMI.out.sbk hu
          refine ⟨cs, h1.kp hcp.kp (fun e => ?_), h2⟩
          have := HMI.out.sg hu
          simp [TS] at e
          rcases e with e | e | e
          · omega
          · have := hownd _ e; omega
          · exact (hvse _ e).2.1 rfl
        have hold5 : ∀ b, v5.ownBlock = some b → w.heap.size ≤ b := fun b hb => by
          rcases hcp.nw b hb with h1 | h1
          · exact HMI.out.old3 b h1
          · exact Nat.le_trans HMI.out.kp.size h1
        have hcap := hcp.at_.cap
        have hcmax := hcp.at_.cmax
        have hhb4 := hcp.at_.hb
        have hcut := cutB_some (some ⟨xb, o, none⟩) (some ⟨w4.heap.size, 0, none⟩) c 1 kv [58] (w4.alloc (.cells #[.int .u8 58] 5 (1, 2))) key.length (hhb4.kp (S := []) ((Kp.refl _ _).alloc _) (by simp)) hcap (hb_const w4 58 (1, 2)) (by omega) (by simp) (by rw [HKV.out]; exact findL_one 58 key vt (not_colon HKK.out))
        have HI4 := Lib.hid hi4
        have HCP := Lib.hid hcp
        have hcv := conv22
        have hkz : ((kv.length : Int) == 0) = false := by rw [beq_eq_false_iff_ne]; omega
        clear hi4 hcp hSmb hSkv hvse hhb4
        simp only [List.length_cons, List.length_nil, Nat.zero_add] at hcut
        go_wp2_with fail
        refine hcut.mono ?_
        rintro e w5 ⟨rfl, j5, rfl⟩
        have hK5 : Kp [] w4 ((w4.alloc (.cells #[.int .u8 58] 5 (1, 2))).drewN j5) := ((Kp.refl _ _).alloc _).drewN' _
        generalize (w4.alloc (.cells #[.int .u8 58] 5 (1, 2))).drewN j5 = w5 at hK5 ⊢
        have hkey4 : HasB cs o key := by
          have := HCP.out.at_.has.take key.length (by omega)
          rwa [HKV.out, List.take_left] at this
        have hblk5 : Blk w5 xb (putAt cs o key) 5 := by rw [← hkey4.1]; exact HCP.out.at_.blk.kp hK5 (by simp)
        have hck := canonKey_any xb o c 5 cs key w5 hblk5 hkey4.2 HKK.out hk0 (by omega)
        clear hcut hcv hblk5
        go_wp2_with fail
        refine hck.mono ?_
        rintro e w6 ⟨rfl, hblk6, hK6⟩
        clear hck
        have hK46 : Kp [xb] w4 w6 := (hK5.mono (by simp)).trans hK6
        have hcl := canon_len key
        obtain ⟨bl6, bs6, hts6⟩ := HCP.out.ts.edit HCP.out.at_ (canonB key) (by omega) hblk6 hK46
        have hvl : kv.length - (key.length + 1) = vt.length := by have := HKL.out; omega
        have hbv : HB w6 (cutAt (some ⟨xb, o, none⟩) c (key.length + 1)) vt := by
          have e1 : kv.drop (canonB key).length = 58 :: vt := by rw [hcl, HKV.out, List.drop_left]
          have e2 : putAt cs o (canonB key) = putAt cs o (canonB key ++ 58 :: vt) := by
            conv => lhs; rw [HCP.out.at_.has.1]
            rw [putAt_putAt _ _ _ _ (by omega) HCP.out.at_.has.2, e1]
          rw [e2] at hblk6
          have e3 : (canonB key ++ 58 :: vt).length = kv.length := by have := HKL.out; simp; omega
          have h1 := (hblk6.hbAt (by rw [e3]; exact HCP.out.at_.has.2)).drop (c := c) (k := key.length + 1) (by rw [e3]; exact hcap) (by omega)
          have e4 : (canonB key ++ 58 :: vt).drop (key.length + 1) = vt := by rw [← hcl, ← List.drop_drop, List.drop_left]; rfl
          rwa [e4] at h1
        have hxb : xb ≠ wc.heap.size ∧ xb ≠ tb ∧ (used < k → xb ≠ sb1) ∧ ∀ p ∈ kvs, p.2.ownBlock ≠ some xb := by
          rcases HCP.out.at_.at_ with ⟨e1, _, _⟩ | ⟨e1, _, _⟩
          · have hb := hownd R.bb (by simp [RS.own])
            rw [e1]
            refine ⟨by omega, by omega, fun hu => by have := HMI.out.sg hu; omega, fun p hp e => by have := (HI4.out.new p hp _ e).1; omega⟩
          · have hb := HI4.out.vsep xb (by rw [e1]; rfl)
            exact ⟨hb.1, fun e => (HCP.out.ts.vo xb (by rw [e1]; rfl)).2.2.1 e, fun _ => hb.2.1, hb.2.2⟩
        have hi6 : HI w6 wc.heap.size sb1 used cnt w.heap.size v5 kvs hs := HI4.out.kp hK46 (by simp; exact fun e => hxb.1 e.symm) (by intro b hb p hp e; simp at hb; subst hb; exact hxb.2.2.2 p hp e) (fun b hb => .inl hb)
        have hK6' : Kp (tb :: R.own) w w6 := hK4.trans' hK46 (fun x hx => by
          simp at hx; subst hx
          rcases HCP.out.at_.at_ with ⟨e1, _, _⟩ | ⟨e1, _, _⟩
          · left; rw [e1]; simp [RS.own]
          · right; exact hold5 x (by rw [e1]; rfl))
        have hsb6 : used < k → ∃ cs, Blk w6 sb1 cs 9 ∧ cs.size = k := fun hu => by
          obtain ⟨cs, h1, h2⟩ := hsb4 hu
          exact ⟨cs, h1.kp hK46 (by simp; exact fun e => hxb.2.2.1 hu e.symm), h2⟩
        obtain ⟨o', ho'⟩ : ∃ o', cutAt (some ⟨xb, o, none⟩) c (key.length + 1) = some ⟨xb, o', none⟩ := by
          unfold cutAt
          split
          · exact ⟨o, rfl⟩
          · exact ⟨o + (key.length + 1), by simp [Addr.add]⟩
        rw [hvl, ho']
        rw [ho'] at hbv
        have hvc : vt.length ≤ c - (key.length + 1) := by have := HKL.out; omega
        have hvl2 : vt.length ≤ 2100 := by omega
        have hvmax : c - (key.length + 1) ≤ 9223372036854775807 := by omega
        generalize c - (key.length + 1) = vc at hvc hvmax ⊢
        have HX6 := Lib.hid (And.intro hts6 (And.intro hi6 (And.intro hK6' hsb6)))
        have HBV := Lib.hid hbv
        have hslx : ∀ i, i < vt.length → ∀ w : World, (Instr.indexAt 22 (.slice (some ⟨xb, o', none⟩) vt.length vc) (.int .i64 (i : Int))).run Tryz.prog w = .ok (.pointer (some ⟨xb, o' + i, none⟩)) w := by
          intro i hi w1
          have := ix_any (some ⟨xb, o', none⟩) vt.length vc (fun _ => rfl) w1 (i : Int) (by omega) (by omega)
          rw [this, show (i : Int).toNat = i from by omega, at_mk]
        have HSX := Lib.hid hslx
        clear hblk6 hts6 hbv hi6 hK6' hsb6 hslx hsb4 hK4 hK5 hK6 hK46 hkey4 hxb HCP HI4
        go_wp2
        go_loop [105] (fun v => CK1 vt.length (.bool false) v) (fun v => vt.length - (intOf v).toNat)
        case atStart => exact ⟨rfl, 0, Nat.zero_le _, rfl⟩
        case round =>
          obtain ⟨_, ii, hii, rfl⟩ := hrel
          by_cases hlt : ii < vt.length
          · have hix := HSX.out ii hlt
            have hcell := HBV.out.cell ii hlt
            rw [at_mk] at hcell
            have hcon := valueByte (byt vt ii) w6 (List.all_eq_true.1 HVV.out _ (by rw [byt_lt _ _ hlt]; exact List.getElem_mem hlt))
            clear hvl ho' hcl
            go_wp2_with fail
            refine hcon.mono ?_
            rintro e w' ⟨rfl, rfl⟩
            clear hcon hix
            go_wp2
            go_round
            case rel => exact ⟨rfl, ii + 1, hlt, by go_num⟩
            case measure => simp [intOf]; omega
          · have htl := trimLeft_any xb o' vc vt w6 HBV.out hvc hvmax
            have hcl2 : (canonB key).length ≤ 2100 := by omega
            clear hvl ho' hcl
            go_wp2_with fail
            refine htl.mono ?_
            rintro e w7 ⟨a7, c7, rfl, hb7, hK7⟩
            have hvle : (vt.dropWhile blankC).length ≤ 2100 := by have := (List.dropWhile_suffix (l := vt) blankC).length_le; omega
            have hstr := run_str w7 a7 (vt.dropWhile blankC) (vt.dropWhile blankC).length c7 hb7 rfl
            have HVAL : Hid (vt.dropWhile blankC = vt.dropWhile blankC) := rfl
            obtain ⟨hts6, hi6, hKw6, hsb6⟩ := HX6.out
            have hi7 := hi6.kp hK7 (by simp) (by simp) (fun b hb => .inl hb)
            have hts7 := hts6.kp hK7 (by simp) (by simp) (by simp) (by simp) (by simp)
            have hlk := hi7.mp.lookup (canonB key) (by unfold maxLen; omega)
            have hget := hi7.get (canonB key)
            have hKw7 : Kp (tb :: R.own) w w7 := hKw6.trans (hK7.mono (by simp))
            have hsb7 : used < k → ∃ cs, Blk w7 sb1 cs 9 ∧ cs.size = k := fun hu => by
              obtain ⟨cs, h1, h2⟩ := hsb6 hu
              exact ⟨cs, h1.kp hK7 (by simp), h2⟩
            have HHF7 : Hid (items'.foldl (fun h p => hAdd p.1 p.2 h) (hAdd (canonB key) (vt.dropWhile blankC) hs) = HF) := HFO.out
            generalize vt.dropWhile blankC = val at hstr hvle HHF7 hb7 ⊢
            have hmi7 : MI w w7 E R tb wc.heap.size sb1 k used cnt sa1 v5 bl6 r5 n5 bs6 src5 lb5 lr5 rest' kvs hs := ⟨hts7, hi7, hKw7, HMI.out.ul, hk, HMI.out.sa_, hsb7, HMI.out.sg, HMI.out.tlt, HMI.out.old, HMI.out.old2, hold5, HMI.out.mw⟩
            have HMI7 := Lib.hid hmi7
            clear hmi7 htl hts6 hi6 hKw6 hsb6 hi7 hts7 HX6 HBV HSX HVV HKK HKV HKL hb7 HFO
            cases hg : kvGet (canonB key) kvs with
            | none =>
              rw [hg] at hlk hget
              have heq := fun w => Lib.run_eql_slice_nil (P := Tryz.prog) w 41 9 none 0 0 0 0 elem41
              simp only [Option.getD_none, Option.isNone_none] at hlk hget heq
              have HG := Lib.hid hg
              have HGET := Lib.hid hget
              clear hg hget
              by_cases hu : used < k
              · have hsa := HMI.out.sa_ hu
                have e8 : strsV sa1 k used = .slice (some ⟨sb1, used, none⟩) (k - used) (k - used) := by unfold strsV; rw [hsa]
                rw [e8]
                obtain ⟨cs7, hblk7, hcs7⟩ := hsb7 hu
                have hd1 : decide ((0 : Int) < ((k - used : Nat) : Int)) = true := by simp; omega
                have hd2 : decide (0 < k - used) = true := by simp; omega
                have hp : 0 < k - used := by omega
                have hs1 := fun w => run41_hm w (some ⟨sb1, used, none⟩) (k - used) (k - used) (by omega)
                have hs2 := fun w => run41_l w (some ⟨sb1, used, none⟩) (k - used) (k - used) (by omega)
                have hs3 := fun w => run41_ix w sb1 used 1 1 (by omega)
                have hcell7 : ∃ x, w7.cell? ⟨sb1, used, none⟩ = some x := ⟨cs7[used]'(by omega), by rw [Blk.cell hblk7]; exact Array.getElem?_eq_getElem _⟩
                obtain ⟨x7, hx7⟩ := hcell7
                have hf7 := Blk.free hblk7 used
                have hsg := HMI.out.sg hu
                go_upto_region 43 with (fail)
                go_quiet (fail)
                go_upto_region 45 with (fail)
                refine wp_world (fun w8 H8 => ?_)
                have hK8 : Kp [sb1] w7 w8 := by rw [H8.out]; exact ((Kp.refl _ _).drewN' _).setCell (.inl (by simp)) _
                have hblk8 : Blk w8 sb1 (cs7.setIfInBounds used (S1 val)) 9 := by rw [H8.out]; exact (hblk7.drewN _).set used (S1 val)
                obtain ⟨hmi8, hvv8⟩ := HMI7.out.stored hu (canonB key) val HG.out cs7 hblk7 hcs7 hK8 hblk8
                have hmp8 := hmi8.hi.mp
                have hkm : (canonB key).length ≤ maxLen := by unfold maxLen; omega
                have hcm : cnt < maxLen := by unfold maxLen; omega
                have hkn : kvGet (canonB key) hs = none := HGET.out.2.2.2.1 trivial
                have hfin : Hid (∀ w9, MP w9 wc.heap.size (cnt + 1) (kvPut (canonB key) (.slice (some ⟨sb1, used, none⟩) 1 1) kvs) → w8.grownBy w9 (some wc.heap.size) →
                    RMRel w E R tb wc.heap.size k rest HF w9 (gk - 1) (.int .i64 (mm - (canonB key).length - 200 - val.length)) (.int .i64 (mh - 1)) (.slice (cutAt (some ⟨sb1, used, none⟩) (k - used) 1) (k - used - 1) (k - used - 1))) := by
                  intro w9 hmp9 hg9
                  have hmi9 := hmi8.finS (canonB key) val used hvv8 hsg hkn hmp9 hg9
                  have hm3 := HM3.out
                  simp only [List.length_cons] at hq
                  exact ⟨sb1, used + 1, cnt + 1, _, _, _, _, _, _, _, _, _, rest', _, _, items', _, _, rfl, rfl, by unfold strsV; rw [show k - (used + 1) = k - used - 1 from by omega], hmi9, HT.out, by omega, HHF7.out, by omega, by omega, by omega, by omega⟩
                have hqq : Hid (gk - 1 < gk) := by simp only [List.length_cons] at hq; exact Nat.sub_lt (by omega) (by omega)
                clear hmi8 hvv8 hK8 hblk8 hblk7 H8 HMI7 HGET HG hs1 hs2 hs3 hx7
                go_wp2_with (at_mapUpdate; refine wpList_put rfl (.tmp 156) (.tmp 157) (.tmp 158) rfl wc.heap.size cnt kvs rfl hmp8 hcm (canonB key) (.slice (some ⟨sb1, used, none⟩) 1 1) rfl rfl hkm ?_; intro w9 hmp9 hg9; have hrel9 := hfin.out w9 hmp9 hg9)
                go_roundg (gk - 1)
                case measure => exact hqq.out
                case rel => exact hrel9
              · have he0 : k - used = 0 := by have := HMI.out.ul; omega
                have e8 : strsV sa1 k used = .slice sa1 0 0 := by unfold strsV; rw [he0]
                rw [e8]
                have hfin : Hid (∀ (v' : Value) (w8 w9 : World), (MP w9 wc.heap.size (cnt + 1) (kvPut (canonB key) v' kvs) → w8.grownBy w9 (some wc.heap.size) → MI w w9 E R tb wc.heap.size sb1 k used (cnt + 1) sa1 v5 bl6 r5 n5 bs6 src5 lb5 lr5 rest' (kvPut (canonB key) v' kvs) (hAdd (canonB key) val hs)) → MP w9 wc.heap.size (cnt + 1) (kvPut (canonB key) v' kvs) → w8.grownBy w9 (some wc.heap.size) →
                    RMRel w E R tb wc.heap.size k rest HF w9 (gk - 1) (.int .i64 (mm - (canonB key).length - 200 - val.length)) (.int .i64 (mh - 1)) (.slice sa1 0 0)) := by
                  intro v' w8 w9 hmi9 hmp9 hg9
                  have hm3 := HM3.out
                  simp only [List.length_cons] at hq
                  exact ⟨sb1, used, cnt + 1, sa1, _, _, _, _, _, _, _, _, rest', _, _, items', _, _, rfl, rfl, e8.symm, hmi9 hmp9 hg9, HT.out, by omega, HHF7.out, by omega, by omega, by omega, by omega⟩
                have hqq : Hid (gk - 1 < gk) := by simp only [List.length_cons] at hq; exact Nat.sub_lt (by omega) (by omega)
                have hkm : (canonB key).length ≤ maxLen := by unfold maxLen; omega
                have hcm : cnt < maxLen := by unfold maxLen; omega
                have hvvg : Hid (Value.slice none 0 0 = (kvGet (canonB key) kvs).getD (.slice none 0 0)) := by show _ = _; rw [HG.out]; rfl
                go_wp2_with (first | (at_builtin; refine wpList_appendHdr rfl (.tmp 161) (.tmp 163) rfl HMI7.out (canonB key) val _ hvvg.out rfl rfl (by omega) ?_; intro v' w8 hmp8 hmi8) | (at_mapUpdate; refine wpList_put rfl (.tmp 159) (.tmp 160) (.tmp 164) rfl wc.heap.size cnt kvs rfl hmp8 hcm (canonB key) v' rfl rfl hkm ?_; intro w9 hmp9 hg9; have hrel9 := hfin.out v' w8 w9 (hmi8 w9) hmp9 hg9))
                go_roundg (gk - 1)
                case measure => exact hqq.out
                case rel => exact hrel9
            | some vv =>
              rw [hg] at hlk hget
              obtain ⟨av, nv, cv, rfl⟩ := hget.2.2.2.2 vv rfl
              have heq := fun w => Lib.run_eql_slice_nil (P := Tryz.prog) w 41 9 (some av) nv cv 0 0 elem41
              simp only [Option.getD_some, Option.isNone_some] at hlk heq
              have hfin : Hid (∀ (v' : Value) (w8 w9 : World), (MP w9 wc.heap.size (cnt + 1) (kvPut (canonB key) v' kvs) → w8.grownBy w9 (some wc.heap.size) → MI w w9 E R tb wc.heap.size sb1 k used (cnt + 1) sa1 v5 bl6 r5 n5 bs6 src5 lb5 lr5 rest' (kvPut (canonB key) v' kvs) (hAdd (canonB key) val hs)) → MP w9 wc.heap.size (cnt + 1) (kvPut (canonB key) v' kvs) → w8.grownBy w9 (some wc.heap.size) →
                  RMRel w E R tb wc.heap.size k rest HF w9 (gk - 1) (.int .i64 (mm - val.length)) (.int .i64 (mh - 1)) (strsV sa1 k used)) := by
                intro v' w8 w9 hmi9 hmp9 hg9
                have hm3 := HM3.out
                simp only [List.length_cons] at hq
                exact ⟨sb1, used, cnt + 1, sa1, _, _, _, _, _, _, _, _, rest', _, _, items', _, _, rfl, rfl, rfl, hmi9 hmp9 hg9, HT.out, by omega, HHF7.out, by omega, by omega, by omega, by omega⟩
              have hqq : Hid (gk - 1 < gk) := by simp only [List.length_cons] at hq; exact Nat.sub_lt (by omega) (by omega)
              have hkm : (canonB key).length ≤ maxLen := by unfold maxLen; omega
              have hcm : cnt < maxLen := by unfold maxLen; omega
              have hvvg : Hid (Value.slice (some av) nv cv = (kvGet (canonB key) kvs).getD (.slice none 0 0)) := by show _ = _; rw [hg]; rfl
              clear hg hget
              go_wp2_with (first | (at_builtin; refine wpList_appendHdr rfl (.tmp 161) (.tmp 163) rfl HMI7.out (canonB key) val _ hvvg.out rfl rfl (by omega) ?_; intro v' w8 hmp8 hmi8) | (at_mapUpdate; refine wpList_put rfl (.tmp 159) (.tmp 160) (.tmp 164) rfl wc.heap.size cnt kvs rfl hmp8 hcm (canonB key) v' rfl rfl hkm ?_; intro w9 hmp9 hg9; have hrel9 := hfin.out v' w8 w9 (hmi8 w9) hmp9 hg9))
              go_roundg (gk - 1)
              case measure => exact hqq.out
              case rel => exact hrel9
end
end Go.Proofs.YtkbgnplknifmhaaGreatDoor
namespace Go.Proofs.YtkbgnplknifmhaaGreatDoor
open Go.RowKit
attribute [local go_sem ↓] Go.wp_at_zero Go.wp_at_succ

/-! ### skipLWSPChar (101) -/
def SameBlk (a' a : Option Addr) : Prop := ∀ x, a' = some x → ∃ y, a = some y ∧ x.block = y.block
theorem SameBlk.cut {a' a : Option Addr} (h : SameBlk a' a) (c k : Nat) : SameBlk (cutAt a' c k) a := by
  intro x hx
  unfold cutAt at hx
  split at hx
  · exact h x hx
  · cases a' with
    | none => cases hx
    | some z =>
      simp only [Option.map_some, Option.some.injEq] at hx
      obtain ⟨y, hy, e⟩ := h z rfl
      refine ⟨y, hy, ?_⟩
      rw [← e, ← hx]; unfold Addr.add; split <;> rfl
theorem SameBlk.refl (a : Option Addr) : SameBlk a a := fun x hx => ⟨x, hx, rfl⟩
def SkRel (w : World) (a0 : Option Addr) (l : Bytes) (v : Value) : Prop := ∃ a c m, SameBlk a a0 ∧ v = .slice a m.length c ∧ HB w a m ∧ m.length ≤ c ∧ m.length ≤ 281474976710656 ∧ m.dropWhile blankC = l.dropWhile blankC
set_option maxRecDepth 20000 in
set_option maxHeartbeats 1000000 in
theorem skip_any (a : Option Addr) (c : Nat) (l : Bytes) (w : World) (h : HB w a l) (hc : l.length ≤ c) (hl : l.length ≤ 281474976710656) :
    Calls Tryz.prog 101 #[.slice a l.length c] w fun e w' => (∃ a' c', SameBlk a' a ∧ e = .returned (.slice a' (l.dropWhile blankC).length c') ∧ HB w a' (l.dropWhile blankC) ∧ (l.dropWhile blankC).length ≤ c') ∧ w = w' := by
  have hR : SkRel w a l (.slice a l.length c) := ⟨a, c, l, .refl _, rfl, h, hc, hl, rfl⟩
  clear h hc
  go_enter Tryz.func101, Tryz.ntmps101
  go_wp2
  go_loop [0] (fun v => SkRel w a l v) (fun v => match v with | .slice _ n _ => n | _ => 0)
  case atStart => exact hR
  case round =>
    clear hR
    obtain ⟨a1, c1, m, hsb, rfl, h1, hc1, hl1, he⟩ := hrel
    cases m with
    | nil =>
      have HE : Hid (l.dropWhile blankC = []) := by show _ = _; rw [← he]; rfl
      clear he
      simp only [List.length_nil] at *
      go_wp2
      go_ret
      rw [HE.out]
      exact ⟨⟨a1, c1, hsb, rfl, h1, hc1⟩, rfl⟩
    | cons b m =>
      have hix := h1.ix (b :: m).length c1 (Nat.le_refl _)
      have hcell := h1.cell 0 (by simp)
      have e0 : byt (b :: m) 0 = b := rfl
      rw [e0] at hcell
      have hix0 : ∀ w : World, (Instr.indexAt 22 (.slice a1 (b :: m).length c1) (.int .i64 0)).run Tryz.prog w = .ok (.pointer (some (at_ a1 0))) w := fun w => hix w 0 (by omega) (by simp)
      have hd := h1.drop hc1 (k := 1) (by simp)
      simp only [List.drop_succ_cons, List.drop_zero] at hd
      have h1' : Hid (HB w a1 (b :: m)) := h1
      have hlen' : (b :: m).length = m.length + 1 := rfl
      clear hix h1
      rw [hlen'] at hix0 hc1 hl1 ⊢
      have hb12 : blankC b = true ∨ blankC b = false := by cases blankC b <;> simp
      have hR : blankC b = true → SkRel w a l (.slice (cutAt a1 c1 1) m.length (c1 - 1)) := fun hb => ⟨_, _, m, hsb.cut _ _, rfl, hd, by omega, by omega, by rw [← he]; simp [List.dropWhile, hb]⟩
      have HR := Lib.hid hR
      have HE : Hid (blankC b = false → l.dropWhile blankC = b :: m) := fun hb => by rw [← he]; simp [List.dropWhile, hb]
      clear he hR hd hb12
      by_cases h1 : ((b.toNat : Int)) = 32
      · have H1 : Hid (blankC b = true) := by show _ = _; simp [blankC, (u8_iff _ 32).1 h1]
        obtain ⟨e1, e2⟩ := i_is h1
        clear h1 HE h1'
        go_wp2
        go_round
        case rel => exact HR.out H1.out
        case measure => simp
      · by_cases h2 : ((b.toNat : Int)) = 9
        · have H1 : Hid (blankC b = true) := by show _ = _; simp [blankC, (u8_iff _ 9).1 h2]
          obtain ⟨e1, e2⟩ := i_not h1
          obtain ⟨e3, e4⟩ := i_is h2
          clear h1 h2 HE h1'
          go_wp2
          go_round
          case rel => exact HR.out H1.out
          case measure => simp
        · have H1 : Hid (blankC b = false) := by show _ = _; simp [blankC]; exact ⟨fun e => h1 ((u8_iff _ 32).2 e), fun e => h2 ((u8_iff _ 9).2 e)⟩
          obtain ⟨e1, e2⟩ := i_not h1
          obtain ⟨e3, e4⟩ := i_not h2
          clear h1 h2 HR
          go_wp2
          go_ret
          rw [HE.out H1.out]
          first | exact ⟨⟨a1, c1, hsb, rfl, h1'.out, by simp; omega⟩, rfl⟩ | exact ⟨⟨a1, hsb, c1, rfl, h1'.out, by simp; omega⟩, rfl⟩
end Go.Proofs.YtkbgnplknifmhaaGreatDoor
namespace Go.Proofs.YtkbgnplknifmhaaGreatDoor
open Go.RowKit
attribute [local go_sem ↓] Go.wp_at_zero Go.wp_at_succ

/-- Where the parts of a multipart reader lie: its block m; the block bd of its delimiters' bytes; the addresses and capacities of its four slices. -/
structure MS where
  m : Nat
  bd : Nat
  rb : Nat
  an : Option Addr
  cn : Nat
  ad : Option Addr
  cd : Nat
  ae : Option Addr
  ce : Nat
  ab : Option Addr
  cb : Nat
/-- "--" and the boundary. -/
def dlm (b : Bytes) : Bytes := 45 :: 45 :: b
def mrCells (M : MS) (b nl : Bytes) (cur : Value) (pr : Int) : Array Value :=
  #[.pointer (some ⟨M.rb, 0, none⟩), .string (str []), cur, .int .i64 pr, .slice M.an nl.length M.cn, .slice M.ad (nl ++ dlm b).length M.cd, .slice M.ae (dlm b ++ [45, 45]).length M.ce, .slice M.ab (dlm b).length M.cb]
structure MRx (w : World) (M : MS) (b nl : Bytes) (cur : Value) (pr : Int) : Prop where
  blk : Blk w M.m (mrCells M b nl cur pr) 108
  hn : HB w M.an nl
  hd : HB w M.ad (nl ++ dlm b)
  he : HB w M.ae (dlm b ++ [45, 45])
  hb : HB w M.ab (dlm b)
  cn : nl.length ≤ M.cn
  cd : (nl ++ dlm b).length ≤ M.cd
  ce : (dlm b ++ [45, 45]).length ≤ M.ce
  cb : (dlm b).length ≤ M.cb
  inn : ∀ x, M.an = some x → x.block = M.bd
  ind : ∀ x, M.ad = some x → x.block = M.bd
  ine : ∀ x, M.ae = some x → x.block = M.bd
  inb : ∀ x, M.ab = some x → x.block = M.bd
  ne : ¬ M.m = M.bd
  lb : b.length ≤ 70
theorem MRx.kp {w w' : World} {M : MS} {b nl : Bytes} {cur : Value} {pr : Int} {S : List Nat} (h : MRx w M b nl cur pr) (k : Kp S w w') (h1 : M.m ∉ S) (h2 : M.bd ∉ S) : MRx w' M b nl cur pr :=
  ⟨h.blk.kp k h1, h.hn.kp k (fun x e => by rw [h.inn x e]; exact h2), h.hd.kp k (fun x e => by rw [h.ind x e]; exact h2), h.he.kp k (fun x e => by rw [h.ine x e]; exact h2), h.hb.kp k (fun x e => by rw [h.inb x e]; exact h2), h.cn, h.cd, h.ce, h.cb, h.inn, h.ind, h.ine, h.inb, h.ne, h.lb⟩
/-- What stands behind a delimiter, without the blanks. -/
def behind (d l : Bytes) : Bytes := (l.drop d.length).dropWhile blankC
def finalB (b nl l : Bytes) : Bool := (dlm b ++ [45, 45]).isPrefixOf l && ((behind (dlm b ++ [45, 45]) l).isEmpty || behind (dlm b ++ [45, 45]) l == nl)
theorem isPrefixOf_le {l m : Bytes} (h : m.isPrefixOf l = true) : m.length ≤ l.length := (List.isPrefixOf_iff_prefix.1 h).length_le

section
variable {w : World} {M : MS} {b nl : Bytes} {cur : Value} {pr : Int}
set_option maxRecDepth 20000 in
set_option maxHeartbeats 1000000 in
theorem final_any (h : MRx w M b nl cur pr) (a : Option Addr) (c : Nat) (l : Bytes) (hl : HB w a l) (hc : l.length ≤ c) (hll : l.length ≤ 281474976710656) :
    Calls Tryz.prog 88 #[.pointer (some ⟨M.m, 0, none⟩), .slice a l.length c] w fun e w' => e = .returned (.bool (finalB b nl l)) ∧ w = w' := by
  have k : ∀ i, w.cell? ⟨M.m, i, none⟩ = (#[.pointer (some ⟨M.rb, 0, none⟩), .string (str []), cur, .int .i64 pr, .slice M.an nl.length M.cn, .slice M.ad (nl ++ dlm b).length M.cd, .slice M.ae (dlm b ++ [45, 45]).length M.ce, .slice M.ab (dlm b).length M.cb] : Array Value)[i]? := h.blk.cell
  have hp := hasPrefix_any a M.ae c M.ce l (dlm b ++ [45, 45]) w hl hc h.he
  have hn := h.hn
  unfold finalB behind
  clear h
  generalize dlm b ++ [45, 45] = dd at k hp ⊢
  generalize (nl ++ dlm b) = nd at k
  generalize (dlm b) = d at k
  cases hpre : dd.isPrefixOf l with
  | false =>
    rw [hpre] at hp
    clear hpre hl hn
    go_enter Tryz.func88, Tryz.ntmps88
    go_wp2_with fail
    refine hp.mono ?_
    rintro e w' ⟨rfl, rfl⟩
    go_wp2
    go_ret
    exact ⟨rfl, rfl⟩
  | true =>
    rw [hpre] at hp
    have hle := isPrefixOf_le hpre
    have hs := skip_any (cutAt a c dd.length) (c - dd.length) (l.drop dd.length) w (hl.drop hc hle) (by rw [List.length_drop]; omega) (by rw [List.length_drop]; omega)
    rw [List.length_drop] at hs
    have hle' : (dd.length : Int) ≤ l.length := by omega
    generalize (l.drop dd.length).dropWhile blankC = rest at hs ⊢
    clear hpre hl
    go_enter Tryz.func88, Tryz.ntmps88
    go_wp2_with fail
    refine hp.mono ?_
    rintro e w' ⟨rfl, rfl⟩
    clear hp
    go_wp2_with fail
    refine hs.mono ?_
    rintro e w' ⟨⟨a', c', hsb, rfl, h1, h2⟩, rfl⟩
    clear hs
    have hq := equal_any a' M.an c' M.cn rest nl w h1 hn
    cases rest with
    | nil =>
      clear hq
      go_wp2
      go_ret
      exact ⟨rfl, rfl⟩
    | cons x rest =>
      have h0 : (((x :: rest).length : Int) == 0) = false := by simp; omega
      clear hn h1 h2
      go_wp2_with fail
      refine hq.mono ?_
      rintro e w' ⟨rfl, rfl⟩
      go_wp2
      go_ret
      exact ⟨rfl, rfl⟩

/-! ### isBoundaryDelimiterLine (89) -/
def delimLineB (b nl l : Bytes) : Bool := (dlm b).isPrefixOf l && behind (dlm b) l == nl
set_option maxRecDepth 20000 in
set_option maxHeartbeats 1000000 in
theorem delimLine_same (h : MRx w M b nl cur pr) (a : Option Addr) (c : Nat) (l : Bytes) (hl : HB w a l) (hc : l.length ≤ c) (hll : l.length ≤ 281474976710656) (hlf : (dlm b).isPrefixOf l = true → ¬ (pr = 0 ∧ behind (dlm b) l = [10])) :
    Calls Tryz.prog 89 #[.pointer (some ⟨M.m, 0, none⟩), .slice a l.length c] w fun e w' => e = .returned (.bool (delimLineB b nl l)) ∧ w = w' := by
  have k : ∀ i, w.cell? ⟨M.m, i, none⟩ = (#[.pointer (some ⟨M.rb, 0, none⟩), .string (str []), cur, .int .i64 pr, .slice M.an nl.length M.cn, .slice M.ad (nl ++ dlm b).length M.cd, .slice M.ae (dlm b ++ [45, 45]).length M.ce, .slice M.ab (dlm b).length M.cb] : Array Value)[i]? := h.blk.cell
  have hp := hasPrefix_any a M.ab c M.cb l (dlm b) w hl hc h.hb
  have hn := h.hn
  unfold delimLineB
  unfold behind at hlf ⊢
  clear h
  generalize dlm b ++ [45, 45] = dd at k
  generalize (nl ++ dlm b) = nd at k
  generalize (dlm b) = d at k hp hlf ⊢
  cases hpre : d.isPrefixOf l with
  | false =>
    rw [hpre] at hp
    clear hpre hl hn hlf
    go_enter Tryz.func89, Tryz.ntmps89
    go_wp2_with fail
    refine hp.mono ?_
    rintro e w' ⟨rfl, rfl⟩
    go_wp2
    go_ret
    exact ⟨rfl, rfl⟩
  | true =>
    rw [hpre] at hp
    have hlf := hlf hpre
    have hle := isPrefixOf_le hpre
    have hs := skip_any (cutAt a c d.length) (c - d.length) (l.drop d.length) w (hl.drop hc hle) (by rw [List.length_drop]; omega) (by rw [List.length_drop]; omega)
    rw [List.length_drop] at hs
    have hle' : (d.length : Int) ≤ l.length := by omega
    generalize (l.drop d.length).dropWhile blankC = rest at hs hlf ⊢
    have HL := Lib.hid hlf
    clear hpre hl hlf
    go_enter Tryz.func89, Tryz.ntmps89
    go_wp2_with fail
    refine hp.mono ?_
    rintro e w' ⟨rfl, rfl⟩
    clear hp
    go_wp2_with fail
    refine hs.mono ?_
    rintro e w' ⟨⟨a', c', hsb, rfl, h1, h2⟩, rfl⟩
    clear hs
    have hq := equal_any a' M.an c' M.cn rest nl w h1 hn
    by_cases hp0 : pr = 0
    · subst hp0
      by_cases hr1 : rest.length = 1
      · obtain ⟨x, rfl⟩ := List.length_eq_one_iff.1 hr1
        have hx : ((x.toNat : Int) == 10) = false := by
          rw [beq_eq_false_iff_ne]
          intro e
          apply HL.out
          refine ⟨rfl, ?_⟩
          rw [(u8_iff x 10).1 e]
        have hix := h1.ixk 1 c' (Nat.le_refl _) 0 0 rfl (by omega)
        have hcell := h1.cell 0 (by simp)
        have e0 : byt [x] 0 = x := rfl
        rw [e0] at hcell
        clear hn h1 h2 hr1
        go_wp2_with fail
        refine hq.mono ?_
        rintro e w' ⟨rfl, rfl⟩
        go_wp2
        go_ret
        exact ⟨rfl, rfl⟩
      · have hx : ((rest.length : Int) == 1) = false := by rw [beq_eq_false_iff_ne]; omega
        clear hn h1 h2 hr1
        go_wp2_with fail
        refine hq.mono ?_
        rintro e w' ⟨rfl, rfl⟩
        go_wp2
        go_ret
        exact ⟨rfl, rfl⟩
    · have hx : (pr == 0) = false := by rw [beq_eq_false_iff_ne]; exact hp0
      clear hn h1 h2 hp0
      go_wp2_with fail
      refine hq.mono ?_
      rintro e w' ⟨rfl, rfl⟩
      go_wp2
      go_ret
      exact ⟨rfl, rfl⟩

/-- Where the slices lie once LF alone ends the lines. -/
def MS.lf (M : MS) : MS := { M with an := cutAt M.an M.cn 1, cn := M.cn - 1, ad := cutAt M.ad M.cd 1, cd := M.cd - 1 }
theorem cutAt_block {a : Option Addr} {c k bd : Nat} (h : ∀ x, a = some x → x.block = bd) : ∀ x, cutAt a c k = some x → x.block = bd := by
  intro x hx
  unfold cutAt at hx
  split at hx
  · exact h x hx
  · cases a with
    | none => cases hx
    | some y =>
      simp only [Option.map_some, Option.some.injEq] at hx
      have : x.block = y.block := by rw [← hx]; unfold Addr.add; split <;> rfl
      rw [this]; exact h y rfl
set_option maxRecDepth 20000 in
set_option maxHeartbeats 1000000 in
theorem delimLine_lf (h : MRx w M b [13, 10] cur 0) (a : Option Addr) (c : Nat) (l : Bytes) (hl : HB w a l) (hc : l.length ≤ c) (hll : l.length ≤ 281474976710656) (hpre : (dlm b).isPrefixOf l = true) (hlf : behind (dlm b) l = [10]) (hla : ∀ x, a = some x → x.block ≠ M.m) :
    Calls Tryz.prog 89 #[.pointer (some ⟨M.m, 0, none⟩), .slice a l.length c] w fun e w' => e = .returned (.bool true) ∧ MRx w' M.lf b [10] cur 0 ∧ Kp [M.m] w w' := by
  have hblk : Blk w M.m #[.pointer (some ⟨M.rb, 0, none⟩), .string (str []), cur, .int .i64 0, .slice M.an 2 M.cn, .slice M.ad ((dlm b).length + 2) M.cd, .slice M.ae (dlm b ++ [45, 45]).length M.ce, .slice M.ab (dlm b).length M.cb] 108 := h.blk
  have k := hblk.cell
  have f := hblk.free
  have hp := hasPrefix_any a M.ab c M.cb l (dlm b) w hl hc h.hb
  rw [hpre] at hp
  have hle := isPrefixOf_le hpre
  have hs := skip_any (cutAt a c (dlm b).length) (c - (dlm b).length) (l.drop (dlm b).length) w (hl.drop hc hle) (by rw [List.length_drop]; omega) (by rw [List.length_drop]; omega)
  rw [List.length_drop] at hs
  unfold behind at hlf
  rw [hlf] at hs
  have hle' : ((dlm b).length : Int) ≤ l.length := by omega
  have H := Lib.hid h
  have HB0 := Lib.hid hblk
  clear hpre hlf h hblk hl
  go_enter Tryz.func89, Tryz.ntmps89
  go_wp2_with fail
  refine hp.mono ?_
  rintro e w' ⟨rfl, rfl⟩
  clear hp
  go_wp2_with fail
  refine hs.mono ?_
  rintro e w' ⟨⟨a', c', hsb, rfl, h1, h2⟩, rfl⟩
  clear hs
  have hix := h1.ixk 1 c' (Nat.le_refl _) 0 0 rfl (by omega)
  have hcell := h1.cell 0 (by simp)
  have e0 : ((byt [10] 0).toNat : Int) = 10 := rfl
  rw [e0] at hcell
  have hcn : 2 ≤ M.cn := H.out.cn
  have hcd : (dlm b).length + 2 ≤ M.cd := by have := H.out.cd; simp at this; omega
  have hcut1 : ∀ w : World, (Instr.sliceAt 22 (.slice M.an 2 M.cn) (some (.int .i64 1)) none none).run Tryz.prog w = .ok (.slice (cutAt M.an M.cn 1) 1 (M.cn - 1)) w := fun w => run_cut_l w M.an 2 M.cn 1 (by omega) (by omega)
  have hcut2 : ∀ w : World, (Instr.sliceAt 22 (.slice M.ad ((dlm b).length + 2) M.cd) (some (.int .i64 1)) none none).run Tryz.prog w = .ok (.slice (cutAt M.ad M.cd 1) ((dlm b).length + 1) (M.cd - 1)) w := fun w => run_cut_l w M.ad ((dlm b).length + 2) M.cd 1 (by omega) (by omega)
  have ha' : ∀ x, a' = some x → x.block ∉ [M.m] := by
    intro x hx
    obtain ⟨y, hy, e⟩ := hsb x hx
    obtain ⟨z, hz, e2⟩ := (SameBlk.refl a).cut _ _ y hy
    simp [e, e2]; exact hla z hz
  have hK1 : Kp [M.m] w ((w.setCell ⟨M.m, 4, none⟩ (.slice (cutAt M.an M.cn 1) 1 (M.cn - 1))).setCell ⟨M.m, 5, none⟩ (.slice (cutAt M.ad M.cd 1) ((dlm b).length + 1) (M.cd - 1))) := ((Kp.refl _ _).setCell (.inl (by simp)) _).setCell (.inl (by simp)) _
  have hn1 : HB ((w.setCell ⟨M.m, 4, none⟩ (.slice (cutAt M.an M.cn 1) 1 (M.cn - 1))).setCell ⟨M.m, 5, none⟩ (.slice (cutAt M.ad M.cd 1) ((dlm b).length + 1) (M.cd - 1))) (cutAt M.an M.cn 1) [10] :=
    (H.out.hn.drop (c := M.cn) (k := 1) hcn (by simp)).kp hK1 (fun x e => by simp; intro e2; exact H.out.ne (by rw [← e2]; exact cutAt_block H.out.inn x e))
  have hq := equal_any a' (cutAt M.an M.cn 1) c' (M.cn - 1) [10] [10] _ (h1.kp hK1 ha') hn1
  go_wp2_with fail
  refine hq.mono ?_
  rintro e w' ⟨rfl, rfl⟩
  go_wp2
  go_ret
  have hb' := ((HB0.out.set 4 (.slice (cutAt M.an M.cn 1) 1 (M.cn - 1))).set 5 (.slice (cutAt M.ad M.cd 1) ((dlm b).length + 1) (M.cd - 1)))
  have hK1' : M.bd ∉ [M.m] := by simp; exact fun e => H.out.ne e.symm
  refine ⟨rfl, ⟨hb', hn1, ?_, H.out.he.kp hK1 (fun x e => by rw [H.out.ine x e]; exact hK1'), H.out.hb.kp hK1 (fun x e => by rw [H.out.inb x e]; exact hK1'), by simp [MS.lf]; omega, by simp [MS.lf]; omega, H.out.ce, H.out.cb, cutAt_block H.out.inn, cutAt_block H.out.ind, H.out.ine, H.out.inb, H.out.ne, H.out.lb⟩, hK1⟩
  exact (H.out.hd.drop (c := M.cd) (k := 1) H.out.cd (by simp)).kp hK1 (fun x e => by rw [cutAt_block H.out.ind x e]; exact hK1')
end
end Go.Proofs.YtkbgnplknifmhaaGreatDoor
namespace Go.Proofs.YtkbgnplknifmhaaGreatDoor
open Go.RowKit
attribute [local go_sem ↓] Go.wp_at_zero Go.wp_at_succ

/-- A multipart reader over its buffered reader, of which whole is still to come. -/
structure RD (w : World) (E : Value) (R : RS) (M : MS) (b nl : Bytes) (cur : Value) (pr : Int) (whole : Bytes) : Prop where
  br : ∃ r n bs src lb lr, BRx w E R r n bs src .nilIface lb lr ∧ win bs r n ++ src = whole
  mr : MRx w M b nl cur pr
  gv : GV w
  rg : ∀ x ∈ R.own, 15 ≤ x
  dl : R.da < w.heap.size
  rb : M.rb = R.rb
  mo : M.m ∉ R.own ∧ M.m ≠ R.da ∧ 15 ≤ M.m
  bo : M.bd ∉ R.own ∧ M.bd ≠ R.da ∧ 15 ≤ M.bd ∧ M.bd < w.heap.size
theorem RD.own_lt {w : World} {E : Value} {R : RS} {M : MS} {b nl : Bytes} {cur : Value} {pr : Int} {whole : Bytes} (h : RD w E R M b nl cur pr whole) : ∀ x ∈ R.own, x < w.heap.size := by
  obtain ⟨r, n, bs, src, lb, lr, hb, _⟩ := h.br
  exact hb.lts
theorem RD.kp {w w' : World} {E : Value} {R : RS} {M : MS} {b nl : Bytes} {cur : Value} {pr : Int} {whole : Bytes} {S : List Nat} (h : RD w E R M b nl cur pr whole) (k : Kp S w w')
    (h1 : ∀ x ∈ R.own, x ∉ S) (h2 : R.da ∉ S) (h3 : M.m ∉ S) (h4 : M.bd ∉ S) (h5 : ∀ x ∈ S, 15 ≤ x) : RD w' E R M b nl cur pr whole := by
  obtain ⟨r, n, bs, src, lb, lr, hb, he⟩ := h.br
  exact ⟨⟨r, n, bs, src, lb, lr, hb.kp k h1 h2 (fun e => by have := h5 _ e; omega), he⟩, h.mr.kp k h3 h4, h.gv.kp k h5, h.rg, Nat.lt_of_lt_of_le h.dl k.size, h.rb, h.mo, h.bo.1, h.bo.2.1, h.bo.2.2.1, Nat.lt_of_lt_of_le h.bo.2.2.2 k.size⟩

set_option maxHeartbeats 400000 in
theorem newReader_any (rb : Nat) (w : World) :
    Calls Tryz.prog 120 #[.pointer (some ⟨rb, 0, none⟩)] w fun e w' => e = .returned (.pointer (some ⟨w.heap.size, 0, none⟩)) ∧ w' = w.alloc (.cells #[.pointer (some ⟨rb, 0, none⟩), .pointer none, .slice none 0 0] 189) := by
  go_enter Tryz.func120, Tryz.ntmps120
  go_wp2
  go_ret
  exact ⟨rfl, rfl⟩

section
variable {w : World} {E : Value} {R : RS} {tb : Nat} {r n : Nat} {bs src : Bytes} {lb lr : Int} {whole : Bytes}
def HdEnd (w : World) (E : Value) (R : RS) (tb : Nat) (rest : Bytes) (HF : List (Bytes × List Bytes)) (e : Ending) (w' : World) : Prop := ∃ mb kvs, e = .returned (.tuple #[.map (some mb), .nilIface]) ∧ HdPost w w' E R tb rest HF mb kvs
set_option maxHeartbeats 1000000 in
theorem limits_any (h : TSx w E R tb (.slice none 0 0) [] r n bs src lb lr whole) (hold : ∀ b ∈ R.own, b < tb) (hold2 : R.da < tb) (items : List (Bytes × Bytes)) (rest : Bytes) (hL : Lines whole items rest) (hlen : items.length ≤ 150) (HF : List (Bytes × List Bytes)) (hHF : items.foldl (fun h p => hAdd p.1 p.2 h) [] = HF) :
    Calls Tryz.prog 132 #[.pointer (some ⟨tb, 0, none⟩), .int .i64 10485760, .int .i64 10000] w fun e w' => HdEnd w E R tb rest HF e w' := by
  have hcon := readMIME_any h hold hold2 items rest hL hlen HF hHF
  clear h hL hHF
  go_enter Tryz.func132, Tryz.ntmps132
  go_wp2_with fail
  refine hcon.mono ?_
  rintro e w' ⟨mb, kvs, rfl, hp⟩
  have HP := Lib.hid hp
  clear hp hcon
  go_wp2
  go_ret2
  exact ⟨mb, kvs, rfl, HP.out⟩
set_option maxHeartbeats 1000000 in
theorem mimeHeader_any (h : TSx w E R tb (.slice none 0 0) [] r n bs src lb lr whole) (hold : ∀ b ∈ R.own, b < tb) (hold2 : R.da < tb) (items : List (Bytes × Bytes)) (rest : Bytes) (hL : Lines whole items rest) (hlen : items.length ≤ 150) (HF : List (Bytes × List Bytes)) (hHF : items.foldl (fun h p => hAdd p.1 p.2 h) [] = HF) :
    Calls Tryz.prog 121 #[.pointer (some ⟨tb, 0, none⟩), .int .i64 10485760, .int .i64 10000] w fun e w' => HdEnd w E R tb rest HF e w' := by
  have hcon := limits_any h hold hold2 items rest hL hlen HF hHF
  clear h hL hHF
  go_enter Tryz.func121, Tryz.ntmps121
  go_wp2_with fail
  refine hcon.mono ?_
  rintro e w' ⟨mb, kvs, rfl, hp⟩
  have HP := Lib.hid hp
  clear hp hcon
  go_wp2
  go_ret2
  exact ⟨mb, kvs, rfl, HP.out⟩
end
end Go.Proofs.YtkbgnplknifmhaaGreatDoor
namespace Go.Proofs.YtkbgnplknifmhaaGreatDoor
open Go.RowKit
attribute [local go_sem ↓] Go.wp_at_zero Go.wp_at_succ

/-- A part's nine cells. -/
def ptCells (hd : Value) (m : Nat) (rd : Value) (n tot : Int) (err rerr : Value) : Array Value :=
  #[hd, .pointer (some ⟨m, 0, none⟩), .string (str []), .map none, rd, .int .i64 n, .int .i64 tot, err, rerr]
/-- A header's map, all its memory from base on. -/
def HDR (w : World) (base mb : Nat) (hs : List (Bytes × List Bytes)) : Prop := ∃ sb used cnt v kvs, HI w mb sb used cnt base v kvs hs
theorem HDR.kp {S : List Nat} {w w' : World} {base mb : Nat} {hs : List (Bytes × List Bytes)} (h : HDR w base mb hs) (k : Kp S w w') (hS : ∀ x ∈ S, x < base) : HDR w' base mb hs := by
  obtain ⟨sb, used, cnt, v, kvs, h⟩ := h
  exact ⟨sb, used, cnt, v, kvs, h.kp k (fun e => by have := hS _ e; have := h.mbase; omega) (fun b hb p hp e => by have := hS _ hb; have := (h.new p hp b e).1; omega) (fun b hb => .inl hb)⟩
theorem HDR.base {w : World} {base base' mb : Nat} {hs : List (Bytes × List Bytes)} (h : HDR w base mb hs) (hb : base' ≤ base) : HDR w base' mb hs := by
  obtain ⟨sb, used, cnt, v, kvs, h⟩ := h
  exact ⟨sb, used, cnt, v, kvs, h.mp, h.two, h.sep, fun p hp b e => ⟨Nat.le_trans hb (h.new p hp b e).1, (h.new p hp b e).2⟩, h.ms, Nat.le_trans hb h.mbase, h.slt, h.vsep⟩
section
variable {w : World} {E : Value} {R : RS} {M : MS} {b nl : Bytes} {cur : Value} {pr : Int} {whole : Bytes}
structure PopPost (w w' : World) (E : Value) (R : RS) (M : MS) (b nl : Bytes) (cur : Value) (pr : Int) (rest : Bytes) (HF : List (Bytes × List Bytes)) (pb mb : Nat) : Prop where
  rd : RD w' E R M b nl cur pr rest
  blk : Blk w' pb (ptCells (.map (some mb)) M.m .nilIface 0 0 .nilIface .nilIface) 117
  hdr : HDR w' w.heap.size mb HF
  kp : Kp (pb :: R.own) w w'
set_option maxRecDepth 20000 in
set_option maxHeartbeats 2000000 in
theorem populate_any (h : RD w E R M b nl cur pr whole) (pb m0 : Nat) (hp : Blk w pb (ptCells (.map (some m0)) M.m .nilIface 0 0 .nilIface .nilIface) 117) (hp1 : pb ∉ R.own) (hp2 : pb ≠ R.da) (hp3 : pb ≠ M.m) (hp4 : pb ≠ M.bd) (hp5 : 15 ≤ pb)
    (items : List (Bytes × Bytes)) (rest : Bytes) (hL : Lines whole items rest) (hlen : items.length ≤ 150) (HF : List (Bytes × List Bytes)) (hHF : items.foldl (fun h p => hAdd p.1 p.2 h) [] = HF) :
    Calls Tryz.prog 102 #[.pointer (some ⟨pb, 0, none⟩), .int .i64 10485760, .int .i64 10000] w fun e w' => e = .returned .nilIface ∧ ∃ mb, PopPost w w' E R M b nl cur pr rest HF pb mb := by
  obtain ⟨r, n, bs, src, lb, lr, hbr, heq⟩ := h.br
  have hpl : pb < w.heap.size := hp.lt
  have hblk : Blk w pb #[.map (some m0), .pointer (some ⟨M.m, 0, none⟩), .string (str []), .map none, .nilIface, .int .i64 0, .int .i64 0, .nilIface, .nilIface] 117 := hp
  have kp := hblk.cell
  have hmb : Blk w M.m (mrCells M b nl cur pr) 108 := h.mr.blk
  have km : ∀ i, w.cell? ⟨M.m, i, none⟩ = (#[.pointer (some ⟨R.rb, 0, none⟩), .string (str []), cur, .int .i64 pr, .slice M.an nl.length M.cn, .slice M.ad (nl ++ dlm b).length M.cd, .slice M.ae (dlm b ++ [45, 45]).length M.ce, .slice M.ab (dlm b).length M.cb] : Array Value)[i]? := by rw [← h.rb]; exact hmb.cell
  have hnr := newReader_any R.rb w
  have hK1 : Kp [] w (w.alloc (.cells #[.pointer (some ⟨R.rb, 0, none⟩), .pointer none, .slice none 0 0] 189)) := (Kp.refl _ _).alloc _
  have hts : TSx (w.alloc (.cells #[.pointer (some ⟨R.rb, 0, none⟩), .pointer none, .slice none 0 0] 189)) E R w.heap.size (.slice none 0 0) [] r n bs src lb lr whole :=
    ⟨Blk.new _ _ _, OB.nil _ _, hbr.kp hK1 (by simp) (by simp) (by simp), heq, h.gv.kp hK1 (by simp), h.rg, fun e => by have := hbr.lts _ e; omega, by have := h.dl; omega, by omega, by simp [Value.ownBlock], by have := h.dl; simp; omega⟩
  have hcon := mimeHeader_any hts (fun x hx => hbr.lts x hx) h.dl items rest hL hlen HF hHF
  have H := Lib.hid h
  have HBR := Lib.hid hbr
  have HP := Lib.hid hblk
  have HK1 := Lib.hid hK1
  clear h hbr hp hblk hmb hts hL hHF hK1 heq
  go_enter Tryz.func102, Tryz.ntmps102
  go_wp2_with fail
  refine hnr.mono ?_
  rintro e w1 ⟨rfl, rfl⟩
  clear hnr
  generalize hW1 : w.alloc (.cells #[.pointer (some ⟨R.rb, 0, none⟩), .pointer none, .slice none 0 0] 189) = w1 at hcon HK1 ⊢
  have HW1 := Lib.hid hW1
  clear hW1
  go_wp2_with fail
  refine hcon.mono ?_
  rintro e w2 ⟨mb, kvs, rfl, hpo⟩
  obtain ⟨v2, bl2, r2, n2, bs2, src2, lb2, lr2, hts2⟩ := hpo.ts
  have hsz1 : w1.heap.size = w.heap.size + 1 := by rw [← HW1.out]; simp
  have hK1' : Kp R.own w w1 := HK1.out.mono (by simp)
  have hKw : Kp R.own w w2 := hK1'.trans' hpo.kp (fun x hx => by
    simp at hx
    rcases hx with rfl | hx
    · exact .inr (Nat.le_refl _)
    · exact .inl hx)
  have hrd2 : RD w2 E R M b nl cur pr rest := ⟨⟨r2, n2, bs2, src2, lb2, lr2, hts2.br, hts2.eq⟩, H.out.mr.kp hKw H.out.mo.1 H.out.bo.1, hts2.gv, H.out.rg, hts2.dl, H.out.rb, H.out.mo, H.out.bo.1, H.out.bo.2.1, H.out.bo.2.2.1, Nat.lt_of_lt_of_le H.out.bo.2.2.2 hKw.size⟩
  have hblk2 := HP.out.kp hKw hp1
  have hhdr2 : HDR w2 w.heap.size mb HF := by
    obtain ⟨sb, used, cnt, v, hh⟩ := hpo.hi
    exact HDR.base (base := w1.heap.size) ⟨sb, used, cnt, v, kvs, hh⟩ (by omega)
  have k2 := hblk2.cell
  have f2 := hblk2.free
  have hfin : PopPost w (w2.setCell ⟨pb, 0, none⟩ (.map (some mb))) E R M b nl cur pr rest HF pb mb := by
    have hk3 : Kp [pb] w2 (w2.setCell ⟨pb, 0, none⟩ (.map (some mb))) := (Kp.refl _ _).setCell (.inl (by simp)) _
    exact ⟨hrd2.kp hk3 (fun x hx e => by simp at e; subst e; exact hp1 hx) (by simp; exact fun e => hp2 e.symm) (by simp; exact fun e => hp3 e.symm) (by simp; exact fun e => hp4 e.symm) (by simp; exact hp5), hblk2.set 0 (.map (some mb)), hhdr2.kp hk3 (by simp; exact hpl), (hKw.mono (fun x hx _ => by simp [hx])).setCell (.inl (by simp)) _⟩
  have HFN := Lib.hid hfin
  clear hfin hhdr2 hblk2 hrd2 hKw hK1' hpo hts2 hcon
  go_wp2
  go_ret
  exact ⟨rfl, mb, HFN.out⟩
end
end Go.Proofs.YtkbgnplknifmhaaGreatDoor
namespace Go.Proofs.YtkbgnplknifmhaaGreatDoor
open Go.RowKit
attribute [local go_sem ↓] Go.wp_at_zero Go.wp_at_succ
/-- What reads a part: the part itself, held in an interface. -/
def rdV (pb : Nat) : Value := .iface 151 (.agg #[.pointer (some ⟨pb, 0, none⟩)])
structure NewPost (w w' : World) (E : Value) (R : RS) (M : MS) (b nl : Bytes) (cur : Value) (pr : Int) (rest : Bytes) (HF : List (Bytes × List Bytes)) (pb mb : Nat) : Prop where
  rd : RD w' E R M b nl cur pr rest
  blk : Blk w' pb (ptCells (.map (some mb)) M.m (rdV pb) 0 0 .nilIface .nilIface) 117
  hdr : HDR w' w.heap.size mb HF
  kp : Kp R.own w w'
  new : w.heap.size ≤ pb
section
variable {w : World} {E : Value} {R : RS} {M : MS} {b nl : Bytes} {cur : Value} {pr : Int} {whole : Bytes}
set_option maxRecDepth 20000 in
set_option maxHeartbeats 2000000 in
theorem newPart_raw (h : RD w E R M b nl cur pr whole) (items : List (Bytes × Bytes)) (rest : Bytes) (hL : Lines whole items rest) (hlen : items.length ≤ 150) (HF : List (Bytes × List Bytes)) (hHF : items.foldl (fun h p => hAdd p.1 p.2 h) [] = HF) :
    Calls Tryz.prog 90 #[.pointer (some ⟨M.m, 0, none⟩), .bool true, .int .i64 10485760, .int .i64 10000] w fun e w' => ∃ pb mb, e = .returned (.tuple #[.pointer (some ⟨pb, 0, none⟩), .nilIface]) ∧ NewPost w w' E R M b nl cur pr rest HF pb mb := by
  have hsz := h.own_lt
  have hml := h.mr.blk.lt
  have hK1 : Kp [] w ((w.alloc (.map #[] 0)).alloc (.cells (ptCells (.map (some w.heap.size)) M.m .nilIface 0 0 .nilIface .nilIface) 117)) := ((Kp.refl _ _).alloc _).alloc _
  have hrd1 := h.kp hK1 (by simp) (by simp) (by simp) (by simp) (by simp)
  have hs1 : (w.alloc (.map #[] 0)).heap.size = w.heap.size + 1 := by simp
  have hpb : Blk ((w.alloc (.map #[] 0)).alloc (.cells (ptCells (.map (some w.heap.size)) M.m .nilIface 0 0 .nilIface .nilIface) 117)) (w.heap.size + 1) (ptCells (.map (some w.heap.size)) M.m .nilIface 0 0 .nilIface .nilIface) 117 := by rw [← hs1]; exact Blk.new _ _ _
  have hdl := h.dl
  have hbd := h.bo.2.2.2
  have hmg := h.mo.2.2
  have hcon := populate_any hrd1 (w.heap.size + 1) w.heap.size hpb (fun e => by have := hsz _ e; omega) (by omega) (by omega) (by omega) (by omega) items rest hL hlen HF hHF
  have hmk : ∀ w : World, (Instr.makeMap 113 none).run Tryz.prog w = .ok (.map (some w.heap.size)) (w.alloc (.map #[] 0)) := fun w => rfl
  clear hL hHF
  go_enter Tryz.func90, Tryz.ntmps90
  go_wp2_with fail
  refine hcon.mono ?_
  rintro e w2 ⟨rfl, mb, hpo⟩
  have hblk2 : Blk w2 (w.heap.size + 1) #[.map (some mb), .pointer (some ⟨M.m, 0, none⟩), .string (str []), .map none, .nilIface, .int .i64 0, .int .i64 0, .nilIface, .nilIface] 117 := hpo.blk
  have k2 := hblk2.cell
  have f2 := hblk2.free
  have HPO := Lib.hid hpo
  clear hcon hpo hpb hrd1
  go_wp2
  go_ret2
  have hpo := HPO.out
  have hk3 : Kp [w.heap.size + 1] w2 (w2.setCell ⟨w.heap.size + 1, 4, none⟩ (rdV (w.heap.size + 1))) := (Kp.refl _ _).setCell (.inl (by simp)) _
  refine ⟨w.heap.size + 1, mb, rfl, ⟨hpo.rd.kp hk3 (fun x hx e => by simp at e; subst e; have := hsz _ hx; omega) (by simp; omega) (by simp; omega) (by simp; omega) (by simp; omega), hblk2.set 4 (rdV (w.heap.size + 1)), ?_, ?_, by omega⟩⟩
  · have hh : HDR w2 (w.heap.size + 2) mb HF := by
      have := hpo.hdr
      simpa using this
    exact (hh.kp hk3 (by simp)).base (by omega)
  · exact (hK1.mono (by simp)).trans' hpo.kp (fun x hx => by simp at hx; rcases hx with rfl | hx; exact .inr (by omega); exact .inl hx) |>.setCell (.inr (by simp)) _
end
end Go.Proofs.YtkbgnplknifmhaaGreatDoor
namespace Go.Proofs.YtkbgnplknifmhaaGreatDoor

theorem pre_take {m l : Bytes} {k : Nat} (h : m.isPrefixOf (l.take k) = true) : m.isPrefixOf l = true := by
  rw [List.isPrefixOf_iff_prefix] at h ⊢
  exact h.trans (List.take_prefix _ _)
theorem findL_take {D whole : Bytes} {m i : Nat} (h : findL D (whole.take m) = some i) : findL D whole = some i := by
  induction whole generalizing m i with
  | nil => simpa using h
  | cons c l ih =>
    cases m with
    | zero =>
      simp only [List.take_zero] at h
      unfold findL at h
      split at h
      · rename_i e; subst e; cases h; exact findL_hit (by simp)
      · cases h
    | succ m =>
      rw [List.take_succ_cons] at h
      unfold findL at h ⊢
      by_cases hp : D.isPrefixOf (c :: l.take m) = true
      · rw [if_pos hp] at h
        have := pre_take (k := m + 1) (l := c :: l) (by rw [List.take_succ_cons]; exact hp)
        rw [if_pos this]; exact h
      · rw [if_neg hp] at h
        by_cases hp2 : D.isPrefixOf (c :: l) = true
        · exfalso
          cases hf : findL D (l.take m) with
          | none => rw [hf] at h; cases h
          | some j =>
            have h1 := (findL_le hf).1
            apply hp
            rw [List.isPrefixOf_iff_prefix] at hp2 ⊢
            rw [List.length_take] at h1
            have h2 : c :: List.take m l = (c :: l).take (m + 1) := by rw [List.take_succ_cons]
            rw [h2]
            rw [List.prefix_iff_eq_take] at hp2 ⊢
            rw [List.take_take]
            rw [Nat.min_eq_left (by omega)]
            exact hp2
        · rw [if_neg hp2]
          cases hf : findL D (l.take m) with
          | none => rw [hf] at h; cases h
          | some j => rw [hf] at h; rw [ih hf]; exact h
theorem findL_here {D a t : Bytes} {i : Nat} (h : findL D (a ++ D ++ t) = some i) : i ≤ a.length := by
  induction a generalizing i with
  | nil =>
    rw [List.nil_append] at h
    rw [findL_hit (by rw [List.isPrefixOf_iff_prefix]; exact List.prefix_append _ _)] at h
    cases h; simp
  | cons c a ih =>
    rw [List.cons_append, List.cons_append] at h
    unfold findL at h
    split at h
    · cases h; simp
    · cases hf : findL D (a ++ D ++ t) with
      | none => rw [hf] at h; cases h
      | some j => rw [hf] at h; cases h; have := ih hf; simp; omega
theorem findL_some_of {D a t : Bytes} : ∃ i, findL D (a ++ D ++ t) = some i := by
  induction a with
  | nil => exact ⟨0, findL_hit (by rw [List.nil_append, List.isPrefixOf_iff_prefix]; exact List.prefix_append _ _)⟩
  | cons c a ih =>
    obtain ⟨i, hi⟩ := ih
    rw [List.cons_append, List.cons_append]
    unfold findL
    split
    · exact ⟨0, rfl⟩
    · rw [hi]; exact ⟨i + 1, rfl⟩
theorem lastIx_spec (c : UInt8) (l : Bytes) (n : Nat) : (∀ i : Nat, i < n → l.getD i 0 = c → (i : Int) ≤ lastIx c l n) ∧ (0 ≤ lastIx c l n → l.getD (lastIx c l n).toNat 0 = c) := by
  induction n with
  | zero => exact ⟨fun i h => absurd h (Nat.not_lt_zero _), fun h => by simp [lastIx] at h⟩
  | succ n ih =>
    rw [lastIx_succ]
    split
    · rename_i h
      exact ⟨fun i hi _ => by omega, fun _ => by simpa using h⟩
    · rename_i h
      refine ⟨fun i hi he => ?_, ih.2⟩
      by_cases hin : i = n
      · subst hin; exact absurd he h
      · exact ih.1 i (by omega) he
/-- matchP of the beginning of bytes that match. -/
theorem matchP_pre {t : Bytes} (h : matchP t = 1) (k : Nat) : matchP (t.take k) = 1 ∨ (matchP (t.take k) = 0 ∧ (t.take k).length ≤ 1 ∧ k < t.length) := by
  cases t with
  | nil => simp [matchP] at h
  | cons c r =>
    cases k with
    | zero => right; simp [matchP]
    | succ k =>
      rw [List.take_succ_cons]
      unfold matchP at h ⊢
      by_cases hs : stopC c = true
      · left; simp [hs]
      · simp only [hs] at h ⊢
        by_cases hc : c = 45
        · subst hc
          cases r with
          | nil => simp at h
          | cons d r =>
            cases k with
            | zero => right; simp
            | succ k =>
              left
              rw [List.take_succ_cons]
              simpa using h
        · simp [hc] at h

/-- What the scan says of the beginning of bytes that hold a part's rest, its delimiter, and what is behind. -/
theorem scan_law (body d D tail whole : Bytes) (first : Bool) (m : Nat) (hw : whole = body ++ D ++ tail) (hfind : findL D whole = some body.length) (hfirst : first = true → d.isPrefixOf whole = false) (htail : matchP tail = 1)
    (hnl : D.getD 0 0 ∉ D.drop 1) (hD : D ≠ []) (hdD : d.length ≤ D.length) (hm : m ≤ whole.length) :
    ∃ (k : Nat) (e : Bool), scanP (whole.take m) d D first = ((k : Int), e) ∧ k ≤ body.length ∧ k ≤ m ∧ (e = true → k = body.length) ∧ (k = 0 → e = false → m ≤ D.length + d.length + 1 ∧ m < whole.length) := by
  have hwl : whole.length = body.length + D.length + tail.length := by rw [hw]; simp; omega
  have hDl : 0 < D.length := by cases D with
    | nil => exact absurd rfl hD
    | cons x s => simp
  have htl : 0 < tail.length := by cases tail with
    | nil => simp [matchP] at htail
    | cons x s => simp
  have hml : (whole.take m).length = m := by rw [List.length_take]; omega
  unfold scanP
  by_cases h1 : (first && d.isPrefixOf (whole.take m)) = true
  · exfalso
    simp at h1
    have := hfirst h1.1
    have h2 := pre_take (m := d) (l := whole) (k := m) (by rw [List.isPrefixOf_iff_prefix]; simpa using h1.2)
    rw [h2] at this; cases this
  · rw [if_neg h1]
    by_cases h2 : (first && (whole.take m).isPrefixOf d) = true
    · rw [if_pos h2]
      simp at h2
      have h3 := (h2.2).length_le
      rw [List.length_take] at h3
      refine ⟨0, false, rfl, Nat.zero_le _, Nat.zero_le _, by simp, fun _ _ => ⟨by omega, ?_⟩⟩
      -- a whole that is a prefix of d cannot hold D, its delimiter, and more
      rcases Nat.lt_or_ge m whole.length with h4 | h4
      · exact h4
      · omega
    · rw [if_neg h2]
      unfold scanT
      cases hf : findL D (whole.take m) with
      | some i =>
        have hi := findL_take hf
        rw [hfind] at hi
        cases hi
        have hle := (findL_le hf).1
        rw [hml] at hle
        have hrest : ((whole.take m).drop body.length).drop D.length = tail.take (m - (body.length + D.length)) := by
          rw [List.drop_drop, List.drop_take, hw, ← List.length_append, List.drop_left]
        simp only [hrest]
        rcases matchP_pre htail (m - (body.length + D.length)) with h3 | ⟨h3, h4, h5⟩
        · rw [h3]
          exact ⟨body.length, true, by simp, Nat.le_refl _, by omega, fun _ => rfl, by simp⟩
        · rw [h3]
          refine ⟨body.length, false, by simp, Nat.le_refl _, by omega, by simp, fun h0 _ => ⟨?_, by omega⟩⟩
          rw [List.length_take] at h4
          omega
      | none =>
        have hmlt : m < body.length + D.length := by
          rcases Nat.lt_or_ge m (body.length + D.length) with h3 | h3
          · exact h3
          · exfalso
            have e : whole.take m = body ++ D ++ tail.take (m - (body.length + D.length)) := by
              rw [hw, ← List.length_append, List.take_append, List.take_of_length_le (by simp; omega)]
            obtain ⟨j, hj⟩ := findL_some_of (D := D) (a := body) (t := tail.take (m - (body.length + D.length)))
            rw [e, hj] at hf; cases hf
        simp only
        by_cases h3 : (whole.take m).isPrefixOf D = true
        · rw [if_pos h3]
          have h4 := (List.isPrefixOf_iff_prefix.1 h3).length_le
          rw [hml] at h4
          exact ⟨0, false, rfl, Nat.zero_le _, Nat.zero_le _, by simp, fun _ _ => ⟨by omega, by omega⟩⟩
        · rw [if_neg h3]
          have hm0 : 0 < m := by
            rcases Nat.eq_zero_or_pos m with rfl | h4
            · exfalso; apply h3; simp
            · exact h4
          obtain ⟨hs1, hs2⟩ := lastIx_spec (D.getD 0 0) (whole.take m) (whole.take m).length
          have hlt := lastIx_lt (D.getD 0 0) (whole.take m) (whole.take m).length
          -- behind the part's rest the delimiter's first byte stands just once
          have hpos : ∀ j : Nat, j < m → (whole.take m).getD j 0 = D.getD 0 0 → j ≤ body.length := by
            intro j hj he
            rcases Nat.lt_or_ge body.length j with h4 | h4
            · exfalso
              apply hnl
              rw [List.getD_eq_getElem?_getD, List.getElem?_take, if_pos hj, hw, List.append_assoc, List.getElem?_append_right (by omega), List.getElem?_append_left (by omega)] at he
              rw [← he, List.getElem?_eq_getElem (by omega)]
              rw [Option.getD_some]
              have : D[j - body.length] = (D.drop 1)[j - body.length - 1]'(by rw [List.length_drop]; omega) := by
                rw [List.getElem_drop]; congr 1; omega
              rw [this]
              exact List.getElem_mem _
            · exact h4
          have hat : body.length < m → (whole.take m).getD body.length 0 = D.getD 0 0 := by
            intro h4
            rw [List.getD_eq_getElem?_getD, List.getElem?_take, if_pos h4, hw, List.append_assoc, List.getElem?_append_right (by omega), Nat.sub_self, List.getElem?_append_left (by omega), ← List.getD_eq_getElem?_getD]
          by_cases h4 : 0 ≤ lastIx (D.getD 0 0) (whole.take m) (whole.take m).length ∧ ((whole.take m).drop (lastIx (D.getD 0 0) (whole.take m) (whole.take m).length).toNat).isPrefixOf D = true
          · rw [if_pos h4]
            obtain ⟨j, hj⟩ : ∃ j : Nat, lastIx (D.getD 0 0) (whole.take m) (whole.take m).length = (j : Int) := ⟨_, (Int.toNat_of_nonneg h4.1).symm⟩
            rw [hj] at h4 hs2 hlt ⊢
            rw [hml] at hlt
            have hjb := hpos j (by omega) (by have := hs2 (by omega); simpa using this)
            refine ⟨j, false, rfl, hjb, by omega, by simp, fun h0 _ => ?_⟩
            exfalso
            subst h0
            apply h3
            simpa using h4.2
          · rw [if_neg h4]
            have hmb : m ≤ body.length := by
              rcases Nat.lt_or_ge body.length m with h5 | h5
              · exfalso
                apply h4
                have h6 := hs1 body.length (by rw [hml]; exact h5) (hat h5)
                obtain ⟨j, hj⟩ : ∃ j : Nat, lastIx (D.getD 0 0) (whole.take m) (whole.take m).length = (j : Int) := ⟨_, (Int.toNat_of_nonneg (by omega)).symm⟩
                rw [hj] at hs2 hlt h6 ⊢
                rw [hml] at hlt
                have hjb := hpos j (by omega) (by have := hs2 (by omega); simpa using this)
                have : j = body.length := by omega
                subst this
                refine ⟨by omega, ?_⟩
                rw [Int.toNat_natCast, List.drop_take, hw, List.append_assoc, List.drop_left, List.isPrefixOf_iff_prefix, List.take_append_of_le_length (by omega)]
                exact List.take_prefix _ _
              · exact h5
            rw [hml]
            exact ⟨m, false, rfl, hmb, Nat.le_refl _, by simp, fun h0 _ => by omega⟩
end Go.Proofs.YtkbgnplknifmhaaGreatDoor
namespace Go.Proofs.YtkbgnplknifmhaaGreatDoor
open Go.RowKit

set_option maxRecDepth 20000 in
set_option maxHeartbeats 400000 in
theorem lastIx193_any (a : Option Addr) (c : Nat) (x : UInt8) (l : Bytes) (w : World) (ha : HB w a l) (hl : l.length ≤ 281474976710656) :
    Calls Tryz.prog 193 #[.slice a l.length c, .int .u8 x.toNat] w fun e w' => e = .returned (.int .i64 (lastIx x l l.length)) ∧ w = w' := by
  go_enter Tryz.func193, Tryz.ntmps193
  go_wp2
  go_loop [5] (fun i => ∃ k : Nat, k ≤ l.length ∧ i = .int .i64 ((k : Int) - 1) ∧ Hid (lastIx x l k = lastIx x l l.length)) (fun i => (intOf i + 1).toNat)
  case atStart => exact ⟨l.length, Nat.le_refl _, rfl, rfl⟩
  case round =>
    obtain ⟨k, hk, rfl, H⟩ := hrel
    cases k with
    | zero =>
      have H2 : Hid (-1 = lastIx x l l.length) := H
      clear H ha
      go_wp2
      go_ret
      exact ⟨ret_int H2.out, rfl⟩
    | succ k =>
      rw [show (((k + 1 : Nat) : Int) - 1) = (k : Int) from by omega]
      have hix := ha.ixk l.length c (Nat.le_refl _) k k rfl (by omega)
      have hc0 := ha.cell k (by omega)
      have H1 := H.out
      rw [lastIx_succ] at H1
      clear H ha
      by_cases he : byt l k = x
      · have he' : l.getD k 0 = x := he
        rw [if_pos he'] at H1
        have H2 := Lib.hid H1
        obtain ⟨e1, e2⟩ := i_is (a := ((byt l k).toNat : Int)) (n := (x.toNat : Int)) (by rw [he])
        clear H1 he he'
        go_wp2
        go_ret
        exact ⟨ret_int H2.out, rfl⟩
      · have he' : ¬ l.getD k 0 = x := he
        rw [if_neg he'] at H1
        have H2 := Lib.hid H1
        obtain ⟨e1, e2⟩ := i_not (a := ((byt l k).toNat : Int)) (n := (x.toNat : Int)) (fun e => he ((u8_iff _ _).1 e))
        clear H1 he he'
        go_wp2
        go_round
        case rel => exact ⟨k, by omega, rfl, H2⟩
        case measure => simp [intOf]

set_option maxHeartbeats 400000 in
theorem lastIx_any (a : Option Addr) (c : Nat) (x : UInt8) (l : Bytes) (w : World) (ha : HB w a l) (hl : l.length ≤ 281474976710656) :
    Calls Tryz.prog 192 #[.slice a l.length c, .int .u8 x.toNat] w fun e w' => e = .returned (.int .i64 (lastIx x l l.length)) ∧ w = w' := by
  have hcon := lastIx193_any a c x l w ha hl
  generalize lastIx x l l.length = r at hcon ⊢
  clear ha
  go_enter Tryz.func192, Tryz.ntmps192
  go_wp2_with (go_at_call 193; refine hcon.mono ?_; rintro e w' ⟨rfl, rfl⟩)
  go_ret
  exact ⟨rfl, rfl⟩


def errV (E : Value) (b : Bool) : Value := if b then E else .nilIface
theorem errV_f (E : Value) : errV E false = .nilIface := rfl
theorem errV_t (E : Value) : errV E true = E := rfl
def scanV (E : Value) (r : Int × Bool) : Value := .tuple #[.int .i64 r.1, errV E r.2]

theorem ret_scan {E : Value} {r r' : Int × Bool} (h : r = r') : Ending.returned (.tuple #[.int .i64 r'.1, errV E r'.2]) = .returned (scanV E r) := by rw [h]; rfl

section
variable (a b b' : Option Addr) (c cd cn : Nat) (l d nl : Bytes) (w : World) (E : Value) (t : Int)
set_option maxRecDepth 20000 in
set_option maxHeartbeats 400000 in
/-- At the beginning of a part, the delimiter itself. -/
theorem scan_first (hg : w.cell? ⟨0, 0, none⟩ = some E) (ha : HB w a l) (hc : l.length ≤ c) (hb : HB w b d) (hl : l.length ≤ 281474976710656) (hp : d.isPrefixOf l = true) :
    Calls Tryz.prog 189 #[.slice a l.length c, .slice b d.length cd, .slice b' nl.length cn, .int .i64 0, .nilIface] w fun e w' => e = .returned (scanV E (scanP l d nl true)) ∧ ∃ n, w' = w.drewN n := by
  have hdl : d.length ≤ l.length := (List.isPrefixOf_iff_prefix.1 hp).length_le
  have c1 := hasPrefix_any a b c cd l d w ha hc hb
  rw [hp] at c1
  have c2 := match_any a b c cd l d w ha hdl hl
  have hs : scanP l d nl true = (if matchP (l.drop d.length) = -1 then ((d.length : Int), false) else if matchP (l.drop d.length) = 0 then (0, false) else (0, true)) := by
    unfold scanP; rw [hp]; simp
  have H := Lib.hid hs
  clear hs ha hb hp
  rcases matchP_cases (l.drop d.length) with h | h | h
  · rw [h] at c2
    have H2 : Hid (scanP l d nl true = ((d.length : Int), false)) := by rw [H.out, if_pos h]; rfl
    clear H h
    go_enter Tryz.func189, Tryz.ntmps189
    go_wp2_with fail
    refine c1.mono ?_; rintro e w' ⟨rfl, rfl⟩
    go_wp2_with fail
    refine c2.mono ?_; rintro e w' ⟨rfl, rfl⟩
    go_wp2
    go_ret2
    exact ⟨ret_scan H2.out, 0, rfl⟩
  · rw [h] at c2
    have H2 : Hid (scanP l d nl true = ((0 : Int), false)) := by rw [H.out, h]; rfl
    clear H h
    go_enter Tryz.func189, Tryz.ntmps189
    go_wp2_with fail
    refine c1.mono ?_; rintro e w' ⟨rfl, rfl⟩
    go_wp2_with fail
    refine c2.mono ?_; rintro e w' ⟨rfl, rfl⟩
    go_wp2
    go_ret2
    exact ⟨ret_scan H2.out, 0, rfl⟩
  · rw [h] at c2
    have H2 : Hid (scanP l d nl true = ((0 : Int), true)) := by rw [H.out, h]; rfl
    clear H h
    go_enter Tryz.func189, Tryz.ntmps189
    go_wp2_with fail
    refine c1.mono ?_; rintro e w' ⟨rfl, rfl⟩
    go_wp2_with fail
    refine c2.mono ?_; rintro e w' ⟨rfl, rfl⟩
    go_wp2
    go_quiet (fail)
    go_wp2
    go_ret2
    exact ⟨ret_scan H2.out, _, rfl⟩

set_option maxRecDepth 20000 in
set_option maxHeartbeats 400000 in
/-- At the beginning of a part, a part of the delimiter alone. -/
theorem scan_short (ha : HB w a l) (hc : l.length ≤ c) (hb : HB w b d) (hd : d.length ≤ cd) (hp : d.isPrefixOf l = false) (hq : l.isPrefixOf d = true) :
    Calls Tryz.prog 189 #[.slice a l.length c, .slice b d.length cd, .slice b' nl.length cn, .int .i64 0, .nilIface] w fun e w' => e = .returned (scanV E (scanP l d nl true)) ∧ ∃ n, w' = w.drewN n := by
  have c1 := hasPrefix_any a b c cd l d w ha hc hb
  rw [hp] at c1
  have c3 := hasPrefix_any b a cd c d l w hb hd ha
  rw [hq] at c3
  have H2 : Hid (scanP l d nl true = ((0 : Int), false)) := by
    show _ = _
    unfold scanP; rw [hp, hq]; simp
  clear hp hq ha hb
  go_enter Tryz.func189, Tryz.ntmps189
  go_wp2_with fail
  refine c1.mono ?_; rintro e w' ⟨rfl, rfl⟩
  go_wp2_with fail
  refine c3.mono ?_; rintro e w' ⟨rfl, rfl⟩
  go_wp2
  go_ret2
  exact ⟨ret_scan H2.out, 0, rfl⟩

set_option maxRecDepth 20000 in
set_option maxHeartbeats 1000000 in
theorem scan_tail_none (hfi : findL nl l = none) (_hg : w.cell? ⟨0, 0, none⟩ = some E) (ha : HB w a l) (hc : l.length ≤ c) (hb : HB w b d) (hd : d.length ≤ cd) (hn : HB w b' nl) (hnc : nl.length ≤ cn) (hn0 : 0 < nl.length) (hl : l.length ≤ 281474976710656) (hnl : nl.length ≤ 281474976710656)
    (hf : (t == 0) = false ∨ (t = 0 ∧ d.isPrefixOf l = false ∧ l.isPrefixOf d = false)) :
    Calls Tryz.prog 189 #[.slice a l.length c, .slice b d.length cd, .slice b' nl.length cn, .int .i64 t, .nilIface] w fun e w' => e = .returned (scanV E (scanT l nl)) ∧ ∃ n, w' = w.drewN n := by
  have c1 := hasPrefix_any a b c cd l d w ha hc hb
  have c3 := hasPrefix_any b a cd c d l w hb hd ha
  have c4 := index191_any a b' c cn l nl w ha hc hn hl hnl
  have hI := findI_none hfi
  rw [hI] at c4
  have c6 := fun n => hasPrefix_any b' a cn c nl l (w.drewN n) (hn.drewN n) hnc (ha.drewN n)
  have hx := hn.ixk nl.length cn (Nat.le_refl _) 0 0 rfl hn0
  have hcell := hn.cell 0 hn0
  have c7 := fun n => lastIx_any a c (byt nl 0) l (w.drewN n) (ha.drewN n) hl
  cases hp : l.isPrefixOf nl with
  | true =>
    rw [hp] at c6
    have H : Hid (scanT l nl = ((0 : Int), false)) := by show _ = _; unfold scanT; rw [hfi, hp]; simp
    clear hp hfi hI ha hb hn c7 hx hcell
    rcases hf with hf | ⟨rfl, hp1, hp2⟩
    all_goals
      go_enter Tryz.func189, Tryz.ntmps189
      go_wp2_with fail
      first
        | go_at_call 191
        | (go_at_call 51; refine c1.mono ?_; rintro e w' ⟨rfl, rfl⟩; go_wp2_with fail; refine c3.mono ?_; rintro e w' ⟨rfl, rfl⟩; go_wp2_with fail)
      refine c4.mono ?_; rintro e w' ⟨rfl, n, rfl⟩
      go_wp2_with fail
      refine (c6 _).mono ?_; rintro e w' ⟨rfl, rfl⟩
      go_wp2
      go_ret2
      exact ⟨ret_scan H.out, n, rfl⟩
  | false =>
    rw [hp] at c6
    have hr := lastIx_lt (byt nl 0) l l.length
    have hs : scanT l nl = (if 0 ≤ lastIx (byt nl 0) l l.length ∧ (l.drop (lastIx (byt nl 0) l l.length).toNat).isPrefixOf nl = true then (lastIx (byt nl 0) l l.length, false) else ((l.length : Int), false)) := by
      unfold scanT; rw [hfi, hp]; rfl
    generalize lastIx (byt nl 0) l l.length = r at c7 hs hr
    by_cases hr0 : 0 ≤ r
    · obtain ⟨k, rfl⟩ := Int.eq_ofNat_of_zero_le hr0
      rw [Int.toNat_natCast] at hs
      have hk : k ≤ l.length := by omega
      have c8 := fun n => hasPrefix_any b' (cutAt a c k) cn (c - k) nl (l.drop k) (w.drewN n) (hn.drewN n) hnc ((ha.drop hc hk).drewN n)
      rw [List.length_drop] at c8
      have hd0 : decide (0 ≤ (k : Int)) = true := by simp
      cases hq : (l.drop k).isPrefixOf nl with
      | true =>
        rw [hq] at c8
        have H : Hid (scanT l nl = ((k : Int), false)) := by rw [hs, if_pos ⟨hr0, hq⟩]; rfl
        clear hp hfi hI ha hb hn hs hq hr0
        rcases hf with hf | ⟨rfl, hp1, hp2⟩
        all_goals
          go_enter Tryz.func189, Tryz.ntmps189
          go_wp2_with fail
          first
            | go_at_call 191
            | (go_at_call 51; refine c1.mono ?_; rintro e w' ⟨rfl, rfl⟩; go_wp2_with fail; refine c3.mono ?_; rintro e w' ⟨rfl, rfl⟩; go_wp2_with fail)
          refine c4.mono ?_; rintro e w' ⟨rfl, n, rfl⟩
          go_wp2_with fail
          refine (c6 _).mono ?_; rintro e w' ⟨rfl, rfl⟩
          go_wp2_with fail
          refine (c7 _).mono ?_; rintro e w' ⟨rfl, rfl⟩
          go_wp2_with fail
          refine (c8 _).mono ?_; rintro e w' ⟨rfl, rfl⟩
          go_wp2
          go_ret2
          exact ⟨ret_scan H.out, n, rfl⟩
      | false =>
        rw [hq] at c8
        have H : Hid (scanT l nl = ((l.length : Int), false)) := by rw [hs, if_neg (by rw [hq]; simp)]; rfl
        clear hp hfi hI ha hb hn hs hq hr0
        rcases hf with hf | ⟨rfl, hp1, hp2⟩
        all_goals
          go_enter Tryz.func189, Tryz.ntmps189
          go_wp2_with fail
          first
            | go_at_call 191
            | (go_at_call 51; refine c1.mono ?_; rintro e w' ⟨rfl, rfl⟩; go_wp2_with fail; refine c3.mono ?_; rintro e w' ⟨rfl, rfl⟩; go_wp2_with fail)
          refine c4.mono ?_; rintro e w' ⟨rfl, n, rfl⟩
          go_wp2_with fail
          refine (c6 _).mono ?_; rintro e w' ⟨rfl, rfl⟩
          go_wp2_with fail
          refine (c7 _).mono ?_; rintro e w' ⟨rfl, rfl⟩
          go_wp2_with fail
          refine (c8 _).mono ?_; rintro e w' ⟨rfl, rfl⟩
          go_wp2
          go_ret2
          exact ⟨ret_scan H.out, n, rfl⟩
    · have H : Hid (scanT l nl = ((l.length : Int), false)) := by rw [hs, if_neg (fun h => hr0 h.1)]; rfl
      have hd0 : decide (0 ≤ r) = false := by simpa using hr0
      clear hp hfi hI ha hb hn hs hr0 hr
      rcases hf with hf | ⟨rfl, hp1, hp2⟩
      all_goals
        go_enter Tryz.func189, Tryz.ntmps189
        go_wp2_with fail
        first
          | go_at_call 191
          | (go_at_call 51; refine c1.mono ?_; rintro e w' ⟨rfl, rfl⟩; go_wp2_with fail; refine c3.mono ?_; rintro e w' ⟨rfl, rfl⟩; go_wp2_with fail)
        refine c4.mono ?_; rintro e w' ⟨rfl, n, rfl⟩
        go_wp2_with fail
        refine (c6 _).mono ?_; rintro e w' ⟨rfl, rfl⟩
        go_wp2_with fail
        refine (c7 _).mono ?_; rintro e w' ⟨rfl, rfl⟩
        go_wp2
        go_ret2
        exact ⟨ret_scan H.out, n, rfl⟩
set_option maxRecDepth 20000 in
set_option maxHeartbeats 1000000 in
theorem scan_tail_some (i : Nat) (hfi : findL nl l = some i) (hg : w.cell? ⟨0, 0, none⟩ = some E) (ha : HB w a l) (hc : l.length ≤ c) (hb : HB w b d) (hd : d.length ≤ cd) (hn : HB w b' nl) (_hnc : nl.length ≤ cn) (hn0 : 0 < nl.length) (hl : l.length ≤ 281474976710656) (hnl : nl.length ≤ 281474976710656)
    (hf : (t == 0) = false ∨ (t = 0 ∧ d.isPrefixOf l = false ∧ l.isPrefixOf d = false)) :
    Calls Tryz.prog 189 #[.slice a l.length c, .slice b d.length cd, .slice b' nl.length cn, .int .i64 t, .nilIface] w fun e w' => e = .returned (scanV E (scanT l nl)) ∧ ∃ n, w' = w.drewN n := by
  have c1 := hasPrefix_any a b c cd l d w ha hc hb
  have c3 := hasPrefix_any b a cd c d l w hb hd ha
  have c4 := index191_any a b' c cn l nl w ha hc hn hl hnl
  have hI := findI_some hfi
  rw [hI] at c4
  obtain ⟨hle, _⟩ := findL_le hfi
  have hi : i ≤ l.length := by omega
  have c5 := fun n => match_any (cutAt a c i) b' (c - i) cn (l.drop i) nl (w.drewN n) ((ha.drop hc (by omega)).drewN n) (by rw [List.length_drop]; omega) (by rw [List.length_drop]; omega)
  rw [List.length_drop] at c5
  have hs : scanT l nl = (if matchP ((l.drop i).drop nl.length) = -1 then ((i + nl.length : Int), false) else if matchP ((l.drop i).drop nl.length) = 0 then ((i : Int), false) else ((i : Int), true)) := by
    unfold scanT; rw [hfi]
  rcases matchP_cases ((l.drop i).drop nl.length) with h | h | h
  · rw [h] at c5
    have H : Hid (scanT l nl = ((i + nl.length : Int), false)) := by rw [hs, if_pos h]; rfl
    clear hs h hfi hI ha hb hn
    rcases hf with hf | ⟨rfl, hp1, hp2⟩
    all_goals
      go_enter Tryz.func189, Tryz.ntmps189
      go_wp2_with fail
      first
        | go_at_call 191
        | (go_at_call 51; refine c1.mono ?_; rintro e w' ⟨rfl, rfl⟩; go_wp2_with fail; refine c3.mono ?_; rintro e w' ⟨rfl, rfl⟩; go_wp2_with fail)
      refine c4.mono ?_; rintro e w' ⟨rfl, n, rfl⟩
      go_wp2_with fail
      refine (c5 _).mono ?_; rintro e w' ⟨rfl, rfl⟩
      go_wp2
      go_ret2
      exact ⟨ret_scan H.out, n, rfl⟩
  · rw [h] at c5
    have H : Hid (scanT l nl = ((i : Int), false)) := by rw [hs, h]; rfl
    clear hs h hfi hI ha hb hn
    rcases hf with hf | ⟨rfl, hp1, hp2⟩
    all_goals
      go_enter Tryz.func189, Tryz.ntmps189
      go_wp2_with fail
      first
        | go_at_call 191
        | (go_at_call 51; refine c1.mono ?_; rintro e w' ⟨rfl, rfl⟩; go_wp2_with fail; refine c3.mono ?_; rintro e w' ⟨rfl, rfl⟩; go_wp2_with fail)
      refine c4.mono ?_; rintro e w' ⟨rfl, n, rfl⟩
      go_wp2_with fail
      refine (c5 _).mono ?_; rintro e w' ⟨rfl, rfl⟩
      go_wp2
      go_ret2
      exact ⟨ret_scan H.out, n, rfl⟩
  · rw [h] at c5
    have H : Hid (scanT l nl = ((i : Int), true)) := by rw [hs, h]; rfl
    clear hs h hfi hI ha hb hn
    rcases hf with hf | ⟨rfl, hp1, hp2⟩
    all_goals
      go_enter Tryz.func189, Tryz.ntmps189
      go_wp2_with fail
      first
        | go_at_call 191
        | (go_at_call 51; refine c1.mono ?_; rintro e w' ⟨rfl, rfl⟩; go_wp2_with fail; refine c3.mono ?_; rintro e w' ⟨rfl, rfl⟩; go_wp2_with fail)
      refine c4.mono ?_; rintro e w' ⟨rfl, n, rfl⟩
      go_wp2_with fail
      refine (c5 _).mono ?_; rintro e w' ⟨rfl, rfl⟩
      go_wp2
      go_quiet (fail)
      go_wp2
      go_ret2
      exact ⟨ret_scan H.out, _, World.drewN_drewN ..⟩

theorem scan_tail (hg : w.cell? ⟨0, 0, none⟩ = some E) (ha : HB w a l) (hc : l.length ≤ c) (hb : HB w b d) (hd : d.length ≤ cd) (hn : HB w b' nl) (hnc : nl.length ≤ cn) (hn0 : 0 < nl.length) (hl : l.length ≤ 281474976710656) (hnl : nl.length ≤ 281474976710656)
    (hf : (t == 0) = false ∨ (t = 0 ∧ d.isPrefixOf l = false ∧ l.isPrefixOf d = false)) :
    Calls Tryz.prog 189 #[.slice a l.length c, .slice b d.length cd, .slice b' nl.length cn, .int .i64 t, .nilIface] w fun e w' => e = .returned (scanV E (scanT l nl)) ∧ ∃ n, w' = w.drewN n := by
  rcases hfi : findL nl l with _ | i
  · exact scan_tail_none a b b' c cd cn l d nl w E t hfi hg ha hc hb hd hn hnc hn0 hl hnl hf
  · exact scan_tail_some a b b' c cd cn l d nl w E t i hfi hg ha hc hb hd hn hnc hn0 hl hnl hf

/-- ScanUntilBoundary of bytes behind which more may come. -/
theorem scan_any (hg : w.cell? ⟨0, 0, none⟩ = some E) (ha : HB w a l) (hc : l.length ≤ c) (hb : HB w b d) (hd : d.length ≤ cd) (hn : HB w b' nl) (hnc : nl.length ≤ cn) (hn0 : 0 < nl.length) (hl : l.length ≤ 281474976710656) (hnl : nl.length ≤ 281474976710656) :
    Calls Tryz.prog 189 #[.slice a l.length c, .slice b d.length cd, .slice b' nl.length cn, .int .i64 t, .nilIface] w fun e w' => e = .returned (scanV E (scanP l d nl (t == 0))) ∧ ∃ n, w' = w.drewN n := by
  by_cases ht : t = 0
  · subst ht
    cases h1 : d.isPrefixOf l with
    | true => exact scan_first a b b' c cd cn l d nl w E hg ha hc hb hl h1
    | false =>
      cases h2 : l.isPrefixOf d with
      | true => exact scan_short a b b' c cd cn l d nl w E ha hc hb hd h1 h2
      | false =>
        rw [scanP_T _ _ _ _ (.inr ⟨h1, h2⟩)]
        exact scan_tail a b b' c cd cn l d nl w E 0 hg ha hc hb hd hn hnc hn0 hl hnl (.inr ⟨rfl, h1, h2⟩)
  · have h0 : (t == 0) = false := by simp [ht]
    rw [scanP_T _ _ _ _ (.inl h0)]
    exact scan_tail a b b' c cd cn l d nl w E t hg ha hc hb hd hn hnc hn0 hl hnl (.inl h0)
end

end Go.Proofs.YtkbgnplknifmhaaGreatDoor
