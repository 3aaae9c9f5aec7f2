/-
  Walks and facts for the mailparts program.
-/
import Derived.Test.YtkbgnplknifmhaaGreatDoorProg
import Derived.WalkKit
import Derived.WalkSpells
import Derived.WalkLawsBesides
import Derived.Deep.QuietTactic
import Derived.BigQuiet
import Derived.Lib.Hide
namespace Go.Proofs.YtkbgnplknifmhaaGreatDoor
open Go.RowKit

/-! ### Where element i of a slice lies -/
def at_ (a : Option Addr) (i : Nat) : Addr := (a.getD ⟨0, 0, none⟩).add i
/-- The address behind 's[k:]', c the capacity. -/
def cutAt (a : Option Addr) (c k : Nat) : Option Addr := if c = k then a else a.map (·.add k)
def byt (l : List UInt8) (i : Nat) : UInt8 := l.getD i 0
/-- The slice at a (whatever address, nil too) holds the bytes l. -/
structure HB (w : World) (a : Option Addr) (l : List UInt8) : Prop where
  some_ : l ≠ [] → a.isSome = true
  cell : ∀ i, i < l.length → w.cell? (at_ a i) = some (.int .u8 (byt l i).toNat)

theorem add_add (a : Addr) (i j : Nat) : (a.add i).add j = if i + j = 0 then a else ⟨a.block, a.off + i + j, none⟩ := by
  unfold Addr.add
  by_cases h1 : i = 0 <;> by_cases h2 : j = 0 <;> simp [h1, h2] <;> omega
theorem add_eq (a : Addr) (i : Nat) : a.add i = if i = 0 then a else ⟨a.block, a.off + i, none⟩ := rfl
theorem add_add' (a : Addr) (i j : Nat) : (a.add i).add j = a.add (i + j) := by
  rw [add_add, add_eq]; split <;> simp
theorem at_cut {a : Option Addr} {c k i : Nat} (h : k + i < c) : at_ (cutAt a c k) i = at_ a (k + i) ∨ a = none := by
  unfold at_ cutAt
  rw [if_neg (by omega)]
  cases a with
  | none => exact .inr rfl
  | some a => left; simp only [Option.map_some, Option.getD_some]; exact add_add' _ _ _
theorem at_mk (b o i : Nat) : at_ (some ⟨b, o, none⟩) i = ⟨b, o + i, none⟩ := by
  unfold at_
  rw [Option.getD_some, add_eq]
  by_cases h : i = 0 <;> simp [h]
theorem cutAt_isSome {a : Option Addr} {c k : Nat} : (cutAt a c k).isSome = a.isSome := by
  unfold cutAt; split <;> simp

theorem byt_lt (l : List UInt8) (i : Nat) (h : i < l.length) : byt l i = l[i] := by simp [byt, List.getD, h]
theorem byt_drop (l : List UInt8) (k i : Nat) : byt (l.drop k) i = byt l (k + i) := by simp [byt, List.getD]
theorem byt_take (l : List UInt8) (k i : Nat) (h : i < k) : byt (l.take k) i = byt l i := by simp [byt, List.getD, h]

theorem HB.nil (w : World) (a : Option Addr) : HB w a [] := ⟨fun h => absurd rfl h, fun _i h => absurd h (Nat.not_lt_zero _)⟩
theorem HB.drop {w : World} {a : Option Addr} {l : List UInt8} (h : HB w a l) {c k : Nat} (hc : l.length ≤ c) (hk : k ≤ l.length) : HB w (cutAt a c k) (l.drop k) := by
  refine ⟨fun hn => by rw [cutAt_isSome]; exact h.some_ (fun e => hn (by rw [e]; simp)), fun i hi => ?_⟩
  have hi' : k + i < l.length := by rw [List.length_drop] at hi; omega
  have hs : a.isSome = true := h.some_ (fun e => by rw [e] at hi'; exact absurd hi' (Nat.not_lt_zero _))
  rcases at_cut (a := a) (c := c) (k := k) (i := i) (by omega) with e | e
  · rw [e, byt_drop]; exact h.cell _ hi'
  · rw [e] at hs; cases hs
theorem HB.take {w : World} {a : Option Addr} {l : List UInt8} (h : HB w a l) (k : Nat) : HB w a (l.take k) := by
  refine ⟨fun hn => h.some_ (fun e => hn (by rw [e]; simp)), fun i hi => ?_⟩
  rw [List.length_take] at hi
  rw [byt_take _ _ _ (by omega)]
  exact h.cell i (by omega)
theorem HB.drewN {w : World} {a : Option Addr} {l : List UInt8} (h : HB w a l) (n : Nat) : HB (w.drewN n) a l := ⟨h.some_, h.cell⟩
theorem HB.drew {w : World} {a : Option Addr} {l : List UInt8} (h : HB w a l) : HB w.drew a l := ⟨h.some_, h.cell⟩
theorem HB.of_cells {w : World} {b o : Nat} {l : List UInt8} (h : ∀ i, i < l.length → w.cell? ⟨b, o + i, none⟩ = some (.int .u8 (byt l i).toNat)) : HB w (some ⟨b, o, none⟩) l :=
  ⟨fun _ => rfl, fun i hi => by rw [at_mk]; exact h i hi⟩
theorem HB.move {w w' : World} {a : Option Addr} {l : List UInt8} (h : HB w a l) (hm : ∀ x, a = some x → w'.heap[x.block]? = w.heap[x.block]?) : HB w' a l := by
  refine ⟨h.some_, fun i hi => ?_⟩
  have hs : a.isSome = true := h.some_ (fun e => by rw [e] at hi; exact absurd hi (Nat.not_lt_zero _))
  obtain ⟨x, rfl⟩ := Option.isSome_iff_exists.1 hs
  rw [← h.cell i hi]
  have hb : (at_ (some x) i).block = x.block := by unfold at_ Addr.add; split <;> rfl
  exact World.cell?_of_block (w := w) (by rw [hb]; exact hm x rfl)

/-! ### The operations on slices of bytes (type 22, elements of type 5) -/
theorem elem22 : Tryz.prog.underlying 22 = some (.slice 5) := Tryz.underlying22
theorem isSlice22 : Tryz.prog.underlying 22 = some (.slice (Tryz.prog.elem 22)) := by kernel_rfl
theorem elem22_eq : Tryz.prog.elem 22 = 5 := by kernel_rfl
theorem sizeOf5 (w : World) : (sizeOf 5).run Tryz.prog w = .ok 1 w := by kernel_rfl
@[go_sem high] theorem run_cut_l (w : World) (a : Option Addr) (n c : Nat) (k : Int) (h0 : 0 ≤ k) (h1 : k ≤ n) :
    (Instr.sliceAt 22 (.slice a n c) (some (.int .i64 k)) none none).run Tryz.prog w = .ok (.slice (cutAt a c k.toNat) (n - k.toNat) (c - k.toNat)) w := by
  rw [run_sliceAt_slice _ _ _ _ _ _ isSlice22, run_slice_l _ _ _ _ _ isSlice22 _ _ h0 h1, elem22_eq, sizeOf5]
  simp [sliced, cutAt]
theorem addr_add0 (a : Option Addr) : a.map (·.add 0) = a := by cases a <;> simp [Addr.add]
@[go_sem high] theorem run_cut_h (w : World) (a : Option Addr) (n c : Nat) (k : Int) (h0 : 0 ≤ k) (h1 : k ≤ c) :
    (Instr.sliceAt 22 (.slice a n c) none (some (.int .i64 k)) none).run Tryz.prog w = .ok (.slice a k.toNat c) w := by
  rw [run_sliceAt_slice _ _ _ _ _ _ isSlice22, run_slice_h _ _ _ _ _ isSlice22 _ _ h0 h1, elem22_eq, sizeOf5]
  simp [sliced, addr_add0]
@[go_sem high] theorem run_cut_lh (w : World) (a : Option Addr) (n c : Nat) (k h : Int) (h0 : 0 ≤ k) (h1 : k ≤ h) (h2 : h ≤ c) :
    (Instr.sliceAt 22 (.slice a n c) (some (.int .i64 k)) (some (.int .i64 h)) none).run Tryz.prog w = .ok (.slice (cutAt a c k.toNat) (h.toNat - k.toNat) (c - k.toNat)) w := by
  rw [run_sliceAt_slice _ _ _ _ _ _ isSlice22, run_slice_lh _ _ _ _ _ isSlice22 _ _ _ _ h0 h1 h2, elem22_eq, sizeOf5]
  simp [sliced, cutAt]

/-- 'b[i]' as a rule for the walk (laid as a hypothesis ahead of it). -/
theorem ix_any (a : Option Addr) (n c : Nat) (ha : 0 < n → a.isSome = true) : ∀ (w : World) (i : Int), 0 ≤ i → i < n → (Instr.indexAt 22 (.slice a n c) (.int .i64 i)).run Tryz.prog w = .ok (.pointer (some (at_ a i.toNat))) w := by
  intro w i h0 h1
  obtain ⟨x, rfl⟩ := Option.isSome_iff_exists.1 (ha (by omega))
  rw [run_indexAt_slice _ _ _ _ _ _ _ isSlice22]
  simp [h0, h1, elem22_eq, at_]
theorem HB.ix {w : World} {a : Option Addr} {l : List UInt8} (h : HB w a l) (n c : Nat) (hn : n ≤ l.length) : ∀ (w : World) (i : Int), 0 ≤ i → i < n → (Instr.indexAt 22 (.slice a n c) (.int .i64 i)).run Tryz.prog w = .ok (.pointer (some (at_ a i.toNat))) w :=
  ix_any a n c (fun h0 => h.some_ (fun e => by rw [e] at hn; simp at hn; omega))

/-- .. at one place. -/
theorem HB.ixk {w : World} {a : Option Addr} {l : List UInt8} (h : HB w a l) (n c : Nat) (hn : n ≤ l.length) (i : Int) (k : Nat) (hik : i = k) (hk : k < n) : ∀ w : World, (Instr.indexAt 22 (.slice a n c) (.int .i64 i)).run Tryz.prog w = .ok (.pointer (some (at_ a k))) w := by
  intro w
  rw [h.ix n c hn w i (by omega) (by omega), show i.toNat = k from by omega]
theorem bytes_eq_map (l : List UInt8) (k : Nat) (hk : k ≤ l.length) : (List.range k).map (fun i => (byt l i)) = l.take k := by
  apply List.ext_getElem
  · simp; omega
  · intro i h1 h2
    simp at h1
    rw [List.getElem_map, List.getElem_range, List.getElem_take, byt_lt l i (by omega)]
/-! ### Frames: what a call may turn -/
/-- Below the old size, all blocks but those of S are as they were. -/
structure Kp (S : List Nat) (w w' : World) : Prop where
  os : w'.os = w.os
  tape : w'.tape = w.tape
  output : w'.output = w.output
  size : w.heap.size ≤ w'.heap.size
  block : ∀ k, k < w.heap.size → k ∉ S → w'.heap[k]? = w.heap[k]?
theorem Kp.refl (S : List Nat) (w : World) : Kp S w w := ⟨rfl, rfl, rfl, Nat.le_refl _, fun _ _ _ => rfl⟩
theorem Kp.trans {S : List Nat} {a b c : World} (h : Kp S a b) (k : Kp S b c) : Kp S a c :=
  ⟨k.os.trans h.os, k.tape.trans h.tape, k.output.trans h.output, Nat.le_trans h.size k.size, fun i hi hn => (k.block i (Nat.lt_of_lt_of_le hi h.size) hn).trans (h.block i hi hn)⟩
theorem Kp.mono {S S' : List Nat} {w w' : World} (h : Kp S w w') (hs : ∀ k, k ∈ S → k < w.heap.size → k ∈ S') : Kp S' w w' :=
  ⟨h.os, h.tape, h.output, h.size, fun k hk hn => h.block k hk (fun e => hn (hs k e hk))⟩
theorem Kp.drewN (S : List Nat) (w : World) (n : Nat) : Kp S w (w.drewN n) := ⟨rfl, rfl, rfl, Nat.le_refl _, fun _ _ _ => rfl⟩
theorem Kp.of_drewN {S : List Nat} {w w' : World} (h : ∃ n, w' = w.drewN n) : Kp S w w' := by obtain ⟨n, rfl⟩ := h; exact Kp.drewN S w n
theorem Kp.of_below {S : List Nat} {w w' : World} (h : Below w.heap.size w w') : Kp S w w' := ⟨h.os, h.tape, h.output, h.size, fun k hk _ => h.block k hk⟩
theorem Kp.to_below {w w' : World} (h : Kp [] w w') : Below w.heap.size w w' := ⟨h.os, h.tape, h.output, h.size, fun k hk => h.block k hk (by simp)⟩
theorem Kp.setCell {S : List Nat} {a w : World} (h : Kp S a w) {p : Addr} (hp : p.block ∈ S ∨ a.heap.size ≤ p.block) (u : Value) : Kp S a (w.setCell p u) :=
  ⟨h.os, h.tape, h.output, by simpa [World.setCell] using h.size, fun k hk hn => by
    rw [Below.heap_setCell _ _ _ _ (by rintro rfl; rcases hp with hp | hp; exact hn hp; omega)]; exact h.block k hk hn⟩
theorem Kp.alloc {S : List Nat} {a w : World} (h : Kp S a w) (o : Obj) : Kp S a (w.alloc o) :=
  ⟨h.os, h.tape, h.output, Nat.le_trans h.size (by simp), fun k hk hn => by
    have := h.size
    rw [Below.heap_alloc _ _ _ (by omega)]; exact h.block k hk hn⟩
theorem Kp.drew {S : List Nat} {a w : World} (h : Kp S a w) : Kp S a w.drew := ⟨h.os, h.tape, h.output, h.size, h.block⟩
theorem Kp.drewN' {S : List Nat} {a w : World} (h : Kp S a w) (n : Nat) : Kp S a (w.drewN n) := ⟨h.os, h.tape, h.output, h.size, h.block⟩
theorem Kp.grown {S : List Nat} {a w w' : World} {row : Option Nat} (h : Kp S a w) (hg : w.grownBy w' row) (hr : ∀ k, row = some k → k ∈ S ∨ a.heap.size ≤ k) : Kp S a w' :=
  ⟨hg.os.trans h.os, hg.tape.trans h.tape, hg.output.trans h.output, Nat.le_trans h.size hg.size, fun k hk hn => by
    have := h.size
    rw [hg.block k (by omega) (fun e => by rcases hr k e.symm with h1 | h1; exact hn h1; omega)]; exact h.block k hk hn⟩
theorem HB.kp {S : List Nat} {w w' : World} {a : Option Addr} {l : List UInt8} (h : HB w a l) (k : Kp S w w') (hm : ∀ x, a = some x → x.block ∉ S) : HB w' a l := by
  by_cases e : l = []
  · subst e; exact HB.nil _ _
  · refine h.move (fun x hx => k.block _ ?_ (hm x hx))
    subst hx
    have := h.cell 0 (by cases l <;> simp_all)
    have hlt := World.block_lt_of_cell? w _ this
    have hb : (at_ (some x) 0).block = x.block := by unfold at_ Addr.add; split <;> rfl
    rwa [hb] at hlt

/-! ### Strings as lists of bytes -/
def str (l : List UInt8) : ByteArray := ⟨l.toArray⟩
theorem str_data (l : List UInt8) : (str l).data.toList = l := by simp [str]
theorem str_of (s : ByteArray) : s = str s.data.toList := by cases s; simp [str]
@[go_sem] theorem str_size (l : List UInt8) : (str l).size = l.length := by simp [str, ByteArray.size]
@[go_sem] theorem str_toList (l : List UInt8) : (str l).toList = l := by rw [ByteArray.toList_eq]; exact str_data l
@[go_sem] theorem str_append (l m : List UInt8) : str l ++ str m = str (l ++ m) := by
  apply ByteArray.ext; simp [str]
theorem str_inj {l m : List UInt8} (h : str l = str m) : l = m := by rw [← str_data l, h, str_data]
@[go_sem] theorem str_extract (l : List UInt8) (a b : Nat) : (str l).extract a b = str ((l.drop a).take (b - a)) := by
  apply ByteArray.ext; simp [str]
@[go_sem high] theorem run_index_str (w : World) (l : List UInt8) (i : Int) (h0 : 0 ≤ i) (h1 : i < l.length) :
    (Instr.index 9 (.string (str l)) (.int .i64 i)).run Tryz.prog w = .ok (.int .u8 (byt l i.toNat).toNat) w := by
  rw [run_index_string _ _ _ _ _ Tryz.underlying9, dif_pos ⟨h0, by rw [str_size]; exact h1⟩]
  rw [byt_lt l _ (by omega)]
  rfl

/-- 'string(b)'. -/
theorem run_str (w : World) (a : Option Addr) (l : List UInt8) (n c : Nat) (h : HB w a l) (hn : n = l.length) :
    (convert 22 9 (.slice a n c)).run Tryz.prog w = .ok (.string (str l)) w := by
  subst hn
  cases a with
  | none =>
    have hl : l = [] := by
      by_cases e : l = []
      · exact e
      · exact absurd (h.some_ e) (by simp)
    subst hl
    rw [run_convert_bytes_string w 22 9 5 none _ c elem22 Tryz.underlying5 Tryz.underlying9]
    simp [Conv.bytesToString]
    rfl
  | some x =>
    refine run_convert_bytes_back w 22 9 5 x c l elem22 Tryz.underlying5 Tryz.underlying9 (fun j hj => ?_)
    have := h.cell j hj
    rw [byt_lt l j hj] at this
    exact this

theorem isStr9 : Tryz.prog.underlying 9 = some .string := Tryz.underlying9
@[go_sem high] theorem run_scut_l (w : World) (l : List UInt8) (k : Int) (h0 : 0 ≤ k) (h1 : k ≤ l.length) :
    (Instr.sliceAt 9 (.string (str l)) (some (.int .i64 k)) none none).run Tryz.prog w = .ok (.string (str (l.drop k.toNat))) w := by
  rw [run_sliceAt_string _ _ _ _ _ _ isStr9, run_slice_string_l _ _ _ isStr9 _ _ h0 (by rw [str_size]; exact h1), str_extract, str_size, ← List.length_drop, List.take_length]
@[go_sem high] theorem run_scut_h (w : World) (l : List UInt8) (k : Int) (h0 : 0 ≤ k) (h1 : k ≤ l.length) :
    (Instr.sliceAt 9 (.string (str l)) none (some (.int .i64 k)) none).run Tryz.prog w = .ok (.string (str (l.take k.toNat))) w := by
  rw [run_sliceAt_string _ _ _ _ _ _ isStr9, run_slice_string_h _ _ _ isStr9 _ _ h0 (by rw [str_size]; exact h1), str_extract, List.drop_zero, Nat.sub_zero]
theorem i_is {a n : Int} (h : a = n) : (a == n) = true ∧ (a != n) = false := by subst h; simp
theorem i_not {a n : Int} (h : ¬ a = n) : (a == n) = false ∧ (a != n) = true := by simp [h]
theorem u8_iff (c d : UInt8) : (c.toNat : Int) = (d.toNat : Int) ↔ c = d := by
  rw [Int.natCast_inj, UInt8.toNat_inj]
theorem u8_bne (c d : UInt8) (n : Int) (h : n = d.toNat) : ((c.toNat : Int) != n) = (c != d) := by
  subst h
  by_cases e : c = d
  · subst e; simp
  · have := fun x => e ((u8_iff c d).1 x)
    rw [(i_not this).2]; simp [e]
theorem u8_beq (c d : UInt8) (n : Int) (h : n = d.toNat) : ((c.toNat : Int) == n) = (c == d) := by
  subst h
  by_cases e : c = d
  · subst e; simp
  · have := fun x => e ((u8_iff c d).1 x)
    rw [(i_not this).1]; simp [e]
theorem all_take_succ {p : UInt8 → Bool} {l : List UInt8} {k : Nat} (hk : k < l.length) (h : (l.take k).all p = true) (hp : p (byt l k) = true) : (l.take (k + 1)).all p = true := by
  rw [List.take_succ_eq_append_getElem hk, List.all_append, h]
  rw [byt_lt l k hk] at hp
  simp [hp]
theorem all_false {p : UInt8 → Bool} {l : List UInt8} {k : Nat} (hk : k < l.length) (hp : p (byt l k) = false) : l.all p = false := by
  rw [List.all_eq_false]
  exact ⟨l[k], List.getElem_mem hk, by rw [byt_lt l k hk] at hp; simp [hp]⟩
theorem ret_int {k : IntKind} {a b : Int} (h : a = b) : Ending.returned (.int k a) = .returned (.int k b) := by rw [h]
theorem ret_bool {a b : Bool} (h : a = b) : Ending.returned (.bool a) = .returned (.bool b) := by rw [h]
theorem ret_val {a b : Value} (h : a = b) : Ending.returned a = .returned b := by rw [h]

end Go.Proofs.YtkbgnplknifmhaaGreatDoor
namespace Go.Proofs.YtkbgnplknifmhaaGreatDoor
abbrev Bytes := List UInt8

/-- Where m stands in a list for the first time. -/
def findL (m : Bytes) : Bytes → Option Nat
  | [] => if m = [] then some 0 else none
  | c :: l => if m.isPrefixOf (c :: l) then some 0 else (findL m l).map (· + 1)
def findI (m l : Bytes) : Int := match findL m l with | some j => j | none => -1
/-- The same from place i on. -/
def findAt (m l : Bytes) (i : Nat) : Int := match findL m (l.drop i) with | some j => (i : Int) + j | none => -1
theorem findAt_zero (m l : Bytes) : findAt m l 0 = findI m l := by unfold findAt findI; rw [List.drop_zero]; cases findL m l <;> simp
theorem findL_short {m l : Bytes} (h : l.length < m.length) : findL m l = none := by
  induction l with
  | nil => unfold findL; rw [if_neg]; intro e; subst e; simp at h
  | cons c l ih =>
    unfold findL
    rw [if_neg, ih (by simp at h; omega)]; rfl
    intro e
    rw [List.isPrefixOf_iff_prefix] at e
    have := e.length_le
    omega
theorem findAt_short {m l : Bytes} {i : Nat} (hi : i ≤ l.length) (h : l.length < i + m.length) : findAt m l i = -1 := by
  unfold findAt; rw [findL_short (by rw [List.length_drop]; omega)]
theorem findL_hit {m l : Bytes} (h : m.isPrefixOf l = true) : findL m l = some 0 := by
  cases l with
  | nil => unfold findL; rw [if_pos]; rw [List.isPrefixOf_iff_prefix] at h; exact List.prefix_nil.1 h
  | cons c l => unfold findL; rw [if_pos h]
theorem findAt_hit {m l : Bytes} {i : Nat} (h : m.isPrefixOf (l.drop i) = true) : findAt m l i = i := by
  unfold findAt; rw [findL_hit h]; simp
theorem findAt_miss {m l : Bytes} {i : Nat} (h : m.isPrefixOf (l.drop i) = false) (hi : i + m.length ≤ l.length) : findAt m l i = findAt m l (i + 1) := by
  unfold findAt
  have hlt : i < l.length := by
    rcases Nat.lt_or_ge i l.length with h1 | h1
    · exact h1
    · have : m = [] := List.eq_nil_of_length_eq_zero (by omega)
      subst this
      simp at h
  rw [List.drop_eq_getElem_cons hlt] at h ⊢
  have e : findL m (l[i] :: List.drop (i + 1) l) = (findL m (List.drop (i + 1) l)).map (· + 1) := by
    rw [findL, if_neg (by rw [h]; simp)]
  rw [e]
  cases findL m (List.drop (i + 1) l) with
  | none => rfl
  | some j => simp only [Option.map_some]; omega

/-! ### bytes by kind -/
def letterB (c : UInt8) : Bool := (97 ≤ c && c ≤ 122) || (65 ≤ c && c ≤ 90) || (48 ≤ c && c ≤ 57)
def blankC (c : UInt8) : Bool := c == 32 || c == 9
def printC (c : UInt8) : Bool := 32 ≤ c && c ≤ 126
def boundSigns : Bytes := [39, 40, 41, 43, 95, 44, 45, 46, 47, 58, 61, 63, 32]
def keySigns : Bytes := [33, 35, 36, 37, 38, 39, 42, 43, 45, 46, 94, 95, 96, 124, 126]
def hasC (l : Bytes) (c : UInt8) : Bool := l.contains c
def boundC (c : UInt8) : Bool := letterB c || hasC boundSigns c
def keyC (c : UInt8) : Bool := letterB c || hasC keySigns c
def lastB (l : Bytes) : UInt8 := l.getD (l.length - 1) 0
def boundaryB (l : Bytes) : Bool := l.all boundC && (decide (0 < l.length) && decide (l.length ≤ 70) && lastB l != 32)
def keyB (l : Bytes) : Bool := l.all keyC && decide (0 < l.length)
def plainB (l : Bytes) : Bool := l.all printC && (l.isEmpty || (l.getD 0 0 != 32 && lastB l != 32))

/-! ### the scan for a delimiter -/
def stopC (c : UInt8) : Bool := c == 32 || c == 9 || c == 13 || c == 10
/-- What MatchAfterPrefix says of the bytes behind the prefix, if more may come. -/
def matchP : Bytes → Int
  | [] => 0
  | c :: r => if stopC c then 1 else if c = 45 then (match r with | [] => 0 | d :: _ => if d = 45 then 1 else -1) else -1
/-- Where a byte stands for the last time. -/
def lastIx (c : UInt8) (l : Bytes) : Nat → Int
  | 0 => -1
  | n + 1 => if l.getD n 0 = c then n else lastIx c l n
theorem lastIx_succ (c : UInt8) (l : Bytes) (n : Nat) : lastIx c l (n + 1) = if l.getD n 0 = c then (n : Int) else lastIx c l n := rfl
/-- What the scan says where the beginning of a part decides nothing. -/
def scanT (l nl : Bytes) : Int × Bool :=
  match findL nl l with
    | some i => if matchP ((l.drop i).drop nl.length) = -1 then (i + nl.length, false) else if matchP ((l.drop i).drop nl.length) = 0 then (i, false) else (i, true)
    | none =>
      if l.isPrefixOf nl then (0, false)
      else if 0 ≤ lastIx (nl.getD 0 0) l l.length ∧ (l.drop (lastIx (nl.getD 0 0) l l.length).toNat).isPrefixOf nl = true then (lastIx (nl.getD 0 0) l l.length, false)
      else (l.length, false)
/-- What ScanUntilBoundary says of bytes behind which more may come: how many may be given, and whether the part ends behind them. -/
def scanP (l d nl : Bytes) (first : Bool) : Int × Bool :=
  if first && d.isPrefixOf l then
    (if matchP (l.drop d.length) = -1 then (d.length, false) else if matchP (l.drop d.length) = 0 then (0, false) else (0, true))
  else if first && l.isPrefixOf d then (0, false)
  else scanT l nl
theorem scanP_T (l d nl : Bytes) (f : Bool) (h : f = false ∨ (d.isPrefixOf l = false ∧ l.isPrefixOf d = false)) : scanP l d nl f = scanT l nl := by
  unfold scanP
  rcases h with rfl | ⟨h1, h2⟩
  · simp
  · rw [h1, h2]; simp
theorem matchP_cases (l : Bytes) : matchP l = -1 ∨ matchP l = 0 ∨ matchP l = 1 := by
  unfold matchP
  split
  · simp
  · split
    · simp
    · split
      · split
        · simp
        · split <;> simp
      · simp
theorem findI_some {m l : Bytes} {i : Nat} (h : findL m l = some i) : findI m l = i := by unfold findI; rw [h]
theorem findI_none {m l : Bytes} (h : findL m l = none) : findI m l = -1 := by unfold findI; rw [h]
theorem findL_le {m l : Bytes} {i : Nat} (h : findL m l = some i) : i + m.length ≤ l.length ∧ m.isPrefixOf (l.drop i) = true := by
  induction l generalizing i with
  | nil =>
    unfold findL at h
    split at h
    · rename_i e; subst e; cases h; simp
    · cases h
  | cons c l ih =>
    unfold findL at h
    split at h
    · rename_i e
      cases h
      have := (List.isPrefixOf_iff_prefix.1 e).length_le
      exact ⟨by omega, by rw [List.drop_zero]; exact e⟩
    · cases hf : findL m l with
      | none => rw [hf] at h; cases h
      | some j =>
        rw [hf] at h
        simp only [Option.map_some, Option.some.injEq] at h
        subst h
        obtain ⟨h1, h2⟩ := ih hf
        exact ⟨by simp; omega, by rw [List.drop_succ_cons]; exact h2⟩
theorem lastIx_lt (c : UInt8) (l : Bytes) (n : Nat) : lastIx c l n < n ∧ -1 ≤ lastIx c l n := by
  induction n with
  | zero => simp [lastIx]
  | succ n ih => rw [lastIx_succ]; split <;> omega
end Go.Proofs.YtkbgnplknifmhaaGreatDoor
namespace Go.Proofs.YtkbgnplknifmhaaGreatDoor
open Go.RowKit

set_option maxHeartbeats 400000 in
theorem equal_any (a b : Option Addr) (c d : Nat) (l m : List UInt8) (w : World) (ha : HB w a l) (hb : HB w b m) :
    Calls Tryz.prog 75 #[.slice a l.length c, .slice b m.length d] w fun e w' => e = .returned (.bool (l == m)) ∧ w = w' := by
  have e1 := fun c => run_str w a l l.length c ha rfl
  have e2 := fun c => run_str w b m m.length c hb rfl
  clear ha hb
  go_enter Tryz.func75, Tryz.ntmps75
  go_wp2
  go_ret
  refine ⟨?_, rfl⟩
  simp
  trace_state


theorem isPrefixOf_take (l m : List UInt8) (_h : m.length ≤ l.length) : m.isPrefixOf l = (l.take m.length == m) := by
  rw [Bool.eq_iff_iff, List.isPrefixOf_iff_prefix, beq_iff_eq, List.prefix_iff_eq_take]; exact eq_comm
theorem isPrefixOf_len (l m : List UInt8) (h : ¬ m.length ≤ l.length) : m.isPrefixOf l = false := by
  rw [Bool.eq_false_iff]; intro e; rw [List.isPrefixOf_iff_prefix] at e; exact h e.length_le
set_option maxHeartbeats 400000 in
theorem hasPrefix_any (a b : Option Addr) (c d : Nat) (l m : List UInt8) (w : World) (ha : HB w a l) (hc : l.length ≤ c) (hb : HB w b m) :
    Calls Tryz.prog 51 #[.slice a l.length c, .slice b m.length d] w fun e w' => e = .returned (.bool (m.isPrefixOf l)) ∧ w = w' := by
  by_cases h : m.length ≤ l.length
  · rw [isPrefixOf_take l m h]
    have hcon := equal_any a b c d (l.take m.length) m w (ha.take _) hb
    rw [List.length_take, Nat.min_eq_left h] at hcon
    clear ha hb
    generalize (l.take m.length == m) = r at hcon ⊢
    go_enter Tryz.func51, Tryz.ntmps51
    go_wp2_with (go_at_call 75; refine hcon.mono ?_; rintro e w' ⟨rfl, rfl⟩)
    go_ret
    exact ⟨rfl, rfl⟩
  · rw [isPrefixOf_len l m h]
    clear ha hb
    have h' : decide (m.length ≤ l.length) = false := decide_eq_false h
    go_enter Tryz.func51, Tryz.ntmps51
    go_wp2_with fail
    go_ret
    exact ⟨rfl, rfl⟩


set_option maxHeartbeats 400000 in
theorem find_any (a b : Option Addr) (c d : Nat) (l m : List UInt8) (w : World) (ha : HB w a l) (hc : l.length ≤ c) (hb : HB w b m) (hl : l.length ≤ 281474976710656) (hm : m.length ≤ 281474976710656) :
    Calls Tryz.prog 43 #[.slice a l.length c, .slice b m.length d] w fun e w' => e = .returned (.int .i64 (findI m l)) ∧ w = w' := by
  have hcon := fun k (hk : k ≤ l.length) => hasPrefix_any (cutAt a c k) b (c - k) d (l.drop k) m w (ha.drop hc hk) (by rw [List.length_drop]; omega) hb
  have hcon' := Lib.hid hcon
  clear hcon ha hb
  have H : Hid (findAt m l 0 = findI m l) := Lib.hid (findAt_zero m l)
  go_enter Tryz.func43, Tryz.ntmps43
  go_wp2
  go_loop [5] (fun i => ∃ k : Nat, k ≤ l.length ∧ i = .int .i64 k ∧ Hid (findAt m l k = findI m l)) (fun i => l.length + 1 - (intOf i).toNat)
  case atStart => exact ⟨0, Nat.zero_le _, rfl, H⟩
  case round =>
    clear H
    obtain ⟨k, hk, rfl, H⟩ := hrel
    by_cases hlt : k + m.length ≤ l.length
    · have hcon := hcon'.out k hk
      rw [List.length_drop] at hcon
      cases hp : m.isPrefixOf (l.drop k) with
      | true =>
        rw [hp] at hcon
        have H1 := H.out
        rw [findAt_hit hp] at H1
        clear H hp
        have H2 := Lib.hid H1
        clear H1
        go_wp2_with (go_at_call 51; refine hcon.mono ?_; rintro e w' ⟨rfl, rfl⟩)
        go_ret
        exact ⟨ret_int H2.out, rfl⟩
      | false =>
        rw [hp] at hcon
        have H1 := H.out
        rw [findAt_miss hp hlt] at H1
        have hk1 : k + 1 ≤ l.length := by
          rcases Nat.lt_or_ge k l.length with h1 | h1
          · exact h1
          · have : m = [] := List.eq_nil_of_length_eq_zero (by omega)
            subst this
            simp at hp
        clear H hp
        have H2 := Lib.hid H1
        clear H1
        go_wp2_with (go_at_call 51; refine hcon.mono ?_; rintro e w' ⟨rfl, rfl⟩)
        go_round
        case rel => exact ⟨k + 1, hk1, by go_num, H2⟩
        case measure => simp [intOf]; omega
    · have H1 := H.out
      rw [findAt_short hk (by omega)] at H1
      clear H
      have H2 := Lib.hid H1
      clear H1
      go_wp2
      go_ret
      exact ⟨ret_int H2.out, rfl⟩

end Go.Proofs.YtkbgnplknifmhaaGreatDoor
namespace Go.Proofs.YtkbgnplknifmhaaGreatDoor
open Go.RowKit

set_option maxHeartbeats 400000 in
theorem blanks_any (l : Bytes) (w : World) (hl : l.length ≤ 281474976710656) :
    Calls Tryz.prog 50 #[.string (str l)] w fun e w' => e = .returned (.bool (l.all blankC)) ∧ w = w' := by
  go_enter Tryz.func50, Tryz.ntmps50
  go_wp2
  go_loop [3] (fun i => ∃ k : Nat, k ≤ l.length ∧ i = .int .i64 k ∧ Hid ((l.take k).all blankC = true)) (fun i => l.length - (intOf i).toNat)
  case atStart => exact ⟨0, Nat.zero_le _, rfl, by simp [Hid]⟩
  case round =>
    obtain ⟨k, hk, rfl, H⟩ := hrel
    by_cases hlt : k < l.length
    · by_cases h1 : ((byt l k).toNat : Int) = 32
      · have H1 : Hid ((l.take (k + 1)).all blankC = true) := all_take_succ hlt H (by simp [blankC, (u8_iff _ 32).1 h1])
        obtain ⟨e1, e2⟩ := i_is h1
        clear h1 H
        go_wp2
        go_round
        case rel => exact ⟨k + 1, hlt, by go_num, H1⟩
        case measure => simp [intOf]; omega
      · by_cases h2 : ((byt l k).toNat : Int) = 9
        · have H1 : Hid ((l.take (k + 1)).all blankC = true) := all_take_succ hlt H (by simp [blankC, (u8_iff _ 9).1 h2])
          obtain ⟨e1, e2⟩ := i_not h1
          obtain ⟨e3, e4⟩ := i_is h2
          clear h1 h2 H
          go_wp2
          go_round
          case rel => exact ⟨k + 1, hlt, by go_num, H1⟩
          case measure => simp [intOf]; omega
        · have H1 : Hid (l.all blankC = false) := all_false hlt (by simp [blankC]; exact ⟨fun e => h1 ((u8_iff _ 32).2 e), fun e => h2 ((u8_iff _ 9).2 e)⟩)
          obtain ⟨e1, e2⟩ := i_not h1
          obtain ⟨e3, e4⟩ := i_not h2
          clear h1 h2 H
          go_wp2
          go_ret
          exact ⟨ret_bool H1.out.symm, rfl⟩
    · have H1 : Hid (l.all blankC = true) := by have := H.out; rwa [List.take_of_length_le (by omega)] at this
      clear H
      go_wp2
      go_ret
      exact ⟨ret_bool H1.out.symm, rfl⟩

theorem run_index_last (l : Bytes) (h : 0 < l.length) (w : World) :
    (Instr.index 9 (.string (str l)) (.int .i64 ((l.length : Int) - 1))).run Tryz.prog w = .ok (.int .u8 (byt l (l.length - 1)).toNat) w := by
  rw [run_index_str w l _ (by omega) (by omega)]
  rw [show ((l.length : Int) - 1).toNat = l.length - 1 from by omega]
theorem letterB_iff (c : UInt8) : letterB c = ((decide (97 ≤ (c.toNat:Int)) && decide ((c.toNat:Int) ≤ 122)) || (decide (65 ≤ (c.toNat:Int)) && decide ((c.toNat:Int) ≤ 90)) || (decide (48 ≤ (c.toNat:Int)) && decide ((c.toNat:Int) ≤ 57))) := by
  simp only [letterB, UInt8.le_iff_toNat_le]
  simp
  rw [Bool.eq_iff_iff]; simp; omega
set_option maxHeartbeats 400000 in
theorem letter_any (c : UInt8) (w : World) :
    Calls Tryz.prog 48 #[.int .u8 c.toNat] w fun e w' => e = .returned (.bool (letterB c)) ∧ w = w' := by
  rw [letterB_iff]
  generalize (c.toNat : Int) = x
  by_cases h1 : 97 ≤ x <;> by_cases h2 : x ≤ 122 <;> by_cases h3 : 65 ≤ x <;> by_cases h4 : x ≤ 90 <;> by_cases h5 : 48 ≤ x <;> by_cases h6 : x ≤ 57 <;> first | (exfalso; omega) | skip
  all_goals
    go_enter Tryz.func48, Tryz.ntmps48
    go_wp2
    go_ret
    simp [h1, h2, h3, h4, h5, h6]

theorem contains_of_byt {l : List UInt8} {k : Nat} {c : UInt8} (hk : k < l.length) (h : ((byt l k).toNat : Int) = c.toNat) : hasC l c = true := by
  unfold hasC
  rw [List.contains_iff_mem]
  have := (u8_iff _ _).1 h
  rw [byt_lt l k hk] at this
  rw [← this]; exact List.getElem_mem hk
theorem not_contains_take_succ {l : List UInt8} {k : Nat} {c : UInt8} (hk : k < l.length) (h : hasC (l.take k) c = false) (h' : ¬ ((byt l k).toNat : Int) = c.toNat) : hasC (l.take (k + 1)) c = false := by
  unfold hasC at h ⊢
  rw [List.take_succ_eq_append_getElem hk, List.contains_append, h]
  rw [byt_lt l k hk, u8_iff] at h'
  simp; exact fun e => h' e.symm
set_option maxHeartbeats 400000 in
theorem within_any (l : Bytes) (c : UInt8) (w : World) (hl : l.length ≤ 281474976710656) :
    Calls Tryz.prog 49 #[.string (str l), .int .u8 c.toNat] w fun e w' => e = .returned (.bool (hasC l c)) ∧ w = w' := by
  go_enter Tryz.func49, Tryz.ntmps49
  go_wp2
  go_loop [5] (fun i => ∃ k : Nat, k ≤ l.length ∧ i = .int .i64 k ∧ Hid (hasC (l.take k) c = false)) (fun i => l.length - (intOf i).toNat)
  case atStart => exact ⟨0, Nat.zero_le _, rfl, by simp [Hid, hasC]⟩
  case round =>
    obtain ⟨k, hk, rfl, H⟩ := hrel
    by_cases hlt : k < l.length
    · by_cases h1 : ((byt l k).toNat : Int) = c.toNat
      · have H1 : Hid (hasC l c = true) := contains_of_byt hlt h1
        obtain ⟨e1, e2⟩ := i_is h1
        clear h1 H
        go_wp2
        go_ret
        exact ⟨ret_bool H1.out.symm, rfl⟩
      · have H1 : Hid (hasC (l.take (k + 1)) c = false) := not_contains_take_succ hlt H h1
        obtain ⟨e1, e2⟩ := i_not h1
        clear h1 H
        go_wp2
        go_round
        case rel => exact ⟨k + 1, hlt, by go_num, H1⟩
        case measure => simp [intOf]; omega
    · have H1 : Hid (hasC l c = false) := by have := H.out; rwa [List.take_of_length_le (by omega)] at this
      clear H
      go_wp2
      go_ret
      exact ⟨ret_bool H1.out.symm, rfl⟩

theorem printC_iff (c : UInt8) : printC c = (decide (32 ≤ (c.toNat:Int)) && decide ((c.toNat:Int) ≤ 126)) := by
  simp only [printC, UInt8.le_iff_toNat_le]
  rw [Bool.eq_iff_iff]; simp; omega
set_option maxHeartbeats 400000 in
theorem printable_any (l : Bytes) (w : World) (hl : l.length ≤ 281474976710656) :
    Calls Tryz.prog 41 #[.string (str l)] w fun e w' => e = .returned (.bool (l.all printC)) ∧ w = w' := by
  go_enter Tryz.func41, Tryz.ntmps41
  go_wp2
  go_loop [3] (fun i => ∃ k : Nat, k ≤ l.length ∧ i = .int .i64 k ∧ Hid ((l.take k).all printC = true)) (fun i => l.length - (intOf i).toNat)
  case atStart => exact ⟨0, Nat.zero_le _, rfl, by simp [Hid]⟩
  case round =>
    obtain ⟨k, hk, rfl, H⟩ := hrel
    by_cases hlt : k < l.length
    · by_cases h1 : ((byt l k).toNat : Int) < 32
      · have H1 : Hid (l.all printC = false) := all_false hlt (by rw [printC_iff]; simp; intro; omega)
        clear H
        go_wp2
        go_ret
        exact ⟨ret_bool H1.out.symm, rfl⟩
      · by_cases h2 : 126 < ((byt l k).toNat : Int)
        · have H1 : Hid (l.all printC = false) := all_false hlt (by rw [printC_iff]; simp; intro; omega)
          clear H
          go_wp2
          go_ret
          exact ⟨ret_bool H1.out.symm, rfl⟩
        · have H1 : Hid ((l.take (k + 1)).all printC = true) := all_take_succ hlt H (by rw [printC_iff]; simp; omega)
          clear H
          go_wp2
          go_round
          case rel => exact ⟨k + 1, hlt, by go_num, H1⟩
          case measure => simp [intOf]; omega
    · have H1 : Hid (l.all printC = true) := by have := H.out; rwa [List.take_of_length_le (by omega)] at this
      clear H
      go_wp2
      go_ret
      exact ⟨ret_bool H1.out.symm, rfl⟩

set_option maxHeartbeats 400000 in
theorem boundary_any (l : Bytes) (w : World) (hl : l.length ≤ 281474976710656) :
    Calls Tryz.prog 15 #[.string (str l)] w fun e w' => e = .returned (.bool (boundaryB l)) ∧ w = w' := by
  go_enter Tryz.func15, Tryz.ntmps15
  go_wp2
  go_loop [3] (fun i => ∃ k : Nat, k ≤ l.length ∧ i = .int .i64 k ∧ Hid ((l.take k).all boundC = true)) (fun i => l.length - (intOf i).toNat)
  case atStart => exact ⟨0, Nat.zero_le _, rfl, by simp [Hid]⟩
  case round =>
    obtain ⟨k, hk, rfl, H⟩ := hrel
    by_cases hlt : k < l.length
    · have hc1 := letter_any (byt l k) w
      have hc2 := within_any boundSigns (byt l k) w (by decide)
      cases h1 : letterB (byt l k) with
      | true =>
        have H1 : Hid ((l.take (k + 1)).all boundC = true) := all_take_succ hlt H (by simp [boundC, h1])
        rw [h1] at hc1
        clear h1 H hc2
        go_wp2_with (go_at_call 48; refine hc1.mono ?_; rintro e w' ⟨rfl, rfl⟩)
        go_round
        case rel => exact ⟨k + 1, hlt, by go_num, H1⟩
        case measure => simp [intOf]; omega
      | false =>
        cases h2 : hasC boundSigns (byt l k) with
        | true =>
          have H1 : Hid ((l.take (k + 1)).all boundC = true) := all_take_succ hlt H (by simp only [boundC, h1, h2]; rfl)
          rw [h1] at hc1
          rw [h2] at hc2
          clear h1 h2 H
          go_wp2_with (first | (go_at_call 48; refine hc1.mono ?_; rintro e w' ⟨rfl, rfl⟩) | (go_at_call 49; refine hc2.mono ?_; rintro e w' ⟨rfl, rfl⟩))
          go_round
          case rel => exact ⟨k + 1, hlt, by go_num, H1⟩
          case measure => simp [intOf]; omega
        | false =>
          have H1 : Hid (boundaryB l = false) := by
            have : l.all boundC = false := all_false hlt (by simp only [boundC, h1, h2]; rfl)
            simp [Hid, boundaryB, this]
          rw [h1] at hc1
          rw [h2] at hc2
          clear h1 h2 H
          go_wp2_with (first | (go_at_call 48; refine hc1.mono ?_; rintro e w' ⟨rfl, rfl⟩) | (go_at_call 49; refine hc2.mono ?_; rintro e w' ⟨rfl, rfl⟩))
          go_ret
          exact ⟨ret_bool H1.out.symm, rfl⟩
    · have H1 : l.all boundC = true := by have := H.out; rwa [List.take_of_length_le (by omega)] at this
      clear H
      by_cases h0 : 0 < l.length
      · by_cases h70 : l.length ≤ 70
        · have H2 : Hid ((((byt l (l.length - 1)).toNat : Int) != 32) = boundaryB l) := by
            show _ = _
            simp only [boundaryB, H1, h0, h70, lastB, decide_true, Bool.true_and]
            exact u8_bne _ 32 32 rfl
          have hx := run_index_last l h0
          clear H1
          go_wp2
          go_ret
          exact ⟨ret_bool H2.out, rfl⟩
        · have H2 : Hid (boundaryB l = false) := by simp [Hid, boundaryB, h70]
          clear H1
          go_wp2
          go_ret
          exact ⟨ret_bool H2.out.symm, rfl⟩
      · have H2 : Hid (boundaryB l = false) := by simp [Hid, boundaryB, h0]
        clear H1
        go_wp2
        go_ret
        exact ⟨ret_bool H2.out.symm, rfl⟩

end Go.Proofs.YtkbgnplknifmhaaGreatDoor
namespace Go.Proofs.YtkbgnplknifmhaaGreatDoor
open Go.RowKit

/-! ### validHeaderFieldByte (136), validHeaderValueByte (146) -/
def fieldX (n : Nat) : Bool := (bits BinOp.or IntKind.u64
                (bits BinOp.and IntKind.u64 (IntKind.u64.wrap (2 ^ min n 64)) 288068722172624896)
                (bits BinOp.and IntKind.u64 (IntKind.u64.wrap (2 ^ min (((n : Int) - 64) % 256).toNat 64))
                  6341068274398134270) !=
              0)
theorem fieldX_all : ∀ n : Fin 256, keyC (UInt8.ofNat n) = true → fieldX n = true := by decide +kernel
theorem fieldX_of (c : UInt8) (hc : keyC c = true) : fieldX c.toNat = true := by
  have := fieldX_all ⟨c.toNat, c.toNat_lt⟩
  simp at this
  exact this hc
set_option maxHeartbeats 400000 in
theorem fieldByte (c : UInt8) (w : World) (hc : keyC c = true) :
    Calls Tryz.prog 136 #[.int .u8 c.toNat] w fun e w' => e = .returned (.bool true) ∧ w = w' := by
  have H : Hid (fieldX c.toNat = true) := fieldX_of c hc
  clear hc
  have h0 : (0 : Int) ≤ (c.toNat : Int) := by omega
  have h1 : (c.toNat : Int) ≤ 255 := by have := c.toNat_lt; omega
  have h2 : (0 : Int) ≤ ((c.toNat : Int) - 64) % 256 := by omega
  go_enter Tryz.func136, Tryz.ntmps136
  go_wp2
  go_ret
  exact ⟨congrArg (fun b => Ending.returned (.bool b)) H.out, rfl⟩

def valueC (c : UInt8) : Bool := printC c || c == 9
def valueX (n : Nat) : Bool := (bits BinOp.or IntKind.u64
                (bits BinOp.andNot IntKind.u64 (IntKind.u64.wrap (2 ^ min n 64)) 18446744069414584832)
                (bits BinOp.andNot IntKind.u64 (IntKind.u64.wrap (2 ^ min (((n : Int) - 64) % 256).toNat 64))
                  9223372036854775807) ==
              0)
theorem valueX_all : ∀ n : Fin 256, valueC (UInt8.ofNat n) = true → valueX n = true := by decide +kernel
theorem valueX_of (c : UInt8) (hc : valueC c = true) : valueX c.toNat = true := by
  have := valueX_all ⟨c.toNat, c.toNat_lt⟩
  simp at this
  exact this hc
/-- Some bool is given back. -/
def RetB (e : Ending) : Prop := ∃ b, e = .returned (.bool b)
set_option maxHeartbeats 400000 in
theorem valueByte (c : UInt8) (w : World) (hc : valueC c = true) :
    Calls Tryz.prog 146 #[.int .u8 c.toNat] w fun e w' => e = .returned (.bool true) ∧ w = w' := by
  have H : Hid (valueX c.toNat = true) := valueX_of c hc
  clear hc
  have h0 : (0 : Int) ≤ (c.toNat : Int) := by omega
  have h1 : (c.toNat : Int) ≤ 255 := by have := c.toNat_lt; omega
  have h2 : (0 : Int) ≤ ((c.toNat : Int) - 64) % 256 := by omega
  go_enter Tryz.func146, Tryz.ntmps146
  go_wp2
  go_ret
  exact ⟨congrArg (fun b => Ending.returned (.bool b)) H.out, rfl⟩

/-! ### isASCIILetter (150) -/
set_option maxHeartbeats 400000 in
theorem isLetter_any (c : UInt8) (w : World) : Calls Tryz.prog 150 #[.int .u8 c.toNat] w fun e w' => RetB e ∧ w = w' := by
  have h0 : (0 : Int) ≤ (c.toNat : Int) := by omega
  have h1 : (c.toNat : Int) ≤ 255 := by have := c.toNat_lt; omega
  go_enter Tryz.func150, Tryz.ntmps150
  go_wp2
  all_goals
    go_ret
    exact ⟨⟨_, rfl⟩, rfl⟩
set_option maxHeartbeats 400000 in
theorem isLetter_sp (w : World) : Calls Tryz.prog 150 #[.int .u8 32] w fun e w' => e = .returned (.bool false) ∧ w = w' := by
  go_enter Tryz.func150, Tryz.ntmps150
  go_wp2
  go_ret
  exact ⟨rfl, rfl⟩
set_option maxHeartbeats 400000 in
theorem isLetter_tab (w : World) : Calls Tryz.prog 150 #[.int .u8 9] w fun e w' => e = .returned (.bool false) ∧ w = w' := by
  go_enter Tryz.func150, Tryz.ntmps150
  go_wp2
  go_ret
  exact ⟨rfl, rfl⟩
end Go.Proofs.YtkbgnplknifmhaaGreatDoor
