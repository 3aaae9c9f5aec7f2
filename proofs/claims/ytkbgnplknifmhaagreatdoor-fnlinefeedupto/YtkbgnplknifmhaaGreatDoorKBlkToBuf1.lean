/-
  Walks and facts for the mailparts program.
-/
import Derived.Test.YtkbgnplknifmhaaGreatDoorKBaseToTx0
import Derived.Deep.RegionHeld3
import Derived.Deep.DrawnRows
import Derived.Laws.IdiomCopy
import Derived.Laws.CopyOwn
namespace Go.Proofs.YtkbgnplknifmhaaGreatDoor
open Go.RowKit

/-! ### Blocks that are known whole -/
def Blk (w : World) (b : Nat) (cs : Array Value) (t : TypeId) : Prop := w.heap[b]? = some (.cells cs t (0, 0))
section
variable {w w' : World} {b : Nat} {cs : Array Value} {t : TypeId}
theorem Blk.lt (h : Blk w b cs t) : b < w.heap.size := (Array.getElem?_eq_some_iff.1 h).1
theorem Blk.cell (h : Blk w b cs t) (i : Nat) : w.cell? ⟨b, i, none⟩ = cs[i]? := by
  unfold Blk at h
  simp [World.cell?, h]
theorem Blk.free (h : Blk w b cs t) (i : Nat) : w.frozen? ⟨b, i, none⟩ = false := by
  unfold Blk at h
  simp [World.frozen?, h]
theorem Blk.move (h : Blk w b cs t) (e : w'.heap[b]? = w.heap[b]?) : Blk w' b cs t := by unfold Blk; rw [e]; exact h
theorem Blk.kp {S : List Nat} (h : Blk w b cs t) (k : Kp S w w') (hb : b ∉ S) : Blk w' b cs t := h.move (k.block b h.lt hb)
theorem Blk.set (h : Blk w b cs t) (i : Nat) (v : Value) : Blk (w.setCell ⟨b, i, none⟩ v) b (cs.setIfInBounds i v) t := by
  unfold Blk at h ⊢
  have hlt : b < w.heap.size := (Array.getElem?_eq_some_iff.1 h).1
  simp only [World.setCell, Array.getElem?_modify, if_true, h, Option.map_some]
  rfl
theorem Blk.far (h : Blk w b cs t) {p : Addr} (hp : b ≠ p.block) (v : Value) : Blk (w.setCell p v) b cs t := h.move (Below.heap_setCell w p v b hp)
theorem Blk.alloc (h : Blk w b cs t) (o : Obj) : Blk (w.alloc o) b cs t := h.move (Below.heap_alloc w o b h.lt)
theorem Blk.drewN (h : Blk w b cs t) (n : Nat) : Blk (w.drewN n) b cs t := h
theorem Blk.drew (h : Blk w b cs t) : Blk w.drew b cs t := h
theorem Blk.new (w : World) (cs : Array Value) (t : TypeId) : Blk (w.alloc (.cells cs t)) w.heap.size cs t := heap_alloc_new w _
end

/-! ### A block of bytes -/
def B8 (c : UInt8) : Value := .int .u8 c.toNat
def encB (bs : List UInt8) : Array Value := (bs.map B8).toArray
def BufB (w : World) (b : Nat) (bs : List UInt8) : Prop := Blk w b (encB bs) 5
theorem encB_get (bs : List UInt8) (i : Nat) (h : i < bs.length) : (encB bs)[i]? = some (.int .u8 (byt bs i).toNat) := by
  rw [byt_lt bs i h]
  simp [encB, h, B8]
theorem BufB.hb {w : World} {b : Nat} {bs : List UInt8} (h : BufB w b bs) (o : Nat) (n : Nat) : HB w (some ⟨b, o, none⟩) ((bs.drop o).take n) := by
  refine HB.of_cells (fun i hi => ?_)
  rw [List.length_take, List.length_drop] at hi
  rw [Blk.cell h, encB_get _ _ (by omega), byt_take _ _ _ (by omega), byt_drop]
theorem BufB.hb' {w : World} {b : Nat} {bs : List UInt8} (h : BufB w b bs) (o : Nat) : HB w (some ⟨b, o, none⟩) (bs.drop o) := by
  have := h.hb o (bs.drop o).length
  rwa [List.take_length] at this
def spliceB (bs : List UInt8) (o : Nat) (cs : List UInt8) : List UInt8 := bs.take o ++ cs ++ bs.drop (o + cs.length)
theorem length_spliceB (bs : List UInt8) (o : Nat) (cs : List UInt8) (h : o + cs.length ≤ bs.length) : (spliceB bs o cs).length = bs.length := by simp [spliceB]; omega
/-- The world in which block b holds the bytes bs. -/
def putB (w : World) (b : Nat) (bs : List UInt8) : World := w.setRow b (encB bs)
theorem putB_other (w : World) (b k : Nat) (bs : List UInt8) (h : k ≠ b) : (putB w b bs).heap[k]? = w.heap[k]? := setRow_other w b k _ h
theorem putB_size (w : World) (b : Nat) (bs : List UInt8) : (putB w b bs).heap.size = w.heap.size := by simp [putB, World.setRow]
theorem BufB.put {w : World} {b : Nat} {bs : List UInt8} (h : BufB w b bs) (bs' : List UInt8) : BufB (putB w b bs') b bs' := setRow_heap w b _ _ 5 (0, 0) h
theorem BufT.put {w : World} {b : Nat} {bs : List UInt8} {t : TypeId} (h : Blk w b (encB bs) t) (bs' : List UInt8) : Blk (putB w b bs') b (encB bs') t := setRow_heap w b _ _ t (0, 0) h
theorem Blk.putB {w : World} {b b' : Nat} {cs : Array Value} {t : TypeId} (h : Blk w b cs t) (hb : b ≠ b') (bs : List UInt8) : Blk (putB w b' bs) b cs t := h.move (putB_other w b' b bs hb)
@[go_sem] theorem putB_cell (w : World) (b : Nat) (bs : List UInt8) (a : Addr) (h : ¬ a.block = b) : (putB w b bs).cell? a = w.cell? a := World.cell?_of_block (putB_other w b a.block bs h)
@[go_sem] theorem putB_frozen (w : World) (b : Nat) (bs : List UInt8) (a : Addr) (h : ¬ a.block = b) : (putB w b bs).frozen? a = w.frozen? a := World.frozen?_of_block (putB_other w b a.block bs h)
@[go_sem] theorem putB_heapsize (w : World) (b : Nat) (bs : List UInt8) : (putB w b bs).heap.size = w.heap.size := putB_size w b bs
theorem Kp.putB {S : List Nat} {a w : World} (h : Kp S a w) {b : Nat} (hp : b ∈ S ∨ a.heap.size ≤ b) (bs : List UInt8) : Kp S a (putB w b bs) :=
  ⟨h.os, h.tape, h.output, by rw [putB_size]; exact h.size, fun k hk hn => by
    rw [putB_other _ _ _ _ (by rintro rfl; rcases hp with hp | hp; exact hn hp; omega)]; exact h.block k hk hn⟩
theorem HB.putB {w : World} {b : Nat} {a : Option Addr} {l : List UInt8} (h : HB w a l) (hb : ∀ x, a = some x → x.block ≠ b) (bs : List UInt8) : HB (putB w b bs) a l :=
  h.move (fun x hx => putB_other _ _ _ _ (hb x hx))

theorem info5_size : (Tryz.prog.info? 5).map (·.size) = some 1 := by kernel_rfl
/-- 'copy(dst, src)' into a block of bytes. -/
theorem run_copy_bytes (w : World) (ty : TypeId) (b o m c : Nat) (x : Option Addr) (l : List UInt8) (n c' : Nat) (hn : n = l.length) (bs : List UInt8) {t : TypeId} (hB : Blk w b (encB bs) t) (hl : HB w x l) (hfit : o + m ≤ bs.length) :
    (Builtin.copy_ #[22, 22] ty #[.slice (some ⟨b, o, none⟩) m c, .slice x n c']).run Tryz.prog w = .ok (.int .i64 (min l.length m : Nat)) (putB w b (spliceB bs o (l.take m))) := by
  subst hn
  by_cases h0 : min l.length m = 0
  · have hrun := run_copy_none (P := Tryz.prog) w 22 22 ty 5 (some ⟨b, o, none⟩) x m c l.length c' elem22 info5_size h0
    rw [hrun, h0]
    have : l.take m = [] := List.eq_nil_of_length_eq_zero (by rw [List.length_take]; omega)
    rw [this]
    have e : spliceB bs o [] = bs := by simp [spliceB]
    rw [e]
    unfold putB
    rw [setRow_self w b (encB bs) t (0, 0) hB]
    rfl
  · have hl0 : l ≠ [] := fun e => h0 (by rw [e]; simp)
    obtain ⟨y, rfl⟩ := Option.isSome_iff_exists.1 (hl.some_ hl0)
    have hrun := run_copy_row (P := Tryz.prog) w 22 22 ty 5 b o m c y l.length c' (encB bs) t ((l.take m).map B8) elem22 info5_size hB (by simp [Nat.min_comm]) (fun j v hj => by
      simp only [List.getElem?_map, Option.map_eq_some_iff] at hj
      obtain ⟨u, hu, rfl⟩ := hj
      have hj' := (List.getElem?_eq_some_iff.1 hu).1
      rw [List.length_take] at hj'
      have := hl.cell j (by omega)
      rw [byt_lt l j (by omega)] at this
      rw [List.getElem?_take, if_pos (by omega), List.getElem?_eq_getElem (by omega)] at hu
      injection hu with hu
      rw [← hu]; exact this) (by simp [encB]; omega) (fun v hv => by
      obtain ⟨u, _, rfl⟩ := List.mem_map.1 hv; rfl)
    rw [hrun]
    have e1 : ((l.take m).map B8).length = min l.length m := by simp [Nat.min_comm]
    rw [e1]
    have e2 : ((encB bs).toList.take o ++ (l.take m).map B8 ++ (encB bs).toList.drop (o + min l.length m)).toArray = encB (spliceB bs o (l.take m)) := by
      have e3 : (encB bs).toList = bs.map B8 := rfl
      have e4 : (l.take m).length = min l.length m := by rw [List.length_take, Nat.min_comm]
      rw [e3]
      unfold spliceB encB
      rw [e4, List.map_append, List.map_append, List.map_take, List.map_take, List.map_drop]
    unfold putB
    rw [e2]
    rfl

theorem wp_copy_bytes {w : World} {o : Oper} {a : Act} {K : Act → World → Prop} {Q : Exit → Act → World → Prop} (d s : Operand)
    (ho : o.op = .call { callee := .builtin .copy, args := #[d, s], argTypes := #[22, 22] }) (b off m c : Nat) (hd : a.eval d = .slice (some ⟨b, off, none⟩) m c)
    (x : Option Addr) (l : List UInt8) (n c' : Nat) (hs : a.eval s = .slice x n c') (hn : n = l.length) (bs : List UInt8) {t : TypeId} (hB : Blk w b (encB bs) t) (hl : HB w x l) (hfit : off + m ≤ bs.length)
    (h : K (a.put o.dst (.int .i64 (min l.length m : Nat))) (putB w b (spliceB bs off (l.take m)))) : Oper.wp Tryz.prog o a w K Q := by
  have hrun := run_copy_bytes w o.type b off m c x l n c' hn bs hB hl hfit
  unfold Oper.wp
  simp [execOp, ho, resolve, invoke, builtin, hd, hs, hrun, Result.andThen]
  exact h
theorem wpList_copy_bytes {w : World} {ops : Array Oper} {rest : List Oper} {o : Oper} {a : Act} {Q : Exit → Act → World → Prop} (hgd : o.guard = none) (d s : Operand)
    (ho : o.op = .call { callee := .builtin .copy, args := #[d, s], argTypes := #[22, 22] }) (b off m c : Nat) (hd : a.eval d = .slice (some ⟨b, off, none⟩) m c)
    (x : Option Addr) (l : List UInt8) (n c' : Nat) (hs : a.eval s = .slice x n c') (hn : n = l.length) (bs : List UInt8) {t : TypeId} (hB : Blk w b (encB bs) t) (hl : HB w x l) (hfit : off + m ≤ bs.length)
    (h : wpList Tryz.prog ops Q rest (a.put o.dst (.int .i64 (min l.length m : Nat))) (putB w b (spliceB bs off (l.take m)))) : wpList Tryz.prog ops Q (o :: rest) a w :=
  wpList_plain hgd fun _ hK => wp_copy_bytes d s ho b off m c hd x l n c' hs hn bs hB hl hfit (hK _ _ h)
theorem step_copy_bytes {w : World} {ops : Array Oper} {o : Oper} {a : Act} {K : Act → World → Prop} {Q : Exit → Act → World → Prop} {E : Prop} (hgd : o.guard = none) (d s : Operand)
    (ho : o.op = .call { callee := .builtin .copy, args := #[d, s], argTypes := #[22, 22] }) (b off m c : Nat) (hd : a.eval d = .slice (some ⟨b, off, none⟩) m c)
    (x : Option Addr) (l : List UInt8) (n c' : Nat) (hs : a.eval s = .slice x n c') (hn : n = l.length) (bs : List UInt8) {t : TypeId} (hB : Blk w b (encB bs) t) (hl : HB w x l) (hfit : off + m ≤ bs.length)
    (h : K (a.put o.dst (.int .i64 (min l.length m : Nat))) (putB w b (spliceB bs off (l.take m)))) : if Region.wanted o (yielded ops a.tmps) = true then Oper.wp Tryz.prog o a w K Q else E := by
  have hw : Region.wanted o (yielded ops a.tmps) = true := by simp [Region.wanted, hgd]
  rw [if_pos hw]
  exact wp_copy_bytes d s ho b off m c hd x l n c' hs hn bs hB hl hfit h

/-- The world under a name of its own. -/
theorem wp_world {c : Code} {Q : Exit → Act → World → Prop} {a : Act} {w : World} (h : ∀ w1, Hid (w1 = w) → Code.wp Tryz.prog c Q a w1) : Code.wp Tryz.prog c Q a w := h w rfl
theorem wp_any_world {w : World} {K : World → Prop} (h : ∀ w1, Hid (w1 = w) → K w1) : K w := h w rfl

theorem then_world {K : Act → World → Prop} {Q : Exit → Act → World → Prop} {a : Act} {w : World} (h : ∀ w1, Hid (w1 = w) → Exit.then K Q .normal a w1) : Exit.then K Q .normal a w := h w rfl

end Go.Proofs.YtkbgnplknifmhaaGreatDoor
namespace Go.Proofs.YtkbgnplknifmhaaGreatDoor
open Go.RowKit
attribute [local go_sem ↓] Go.wp_at_zero Go.wp_at_succ

/-! ### (*bytes.Reader).Read: function 185 -/
set_option maxRecDepth 20000 in
set_option maxHeartbeats 1000000 in
theorem bread_some (ur bb off m c2 : Nat) (a : Option Addr) (c i : Nat) (pr : Int) (data bs : List UInt8) (w : World)
    (hu : Blk w ur #[.slice a data.length c, .int .i64 i, .int .i64 pr] 130) (hd : HB w a data) (hc : data.length ≤ c) (hi : i < data.length) (hl : data.length ≤ 281474976710656)
    (hB : BufB w bb bs) (hfit : off + m ≤ bs.length) (hub : ¬ ur = bb) (ha : ∀ x, a = some x → x.block ≠ ur) :
    Calls Tryz.prog 185 #[.pointer (some ⟨ur, 0, none⟩), .slice (some ⟨bb, off, none⟩) m c2] w fun e w' =>
      e = .returned (.tuple #[.int .i64 (min (data.length - i) m : Nat), .nilIface]) ∧ Blk w' ur #[.slice a data.length c, .int .i64 (i + min (data.length - i) m : Nat), .int .i64 (-1)] 130 ∧
      BufB w' bb (spliceB bs off ((data.drop i).take m)) ∧ Kp [ur, bb] w w' := by
  have k := hu.cell
  have f := hu.free
  have hge : decide ((data.length : Int) ≤ (i : Int)) = false := by simp; omega
  have hm : m ≤ bs.length := by omega
  go_enter Tryz.func185, Tryz.ntmps185
  go_wp2
  go_quiet (fail)
  go_wp2
  refine wp_world (fun w1 H1 => ?_)
  have hu1 : Blk w1 ur #[.slice a data.length c, .int .i64 i, .int .i64 (-1)] 130 := by rw [H1.out]; exact (hu.drewN nq).set 2 _
  have hB1 : BufB w1 bb bs := by rw [H1.out]; exact Blk.far (Blk.drewN hB nq) (Ne.symm hub) _
  have hK0 : Kp [ur] w w1 := by rw [H1.out]; exact ((Kp.drewN _ _ nq)).setCell (.inl (by simp)) _
  have hK1 : Kp [ur, bb] w w1 := hK0.mono (by simp)
  have hd1 : HB w1 a data := hd.kp hK0 (fun x hx => by simp; exact ha x hx)
  clear H1 k f
  have k := hu1.cell
  have hi1 : i ≤ data.length := by omega
  have hi2 : (i : Int) ≤ (data.length : Int) := by omega
  have hi3 : (0 : Int) ≤ (i : Int) := by omega
  go_region_held3 (fun w' => ∀ i', w'.cell? ⟨ur, i', none⟩ = (#[.slice a data.length c, .int .i64 i, .int .i64 (-1)] : Array Value)[i']?) (first | exact k | exact fun j => (putB_cell _ _ _ _ hub).trans (k j))
    ((refine step_copy_bytes rfl (.tmp 20) (.tmp 29) rfl bb off m c2 (by rfl) (cutAt a c i) (data.drop i) (data.length - i) (c - i) (by rfl) (by rw [List.length_drop]) bs hB1 (hd1.drop hc hi1).drew hfit ?_))
  refine then_world (fun w2 H2 => ?_)
  have hu2 : Blk w2 ur #[.slice a data.length c, .int .i64 i, .int .i64 (-1)] 130 := by rw [H2.out]; exact (hu1.drew).putB hub _
  have hB2 : BufB w2 bb (spliceB bs off ((data.drop i).take m)) := by rw [H2.out]; exact BufB.put (Blk.drew hB1) _
  have hK2 : Kp [ur, bb] w w2 := by rw [H2.out]; exact hK1.drew.putB (.inl (by simp)) _
  clear k
  have k := hu2.cell
  have f := hu2.free
  have hmin : min (data.length - i) m ≤ data.length := by omega
  have hlen : (data.drop i).length = data.length - i := List.length_drop
  rw [hlen]
  clear H2
  go_wp2
  go_ret2
  exact ⟨rfl, hu2.set 1 _, Blk.far hB2 (Ne.symm hub) _, hK2.setCell (.inl (by simp)) _⟩

set_option maxRecDepth 20000 in
set_option maxHeartbeats 400000 in
theorem bread_eof (ur m c2 : Nat) (d : Option Addr) (a : Option Addr) (n c : Nat) (pr : Int) (w : World) (E : Value)
    (hg : w.cell? ⟨0, 0, none⟩ = some E) (hu : Blk w ur #[.slice a n c, .int .i64 n, .int .i64 pr] 130) (_hl : n ≤ 281474976710656) :
    Calls Tryz.prog 185 #[.pointer (some ⟨ur, 0, none⟩), .slice d m c2] w fun e w' => e = .returned (.tuple #[.int .i64 0, E]) ∧ ∃ n, w' = w.drewN n := by
  have k := hu.cell
  go_enter Tryz.func185, Tryz.ntmps185
  go_wp2
  go_quiet (fail)
  go_wp2
  go_quiet (fail)
  go_wp2
  go_ret2
  exact ⟨rfl, _, World.drewN_drewN ..⟩

/-! ### (*slow).Read: function 181 -/
set_option maxRecDepth 20000 in
set_option maxHeartbeats 1000000 in
theorem sread_some (ur bb off m c2 : Nat) (a : Option Addr) (c piece : Nat) (data bs : List UInt8) (w : World)
    (hu : Blk w ur #[.slice a data.length c, .int .i64 piece] 97) (hd : HB w a data) (_hc : data.length ≤ c) (h0 : 0 < data.length) (hl : data.length ≤ 281474976710656) (_hp : piece ≤ 9223372036854775807)
    (hB : BufB w bb bs) (hfit : off + m ≤ bs.length) (hm : m ≤ c2) (hub : ¬ ur = bb) (_hml : m ≤ 281474976710656) :
    Calls Tryz.prog 181 #[.pointer (some ⟨ur, 0, none⟩), .slice (some ⟨bb, off, none⟩) m c2] w fun e w' =>
      e = .returned (.tuple #[.int .i64 (min data.length (min m piece) : Nat), .nilIface]) ∧
      Blk w' ur #[.slice (cutAt a c (min data.length (min m piece))) (data.length - min data.length (min m piece)) (c - min data.length (min m piece)), .int .i64 piece] 97 ∧
      BufB w' bb (spliceB bs off (data.take (min m piece))) ∧ Kp [ur, bb] w w' := by
  have k := hu.cell
  have f := hu.free
  have hge := (i_not (a := (data.length : Int)) (n := 0) (by omega)).1
  have hmin : (if piece < m then (piece : Int) else (m : Int)) = ((min m piece : Nat) : Int) := by split <;> omega
  have hmin' : (if (piece : Int) < (m : Int) then (piece : Int) else (m : Int)) = ((min m piece : Nat) : Int) := by split <;> omega
  have hml2 : min m piece ≤ c2 := by omega
  generalize hq : min m piece = q at hmin hmin' hml2 ⊢
  have hqm : q ≤ m := by omega
  have hq0 : (0 : Int) ≤ (q : Int) := by omega
  have hq1 : (q : Int) ≤ (c2 : Int) := by omega
  go_enter Tryz.func181, Tryz.ntmps181
  go_wp2
  go_region_held3 (fun w' => ∀ i', w'.cell? ⟨ur, i', none⟩ = (#[.slice a data.length c, .int .i64 piece] : Array Value)[i']?) (first | exact k | exact fun j => (putB_cell _ _ _ _ hub).trans (k j))
    ((refine step_copy_bytes rfl (.tmp 22) (.tmp 26) rfl bb off q c2 (by rfl) a data data.length c (by rfl) rfl bs hB hd.drew (by omega) ?_))
  refine then_world (fun w2 H2 => ?_)
  have hu2 : Blk w2 ur #[.slice a data.length c, .int .i64 piece] 97 := by rw [H2.out]; exact (hu.drew).putB hub _
  have hB2 : BufB w2 bb (spliceB bs off (data.take q)) := by rw [H2.out]; exact BufB.put (Blk.drew hB) _
  have hK2 : Kp [ur, bb] w w2 := by rw [H2.out]; exact (Kp.refl _ w).drew.putB (.inl (by simp)) _
  clear H2 hmin hmin' hq hq0 hq1
  have k := hu2.cell
  have f := hu2.free
  have hr : min data.length q ≤ data.length := by omega
  generalize hR : min data.length q = r at hr ⊢
  have HR := Lib.hid hR
  clear hR
  go_wp2
  go_ret2
  rw [HR.out]
  exact ⟨rfl, hu2.set 0 _, Blk.far hB2 (Ne.symm hub) _, hK2.setCell (.inl (by simp)) _⟩

set_option maxRecDepth 20000 in
set_option maxHeartbeats 400000 in
theorem sread_eof (ur m c2 : Nat) (d : Option Addr) (a : Option Addr) (c : Nat) (piece : Int) (w : World) (E : Value)
    (hg : w.cell? ⟨0, 0, none⟩ = some E) (hu : Blk w ur #[.slice a 0 c, .int .i64 piece] 97) :
    Calls Tryz.prog 181 #[.pointer (some ⟨ur, 0, none⟩), .slice d m c2] w fun e w' => e = .returned (.tuple #[.int .i64 0, E]) ∧ ∃ n, w' = w.drewN n := by
  have k := hu.cell
  go_enter Tryz.func181, Tryz.ntmps181
  go_wp2
  go_quiet (fail)
  go_wp2
  go_ret2
  exact ⟨rfl, _, rfl⟩

/-! ### what a source still has to give -/
/-- All blocks but da, in which the source's data lies. -/
structure Far where
  da : Nat
instance : Membership Nat Far := ⟨fun f b => b ≠ f.da⟩
theorem Far.mem {f : Far} {b : Nat} : b ∈ f ↔ b ≠ f.da := Iff.rfl
/-- st: the sticky reader's block, ur: the reader's under it. What is left: src. -/
inductive Src (w : World) (E : Value) (st ur : Nat) (own : Far) : Bytes → Prop
  | bytes (a : Option Addr) (c i : Nat) (pr : Int) (data : Bytes) (serr : Value) (hs : Blk w st #[.iface 109 (.pointer (some ⟨ur, 0, none⟩)), serr] 106)
      (hu : Blk w ur #[.slice a data.length c, .int .i64 i, .int .i64 pr] 130) (hd : HB w a data) (hc : data.length ≤ c) (hi : i ≤ data.length) (hl : data.length ≤ 281474976710656)
      (ha : ∀ x, a = some x → x.block ∉ own) (he : serr = .nilIface ∨ (serr = E ∧ data.length ≤ i)) : Src w E st ur own (data.drop i)
  | slow (a : Option Addr) (c piece : Nat) (data : Bytes) (serr : Value) (hs : Blk w st #[.iface 95 (.pointer (some ⟨ur, 0, none⟩)), serr] 106)
      (hu : Blk w ur #[.slice a data.length c, .int .i64 piece] 97) (hd : HB w a data) (hc : data.length ≤ c) (hl : data.length ≤ 281474976710656) (hp : piece ≤ 9223372036854775807) (hp0 : 1 ≤ piece)
      (ha : ∀ x, a = some x → x.block ∉ own) (he : serr = .nilIface ∨ (serr = E ∧ data.length = 0)) : Src w E st ur own data
theorem Src.kp {w w' : World} {E : Value} {st ur : Nat} {own : Far} {S : List Nat} {src : Bytes} (h : Src w E st ur own src) (k : Kp S w w') (hs : st ∉ S) (hu : ur ∉ S) (ho : ∀ b, b ∈ S → b < w.heap.size → b ∈ own) : Src w' E st ur own src := by
  cases h with
  | bytes a c i pr data serr h1 h2 h3 hc hi hl ha he =>
    have k' := k.mono (S' := S.filter (· < w.heap.size)) (by intro b hb hlt; simp [hb, hlt])
    exact .bytes a c i pr data serr (h1.kp k hs) (h2.kp k hu) (h3.kp k' (fun x hx hb => by
      simp at hb; exact ha x hx (ho _ hb.1 hb.2))) hc hi hl ha he
  | slow a c piece data serr h1 h2 h3 hc hl hp hp0 ha he =>
    have k' := k.mono (S' := S.filter (· < w.heap.size)) (by intro b hb hlt; simp [hb, hlt])
    exact .slow a c piece src serr (h1.kp k hs) (h2.kp k hu) (h3.kp k' (fun x hx hb => by
      simp at hb; exact ha x hx (ho _ hb.1 hb.2))) hc hl hp hp0 ha he
theorem Src.len {w : World} {E : Value} {st ur : Nat} {own : Far} {src : Bytes} (h : Src w E st ur own src) : src.length ≤ 281474976710656 := by
  cases h with
  | bytes a c i pr data serr h1 h2 h3 hc hi hl ha he => rw [List.length_drop]; omega
  | slow a c piece data serr h1 h2 h3 hc hl hp hp0 ha he => exact hl


/-! ### (*stickyErrorReader).Read: function 183 -/
theorem method109 (a : Addr) (w : World) : (method 355 109 (.pointer (some a)) "Read").run Tryz.prog w = .ok (185, .pointer (some a)) w := by kernel_rfl
theorem method95 (a : Addr) (w : World) : (method 355 95 (.pointer (some a)) "Read").run Tryz.prog w = .ok (181, .pointer (some a)) w := by kernel_rfl
theorem method104 (a : Addr) (w : World) : (method 355 104 (.pointer (some a)) "Read").run Tryz.prog w = .ok (183, .pointer (some a)) w := by kernel_rfl
theorem method67 (a : Addr) (w : World) : (method 355 67 (.pointer (some a)) "Read").run Tryz.prog w = .ok (47, .pointer (some a)) w := by kernel_rfl

section
variable (st ur bb off m c2 : Nat) (own : Far) (src bs : Bytes) (w : World) (E : Value)
set_option maxRecDepth 20000 in
set_option maxHeartbeats 1000000 in
theorem sticky_some (hsrc : Src w E st ur own src) (h0 : 0 < src.length) (hB : BufB w bb bs) (hfit : off + m ≤ bs.length) (hm : m ≤ c2) (hm0 : 0 < m) (hml : m ≤ 281474976710656)
    (h1 : ¬ ur = bb) (h2 : ¬ st = bb) (h3 : ¬ st = ur) (hown : bb ∈ own ∧ st ∈ own ∧ ur ∈ own) :
    Calls Tryz.prog 183 #[.pointer (some ⟨st, 0, none⟩), .slice (some ⟨bb, off, none⟩) m c2] w fun e w' => ∃ k, 1 ≤ k ∧ k ≤ m ∧ k ≤ src.length ∧
      e = .returned (.tuple #[.int .i64 k, .nilIface]) ∧ Src w' E st ur own (src.drop k) ∧ BufB w' bb (spliceB bs off (src.take k)) ∧ Kp [st, ur, bb] w w' := by
  cases hsrc with
  | bytes a c i pr data serr hs hu hd hc hi hl ha he =>
    rw [List.length_drop] at h0
    have hse : serr = .nilIface := by
      rcases he with he | ⟨_, he⟩
      · exact he
      · omega
    subst hse
    have k := hs.cell
    have f := hs.free
    have mt := method109
    have hcon := bread_some ur bb off m c2 a c i pr data bs w hu hd hc (by omega) hl hB hfit h1 (fun x hx => by have := ha x hx; intro e; exact this (e ▸ hown.2.2))
    go_enter Tryz.func183, Tryz.ntmps183
    go_wp2_with fail
    refine hcon.mono ?_
    rintro e w1 ⟨rfl, hu1, hB1, hK1⟩
    have hs1 := hs.kp hK1 (by simp; exact ⟨h3, h2⟩)
    have hd1 : HB w1 a data := hd.kp hK1 (fun x hx hb => by
      simp at hb
      rcases hb with hb | hb
      · exact ha x hx (hb ▸ hown.2.2)
      · exact ha x hx (hb ▸ hown.1))
    have hK2 : Kp [st, ur, bb] w w1 := hK1.mono (by simp)
    clear k f hs hu hd hcon hB
    have k := hs1.cell
    have f := hs1.free
    have hr : min (data.length - i) m ≤ data.length := by omega
    generalize hR : min (data.length - i) m = r at hr hu1
    have HR := Lib.hid hR
    clear hR
    go_wp2
    go_quiet (fail)
    go_wp2
    go_ret2
    have hR := HR.out
    refine ⟨r, by omega, by omega, by rw [List.length_drop]; omega, rfl, ?_, ?_, ?_⟩
    · rw [List.drop_drop]
      refine .bytes a c (i + r) (-1) data .nilIface (Blk.drewN (hs1.set 1 _) nq) (Blk.drewN (hu1.far (Ne.symm h3) _) nq) ((hd1.move (fun x hx => Below.heap_setCell _ _ _ _ (fun e => ha x hx (e ▸ hown.2.1)))).drewN nq) hc (by omega) hl ha (.inl rfl)
    · have e1 : (data.drop i).take m = (data.drop i).take r := by
        rw [← hR]
        rcases Nat.le_total (data.length - i) m with h | h
        · rw [Nat.min_eq_left h, List.take_of_length_le (by rw [List.length_drop]; omega), List.take_of_length_le (by rw [List.length_drop]; omega)]
        · rw [Nat.min_eq_right h]
      rw [e1] at hB1
      exact Blk.drewN (Blk.far hB1 (Ne.symm h2) _) nq
    · exact (hK2.setCell (.inl (by simp)) _).drewN' nq
  | slow a c piece data serr hs hu hd hc hl hp hp0 ha he =>
    have hse : serr = .nilIface := by
      rcases he with he | ⟨_, he⟩
      · exact he
      · omega
    subst hse
    have k := hs.cell
    have f := hs.free
    have mt := method95
    have hcon := sread_some ur bb off m c2 a c piece src bs w hu hd hc h0 hl hp hB hfit hm h1 hml
    go_enter Tryz.func183, Tryz.ntmps183
    go_wp2_with fail
    refine hcon.mono ?_
    rintro e w1 ⟨rfl, hu1, hB1, hK1⟩
    have hs1 := hs.kp hK1 (by simp; exact ⟨h3, h2⟩)
    have hd1 : HB w1 a src := hd.kp hK1 (fun x hx hb => by
      simp at hb
      rcases hb with hb | hb
      · exact ha x hx (hb ▸ hown.2.2)
      · exact ha x hx (hb ▸ hown.1))
    have hK2 : Kp [st, ur, bb] w w1 := hK1.mono (by simp)
    clear k f hs hu hd hcon hB
    have k := hs1.cell
    have f := hs1.free
    have hr : min src.length (min m piece) ≤ src.length := by omega
    generalize hR : min src.length (min m piece) = r at hr hu1
    have HR := Lib.hid hR
    clear hR
    go_wp2
    go_quiet (fail)
    go_wp2
    go_ret2
    have hR := HR.out
    refine ⟨r, by omega, by omega, by omega, rfl, ?_, ?_, ?_⟩
    · have hlen : (src.drop r).length = src.length - r := List.length_drop
      refine .slow (cutAt a c r) (c - r) piece (src.drop r) .nilIface (Blk.drewN (hs1.set 1 _) nq) (by rw [hlen]; exact Blk.drewN (hu1.far (Ne.symm h3) _) nq) (((hd1.move (fun x hx => Below.heap_setCell _ _ _ _ (fun e => ha x hx (e ▸ hown.2.1)))).drewN nq).drop hc hr) (by omega) (by omega) hp hp0 (fun x hx => ?_) (.inl rfl)
      unfold cutAt at hx
      split at hx
      · exact ha x hx
      · cases a with
        | none => cases hx
        | some y =>
          simp only [Option.map_some, Option.some.injEq] at hx
          have : x.block = y.block := by rw [← hx]; unfold Addr.add; split <;> rfl
          rw [this]; exact ha y rfl
    · have e1 : src.take (min m piece) = src.take r := by
        rw [← hR]
        rcases Nat.le_total src.length (min m piece) with h | h
        · rw [Nat.min_eq_left h, List.take_of_length_le h, List.take_of_length_le (Nat.le_refl _)]
        · rw [Nat.min_eq_right h]
      rw [e1] at hB1
      exact Blk.drewN (Blk.far hB1 (Ne.symm h2) _) nq
    · exact (hK2.setCell (.inl (by simp)) _).drewN' nq
set_option maxRecDepth 20000 in
set_option maxHeartbeats 1000000 in
theorem sticky_eof (d : Option Addr) (hg : w.cell? ⟨0, 0, none⟩ = some E) (hE : ∃ t v, E = .iface t v) (hsrc : Src w E st ur own []) (h3 : ¬ st = ur) (_hst : ¬ st = 0) (hown : st ∈ own) :
    Calls Tryz.prog 183 #[.pointer (some ⟨st, 0, none⟩), .slice d m c2] w fun e w' => e = .returned (.tuple #[.int .i64 0, E]) ∧ Src w' E st ur own [] ∧ Kp [st] w w' := by
  obtain ⟨et, ev, rfl⟩ := hE
  generalize hsn : ([] : Bytes) = src0 at hsrc
  cases hsrc with
  | bytes a c i pr data serr hs hu hd hc hi hl ha he =>
    have hi' : i = data.length := by have := congrArg List.length hsn; rw [List.length_drop] at this; simp at this; omega
    subst hi'
    have k := hs.cell
    have f := hs.free
    rcases he with rfl | ⟨rfl, _⟩
    · have mt := method109
      have hcon := bread_eof ur m c2 d a data.length c pr w (.iface et ev) hg hu hl
      go_enter Tryz.func183, Tryz.ntmps183
      go_wp2_with fail
      refine hcon.mono ?_
      rintro e w1 ⟨rfl, n, rfl⟩
      clear hcon
      go_wp2
      go_quiet (fail)
      go_wp2
      go_ret2
      refine ⟨rfl, ?_, ?_⟩
      · exact Src.bytes (w := ((w.drewN n).setCell ⟨st, 1, none⟩ (.iface et ev)).drewN nq) (E := .iface et ev) (own := own) a c data.length pr data (.iface et ev) (Blk.drewN ((Blk.drewN hs n).set 1 _) nq) (Blk.drewN ((Blk.drewN hu n).far (Ne.symm h3) _) nq) ((((hd.drewN n).move (fun x hx => Below.heap_setCell _ _ _ _ (fun e => ha x hx (e ▸ hown)))).drewN nq)) hc (Nat.le_refl _) hl ha (.inr ⟨rfl, Nat.le_refl _⟩)
      · exact ((Kp.drewN _ w n).setCell (.inl (by simp)) _).drewN' nq
    · go_enter Tryz.func183, Tryz.ntmps183
      go_wp2
      go_quiet (fail)
      go_wp2
      go_ret2
      refine ⟨rfl, ?_, Kp.drewN _ _ _⟩
      exact Src.bytes (w := w.drewN nq) (E := .iface et ev) (own := own) a c data.length pr data (.iface et ev) (Blk.drewN hs nq) (Blk.drewN hu nq) (hd.drewN nq) hc (Nat.le_refl _) hl ha (.inr ⟨rfl, Nat.le_refl _⟩)
  | slow a c piece data serr hs hu hd hc hl hp hp0 ha he =>
    subst hsn
    have k := hs.cell
    have f := hs.free
    rcases he with rfl | ⟨rfl, _⟩
    · have mt := method95
      have hcon := sread_eof ur m c2 d a c piece w (.iface et ev) hg hu
      go_enter Tryz.func183, Tryz.ntmps183
      go_wp2_with fail
      refine hcon.mono ?_
      rintro e w1 ⟨rfl, n, rfl⟩
      clear hcon
      go_wp2
      go_quiet (fail)
      go_wp2
      go_ret2
      refine ⟨rfl, ?_, ?_⟩
      · exact Src.slow (w := ((w.drewN n).setCell ⟨st, 1, none⟩ (.iface et ev)).drewN nq) (E := .iface et ev) (own := own) a c piece [] (.iface et ev) (Blk.drewN ((Blk.drewN hs n).set 1 _) nq) (Blk.drewN ((Blk.drewN hu n).far (Ne.symm h3) _) nq) ((((hd.drewN n).move (fun x hx => Below.heap_setCell _ _ _ _ (fun e => ha x hx (e ▸ hown)))).drewN nq)) hc hl hp hp0 ha (.inr ⟨rfl, rfl⟩)
      · exact ((Kp.drewN _ w n).setCell (.inl (by simp)) _).drewN' nq
    · go_enter Tryz.func183, Tryz.ntmps183
      go_wp2
      go_quiet (fail)
      go_wp2
      go_ret2
      exact ⟨rfl, Src.slow (w := w.drewN nq) (E := .iface et ev) (own := own) a c piece [] (.iface et ev) (Blk.drewN hs nq) (Blk.drewN hu nq) (hd.drewN nq) hc hl hp hp0 ha (.inr ⟨rfl, rfl⟩), Kp.drewN _ _ _⟩
end

end Go.Proofs.YtkbgnplknifmhaaGreatDoor
