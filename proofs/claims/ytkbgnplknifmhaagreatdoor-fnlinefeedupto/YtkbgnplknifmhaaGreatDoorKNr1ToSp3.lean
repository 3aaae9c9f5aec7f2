/-
  Walks and facts for the mailparts program.
-/
import Derived.Test.YtkbgnplknifmhaaGreatDoorKPt4ToPt9
import Derived.Lib.ConvBytes
import Derived.Test.YtkbgnplknifmhaaGreatDoorKBaseToTx0
import Derived.Test.YtkbgnplknifmhaaGreatDoorKTx9ToScan2
namespace Go.Proofs.YtkbgnplknifmhaaGreatDoor
open Go.RowKit
attribute [local go_sem ↓] Go.wp_at_zero Go.wp_at_succ
/-- '[]byte(s)'. -/
theorem conv_bytes (l : Bytes) (w : World) : ∃ c w', (convert 9 22 (.string (str l))).run Tryz.prog w = .ok (.slice (some ⟨w.heap.size, 0, none⟩) l.length c) w' ∧ HB w' (some ⟨w.heap.size, 0, none⟩) l ∧ l.length ≤ c ∧ Kp [] w w' ∧ w'.heap.size = w.heap.size + 1 := by
  have h := Lib.run_convert_string_bytes (P := Tryz.prog) w 9 22 5 (str l) Tryz.underlying9 elem22 Tryz.underlying5
  rw [str_size] at h
  refine ⟨_, _, h, HB.of_cells (fun i hi => ?_), ?_, ?_, Lib.bytesWorld_size _ _ _⟩
  · have := Lib.bytesWorld_cell w 5 (str l) i (by rw [str_size]; exact hi)
    rw [Nat.zero_add, this, str_data]; rfl
  · exact grownCap_ge _ _ _ _
  · refine ⟨?_, ?_, ?_, by rw [Lib.bytesWorld_size]; omega, fun k hk _ => Lib.bytesWorld_at_old w 5 (str l) k hk⟩
    all_goals (unfold Lib.bytesWorld World.freeze; rfl)
/-! ### multipart.NewReader (44) -/
structure FreshR (w w' : World) (E : Value) (R : RS) (M : MS) (b whole : Bytes) (ur da : Nat) : Prop where
  rd : RD w' E R M b [13, 10] (.pointer none) 0 whole
  kp : Kp [] w w'
  hur : R.ur = ur
  hda : R.da = da
  nw : w.heap.size ≤ R.rb ∧ w.heap.size ≤ R.bb ∧ w.heap.size ≤ R.st ∧ w.heap.size ≤ M.m ∧ w.heap.size ≤ M.bd
theorem fresh_fin (T : TypeId) (ur da : Nat) (b whole : Bytes) (E : Value) (w0 : World) (hmk : ∀ w' st, Kp [] w0 w' → w0.heap.size ≤ st → Blk w' st #[.iface T (.pointer (some ⟨ur, 0, none⟩)), .nilIface] 106 → Src w' E st ur ⟨da⟩ whole)
    (hg : w0.cell? ⟨0, 0, none⟩ = some E) (hE : ∃ t v, E = .iface t v) (hG : GV w0) (h20 : 15 ≤ ur ∧ ur < w0.heap.size ∧ da < w0.heap.size ∧ da ≠ ur ∧ 15 ≤ da) (hb : b.length ≤ 70)
    (c N : Nat) (w1 w2 : World) (hb1 : HB w1 (some ⟨w0.heap.size, 0, none⟩) (13 :: 10 :: 45 :: 45 :: (b ++ [45, 45]))) (hlc : N ≤ c) (hk1 : Kp [] w0 w1) (hsz1 : w1.heap.size = w0.heap.size + 1) (hN : N = b.length + 6)
    (hb2 : Blk w2 (w1.heap.size + 1) #[.slice (some ⟨w1.heap.size + 1 + 1, 0, none⟩) 4096 4096, .iface 104 (.pointer (some ⟨w1.heap.size, 0, none⟩)), .int .i64 0, .int .i64 0, .nilIface, .int .i64 (-1), .int .i64 (-1)] 127)
    (hbuf2 : BufB w2 (w1.heap.size + 1 + 1) (List.replicate 4096 0)) (hst2 : Blk w2 w1.heap.size #[.iface T (.pointer (some ⟨ur, 0, none⟩)), .nilIface] 106) (hk2 : Kp [] w1 w2) (hsz2 : w2.heap.size = w1.heap.size + 1 + 2) :
    FreshR w0 (w2.alloc (.cells #[.pointer (some ⟨w1.heap.size + 1, 0, none⟩), .string ⟨#[]⟩, .pointer none, .int .i64 0, .slice (some ⟨w0.heap.size, 0, none⟩) 2 c, .slice (some ⟨w0.heap.size, 0, none⟩) (b.length + 4) c, .slice (some ⟨w0.heap.size, 2, none⟩) (b.length + 4) (c - 2), .slice (some ⟨w0.heap.size, 2, none⟩) (b.length + 2) (c - 2)] 108)) E
      ⟨w1.heap.size + 1, w1.heap.size + 1 + 1, w1.heap.size, ur, da⟩ ⟨w1.heap.size + 1 + 2, w0.heap.size, w1.heap.size + 1, some ⟨w0.heap.size, 0, none⟩, c, some ⟨w0.heap.size, 0, none⟩, c, some ⟨w0.heap.size, 2, none⟩, c - 2, some ⟨w0.heap.size, 2, none⟩, c - 2⟩ b whole ur da := by
  obtain ⟨h1, h2, h3, h4, h5⟩ := h20
  have hkA : Kp [] w2 (w2.alloc (.cells #[.pointer (some ⟨w1.heap.size + 1, 0, none⟩), .string ⟨#[]⟩, .pointer none, .int .i64 0, .slice (some ⟨w0.heap.size, 0, none⟩) 2 c, .slice (some ⟨w0.heap.size, 0, none⟩) (b.length + 4) c, .slice (some ⟨w0.heap.size, 2, none⟩) (b.length + 4) (c - 2), .slice (some ⟨w0.heap.size, 2, none⟩) (b.length + 2) (c - 2)] 108)) := (Kp.refl _ _).alloc _
  have hkB := hk2.trans hkA
  have hkC := hk1.trans hkB
  have hmb := Blk.new w2 #[.pointer (some ⟨w1.heap.size + 1, 0, none⟩), .string ⟨#[]⟩, .pointer none, .int .i64 0, .slice (some ⟨w0.heap.size, 0, none⟩) 2 c, .slice (some ⟨w0.heap.size, 0, none⟩) (b.length + 4) c, .slice (some ⟨w0.heap.size, 2, none⟩) (b.length + 4) (c - 2), .slice (some ⟨w0.heap.size, 2, none⟩) (b.length + 2) (c - 2)] 108
  rw [hsz2] at hmb
  generalize (w2.alloc (.cells #[.pointer (some ⟨w1.heap.size + 1, 0, none⟩), .string ⟨#[]⟩, .pointer none, .int .i64 0, .slice (some ⟨w0.heap.size, 0, none⟩) 2 c, .slice (some ⟨w0.heap.size, 0, none⟩) (b.length + 4) c, .slice (some ⟨w0.heap.size, 2, none⟩) (b.length + 4) (c - 2), .slice (some ⟨w0.heap.size, 2, none⟩) (b.length + 2) (c - 2)] 108)) = W at hkA hkB hkC hmb ⊢
  have hszW : w1.heap.size + 3 ≤ W.heap.size := by have := hmb.lt; omega
  have hbW := hb1.kp hkB (by simp)
  have hL : (13 :: 10 :: 45 :: 45 :: (b ++ [45, 45]) : Bytes).length = b.length + 6 := by simp
  have hdrop : HB W (some ⟨w0.heap.size, 2, none⟩) (45 :: 45 :: (b ++ [45, 45])) := by
    have := hbW.drop (c := c) (k := 2) (by omega) (by omega)
    rw [cut_bb _ _ _ (by omega)] at this
    exact this
  refine ⟨⟨⟨0, 0, List.replicate 4096 0, whole, -1, -1, ⟨?_, Blk.kp hbuf2 hkA (by simp), List.length_replicate, by omega, hmk W _ hkC (by dsimp only; omega) (hst2.kp hkA (by simp)), ?_, ?_, .inl rfl, ?_, hE, ?_⟩, by show ((List.replicate 4096 (0 : UInt8)).drop 0).take 0 ++ whole = whole; rw [List.take_zero]; rfl⟩, ⟨?_, hbW.take 2, ?_, ?_, ?_, ?_, ?_, ?_, ?_, ?_, ?_, ?_, ?_, ?_, hb⟩, hG.kp hkC (by simp), ?_, by show da < _; omega, rfl, ?_, ?_⟩, hkC, rfl, rfl, by dsimp only; omega, by dsimp only; omega, by dsimp only; omega, by dsimp only; omega, Nat.le_refl _⟩
  · have := hb2.kp hkA (by simp)
    simpa [brCells] using this
  · show [w1.heap.size + 1, w1.heap.size + 1 + 1, w1.heap.size, ur].Nodup
    have : w1.heap.size + 1 ≠ ur ∧ w1.heap.size + 1 + 1 ≠ ur ∧ w1.heap.size ≠ ur := by omega
    simp [this, show ¬ w1.heap.size + 1 + 1 = w1.heap.size from by omega]
  · intro x hx
    have hx' : x ∈ [w1.heap.size + 1, w1.heap.size + 1 + 1, w1.heap.size, ur] := hx
    simp at hx'
    omega
  · rw [← hg]; exact World.cell?_of_block (w := w0) (hkC.block 0 (by omega) (by simp))
  · show da ∉ [w1.heap.size + 1, w1.heap.size + 1 + 1, w1.heap.size, ur]
    simp
    omega
  · simpa [mrCells, dlm, str] using hmb
  · have := hbW.take (b.length + 4)
    have e : (13 :: 10 :: 45 :: 45 :: (b ++ [45, 45]) : Bytes).take (b.length + 4) = [13, 10] ++ dlm b := by simp [dlm]
    rwa [e] at this
  · exact hdrop
  · have := hdrop.take (b.length + 2)
    have e : (45 :: 45 :: (b ++ [45, 45]) : Bytes).take (b.length + 2) = dlm b := by simp [dlm]
    rwa [e] at this
  · show 2 ≤ c; omega
  · simp [dlm]; omega
  · simp [dlm]; omega
  · simp [dlm]; omega
  · intro x hx; injection hx with hx; rw [← hx]
  · intro x hx; injection hx with hx; rw [← hx]
  · intro x hx; injection hx with hx; rw [← hx]
  · intro x hx; injection hx with hx; rw [← hx]
  · show ¬ (w1.heap.size + 1 + 2 = w0.heap.size); omega
  · intro x hx
    have hx' : x ∈ [w1.heap.size + 1, w1.heap.size + 1 + 1, w1.heap.size, ur] := hx
    simp at hx'
    omega
  · show w1.heap.size + 1 + 2 ∉ [w1.heap.size + 1, w1.heap.size + 1 + 1, w1.heap.size, ur] ∧ w1.heap.size + 1 + 2 ≠ da ∧ 15 ≤ w1.heap.size + 1 + 2
    simp
    omega
  · show w0.heap.size ∉ [w1.heap.size + 1, w1.heap.size + 1 + 1, w1.heap.size, ur] ∧ w0.heap.size ≠ da ∧ 15 ≤ w0.heap.size ∧ w0.heap.size < W.heap.size
    simp
    omega
set_option maxRecDepth 20000 in
set_option maxHeartbeats 1000000 in
theorem newReader44 (T : TypeId) (ur da : Nat) (b whole : Bytes) (E : Value) (w0 : World) (hmk : ∀ w' st, Kp [] w0 w' → w0.heap.size ≤ st → Blk w' st #[.iface T (.pointer (some ⟨ur, 0, none⟩)), .nilIface] 106 → Src w' E st ur ⟨da⟩ whole)
    (hg : w0.cell? ⟨0, 0, none⟩ = some E) (hE : ∃ t v, E = .iface t v) (hG : GV w0) (h20 : 15 ≤ ur ∧ ur < w0.heap.size ∧ da < w0.heap.size ∧ da ≠ ur ∧ 15 ≤ da) (hb : b.length ≤ 70) :
    Calls Tryz.prog 44 #[.iface T (.pointer (some ⟨ur, 0, none⟩)), .string (str b)] w0 fun e w' => ∃ R M, e = .returned (.pointer (some ⟨M.m, 0, none⟩)) ∧ FreshR w0 w' E R M b whole ur da := by
  obtain ⟨c, w1, hcv, hb1, hlc, hk1, hsz1⟩ := conv_bytes (13 :: 10 :: 45 :: 45 :: (b ++ [45, 45])) w0
  have e1 : (⟨#[13, 10, 45, 45]⟩ : ByteArray) = str [13, 10, 45, 45] := rfl
  have e2 : (⟨#[45, 45]⟩ : ByteArray) = str [45, 45] := rfl
  have hl : (13 :: 10 :: 45 :: 45 :: (b ++ [45, 45])).length = b.length + 6 := by simp
  rw [hl] at hcv hlc
  obtain ⟨N, hN⟩ : ∃ N, N = b.length + 6 := ⟨_, rfl⟩
  rw [← hN] at hcv hlc
  have hs1 : ∀ w : World, (Instr.sliceAt 22 (.slice (some ⟨w0.heap.size, 0, none⟩) N c) none (some (.int .i64 ((N : Int) - 2))) none).run Tryz.prog w = .ok (.slice (some ⟨w0.heap.size, 0, none⟩) (b.length + 4) c) w := fun w => by
    rw [run_cut_h w _ N c _ (by omega) (by omega), show ((N : Int) - 2).toNat = b.length + 4 from by omega]
  have hs2 : ∀ w : World, (Instr.sliceAt 22 (.slice (some ⟨w0.heap.size, 0, none⟩) N c) (some (.int .i64 2)) (some (.int .i64 ((N : Int) - 2))) none).run Tryz.prog w = .ok (.slice (some ⟨w0.heap.size, 2, none⟩) (b.length + 2) (c - 2)) w := fun w => by
    rw [run_cut_lh w _ N c _ _ (by omega) (by omega) (by omega), show ((N : Int) - 2).toNat - (2 : Int).toNat = b.length + 2 from by omega, show (2 : Int).toNat = 2 from rfl, cut_bb _ _ _ (by omega)]
  have hs3 : ∀ w : World, (Instr.sliceAt 22 (.slice (some ⟨w0.heap.size, 0, none⟩) N c) (some (.int .i64 2)) none none).run Tryz.prog w = .ok (.slice (some ⟨w0.heap.size, 2, none⟩) (b.length + 4) (c - 2)) w := fun w => by
    rw [run_cut_l w _ N c _ (by omega) (by omega), show N - (2 : Int).toNat = b.length + 4 from by omega, show (2 : Int).toNat = 2 from rfl, cut_bb _ _ _ (by omega)]
  have hs4 : ∀ w : World, (Instr.sliceAt 22 (.slice (some ⟨w0.heap.size, 0, none⟩) N c) none (some (.int .i64 2)) none).run Tryz.prog w = .ok (.slice (some ⟨w0.heap.size, 0, none⟩) 2 c) w := fun w => by
    rw [run_cut_h w _ N c _ (by omega) (by omega)]; rfl
  have hrs := fun st w => readerSize_any st w
  have hN6 : (6 : Int) ≤ (N : Int) := by omega
  have hN7 : (N : Int) ≤ 100 := by omega
  have hwr : IntKind.i64.wrap ((N : Int) - 2) = (N : Int) - 2 := IntWalk.i64_in _ (by omega)
  have HH := Lib.hid (And.intro hb1 (And.intro hlc (And.intro hk1 (And.intro hsz1 hN))))
  clear hb1 hlc hk1 hsz1 hN hl
  go_enter Tryz.func44, Tryz.ntmps44
  go_wp2
  go_region_with ((go_at_call 71; refine (hrs _ _).mono ?_; rintro e w2 ⟨rfl, hb2, hbuf2, hk2, hsz2⟩))
  have hz : (w1.alloc (.cells #[.iface T (.pointer (some ⟨ur, 0, none⟩)), .nilIface] 106)).drew.heap.size = w1.heap.size + 1 := by simp
  rw [hz] at hb2 hbuf2 hsz2
  have hst2 : Blk w2 w1.heap.size #[.iface T (.pointer (some ⟨ur, 0, none⟩)), .nilIface] 106 := Blk.kp (Blk.drew (Blk.new w1 _ _)) hk2 (by simp)
  have hk2' : Kp [] w1 w2 := ((Kp.refl _ _).alloc _).drew.trans hk2
  obtain ⟨hb1, hlc, hk1, hsz1, hN⟩ := HH.out
  have hfin := fresh_fin T ur da b whole E w0 hmk hg hE hG h20 hb c N w1 w2 hb1 hlc hk1 hsz1 hN hb2 hbuf2 hst2 hk2' hsz2
  have HF := Lib.hid hfin
  clear hz hb2 hbuf2 hsz2 hst2 hk2' hb1 hlc hk1 hsz1 hN hfin hk2 HH hs1 hs2 hs3 hs4 hcv hmk hg hG hrs hE
  go_wp2
  go_ret
  exact ⟨_, _, rfl, HF.out⟩
end Go.Proofs.YtkbgnplknifmhaaGreatDoor
namespace Go.Proofs.YtkbgnplknifmhaaGreatDoor
open Go.RowKit
attribute [local go_sem ↓] Go.wp_at_zero Go.wp_at_succ
theorem newC_raw {E : Value} {R : RS} {M : MS} {b nl rest0 : Bytes} (items : List (Bytes × Bytes)) (rest : Bytes) (hL : Lines rest0 items rest) (hlen : items.length ≤ 150) (HF : List (Bytes × List Bytes)) (hHF : items.foldl (fun h p => hAdd p.1 p.2 h) [] = HF) : NewC E R M b nl true rest0 rest HF :=
  fun _ _ _ h => newPart_raw h items rest hL hlen HF hHF
section
variable {w : World} {E : Value} {R : RS} {M : MS} {b nl : Bytes} {cur : Value} {pr : Int} {pb : Nat} {hd : Value} {body tail whole : Bytes} {n tot : Nat} {fin : Bool}
theorem NextEnd.cases {out : Option (Bool × Bytes)} {rest : Bytes} {HF : List (Bytes × List Bytes)} {S : List Nat} {e : Ending} {w' : World} (h : NextEnd w E R M b nl pr out rest HF S e w') : ∃ p x, e = .returned (.tuple #[.pointer p, x]) := by
  unfold NextEnd at h
  split at h
  · exact ⟨_, _, h.1⟩
  · obtain ⟨pb, mb, h1, _⟩ := h; exact ⟨_, _, h1⟩
/-! ### NextRawPart: function 46 -/
set_option maxHeartbeats 1000000 in
theorem nextRaw_of {out : Option (Bool × Bytes)} {rest : Bytes} {HF : List (Bytes × List Bytes)} {S : List Nat}
    (h : Calls Tryz.prog 73 #[.pointer (some ⟨M.m, 0, none⟩), .bool true, .int .i64 10485760, .int .i64 10000] w fun e w' => NextEnd w E R M b nl pr out rest HF S e w') :
    Calls Tryz.prog 46 #[.pointer (some ⟨M.m, 0, none⟩)] w fun e w' => NextEnd w E R M b nl pr out rest HF S e w' := by
  go_enter Tryz.func46, Tryz.ntmps46
  go_wp2_with fail
  go_enter Tryz.func74, Tryz.ntmps74
  go_wp2_with fail
  refine h.mono ?_
  intro e w1 hN
  obtain ⟨p, x, rfl⟩ := hN.cases
  have HN := Lib.hid hN
  clear hN h
  go_wp2
  go_ret2
  exact HN.out
/-! ### NextPart: function 67 -/
set_option maxHeartbeats 1000000 in
theorem nextPart_of {out : Option (Bool × Bytes)} {rest : Bytes} {HF : List (Bytes × List Bytes)} {S : List Nat}
    (h : Calls Tryz.prog 73 #[.pointer (some ⟨M.m, 0, none⟩), .bool false, .int .i64 10485760, .int .i64 10000] w fun e w' => NextEnd w E R M b nl pr out rest HF S e w') :
    Calls Tryz.prog 67 #[.pointer (some ⟨M.m, 0, none⟩)] w fun e w' => NextEnd w E R M b nl pr out rest HF S e w' := by
  go_enter Tryz.func67, Tryz.ntmps67
  go_wp2_with fail
  go_enter Tryz.func74, Tryz.ntmps74
  go_wp2_with fail
  refine h.mono ?_
  intro e w1 hN
  obtain ⟨p, x, rfl⟩ := hN.cases
  have HN := Lib.hid hN
  clear hN h
  go_wp2
  go_ret2
  exact HN.out
end
end Go.Proofs.YtkbgnplknifmhaaGreatDoor
namespace Go.Proofs.YtkbgnplknifmhaaGreatDoor
open Go.RowKit

set_option maxHeartbeats 400000 in
theorem key_any (l : Bytes) (w : World) (hl : l.length ≤ 281474976710656) :
    Calls Tryz.prog 16 #[.string (str l)] w fun e w' => e = .returned (.bool (keyB l)) ∧ w = w' := by
  go_enter Tryz.func16, Tryz.ntmps16
  go_wp2
  go_loop [3] (fun i => ∃ k : Nat, k ≤ l.length ∧ i = .int .i64 k ∧ Hid ((l.take k).all keyC = true)) (fun i => l.length - (intOf i).toNat)
  case atStart => exact ⟨0, Nat.zero_le _, rfl, by simp [Hid]⟩
  case round =>
    obtain ⟨k, hk, rfl, H⟩ := hrel
    by_cases hlt : k < l.length
    · have hc1 := letter_any (byt l k) w
      have hc2 := within_any keySigns (byt l k) w (by decide)
      cases h1 : letterB (byt l k) with
      | true =>
        have H1 : Hid ((l.take (k + 1)).all keyC = true) := all_take_succ hlt H (by simp [keyC, h1])
        rw [h1] at hc1
        clear h1 H hc2
        go_wp2_with (go_at_call 48; refine hc1.mono ?_; rintro e w' ⟨rfl, rfl⟩)
        go_round
        case rel => exact ⟨k + 1, hlt, by go_num, H1⟩
        case measure => simp [intOf]; omega
      | false =>
        cases h2 : hasC keySigns (byt l k) with
        | true =>
          have H1 : Hid ((l.take (k + 1)).all keyC = true) := all_take_succ hlt H (by simp only [keyC, h1, h2]; rfl)
          rw [h1] at hc1
          rw [h2] at hc2
          clear h1 h2 H
          go_wp2_with (first | (go_at_call 48; refine hc1.mono ?_; rintro e w' ⟨rfl, rfl⟩) | (go_at_call 49; refine hc2.mono ?_; rintro e w' ⟨rfl, rfl⟩))
          go_round
          case rel => exact ⟨k + 1, hlt, by go_num, H1⟩
          case measure => simp [intOf]; omega
        | false =>
          have H1 : Hid (keyB l = false) := by
            have : l.all keyC = false := all_false hlt (by simp only [keyC, h1, h2]; rfl)
            simp [Hid, keyB, this]
          rw [h1] at hc1
          rw [h2] at hc2
          clear h1 h2 H
          go_wp2_with (first | (go_at_call 48; refine hc1.mono ?_; rintro e w' ⟨rfl, rfl⟩) | (go_at_call 49; refine hc2.mono ?_; rintro e w' ⟨rfl, rfl⟩))
          go_ret
          exact ⟨ret_bool H1.out.symm, rfl⟩
    · have H1 : l.all keyC = true := by have := H.out; rwa [List.take_of_length_le (by omega)] at this
      clear H
      have H2 : Hid (keyB l = decide (0 < l.length)) := by simp [Hid, keyB, H1]
      clear H1
      by_cases h0 : 0 < l.length
      · have H3 : Hid (keyB l = true) := by rw [H2.out]; simp [Hid, h0]
        clear H2
        go_wp2
        go_ret
        exact ⟨ret_bool H3.out.symm, rfl⟩
      · have H3 : Hid (keyB l = false) := by rw [H2.out]; simp only [Hid, h0]; rfl
        clear H2
        go_wp2
        go_ret
        exact ⟨ret_bool H3.out.symm, rfl⟩

set_option maxHeartbeats 400000 in
theorem plain_any (l : Bytes) (w : World) (hl : l.length ≤ 281474976710656) :
    Calls Tryz.prog 17 #[.string (str l)] w fun e w' => e = .returned (.bool (plainB l)) ∧ w = w' := by
  have hc := printable_any l w hl
  cases hp : l.all printC with
  | false =>
    have H : Hid (plainB l = false) := by simp [Hid, plainB, hp]
    rw [hp] at hc
    clear hp
    go_enter Tryz.func17, Tryz.ntmps17
    go_wp2_with (go_at_call 41; refine hc.mono ?_; rintro e w' ⟨rfl, rfl⟩)
    go_ret
    exact ⟨ret_bool H.out.symm, rfl⟩
  | true =>
    rw [hp] at hc
    by_cases h0 : l = []
    · have H : Hid (plainB l = true) := by simp [Hid, plainB, h0]
      subst h0
      clear hp
      go_enter Tryz.func17, Tryz.ntmps17
      go_wp2_with (go_at_call 41; refine hc.mono ?_; rintro e w' ⟨rfl, rfl⟩)
      go_ret
      exact ⟨ret_bool H.out.symm, rfl⟩
    · have h1 : 0 < l.length := List.length_pos_iff.2 h0
      have he : (l == []) = false := by simp [h0]
      have he' : l.isEmpty = false := by simp [h0]
      have hx := run_index_last l h1
      have hx0 : ∀ w, (Instr.index 9 (.string (str l)) (.int .i64 0)).run Tryz.prog w = .ok (.int .u8 (byt l 0).toNat) w := fun w => run_index_str w l 0 (by omega) (by omega)
      have H2 : Hid (plainB l = ((((byt l 0).toNat : Int) != 32) && (((byt l (l.length - 1)).toNat : Int) != 32))) := by
        show _ = _
        rw [u8_bne _ 32 32 rfl, u8_bne _ 32 32 rfl]
        simp only [plainB, hp, he', Bool.true_and, Bool.false_or]
        rfl
      clear hp h0
      by_cases h2 : ((byt l 0).toNat : Int) = 32
      · obtain ⟨e1, e2⟩ := i_is h2
        have H3 : Hid (plainB l = false) := by rw [H2.out, e2]; rfl
        clear H2 h2
        go_enter Tryz.func17, Tryz.ntmps17
        go_wp2_with (go_at_call 41; refine hc.mono ?_; rintro e w' ⟨rfl, rfl⟩)
        go_ret
        exact ⟨ret_bool H3.out.symm, rfl⟩
      · obtain ⟨e1, e2⟩ := i_not h2
        have H3 : Hid (plainB l = (((byt l (l.length - 1)).toNat : Int) != 32)) := by rw [H2.out, e2]; rfl
        clear H2 h2
        go_enter Tryz.func17, Tryz.ntmps17
        go_wp2_with (go_at_call 41; refine hc.mono ?_; rintro e w' ⟨rfl, rfl⟩)
        go_ret
        exact ⟨ret_bool H3.out.symm, rfl⟩

def blankB (l : Bytes) : Bool := l.all blankC && (decide (0 < l.length) && decide (l.length ≤ 20))
set_option maxHeartbeats 400000 in
theorem blank_any (l : Bytes) (w : World) (hl : l.length ≤ 281474976710656) :
    Calls Tryz.prog 18 #[.string (str l)] w fun e w' => e = .returned (.bool (blankB l)) ∧ w = w' := by
  have hc := blanks_any l w hl
  cases hp : l.all blankC with
  | false =>
    have H : Hid (blankB l = false) := by simp [Hid, blankB, hp]
    rw [hp] at hc
    clear hp
    go_enter Tryz.func18, Tryz.ntmps18
    go_wp2_with (go_at_call 50; refine hc.mono ?_; rintro e w' ⟨rfl, rfl⟩)
    go_ret
    exact ⟨ret_bool H.out.symm, rfl⟩
  | true =>
    rw [hp] at hc
    by_cases h0 : 0 < l.length
    · by_cases h1 : l.length ≤ 20
      · have H : Hid (blankB l = true) := by simp [Hid, blankB, hp, h0, h1]
        clear hp
        go_enter Tryz.func18, Tryz.ntmps18
        go_wp2_with (go_at_call 50; refine hc.mono ?_; rintro e w' ⟨rfl, rfl⟩)
        go_ret
        exact ⟨ret_bool (by rw [H.out]; simp; omega), rfl⟩
      · have H : Hid (blankB l = false) := by simp [Hid, blankB, h1]
        clear hp
        go_enter Tryz.func18, Tryz.ntmps18
        go_wp2_with (go_at_call 50; refine hc.mono ?_; rintro e w' ⟨rfl, rfl⟩)
        go_ret
        exact ⟨ret_bool (by rw [H.out]; simp; omega), rfl⟩
    · have H : Hid (blankB l = false) := by simp [Hid, blankB, h0]
      clear hp
      go_enter Tryz.func18, Tryz.ntmps18
      go_wp2_with (go_at_call 50; refine hc.mono ?_; rintro e w' ⟨rfl, rfl⟩)
      go_ret
      exact ⟨ret_bool H.out.symm, rfl⟩

set_option maxHeartbeats 400000 in
theorem strPrefix_any (l m : Bytes) (w : World) (_hl : l.length ≤ 281474976710656) (_hm : m.length ≤ 281474976710656) :
    Calls Tryz.prog 68 #[.string (str l), .string (str m)] w fun e w' => e = .returned (.bool (m.isPrefixOf l)) ∧ w = w' := by
  by_cases h : m.length ≤ l.length
  · have H : Hid (m.isPrefixOf l = (l.take m.length == m)) := isPrefixOf_take l m h
    go_enter Tryz.func68, Tryz.ntmps68
    go_wp2
    go_ret
    exact ⟨ret_bool H.out.symm, rfl⟩
  · have H : Hid (m.isPrefixOf l = false) := isPrefixOf_len l m h
    go_enter Tryz.func68, Tryz.ntmps68
    go_wp2
    go_ret
    exact ⟨ret_bool H.out.symm, rfl⟩
set_option maxHeartbeats 400000 in
theorem strPrefix39_any (l m : Bytes) (w : World) (hl : l.length ≤ 281474976710656) (hm : m.length ≤ 281474976710656) :
    Calls Tryz.prog 39 #[.string (str l), .string (str m)] w fun e w' => e = .returned (.bool (m.isPrefixOf l)) ∧ w = w' := by
  have hc := strPrefix_any l m w hl hm
  go_enter Tryz.func39, Tryz.ntmps39
  go_wp2_with (go_at_call 68; refine hc.mono ?_; rintro e w' ⟨rfl, rfl⟩)
  go_ret
  exact ⟨rfl, rfl⟩

def cutPre (l m : Bytes) : Bytes := if m.isPrefixOf l then l.drop m.length else l
set_option maxHeartbeats 400000 in
theorem cutPrefix_any (l m : Bytes) (w : World) (hl : l.length ≤ 281474976710656) (hm : m.length ≤ 281474976710656) :
    Calls Tryz.prog 83 #[.string (str l), .string (str m)] w fun e w' => e = .returned (.tuple #[.string (str (cutPre l m)), .bool (m.isPrefixOf l)]) ∧ w = w' := by
  have hc := strPrefix_any l m w hl hm
  unfold cutPre
  cases hp : m.isPrefixOf l with
  | true =>
    rw [hp] at hc
    have hlen : m.length ≤ l.length := by rw [List.isPrefixOf_iff_prefix] at hp; exact hp.length_le
    clear hp
    go_enter Tryz.func83, Tryz.ntmps83
    go_wp2_with (go_at_call 68; refine hc.mono ?_; rintro e w' ⟨rfl, rfl⟩)
    go_ret2
    exact ⟨rfl, rfl⟩
  | false =>
    rw [hp] at hc
    clear hp
    go_enter Tryz.func83, Tryz.ntmps83
    go_wp2_with (go_at_call 68; refine hc.mono ?_; rintro e w' ⟨rfl, rfl⟩)
    go_ret2
    exact ⟨rfl, rfl⟩
set_option maxHeartbeats 400000 in
theorem cutPrefix69_any (l m : Bytes) (w : World) (hl : l.length ≤ 281474976710656) (hm : m.length ≤ 281474976710656) :
    Calls Tryz.prog 69 #[.string (str l), .string (str m)] w fun e w' => e = .returned (.tuple #[.string (str (cutPre l m)), .bool (m.isPrefixOf l)]) ∧ w = w' := by
  have hc := cutPrefix_any l m w hl hm
  generalize m.isPrefixOf l = r at hc ⊢
  generalize cutPre l m = s at hc ⊢
  go_enter Tryz.func69, Tryz.ntmps69
  go_wp2_with (go_at_call 83; refine hc.mono ?_; rintro e w' ⟨rfl, rfl⟩)
  go_ret2
  exact ⟨rfl, rfl⟩

/-- 'delimiter(l, d)'. -/
def delimB (l d : Bytes) : Bool := d.isPrefixOf l && (decide ((cutPre l d).length ≤ 20) && (cutPre l d).all blankC)
set_option maxHeartbeats 400000 in
theorem delimiter_any (l m : Bytes) (w : World) (hl : l.length ≤ 281474976710656) (hm : m.length ≤ 281474976710656) :
    Calls Tryz.prog 40 #[.string (str l), .string (str m)] w fun e w' => e = .returned (.bool (delimB l m)) ∧ w = w' := by
  have hc := cutPrefix69_any l m w hl hm
  have hlen : (cutPre l m).length ≤ 281474976710656 := by unfold cutPre; split
                                                          · rw [List.length_drop]; omega
                                                          · exact hl
  have hb := blanks_any (cutPre l m) w hlen
  have H0 : delimB l m = (m.isPrefixOf l && (decide ((cutPre l m).length ≤ 20) && (cutPre l m).all blankC)) := rfl
  generalize m.isPrefixOf l = r at hc H0
  generalize cutPre l m = s at hc H0 hb hlen
  generalize s.all blankC = t at hb H0
  cases r with
  | false =>
    have H : Hid (delimB l m = false) := H0
    clear H0
    go_enter Tryz.func40, Tryz.ntmps40
    go_wp2_with (go_at_call 69; refine hc.mono ?_; rintro e w' ⟨rfl, rfl⟩)
    go_ret
    exact ⟨ret_bool H.out.symm, rfl⟩
  | true =>
    by_cases h1 : s.length ≤ 20
    · have H : Hid (delimB l m = t) := by show _ = _; rw [H0, decide_eq_true h1]; cases t <;> rfl
      clear H0
      go_enter Tryz.func40, Tryz.ntmps40
      go_wp2_with (first | (go_at_call 69; refine hc.mono ?_; rintro e w' ⟨rfl, rfl⟩) | (go_at_call 50; refine hb.mono ?_; rintro e w' ⟨rfl, rfl⟩))
      go_ret
      exact ⟨ret_bool H.out.symm, rfl⟩
    · have H : Hid (delimB l m = false) := by show _ = _; rw [H0, decide_eq_false h1]; cases t <;> rfl
      clear H0
      go_enter Tryz.func40, Tryz.ntmps40
      go_wp2_with (first | (go_at_call 69; refine hc.mono ?_; rintro e w' ⟨rfl, rfl⟩) | (go_at_call 50; refine hb.mono ?_; rintro e w' ⟨rfl, rfl⟩))
      go_ret
      exact ⟨ret_bool H.out.symm, rfl⟩

end Go.Proofs.YtkbgnplknifmhaaGreatDoor
namespace Go.Proofs.YtkbgnplknifmhaaGreatDoor

/-! ### The reference's parser on lists of bytes -/
abbrev HL := List (Bytes × List Bytes)
abbrev PL := List (HL × Bytes)
def lineP (src : Bytes) : Option (Bytes × Bytes) := (findL [13, 10] src).map fun i => (src.take i, src.drop (i + 2))
/-- add: the key's place is the first whose key is not less. -/
def addP (k s : Bytes) : HL → HL
  | [] => [(k, [s])]
  | p :: r => if bytesBefore p.1 k then p :: addP k s r else if p.1 = k then (k, p.2 ++ [s]) :: r else (k, [s]) :: p :: r
def lineKV (l : Bytes) : Option (Bytes × Bytes) := match findL [58, 32] l with
  | some i => if keyB (l.take i) && plainB (l.drop (i + 2)) then some (l.take i, l.drop (i + 2)) else none
  | none => none
/-- head's loop, f rounds to go. -/
def headP : Nat → Bytes → HL → Option (HL × Bytes)
  | 0, _, _ => none
  | f + 1, src, out => match lineP src with
    | none => none
    | some (l, rest) => if 998 < l.length then none else if l = [] then some (out, rest) else match lineKV l with
      | none => none
      | some (k, v) => headP f rest (addP (canonB k) v out)
def freeB (body d : Bytes) : Bool := !d.isPrefixOf body && (findL (10 :: d) body).isNone
/-- The lines ahead of the first part. -/
def preP (d : Bytes) : Nat → Bytes → Option Bytes
  | 0, _ => none
  | f + 1, src => match lineP src with
    | none => none
    | some (l, rest) => if 998 < l.length then none else if d.isPrefixOf l then (if delimB l d then some rest else none) else if l.all printC then preP d f rest else none
def partsP (d : Bytes) : Nat → Bytes → PL → Option PL
  | 0, _, _ => none
  | f + 1, src, out => match headP 101 src [] with
    | none => none
    | some (h, rest) => match findL (13 :: 10 :: d) rest with
      | none => none
      | some i => if freeB (rest.take i) d then
          (match lineP (rest.drop (i + 2)) with
            | none => if delimB (rest.drop (i + 2)) (d ++ [45, 45]) then some (out ++ [(h, rest.take i)]) else none
            | some (l, after) => if delimB l (d ++ [45, 45]) then some (out ++ [(h, rest.take i)]) else if delimB l d then partsP d f after (out ++ [(h, rest.take i)]) else none)
        else none
def parseP (src b : Bytes) : Option PL := if boundaryB b then
    (match preP (dlm b) (src.length + 1) src with
      | none => none
      | some rest => partsP (dlm b) (src.length + 1) rest [])
  else none
end Go.Proofs.YtkbgnplknifmhaaGreatDoor
namespace Go.Proofs.YtkbgnplknifmhaaGreatDoor

/-! ### The order of keys -/
theorem bb_irrefl (a : Bytes) : bytesBefore a a = false := by
  induction a with
  | nil => rfl
  | cons x a ih => simp [bytesBefore, ih]
theorem bb_asymm {a b : Bytes} (h : bytesBefore a b = true) : bytesBefore b a = false := by
  induction a generalizing b with
  | nil => cases b <;> simp_all [bytesBefore]
  | cons x a ih =>
    cases b with
    | nil => simp [bytesBefore] at h
    | cons y b =>
      simp only [bytesBefore, Bool.or_eq_true, Bool.and_eq_true, decide_eq_true_eq, beq_iff_eq] at h
      simp only [bytesBefore, Bool.or_eq_false_iff, Bool.and_eq_false_iff, decide_eq_false_iff_not, beq_eq_false_iff_ne]
      rcases h with h | ⟨rfl, h⟩
      · exact ⟨by rw [UInt8.lt_iff_toNat_lt] at h ⊢; omega, .inl (fun e => by subst e; rw [UInt8.lt_iff_toNat_lt] at h; omega)⟩
      · exact ⟨by rw [UInt8.lt_iff_toNat_lt]; omega, .inr (ih h)⟩
theorem bb_trans {a b c : Bytes} (h : bytesBefore a b = true) (k : bytesBefore b c = true) : bytesBefore a c = true := by
  induction a generalizing b c with
  | nil =>
    cases c with
    | nil => cases b <;> simp_all [bytesBefore]
    | cons z c => rfl
  | cons x a ih =>
    cases b with
    | nil => simp [bytesBefore] at h
    | cons y b =>
      cases c with
      | nil => simp [bytesBefore] at k
      | cons z c =>
        simp only [bytesBefore, Bool.or_eq_true, Bool.and_eq_true, decide_eq_true_eq, beq_iff_eq, UInt8.lt_iff_toNat_lt] at h k ⊢
        rcases h with h | ⟨rfl, h⟩
        · rcases k with k | ⟨rfl, k⟩
          · left; omega
          · left; exact h
        · rcases k with k | ⟨rfl, k⟩
          · left; exact k
          · right; exact ⟨rfl, ih h k⟩
theorem bb_total {a b : Bytes} (h : bytesBefore a b = false) (hne : a ≠ b) : bytesBefore b a = true := by
  induction a generalizing b with
  | nil =>
    cases b with
    | nil => exact absurd rfl hne
    | cons y b => simp [bytesBefore] at h
  | cons x a ih =>
    cases b with
    | nil => rfl
    | cons y b =>
      simp only [bytesBefore, Bool.or_eq_false_iff, Bool.and_eq_false_iff, decide_eq_false_iff_not, beq_eq_false_iff_ne, UInt8.lt_iff_toNat_lt] at h
      simp only [bytesBefore, Bool.or_eq_true, Bool.and_eq_true, decide_eq_true_eq, beq_iff_eq, UInt8.lt_iff_toNat_lt]
      by_cases e : x = y
      · subst e
        right
        refine ⟨rfl, ih ?_ (fun e => hne (by rw [e]))⟩
        rcases h.2 with h | h
        · exact absurd rfl h
        · exact h
      · left
        have : x.toNat ≠ y.toNat := fun e2 => e (UInt8.toNat_inj.1 e2)
        omega
/-- Keys in ascending order. -/
def KS (hs : HL) : Prop := hs.Pairwise fun p q => bytesBefore p.1 q.1 = true
theorem kvIns_first (k : Bytes) (v : List Bytes) (r : HL) (h : ∀ q ∈ r, bytesBefore k q.1 = true) : kvIns (k, v) r = (k, v) :: r := by
  cases r with
  | nil => rfl
  | cons q r =>
    have := h q (by simp)
    unfold kvIns
    rw [if_pos this]
theorem filter_gt (k : Bytes) (r : HL) (h : ∀ q ∈ r, bytesBefore k q.1 = true) : (r.filter fun p => !(p.1 == k)) = r := by
  rw [List.filter_eq_self]
  intro q hq
  have h1 := h q hq
  simp
  intro e
  rw [e, bb_irrefl] at h1
  cases h1
theorem kvGet_gt (k : Bytes) (r : HL) (h : ∀ q ∈ r, bytesBefore k q.1 = true) : kvGet k r = none := by
  unfold kvGet
  rw [Option.map_eq_none_iff, List.find?_eq_none]
  intro q hq e
  have h1 := h q hq
  simp at e
  rw [e, bb_irrefl] at h1
  cases h1
theorem addP_hAdd (k s : Bytes) (hs : HL) (h : KS hs) : addP k s hs = hAdd k s hs := by
  induction hs with
  | nil => rfl
  | cons p r ih =>
    obtain ⟨pk, pv⟩ := p
    have hp := (List.pairwise_cons.1 h).1
    have hr : KS r := (List.pairwise_cons.1 h).2
    unfold addP
    by_cases hb : bytesBefore pk k = true
    · rw [if_pos hb, ih hr]
      have hne : (pk == k) = false := by
        rw [beq_eq_false_iff_ne]; intro e; rw [e, bb_irrefl] at hb; cases hb
      unfold hAdd kvPut kvGet
      rw [List.filter_cons, List.find?_cons]
      simp only [hne]
      have ha := bb_asymm hb
      simp only [Bool.not_false, if_true]
      rw [kvIns, if_neg (by simp [ha])]
    · rw [if_neg hb]
      have hb' : bytesBefore pk k = false := by simpa using hb
      by_cases he : pk = k
      · subst he
        rw [if_pos rfl]
        unfold hAdd kvPut kvGet
        rw [List.filter_cons, List.find?_cons]
        simp only [beq_self_eq_true, Bool.not_true, Bool.false_eq_true, if_false, Option.map_some, Option.getD_some]
        rw [filter_gt pk r hp, kvIns_first pk _ r hp]
      · rw [if_neg he]
        have hlt := bb_total hb' he
        have hall : ∀ q ∈ (pk, pv) :: r, bytesBefore k q.1 = true := by
          intro q hq
          rcases List.mem_cons.1 hq with rfl | hq
          · exact hlt
          · exact bb_trans hlt (hp q hq)
        unfold hAdd kvPut
        rw [filter_gt k _ hall, kvGet_gt k _ hall, kvIns_first k _ _ hall]
        rfl
theorem addP_mem {k s : Bytes} {hs : HL} {q : Bytes × List Bytes} (h : q ∈ addP k s hs) : q.1 = k ∨ ∃ p ∈ hs, p.1 = q.1 := by
  induction hs with
  | nil => simp [addP] at h; left; rw [h]
  | cons p r ih =>
    unfold addP at h
    split at h
    · rcases List.mem_cons.1 h with rfl | h
      · exact .inr ⟨q, by simp, rfl⟩
      · rcases ih h with h | ⟨p', hp', e⟩
        · exact .inl h
        · exact .inr ⟨p', by simp [hp'], e⟩
    · split at h
      · rcases List.mem_cons.1 h with rfl | h
        · exact .inl rfl
        · exact .inr ⟨q, by simp [h], rfl⟩
      · rcases List.mem_cons.1 h with rfl | h
        · exact .inl rfl
        · exact .inr ⟨q, h, rfl⟩
theorem addP_KS (k s : Bytes) (hs : HL) (h : KS hs) : KS (addP k s hs) := by
  induction hs with
  | nil => exact List.pairwise_singleton _ _
  | cons p r ih =>
    have hp := (List.pairwise_cons.1 h).1
    have hr : KS r := (List.pairwise_cons.1 h).2
    unfold addP
    by_cases hb : bytesBefore p.1 k = true
    · rw [if_pos hb]
      refine List.pairwise_cons.2 ⟨fun q hq => ?_, ih hr⟩
      rcases addP_mem hq with e | ⟨p', hp', e⟩
      · rw [e]; exact hb
      · rw [← e]; exact hp p' hp'
    · rw [if_neg hb]
      have hb' : bytesBefore p.1 k = false := by simpa using hb
      by_cases he : p.1 = k
      · rw [if_pos he]
        exact List.pairwise_cons.2 ⟨fun q hq => by rw [← he]; exact hp q hq, hr⟩
      · rw [if_neg he]
        have hlt := bb_total hb' he
        exact List.pairwise_cons.2 ⟨fun q hq => by
          rcases List.mem_cons.1 hq with rfl | hq
          · exact hlt
          · exact bb_trans hlt (hp q hq), h⟩
theorem foldl_addP (items : List (Bytes × Bytes)) (hs : HL) (h : KS hs) : items.foldl (fun h p => addP p.1 p.2 h) hs = items.foldl (fun h p => hAdd p.1 p.2 h) hs ∧ KS (items.foldl (fun h p => addP p.1 p.2 h) hs) := by
  induction items generalizing hs with
  | nil => exact ⟨rfl, h⟩
  | cons p r ih =>
    obtain ⟨h1, h2⟩ := ih _ (addP_KS p.1 p.2 hs h)
    simp only [List.foldl_cons]
    rw [← addP_hAdd p.1 p.2 hs h]
    exact ⟨h1, h2⟩
end Go.Proofs.YtkbgnplknifmhaaGreatDoor
namespace Go.Proofs.YtkbgnplknifmhaaGreatDoor
open Go.RowKit
attribute [local go_sem ↓] Go.wp_at_zero Go.wp_at_succ
theorem litF (w : World) (l : Bytes) (f : Nat × Nat) : HB (w.alloc (.cells (encB l) 5 f)) (some ⟨w.heap.size, 0, none⟩) l := by
  refine HB.of_cells (fun i hi => ?_)
  have h : (w.alloc (.cells (encB l) 5 f)).heap[w.heap.size]? = some (.cells (encB l) 5 f) := by simp [World.alloc, -World.alloc_eq]
  have h2 := encB_get l i hi
  rw [Nat.zero_add]
  unfold World.cell?
  simp only [h]
  simpa using h2
theorem lit2 (w : World) (x y : UInt8) (f : Nat × Nat) : HB (w.alloc (.cells #[.int .u8 x.toNat, .int .u8 y.toNat] 5 f)) (some ⟨w.heap.size, 0, none⟩) [x, y] := litF w [x, y] f
/-! ### spec.line (38) -/
section
variable {w : World} {a : Option Addr} {c : Nat} {l : Bytes}
set_option maxRecDepth 20000 in
set_option maxHeartbeats 1000000 in
theorem line_none (h : HB w a l) (hc : l.length ≤ c) (hl : l.length ≤ 281474976710656) (hf : findL [13, 10] l = none) :
    Calls Tryz.prog 38 #[.slice a l.length c] w fun e w' => e = .returned (.tuple #[.string ⟨#[]⟩, .slice none 0 0, .bool false]) ∧ Kp [] w w' := by
  have hK1 : Kp [] w (w.alloc (.cells #[.int .u8 13, .int .u8 10] 5 (2, 3))) := (Kp.refl _ _).alloc _
  have hfind := find_any a (some ⟨w.heap.size, 0, none⟩) c 2 l [13, 10] _ (h.kp hK1 (by simp)) hc (lit2 w 13 10 _) hl (by simp)
  rw [findI_none hf, show ([13, 10] : Bytes).length = 2 from rfl] at hfind
  have HK1 := Lib.hid hK1
  clear h hK1 hf
  have kc := conv22 w #[.int .u8 13, .int .u8 10] 2 2
  go_enter Tryz.func38, Tryz.ntmps38
  go_wp2_with fail
  refine hfind.mono ?_
  rintro e w' ⟨rfl, rfl⟩
  clear hfind
  go_wp2
  go_ret3
  exact ⟨rfl, HK1.out⟩
set_option maxRecDepth 20000 in
set_option maxHeartbeats 1000000 in
theorem line_some (h : HB w a l) (hc : l.length ≤ c) (hl : l.length ≤ 281474976710656) (i : Nat) (hf : findL [13, 10] l = some i) :
    Calls Tryz.prog 38 #[.slice a l.length c] w fun e w' => e = .returned (.tuple #[.string (str (l.take i)), .slice (cutAt a c (i + 2)) (l.drop (i + 2)).length (c - (i + 2)), .bool true]) ∧ Kp [] w w' := by
  have hK1 : Kp [] w (w.alloc (.cells #[.int .u8 13, .int .u8 10] 5 (2, 3))) := (Kp.refl _ _).alloc _
  have h1 := h.kp hK1 (by simp)
  have hfind := find_any a (some ⟨w.heap.size, 0, none⟩) c 2 l [13, 10] _ h1 hc (lit2 w 13 10 _) hl (by simp)
  have hle := (findL_le hf).1
  have hle2 : i + 2 ≤ l.length := hle
  rw [findI_some hf, show ([13, 10] : Bytes).length = 2 from rfl] at hfind
  have hst : ∀ j, (convert 22 9 (.slice a i c)).run Tryz.prog ((w.alloc (.cells #[.int .u8 13, .int .u8 10] 5 (2, 3))).drewN j) = .ok (.string (str (l.take i))) ((w.alloc (.cells #[.int .u8 13, .int .u8 10] 5 (2, 3))).drewN j) := fun j => run_str _ a (l.take i) i c ((h1.take i).drewN j) (by rw [List.length_take]; omega)
  have hwr : IntKind.i64.wrap ((i : Int) + 2) = (i : Int) + 2 := IntWalk.i64_in _ (by omega)
  have hs1 : ∀ w : World, (Instr.sliceAt 22 (.slice a l.length c) none (some (.int .i64 (i : Int))) none).run Tryz.prog w = .ok (.slice a i c) w := fun w => by
    rw [run_cut_h w _ l.length c _ (by omega) (by omega)]; rfl
  have hs2 : ∀ w : World, (Instr.sliceAt 22 (.slice a l.length c) (some (.int .i64 ((i : Int) + 2))) none none).run Tryz.prog w = .ok (.slice (cutAt a c (i + 2)) (l.drop (i + 2)).length (c - (i + 2))) w := fun w => by
    rw [run_cut_l w _ l.length c _ (by omega) (by omega), show ((i : Int) + 2).toNat = i + 2 from by omega, List.length_drop]
  have hneg : decide ((i : Int) < 0) = false := by simp
  have HK1 : ∀ j, Hid (Kp [] w ((w.alloc (.cells #[.int .u8 13, .int .u8 10] 5 (2, 3))).drewN j)) := fun j => hK1.drewN' j
  have HK := Lib.hid HK1
  clear h h1 hK1 hf hle hle2 HK1
  generalize (l.drop (i + 2)).length = ld at hs2 ⊢
  have kc := conv22 w #[.int .u8 13, .int .u8 10] 2 2
  go_enter Tryz.func38, Tryz.ntmps38
  go_wp2_with fail
  refine hfind.mono ?_
  rintro e w' ⟨rfl, rfl⟩
  clear hfind
  go_wp2
  go_quiet (fail)
  go_wp2
  go_ret3
  exact ⟨rfl, (HK.out _).out⟩
end
end Go.Proofs.YtkbgnplknifmhaaGreatDoor
namespace Go.Proofs.YtkbgnplknifmhaaGreatDoor
open Go.RowKit
attribute [local go_sem ↓] Go.wp_at_zero Go.wp_at_succ
theorem findI_neg (m l : Bytes) : decide (findI m l < 0) = (findL m l).isNone := by
  unfold findI
  cases findL m l with
  | none => rfl
  | some j => simp
theorem wpList_append_OBg {w : World} {ops : Array Oper} {rest : List Oper} {o : Oper} {a : Act} {Q : Exit → Act → World → Prop} (hw : Region.wanted o (yielded ops a.tmps) = true) (d s : Operand)
    (ho : o.op = .call { callee := .builtin .append, args := #[d, s], argTypes := #[22, 22] }) (base : Nat) (v : Value) (l : Bytes) (hd : a.eval d = v) (hown : OB w base v l)
    (x : Option Addr) (m c : Nat) (src : Bytes) (hs : a.eval s = .slice x m c) (hsrc : HB w x src) (hm : m = src.length) (hnone : x = none → c = 0)
    (hlen : l.length + m ≤ 140737488355328) (hbase : base ≤ w.heap.size)
    (h : ∀ v' w', OB w' base v' (l ++ src) → w.grownBy w' v.ownBlock → NewOr w v v' → wpList Tryz.prog ops Q rest (a.put o.dst v') w') : wpList Tryz.prog ops Q (o :: rest) a w :=
  wpList_step fun K hK => by
    rw [if_pos hw]
    exact wp_append_OB d s ho base v l hd hown x m c src hs hsrc hm hnone hlen hbase fun v' w' h1 h2 h3 => hK _ _ (h v' w' h1 h2 h3)
section
variable {w : World} {a : Option Addr} {c : Nat} {body b : Bytes}
/-! ### spec.Free (19) -/
set_option maxRecDepth 20000 in
set_option maxHeartbeats 1000000 in
theorem free_any (h : HB w a body) (hc : body.length ≤ c) (hl : body.length ≤ 281474976710656) (hb : b.length ≤ 1000) :
    Calls Tryz.prog 19 #[.slice a body.length c, .string (str b)] w fun e w' => e = .returned (.bool (freeB body (dlm b))) ∧ Kp [] w w' := by
  obtain ⟨cc, w1, hcv, hb1, hlc, hk1, hsz1⟩ := conv_bytes (45 :: 45 :: b) w
  have e2 : (⟨#[45, 45]⟩ : ByteArray) = str [45, 45] := rfl
  have h1 := h.kp hk1 (by simp)
  have hp := hasPrefix_any a (some ⟨w.heap.size, 0, none⟩) c cc body (45 :: 45 :: b) w1 h1 hc hb1
  have hdl : (45 :: 45 :: b : Bytes).length = b.length + 2 := by simp
  rw [hdl] at hp hcv hlc
  cases hpre : (dlm b).isPrefixOf body with
  | true =>
    have hpre' : (45 :: 45 :: b).isPrefixOf body = true := hpre
    rw [hpre'] at hp
    have HR : Hid (freeB body (dlm b) = false) := by show _ = _; unfold freeB; rw [hpre]; rfl
    have HK := Lib.hid hk1
    clear h h1 hpre hpre' hk1 hb1 hsz1 hdl
    go_enter Tryz.func19, Tryz.ntmps19
    go_wp2_with fail
    refine hp.mono ?_
    rintro e w' ⟨rfl, rfl⟩
    clear hp
    go_wp2
    go_ret
    exact ⟨ret_bool HR.out.symm, HK.out⟩
  | false =>
    have hpre' : (45 :: 45 :: b).isPrefixOf body = false := hpre
    rw [hpre'] at hp
    have HR : Hid (freeB body (dlm b) = decide (findI (10 :: 45 :: 45 :: b) body < 0)) := by show _ = _; unfold freeB; rw [hpre, findI_neg]; rfl
    have hown : OB (w1.alloc (.cells #[.int .u8 10] 5)) w1.heap.size (.slice (some ⟨w1.heap.size, 0, none⟩) 1 1) [10] := OB.lit w1 w1.heap.size [10] (Nat.le_refl _) (by simp [maxLen])
    have hk2 : Kp [] w1 (w1.alloc (.cells #[.int .u8 10] 5)) := (Kp.refl _ _).alloc _
    have HOWN := Lib.hid hown
    have HB2 := Lib.hid (hb1.kp hk2 (by simp))
    have HK1 := Lib.hid hk1
    have H1 := Lib.hid h1
    have HSZ := Lib.hid hsz1
    have HDL := Lib.hid hdl
    clear h h1 hpre hpre' hk1 hb1 hsz1 hdl hown hk2
    go_enter Tryz.func19, Tryz.ntmps19
    go_wp2_with fail
    refine hp.mono ?_
    rintro e w' ⟨rfl, rfl⟩
    clear hp
    go_wp2_with (at_builtin; refine wpList_append_OBg rfl (.tmp 15) (.tmp 16) rfl w1.heap.size (.slice (some ⟨w1.heap.size, 0, none⟩) 1 1) [10] rfl HOWN.out (some ⟨w.heap.size, 0, none⟩) (b.length + 2) cc (45 :: 45 :: b) rfl HB2.out HDL.out.symm (by intro e; cases e) (by simp; omega) (by simp) ?_; intro v' w3 hown3 hg3 hnw3)
    obtain ⟨a', c', rfl, hlc', ha', hb', hob'⟩ := hown3.len
    have hK3 : Kp [] w1 w3 := ((Kp.refl _ _).alloc _).trans' ((Kp.refl [w1.heap.size] _).grown hg3 (by intro k hk; injection hk with hk; subst hk; simp)) (by intro x hx; simp at hx; subst hx; exact .inr (Nat.le_refl _))
    have hl3 : ([10] ++ (45 :: 45 :: b) : Bytes).length = b.length + 3 := by simp
    have hfind := find_any a a' c c' body ([10] ++ (45 :: 45 :: b)) w3 (H1.out.kp hK3 (by simp)) hc hb' hl (by omega)
    have HKF := Lib.hid (HK1.out.trans hK3)
    clear hown3 hg3 hnw3 hlc' ha' hb' hob' hK3 hl3
    refine hfind.mono ?_
    rintro e w' ⟨rfl, rfl⟩
    have hq : ([10] ++ (45 :: 45 :: b) : Bytes) = 10 :: 45 :: 45 :: b := rfl
    rw [hq]
    clear hq hfind
    go_wp2
    go_ret
    exact ⟨ret_bool HR.out.symm, HKF.out⟩
end
end Go.Proofs.YtkbgnplknifmhaaGreatDoor
namespace Go.Proofs.YtkbgnplknifmhaaGreatDoor
open Go.RowKit
attribute [local go_sem ↓] Go.wp_at_zero Go.wp_at_succ
/-- A block known whole, with a frozen range. -/
def BlkF (w : World) (b : Nat) (cs : Array Value) (t : TypeId) (f : Nat × Nat) : Prop := w.heap[b]? = some (.cells cs t f)
section
variable {w w' : World} {b : Nat} {cs : Array Value} {t : TypeId} {f : Nat × Nat}
theorem BlkF.cell (h : BlkF w b cs t f) (i : Nat) : w.cell? ⟨b, i, none⟩ = cs[i]? := by
  unfold BlkF at h
  simp [World.cell?, h]
theorem BlkF.free (h : BlkF w b cs t f) (i : Nat) (hi : i < f.1) : w.frozen? ⟨b, i, none⟩ = false := by
  unfold BlkF at h
  simp [World.frozen?, h]
  omega
theorem BlkF.set (h : BlkF w b cs t f) (i : Nat) (v : Value) : BlkF (w.setCell ⟨b, i, none⟩ v) b (cs.setIfInBounds i v) t f := by
  unfold BlkF at h ⊢
  have hlt : b < w.heap.size := (Array.getElem?_eq_some_iff.1 h).1
  simp only [World.setCell, Array.getElem?_modify, if_true, h, Option.map_some]
  rfl
end
theorem conv_blk (l : Bytes) (w : World) : ∃ c w' cs f, (convert 9 22 (.string (str l))).run Tryz.prog w = .ok (.slice (some ⟨w.heap.size, 0, none⟩) l.length c) w' ∧ BlkF w' w.heap.size (putAt cs 0 l) 5 f ∧ l.length ≤ cs.size ∧ l.length ≤ f.1 ∧ l.length ≤ c ∧ Kp [] w w' ∧ w'.heap.size = w.heap.size + 1 := by
  have h := Lib.run_convert_string_bytes (P := Tryz.prog) w 9 22 5 (str l) Tryz.underlying9 elem22 Tryz.underlying5
  have hn := Lib.bytesWorld_at_new w 5 (str l)
  rw [str_size] at h
  have hcs : Lib.bytesCells w 5 (str l) = putAt (Lib.bytesCells w 5 (str l)) 0 l := by
    apply Array.ext'
    unfold putAt Lib.bytesCells str
    simp [B8]
  have hsz : l.length ≤ (Lib.bytesCells w 5 (str l)).size := by unfold Lib.bytesCells str; simp
  refine ⟨_, _, Lib.bytesCells w 5 (str l), _, h, by rw [← hcs]; exact hn, hsz, hsz, grownCap_ge _ _ _ _, ?_, Lib.bytesWorld_size _ _ _⟩
  refine ⟨?_, ?_, ?_, by rw [Lib.bytesWorld_size]; omega, fun k hk _ => Lib.bytesWorld_at_old w 5 (str l) k hk⟩
  all_goals (unfold Lib.bytesWorld World.freeze; rfl)
/-! ### spec.Canon (23) -/
structure CSInv (w0 w1 : World) (xb : Nat) (f : Nat × Nat) (cs : Array Value) (key : Bytes) (i q : Nat) : Prop where
  blk : BlkF w1 xb (putAt cs 0 ((canonB key).take i ++ key.drop i)) 5 f
  kp : Kp [xb] w0 w1
  q : key.length - i = q
  le : i ≤ key.length
def CSRel (w0 w1 : World) (xb : Nat) (f : Nat × Nat) (cs : Array Value) (key : Bytes) (q : Nat) (v4 v : Value) : Prop := ∃ i : Nat, v = .int .i64 i ∧ v4 = .bool (upAt true key i) ∧ CSInv w0 w1 xb f cs key i q
set_option maxRecDepth 20000 in
set_option maxHeartbeats 1000000 in
theorem canon_any (key : Bytes) (w : World) (hl : key.length ≤ 281474976710656) :
    Calls Tryz.prog 23 #[.string (str key)] w fun e w' => e = .returned (.string (str (canonB key))) ∧ Kp [] w w' := by
  obtain ⟨c, w1, cs, f, hcv, hb1, hcs, hf, hlc, hk1, hsz1⟩ := conv_blk key w
  have hix : ∀ (i : Nat), i < key.length → ∀ w1 : World, (Instr.indexAt 22 (.slice (some ⟨w.heap.size, 0, none⟩) key.length c) (.int .i64 (i : Int))).run Tryz.prog w1 = .ok (.pointer (some ⟨w.heap.size, i, none⟩)) w1 := by
    intro i hi w1
    have := ix_any (some ⟨w.heap.size, 0, none⟩) key.length c (fun _ => rfl) w1 (i : Int) (by omega) (by omega)
    rw [this, show (i : Int).toNat = i from by omega, at_mk, Nat.zero_add]
  have hR : CSRel w1 w1 w.heap.size f cs key key.length (.bool true) (.int .i64 ((0 : Nat) : Int)) := ⟨0, rfl, rfl, ⟨by simpa using hb1, Kp.refl _ _, rfl, Nat.zero_le _⟩⟩
  have HX := Lib.hid hix
  have HK1 := Lib.hid hk1
  clear hix hb1 hk1 hsz1
  go_enter Tryz.func23, Tryz.ntmps23
  go_wp2
  go_loopg [4, 11] (key.length) (fun q v4 v w' => CSRel w1 w' w.heap.size f cs key q v4 v)
  case atStart => exact hR
  case round =>
    clear hR
    obtain ⟨i, rfl, rfl, hI⟩ := hrel
    have hle := hI.le
    by_cases hi : i < key.length
    · have hix := HX.out i hi
      have hlen := mid_len key i hle
      have hcell : wr.cell? ⟨w.heap.size, i, none⟩ = some (.int .u8 (byt key i).toNat) := by
        have h1 := putAt_get cs 0 ((canonB key).take i ++ key.drop i) i (by omega) (by omega)
        rw [mid_byt _ _ hi, Nat.zero_add] at h1
        rw [hI.blk.cell, h1]
      have hfz : wr.frozen? ⟨w.heap.size, i, none⟩ = false := hI.blk.free _ (by omega)
      have hint := canC_int (upAt true key i) (byt key i)
      have hqq : CSRel w1 wr w.heap.size f cs key gk (.bool (upAt true key i)) (.int .i64 i) := ⟨i, rfl, rfl, hI⟩
      have hnext : ∀ (w2 : World), (w2 = wr.setCell ⟨w.heap.size, i, none⟩ (.int .u8 (canC (upAt true key i) (byt key i)).toNat) ∨ (canC (upAt true key i) (byt key i) = byt key i ∧ w2 = wr)) → ∀ y : Value, y = .bool ((byt key i) == 45) → CSRel w1 w2 w.heap.size f cs key (gk - 1) y (.int .i64 ((i : Int) + 1)) := by
        rintro w2 hw2 y rfl
        have hset : putAt cs 0 (((canonB key).take i ++ key.drop i).set i (canC (upAt true key i) (byt key i))) = putAt cs 0 ((canonB key).take (i + 1) ++ key.drop (i + 1)) := by rw [canon_step _ _ hi]
        refine ⟨i + 1, by simp, by unfold upAt; simp, ⟨?_, ?_, by have := hI.q; omega, by omega⟩⟩
        · rcases hw2 with rfl | ⟨hsame, rfl⟩
          · have := hI.blk.set i (.int .u8 (canC (upAt true key i) (byt key i)).toNat)
            have h2 := putAt_set cs 0 ((canonB key).take i ++ key.drop i) i (by omega) (by omega) (canC (upAt true key i) (byt key i))
            rw [Nat.zero_add] at h2
            rw [h2, hset] at this
            exact this
          · rw [← hset, hsame]
            have h3 : ((canonB key).take i ++ key.drop i).set i (byt key i) = (canonB key).take i ++ key.drop i := by
              have h4 := mid_byt key i hi
              rw [byt_lt _ _ (by omega)] at h4
              rw [← h4]
              exact List.set_getElem_self _
            rw [h3]
            exact hI.blk
        · rcases hw2 with rfl | ⟨hsame, rfl⟩
          · exact hI.kp.setCell (.inl (by simp)) _
          · exact hI.kp
      have hq : Hid (key.length - i = gk) := hI.q
      have HN := Lib.hid hnext
      clear hnext hI hlen hqq
      generalize upAt true key i = up at hint HN ⊢
      generalize byt key i = b at hcell hint HN
      have h45 := u8_beq b 45 45 rfl
      have hb1 : (b.toNat : Int) ≤ 255 := by have := b.toNat_lt; omega
      have hb0 : (0 : Int) ≤ (b.toNat : Int) := by omega
      have hyes : ∀ x : Int, ((canC up b).toNat : Int) = x → Hid (CSRel w1 (wr.setCell ⟨w.heap.size, i, none⟩ (.int .u8 x)) w.heap.size f cs key (gk - 1) (.bool ((b.toNat : Int) == 45)) (.int .i64 ((i : Int) + 1))) := by
        rintro x rfl
        exact HN.out _ (.inl rfl) _ (by rw [h45])
      have hno : ((canC up b).toNat : Int) = b.toNat → Hid (CSRel w1 wr w.heap.size f cs key (gk - 1) (.bool ((b.toNat : Int) == 45)) (.int .i64 ((i : Int) + 1))) := fun h => HN.out _ (.inr ⟨UInt8.toNat_inj.1 (by omega), rfl⟩) _ (by rw [h45])
      have HY := Lib.hid hyes
      have HNO := Lib.hid hno
      clear hyes hno HN h45
      rcases up with _ | _
      · by_cases hu1 : (65 : Int) ≤ b.toNat
        · by_cases hu2 : (b.toNat : Int) ≤ 90
          · rw [if_neg (by simp), if_pos ⟨rfl, hu1, hu2⟩] at hint
            have hrel := HY.out _ hint
            clear hint HY HNO
            go_wp2
            go_roundg (gk - 1)
            case measure => have := hq.out; omega
            case rel => exact hrel.out
          · rw [if_neg (by simp), if_neg (by simp; omega)] at hint
            have hrel := HNO.out hint
            clear hint HY HNO
            go_wp2
            go_roundg (gk - 1)
            case measure => have := hq.out; omega
            case rel => exact hrel.out
        · rw [if_neg (by simp), if_neg (by simp; omega)] at hint
          have hrel := HNO.out hint
          clear hint HY HNO
          go_wp2
          go_roundg (gk - 1)
          case measure => have := hq.out; omega
          case rel => exact hrel.out
      · by_cases hu1 : (97 : Int) ≤ b.toNat
        · by_cases hu2 : (b.toNat : Int) ≤ 122
          · rw [if_pos ⟨rfl, hu1, hu2⟩] at hint
            have hrel := HY.out _ hint
            clear hint HY HNO
            go_wp2
            go_roundg (gk - 1)
            case measure => have := hq.out; omega
            case rel => exact hrel.out
          · rw [if_neg (by simp; omega), if_neg (by simp)] at hint
            have hrel := HNO.out hint
            clear hint HY HNO
            go_wp2
            go_roundg (gk - 1)
            case measure => have := hq.out; omega
            case rel => exact hrel.out
        · rw [if_neg (by simp; omega), if_neg (by simp)] at hint
          have hrel := HNO.out hint
          clear hint HY HNO
          go_wp2
          go_roundg (gk - 1)
          case measure => have := hq.out; omega
          case rel => exact hrel.out
    · have hi' : i = key.length := by omega
      have hblk := hI.blk
      have hl2 : (canonB key).length = key.length := canonGo_length _ _
      rw [hi', List.drop_length, List.append_nil, List.take_of_length_le (by omega)] at hblk
      have hhb : HB wr (some ⟨w.heap.size, 0, none⟩) (canonB key) := HB.of_cells (fun j hj => by rw [hblk.cell, putAt_get _ _ _ _ hj (by omega)])
      have hstr := run_str wr (some ⟨w.heap.size, 0, none⟩) (canonB key) key.length c hhb hl2.symm
      have HKP := Lib.hid (HK1.out.trans' hI.kp (by intro x hx; simp at hx; subst hx; exact .inr (Nat.le_refl _)))
      clear hI HX hblk hhb hl2 hi'
      go_wp2
      go_ret
      exact ⟨rfl, HKP.out⟩
end Go.Proofs.YtkbgnplknifmhaaGreatDoor
