/-
  Walks and facts for the mailparts program.
-/
import Derived.Test.YtkbgnplknifmhaaGreatDoorKSp4
import Derived.Deep.RegionLaw
import Derived.Test.YtkbgnplknifmhaaGreatDoorKNr1ToSp3
namespace Go.Proofs.YtkbgnplknifmhaaGreatDoor
open Go.RowKit
attribute [local go_sem ↓] Go.wp_at_zero Go.wp_at_succ
/-! ### slices.Insert of one header (82) -/
def InsPost (w : World) (base : Nat) (v : Value) (ys : List (Bytes × Value)) (e : Ending) (w' : World) : Prop := ∃ v', e = .returned v' ∧ HR w' base v' ys ∧ Kp v.ownBlock.toList w w' ∧ (∀ b, v'.ownBlock = some b → v.ownBlock = some b ∨ w.heap.size ≤ b)
def OneC (xs : List (Bytes × Value)) : Prop := ∀ p ∈ xs, p.2.oneCell' = true
theorem OneC.flat {xs : List (Bytes × Value)} (h : OneC xs) : ∀ u ∈ flatH xs, u.oneCell' = true := by
  intro u hu
  unfold flatH at hu
  obtain ⟨p, hp, hu⟩ := List.mem_flatMap.1 hu
  simp at hu
  rcases hu with rfl | rfl
  · rfl
  · exact h p hp
theorem oneNews {vb : Nat} {w : World} {k : Bytes} {pv : Value} (hvb : Blk w vb #[S1 k, pv] 43) : ∀ j u, ([S1 k, pv] : List Value)[j]? = some u → w.cell? ((⟨vb, 0, none⟩ : Addr).add j) = some u := by
  intro j u hj
  rw [Addr.add_lit, Nat.zero_add, hvb.cell]
  simpa using hj
section
variable {w : World} {base : Nat} {xs : List (Bytes × Value)} {vb : Nat} {k : Bytes} {pv : Value}
theorem append_one43 (v : Value) (ty : TypeId) (h : HR w base v xs) (hvb : Blk w vb #[S1 k, pv] 43) (hpv : pv.oneCell' = true) (hbase : base ≤ w.heap.size) (hl : xs.length ≤ 1000) :
    ∃ v' w', (Builtin.append_ #[27, 27] ty #[v, .slice (some ⟨vb, 0, none⟩) 1 1]).run Tryz.prog w = .ok v' w' ∧ HR w' base v' (xs ++ [(k, pv)]) ∧ Kp v.ownBlock.toList w w' ∧ (∀ b, v'.ownBlock = some b → v.ownBlock = some b ∨ w.heap.size ≤ b) := by
  obtain ⟨i, h1, h2, h3, h4⟩ := ti43
  have hone : ∀ u ∈ ([S1 k, pv] : List Value), u.oneCell' = true := by intro u hu; simp at hu; rcases hu with rfl | rfl; rfl; exact hpv
  have hnews := oneNews hvb
  have hfl : flatH (xs ++ [(k, pv)]) = flatH xs ++ [S1 k, pv] := by rw [flatH_append]; rfl
  have hll : (xs ++ [(k, pv)]).length = xs.length + 1 := by simp
  rcases h.2 with ⟨hv, h0⟩ | ⟨g, cap, cur, hv, hb, hg, hnc, hcm, hcs, htake⟩
  · have hx : xs = [] := List.eq_nil_of_length_eq_zero h0
    subst hx; subst hv
    obtain ⟨v', w', e1, e2, e3, _⟩ := run_append_own (P := Tryz.prog) w w.heap.size 27 ty 43 i _ 2 40 elem27 h1 h2 h3 h4 rfl (by decide) (.slice none 0 0) 0 [] (World.ownsRow_nil w _ 43 2) ⟨vb, 0, none⟩ 1 1 [S1 k, pv] rfl hnews hone (by unfold maxLen; omega) (by omega) (Nat.le_refl _)
    have hnew : ∀ b, v'.ownBlock = some b → w.heap.size ≤ b := fun b hb => (World.ownsRow.lt e2 b hb).1
    refine ⟨v', w', e1, ?_, (Kp.refl _ w).grown e3 (by intro k hk; simp [Value.ownBlock] at hk), fun b hb => .inr (hnew b hb)⟩
    have e2' : w'.ownsRow w.heap.size 43 2 v' 1 (flatH ([] ++ [(k, pv)])) := by simpa [hfl, flatH] using e2
    refine ⟨e2'.1, ?_⟩
    rcases e2'.2 with h0 | ⟨g, cap, cur, rfl, hb, rest⟩
    · exact .inl h0
    · exact .inr ⟨g, cap, cur, rfl, Nat.le_trans hbase hb, rest⟩
  · subst hv
    by_cases hfit : xs.length + 1 ≤ cap
    · obtain ⟨w', e1, e2, e3⟩ := run_append_fits (P := Tryz.prog) w base 27 ty 43 i 2 elem27 h1 h3 g xs.length cap _ h ⟨vb, 0, none⟩ 1 1 [S1 k, pv] rfl hnews hone hfit
      refine ⟨_, w', e1, ?_, (Kp.refl _ w).grown e3 (by intro k hk; left; simpa [Value.ownBlock] using hk.symm), fun b hb => .inl hb⟩
      unfold HR
      rw [hll, hfl]; exact e2
    · obtain ⟨v', w', e1, e2, e3⟩ := run_append_arg_grows (P := Tryz.prog) w 27 ty 43 i _ 2 40 elem27 h1 h2 h3 h4 rfl (by decide) ⟨g, 0, none⟩ xs.length cap (flatH xs) (flatH_len xs) (World.ownsRow.cells h rfl) ⟨vb, 0, none⟩ 1 1 [S1 k, pv] rfl hnews (by omega) (by unfold maxLen; omega) (by omega)
      have hnew : ∀ b, v'.ownBlock = some b → w.heap.size ≤ b := fun b hb => (World.ownsRow.lt e2 b hb).1
      refine ⟨v', w', e1, ?_, (Kp.refl _ w).grown e3 (by simp), fun b hb => .inr (hnew b hb)⟩
      have e2' : w'.ownsRow w.heap.size 43 2 v' (xs.length + 1) (flatH xs ++ [S1 k, pv]) := e2
      unfold HR
      rw [hll, hfl]
      refine ⟨e2'.1, ?_⟩
      rcases e2'.2 with h0 | ⟨g, cap, cur, rfl, hb, rest⟩
      · exact .inl h0
      · exact .inr ⟨g, cap, cur, rfl, Nat.le_trans hbase hb, rest⟩
set_option maxRecDepth 20000 in
set_option maxHeartbeats 1000000 in
theorem insert_end (v : Value) (h : HR w base v xs) (hvb : Blk w vb #[S1 k, pv] 43) (hpv : pv.oneCell' = true) (hbase : base ≤ w.heap.size) (hl : xs.length ≤ 1000) :
    Calls Tryz.prog 82 #[v, .int .i64 xs.length, .slice (some ⟨vb, 0, none⟩) 1 1] w fun e w' => InsPost w base v (xs ++ [(k, pv)]) e w' := by
  obtain ⟨v', w', e1, e2, e3, e4⟩ := append_one43 v 27 h hvb hpv hbase hl
  obtain ⟨a, c, rfl, hnc, a2, hsl⟩ : ∃ a c, v = .slice a xs.length c ∧ xs.length ≤ c ∧ ∃ a2, (Instr.sliceAt 27 (.slice a xs.length c) (some (.int .i64 (xs.length : Int))) none none).run Tryz.prog w = .ok (.slice a2 0 (c - xs.length)) w := by
    have hs : ∀ a c, (Instr.sliceAt 27 (.slice a xs.length c) (some (.int .i64 (xs.length : Int))) none none).run Tryz.prog w = .ok (.slice (if c = xs.length then a else a.map (·.add (xs.length * 2))) 0 (c - xs.length)) w := fun a c => by
      rw [run_sliceAt_slice _ _ _ _ _ _ isSlice27, run_slice_l _ _ _ _ _ isSlice27 _ _ (by omega) (by omega), elem27_eq, sizeOf43]
      simp [sliced]
    rcases h.2 with ⟨hv, h0⟩ | ⟨g, cap, cur, hv, hb, hg, hnc, hcm, hcs, htake⟩
    · refine ⟨none, 0, ?_, by omega, _, hs _ _⟩
      rw [hv, h0]
    · exact ⟨_, cap, hv, hnc, _, hs _ _⟩
  have hll : (xs.length : Int) ≤ 1000 := by omega
  have HH := Lib.hid (And.intro e2 (And.intro e3 e4))
  clear h hvb e2 e3 e4
  generalize xs.length = n at *
  go_enter Tryz.func82, Tryz.ntmps82
  go_wp2_with (at_builtin; refine wpList_append_run2 _ rfl (.tmp 23) (.tmp 24) 27 27 rfl (.slice a n c) (.slice (some ⟨vb, 0, none⟩) 1 1) rfl rfl e1 ?_)
  go_ret
  exact ⟨v', rfl, HH.out⟩
theorem shape_of {cs : Array Value} {t : TypeId} {b : Nat} (h : Blk w b cs t) : w.shape? b = some (t, cs.size) := by
  unfold Blk at h
  simp [World.shape?, h]
theorem run_overlaps43 (g n c o : Nat) (cur : Array Value) (hg : Blk w g cur 43) (hvb : Blk w vb #[S1 k, pv] 43) (hne : vb ≠ g) (hc : cur.size ≠ 0) :
    (callFunc 94 #[.slice (some ⟨vb, 0, none⟩) 1 1, .slice (some ⟨g, o, none⟩) n c]).run Tryz.prog w = .ok (.value (.bool false)) w := by
  rw [run_callFunc_extern Tryz.func94 (by kernel_rfl) (by kernel_rfl) (by kernel_rfl) (e := Extern.SlicesOverlaps.overlaps #[27, 27] #[4]) (by kernel_rfl),
    Lib.run_overlaps_apart w 27 4 43 elem27 2 sizeOf43 ⟨vb, 0, none⟩ ⟨g, o, none⟩ 1 1 n c hne 43 43 2 cur.size (shape_of hvb) (shape_of hg) hc (hvb.free _) (hvb.free _)]
  rfl
theorem flat_take (i : Nat) : (flatH xs).take (i * 2) = flatH (xs.take i) := by
  by_cases hi : i ≤ xs.length
  · have h : flatH xs = flatH (xs.take i) ++ flatH (xs.drop i) := by rw [← flatH_append, List.take_append_drop]
    have hl : (flatH (xs.take i)).length = i * 2 := by rw [flatH_len, List.length_take]; omega
    rw [h, ← hl, List.take_left]
  · rw [List.take_of_length_le (by rw [flatH_len]; omega), List.take_of_length_le (by omega)]
theorem flat_drop (i : Nat) (hi : i ≤ xs.length) : (flatH xs).drop (i * 2) = flatH (xs.drop i) := by
  have h : flatH xs = flatH (xs.take i) ++ flatH (xs.drop i) := by rw [← flatH_append, List.take_append_drop]
  have hl : (flatH (xs.take i)).length = i * 2 := by rw [flatH_len, List.length_take]; omega
  rw [h, ← hl, List.drop_left]
theorem cur_cells {g : Nat} {cur : Array Value} {n : Nat} (hg : Blk w g cur 43) (htake : cur.toList.take (n * 2) = flatH xs) (hn : n = xs.length) (i : Nat) (hi : i ≤ n) : ∀ j u, (flatH (xs.drop i))[j]? = some u → w.cell? ((⟨g, i * 2, none⟩ : Addr).add j) = some u := by
  intro j u hj
  rw [Addr.add_lit, hg.cell]
  rw [← flat_drop i (by omega), List.getElem?_drop, ← htake, List.getElem?_take] at hj
  split at hj
  · simpa using hj
  · cases hj
set_option maxRecDepth 20000 in
set_option maxHeartbeats 2000000 in
theorem insert_room (g cap i : Nat) (h : HR w base (.slice (some ⟨g, 0, none⟩) xs.length cap) xs) (h1 : OneC xs) (hi : i < xs.length) (hroom : xs.length + 1 ≤ cap) (hvb : Blk w vb #[S1 k, pv] 43) (hpv : pv.oneCell' = true) (hne : vb ≠ g) (hl : xs.length ≤ 1000) :
    Calls Tryz.prog 82 #[.slice (some ⟨g, 0, none⟩) xs.length cap, .int .i64 i, .slice (some ⟨vb, 0, none⟩) 1 1] w fun e w' => InsPost w base (.slice (some ⟨g, 0, none⟩) xs.length cap) (xs.take i ++ (k, pv) :: xs.drop i) e w' := by
  rcases h.2 with ⟨hv, h0⟩ | ⟨g', cap', cur, hv, hb, hg, hnc, hcm, hcs, htake⟩
  · cases hv
  · injection hv with hv1 hv2 hv3
    injection hv1 with hv1
    injection hv1 with hv1
    subst hv1; subst hv3
    have hgb : Blk w g cur 43 := hg
    obtain ⟨n, hn⟩ : ∃ n, n = xs.length := ⟨_, rfl⟩
    have hcap : cap ≤ 9223372036854775807 := by unfold maxLen at hcm; omega
    have hfl := flatH_len (xs.drop i)
    rw [List.length_drop] at hfl
    have hc1 := fun ty d e => run_copy_rowk (P := Tryz.prog) (w.drew) 27 27 ty 43 g ((i + 1) * 2) (n - i) d ⟨g, i * 2, none⟩ (n + 1 - i) e cur 43 (flatH (xs.drop i)) 2 elem27 info43_size (Blk.drew hgb) (by rw [hfl]; simp only [Nat.min_def]; split <;> omega) (cur_cells (Blk.drew hgb) (by rw [hn]; exact htake) hn i (by omega)) (by rw [hfl]; omega) (fun u hu => OneC.flat (fun p hp => h1 p (List.mem_of_mem_drop hp)) u hu)
    obtain ⟨cur1, hcur1⟩ : ∃ c, c = (cur.toList.take ((i + 1) * 2) ++ flatH (xs.drop i) ++ cur.toList.drop ((i + 1) * 2 + (flatH (xs.drop i)).length)).toArray := ⟨_, rfl⟩
    have hcs1 : cur1.size = cap * 2 := by rw [hcur1]; simp; rw [hfl]; omega
    rw [← hcur1] at hc1
    have hg1 : Blk (w.drew.setRow g cur1) g cur1 43 := setRow_heap w.drew g cur cur1 43 (0, 0) hgb
    have hvb1 : Blk (w.drew.setRow g cur1) vb #[S1 k, pv] 43 := (Blk.drew hvb).move (setRow_other _ _ _ _ hne)
    have hone : ∀ u ∈ ([S1 k, pv] : List Value), u.oneCell' = true := by intro u hu; simp at hu; rcases hu with rfl | rfl; rfl; exact hpv
    have hc2 := fun ty d => run_copy_rowk (P := Tryz.prog) (w.drew.setRow g cur1) 27 27 ty 43 g (i * 2) (n + 1 - i) d ⟨vb, 0, none⟩ 1 1 cur1 43 [S1 k, pv] 2 elem27 info43_size hg1 (by simp only [Nat.min_def]; split <;> simp <;> omega) (oneNews hvb1) (by simp; omega) hone
    obtain ⟨cur2, hcur2⟩ : ∃ c, c = (cur1.toList.take (i * 2) ++ [S1 k, pv] ++ cur1.toList.drop (i * 2 + [S1 k, pv].length)).toArray := ⟨_, rfl⟩
    rw [← hcur2] at hc2
    have hcs2 : cur2.size = cap * 2 := by rw [hcur2]; simp; omega
    have hov := fun o d e => run_overlaps43 g d e o cur hgb hvb hne (by omega)
    have htk : cur2.toList.take ((n + 1) * 2) = flatH (xs.take i ++ (k, pv) :: xs.drop i) := by
      have l1 : (cur.toList.take ((i + 1) * 2)).length = (i + 1) * 2 := by rw [List.length_take, Array.length_toList]; omega
      have l2 : (flatH (xs.take i)).length = i * 2 := by rw [flatH_len, List.length_take]; omega
      have t1 : cur1.toList.take (i * 2) = flatH (xs.take i) := by
        rw [hcur1]
        simp only
        rw [List.append_assoc, List.take_append_of_le_length (by omega), List.take_take, Nat.min_eq_left (by omega), ← flat_take i, ← htake, List.take_take, Nat.min_eq_left (by omega)]
      have t2 : cur1.toList.drop (i * 2 + [S1 k, pv].length) = flatH (xs.drop i) ++ cur.toList.drop ((i + 1) * 2 + (flatH (xs.drop i)).length) := by
        rw [hcur1]
        simp only
        rw [show i * 2 + [S1 k, pv].length = (List.take ((i + 1) * 2) cur.toList).length from by rw [l1]; simp; omega, List.append_assoc, List.drop_left]
      rw [hcur2]
      simp only
      rw [t1, t2, flatH_append, flatH_cons, List.append_assoc]
      have e : flatH (xs.take i) ++ ([S1 k, pv] ++ (flatH (xs.drop i) ++ cur.toList.drop ((i + 1) * 2 + (flatH (xs.drop i)).length))) = (flatH (xs.take i) ++ S1 k :: pv :: flatH (xs.drop i)) ++ cur.toList.drop ((i + 1) * 2 + (flatH (xs.drop i)).length) := by simp
      rw [e, List.take_left' (by simp only [List.length_append, List.length_cons, l2, hfl]; omega)]
    have hlen : (xs.take i ++ (k, pv) :: xs.drop i).length = n + 1 := by simp; omega
    have hfin : HR ((w.drew.setRow g cur1).setRow g cur2) base (.slice (some ⟨g, 0, none⟩) (n + 1) cap) (xs.take i ++ (k, pv) :: xs.drop i) := by
      refine ⟨by rw [flatH_len], .inr ⟨g, cap, cur2, by rw [hlen], hb, setRow_heap (w.drew.setRow g cur1) g cur1 cur2 43 (0, 0) hg1, by omega, hcm, hcs2, by rw [hlen]; exact htk⟩⟩
    have hk : Kp [g] w ((w.drew.setRow g cur1).setRow g cur2) := by
      refine ⟨rfl, rfl, rfl, by simp [World.setRow], fun j hj hn => ?_⟩
      have hjg : j ≠ g := by simpa using hn
      rw [setRow_other _ _ _ _ hjg, setRow_other _ _ _ _ hjg]; rfl
    have HF := Lib.hid (And.intro hfin hk)
    rw [← hn]
    rw [← hn] at hroom hi hl
    have hs0 : ∀ w : World, (Instr.sliceAt 27 (.slice (some ⟨g, 0, none⟩) n cap) (some (.int .i64 (i : Int))) none none).run Tryz.prog w = .ok (.slice (some ⟨g, i * 2, none⟩) (n - i) (cap - i)) w := fun w => run27_l w g n cap i (by omega) (by omega)
    have hs1 : ∀ w : World, (Instr.sliceAt 27 (.slice (some ⟨g, 0, none⟩) n cap) none (some (.int .i64 ((n : Int) + 1))) none).run Tryz.prog w = .ok (.slice (some ⟨g, 0, none⟩) (n + 1) cap) w := fun w => run27_h w _ n cap (n + 1) (by omega)
    have hs2 : ∀ w : World, (Instr.sliceAt 27 (.slice (some ⟨g, 0, none⟩) (n + 1) cap) (some (.int .i64 ((i : Int) + 1))) none none).run Tryz.prog w = .ok (.slice (some ⟨g, (i + 1) * 2, none⟩) (n - i) (cap - (i + 1))) w := fun w => by
      have := run27_l w g (n + 1) cap (i + 1) (by omega) (by omega)
      rw [show n + 1 - (i + 1) = n - i from by omega] at this
      exact this
    have hs3 : ∀ w : World, (Instr.sliceAt 27 (.slice (some ⟨g, 0, none⟩) (n + 1) cap) (some (.int .i64 (i : Int))) none none).run Tryz.prog w = .ok (.slice (some ⟨g, i * 2, none⟩) (n + 1 - i) (cap - i)) w := fun w => run27_l w g (n + 1) cap i (by omega) (by omega)
    have hw1 : IntKind.i64.wrap ((i : Int) + 1) = (i : Int) + 1 := IntWalk.i64_in _ (by omega)
    have hz1 : ((i : Int) == (n : Int)) = false := by rw [beq_eq_false_iff_ne]; omega
    have hz2 : decide ((cap : Int) < (n : Int) + 1) = false := by simp; omega
    have hnl : (n : Int) ≤ 1000 := by omega
    have hc1' := hc1 3 (cap - (i + 1)) (cap - i)
    have hc2' := hc2 3 (cap - i)
    have hovv := hov ((i + 1) * 2) (n - i) (cap - (i + 1))
    have hil : (i : Int) ≤ 1000 := by omega
    clear hfin hk htk hlen hov hc1 hc2 hvb hvb1 hg1 hgb hg htake h h1 hcs hcs1 hcs2 hcur1 hcur2 hfl hn hone hnc hcm hb hv2
    go_enter Tryz.func82, Tryz.ntmps82
    go_wp2_with (simp only [hovv])
    go_region_law ((refine step_copy_run rfl (.tmp 73) (.tmp 76) 27 27 rfl (.slice (some ⟨g, (i + 1) * 2, none⟩) (n - i) (cap - (i + 1))) (.slice (some ⟨g, i * 2, none⟩) (n + 1 - i) (cap - i)) (by simp [Act.eval, Act.put]) (by simp [Act.eval, Act.put]) hc1' ?_))
    go_wp2_with (at_builtin; refine wpList_copy_run _ rfl (.tmp 80) (.tmp 81) 27 27 rfl (.slice (some ⟨g, i * 2, none⟩) (n + 1 - i) (cap - i)) (.slice (some ⟨vb, 0, none⟩) 1 1) rfl rfl hc2' ?_)
    go_ret
    exact ⟨_, rfl, HF.out.1, HF.out.2.mono (by intro x hx _; simpa [Value.ownBlock] using hx), fun b hb => .inl hb⟩
set_option maxRecDepth 20000 in
set_option maxHeartbeats 2000000 in
theorem insert_grow (g cap i : Nat) (h : HR w base (.slice (some ⟨g, 0, none⟩) xs.length cap) xs) (h1 : OneC xs) (hi : i < xs.length) (hroom : ¬ xs.length + 1 ≤ cap) (hvb : Blk w vb #[S1 k, pv] 43) (hpv : pv.oneCell' = true) (hbase : base ≤ w.heap.size) (hl : xs.length ≤ 1000) :
    Calls Tryz.prog 82 #[.slice (some ⟨g, 0, none⟩) xs.length cap, .int .i64 i, .slice (some ⟨vb, 0, none⟩) 1 1] w fun e w' => InsPost w base (.slice (some ⟨g, 0, none⟩) xs.length cap) (xs.take i ++ (k, pv) :: xs.drop i) e w' := by
  rcases h.2 with ⟨hv, h0⟩ | ⟨g', cap', cur, hv, hb, hg, hnc, hcm, hcs, htake⟩
  · cases hv
  · injection hv with hv1 hv2 hv3
    injection hv1 with hv1
    injection hv1 with hv1
    subst hv1; subst hv3
    have hgb : Blk w g cur 43 := hg
    have hgl := hgb.lt
    have hvl := hvb.lt
    obtain ⟨n, hn⟩ : ∃ n, n = xs.length := ⟨_, rfl⟩
    have hfl := flatH_len (xs.drop i)
    rw [List.length_drop] at hfl
    have hft : (flatH (xs.take i)).length = i * 2 := by rw [flatH_len, List.length_take]; omega
    obtain ⟨ti, h1i, h2i, h3i, h4i⟩ := ti43
    have hold : (Builtin.firstCells ti.size i (.slice (some ⟨g, 0, none⟩) i cap)).run Tryz.prog w.drew = .ok (flatH (xs.take i)).toArray w.drew := by
      rw [h3i]
      exact run_firstCells_some w.drew 2 i ⟨g, 0, none⟩ i cap (flatH (xs.take i)) (by rw [hft]) (fun j u hj => by
        rw [← flat_take, List.getElem?_take] at hj
        split at hj
        · exact World.ownsRow.cells h rfl j u hj
        · cases hj)
    have hz := Lib.run_append_grow_zeros (P := Tryz.prog) w 27 3 27 43 ti _ .i64 .i64 elem27 Tryz.underlying3 h1i h2i (some ⟨g, 0, none⟩) i cap (flatH (xs.take i)) hold (n + 1 - i) (by omega) (by omega) (by omega) (by omega) (by rw [h4i]; omega) (by rw [h4i, show i + (n + 1 - i) = n + 1 from by omega]; exact growslice_fits (by omega) (by omega))
    rw [show i + (n + 1 - i) = n + 1 from by omega, show ((n + 1 - i : Nat) : Int) = (n : Int) + 1 - (i : Int) from by omega] at hz
    obtain ⟨G, hG⟩ : ∃ G, G = grownCap w (n + 1) cap 43 := ⟨_, rfl⟩
    rw [← hG] at hz
    have hGn : n + 1 ≤ G := by rw [hG]; exact grownCap_ge w _ _ _
    have hGm : G ≤ maxLen := by rw [hG]; exact grownCap_le_maxLen w _ _ _ (by unfold maxLen; omega)
    obtain ⟨ROW, hROW⟩ : ∃ ROW, ROW = (flatH (xs.take i)).toArray ++ Builtin.zeroCells (Value.agg #[.string ⟨#[]⟩, .slice none 0 0]).cells (n + 1 - i) ++ Builtin.zeroCells (Value.agg #[.string ⟨#[]⟩, .slice none 0 0]).cells (G - (n + 1)) := ⟨_, rfl⟩
    rw [← hROW] at hz
    have hzc : ∀ m, (Builtin.zeroCells (Value.agg #[.string ⟨#[]⟩, .slice none 0 0]).cells m).size = m * 2 := fun m => by unfold Builtin.zeroCells; simp [Value.cells]
    have hRs : ROW.size = G * 2 := by rw [hROW, Array.size_append, Array.size_append, hzc, hzc, List.size_toArray, hft]; omega
    have hRt : ROW.toList.take (i * 2) = flatH (xs.take i) := by
      rw [hROW, Array.toList_append, Array.toList_append, List.append_assoc, List.take_left' hft]
    have hone : ∀ u ∈ ([S1 k, pv] : List Value), u.oneCell' = true := by intro u hu; simp at hu; rcases hu with rfl | rfl; rfl; exact hpv
    have hb1 : Blk (w.drew.alloc (.cells ROW 43)) w.heap.size ROW 43 := Blk.new w.drew ROW 43
    have hvb1 : Blk (w.drew.alloc (.cells ROW 43)) vb #[S1 k, pv] 43 := (Blk.drew hvb).alloc _
    have hgb1 : Blk (w.drew.alloc (.cells ROW 43)) g cur 43 := (Blk.drew hgb).alloc _
    obtain ⟨row1, hrow1⟩ : ∃ c, c = (ROW.toList.take (i * 2) ++ [S1 k, pv] ++ ROW.toList.drop (i * 2 + [S1 k, pv].length)).toArray := ⟨_, rfl⟩
    have hcA : ∀ W, W = w.drew.alloc (.cells ROW 43) → (Builtin.copy_ #[27, 27] 3 #[.slice (some ⟨w.heap.size, i * 2, none⟩) (n + 1 - i) (G - i), .slice (some ⟨vb, 0, none⟩) 1 1]).run Tryz.prog W = .ok (goInt (Nat.min 1 (n + 1 - i))) (W.setRow w.heap.size row1) := by
      rintro W rfl
      have := run_copy_rowk (P := Tryz.prog) (w.drew.alloc (.cells ROW 43)) 27 27 3 43 w.heap.size (i * 2) (n + 1 - i) (G - i) ⟨vb, 0, none⟩ 1 1 ROW 43 [S1 k, pv] 2 elem27 info43_size hb1 (by simp only [Nat.min_def]; split <;> simp <;> omega) (oneNews hvb1) (by simp; omega) hone
      rw [← hrow1] at this
      exact this
    have hrs1 : row1.size = G * 2 := by rw [hrow1]; simp; omega
    obtain ⟨row2, hrow2⟩ : ∃ c, c = (row1.toList.take ((i + 1) * 2) ++ flatH (xs.drop i) ++ row1.toList.drop ((i + 1) * 2 + (flatH (xs.drop i)).length)).toArray := ⟨_, rfl⟩
    have hcB : ∀ W, Blk W w.heap.size row1 43 → Blk W g cur 43 → (Builtin.copy_ #[27, 27] 3 #[.slice (some ⟨w.heap.size, (i + 1) * 2, none⟩) (n - i) (G - (i + 1)), .slice (some ⟨g, i * 2, none⟩) (n - i) (cap - i)]).run Tryz.prog W = .ok (goInt (Nat.min (n - i) (n - i))) (W.setRow w.heap.size row2) := by
      intro W hb2 hg2
      have := run_copy_rowk (P := Tryz.prog) W 27 27 3 43 w.heap.size ((i + 1) * 2) (n - i) (G - (i + 1)) ⟨g, i * 2, none⟩ (n - i) (cap - i) row1 43 (flatH (xs.drop i)) 2 elem27 info43_size hb2 (by rw [hfl]; simp only [Nat.min_def]; split <;> omega) (cur_cells hg2 (by rw [hn]; exact htake) hn i (by omega)) (by rw [hfl]; omega) (fun u hu => OneC.flat (fun p hp => h1 p (List.mem_of_mem_drop hp)) u hu)
      rw [← hrow2] at this
      exact this
    have hrs2 : row2.size = G * 2 := by rw [hrow2]; simp; rw [hfl]; omega
    have htk : row2.toList.take ((n + 1) * 2) = flatH (xs.take i ++ (k, pv) :: xs.drop i) := by
      have t1 : row1.toList.take ((i + 1) * 2) = flatH (xs.take i) ++ [S1 k, pv] := by
        rw [hrow1]
        simp only
        rw [hRt, List.take_left' (by simp [hft]; omega)]
      rw [hrow2]
      simp only
      rw [t1, flatH_append, flatH_cons]
      have e : flatH (xs.take i) ++ S1 k :: pv :: flatH (xs.drop i) = flatH (xs.take i) ++ [S1 k, pv] ++ flatH (xs.drop i) := by simp
      rw [e, List.take_left' (by simp only [List.length_append, List.length_cons, List.length_nil, hft, hfl]; omega)]
    have hlen : (xs.take i ++ (k, pv) :: xs.drop i).length = n + 1 := by simp; omega
    have hne2 : w.heap.size ≠ g := by omega
    have hb2 : Blk (((w.drew.alloc (.cells ROW 43)).setRow w.heap.size row1).drew) w.heap.size row1 43 := setRow_heap _ _ _ _ 43 (0, 0) hb1
    have hg2 : Blk (((w.drew.alloc (.cells ROW 43)).setRow w.heap.size row1).drew) g cur 43 := hgb1.move (setRow_other _ _ _ _ (Ne.symm hne2))
    have hfin : HR ((((w.drew.alloc (.cells ROW 43)).setRow w.heap.size row1).drew).setRow w.heap.size row2) base (.slice (some ⟨w.heap.size, 0, none⟩) (n + 1) G) (xs.take i ++ (k, pv) :: xs.drop i) := by
      refine ⟨by rw [flatH_len], .inr ⟨w.heap.size, G, row2, by rw [hlen], hbase, setRow_heap _ _ row1 row2 43 (0, 0) hb2, by omega, hGm, hrs2, by rw [hlen]; exact htk⟩⟩
    have hk : Kp [] w ((((w.drew.alloc (.cells ROW 43)).setRow w.heap.size row1).drew).setRow w.heap.size row2) := by
      refine ⟨rfl, rfl, rfl, by simp [World.setRow], fun j hj hn => ?_⟩
      have hjg : j ≠ w.heap.size := by omega
      rw [setRow_other _ _ _ _ hjg]
      show ((w.drew.alloc (.cells ROW 43)).setRow w.heap.size row1).heap[j]? = _
      rw [setRow_other _ _ _ _ hjg]
      exact Below.heap_alloc w.drew _ j hj
    have HF := Lib.hid (And.intro hfin hk)
    rw [← hn]
    rw [← hn] at hroom hi hl
    have hG63 : G ≤ 9223372036854775807 := by unfold maxLen at hGm; omega
    have hcn : n ≤ cap := by omega
    have hs0 : ∀ w : World, (Instr.sliceAt 27 (.slice (some ⟨g, 0, none⟩) n cap) (some (.int .i64 (i : Int))) none none).run Tryz.prog w = .ok (.slice (some ⟨g, i * 2, none⟩) (n - i) (cap - i)) w := fun w => run27_l w g n cap i (by omega) (by omega)
    have hs1 : ∀ w : World, (Instr.sliceAt 27 (.slice (some ⟨g, 0, none⟩) n cap) none (some (.int .i64 (i : Int))) none).run Tryz.prog w = .ok (.slice (some ⟨g, 0, none⟩) i cap) w := fun w => run27_h w _ n cap i (by omega)
    have hs2 : ∀ v : World, (Instr.sliceAt 27 (.slice (some ⟨w.heap.size, 0, none⟩) (n + 1) G) (some (.int .i64 ((i : Int) + 1))) none none).run Tryz.prog v = .ok (.slice (some ⟨w.heap.size, (i + 1) * 2, none⟩) (n - i) (G - (i + 1))) v := fun v => by
      have := run27_l v w.heap.size (n + 1) G (i + 1) (by omega) (by omega)
      rw [show n + 1 - (i + 1) = n - i from by omega] at this
      exact this
    have hs3 : ∀ v : World, (Instr.sliceAt 27 (.slice (some ⟨w.heap.size, 0, none⟩) (n + 1) G) (some (.int .i64 (i : Int))) none none).run Tryz.prog v = .ok (.slice (some ⟨w.heap.size, i * 2, none⟩) (n + 1 - i) (G - i)) v := fun v => run27_l v w.heap.size (n + 1) G i (by omega) (by omega)
    have hw1 : IntKind.i64.wrap ((i : Int) + 1) = (i : Int) + 1 := IntWalk.i64_in _ (by omega)
    have hz1 : ((i : Int) == (n : Int)) = false := by rw [beq_eq_false_iff_ne]; omega
    have hz2 : decide ((cap : Int) < (n : Int) + 1) = true := by simp; omega
    have hnl : (n : Int) ≤ 1000 := by omega
    have hil : (i : Int) ≤ 1000 := by omega
    have hcA' := hcA ((w.alloc (.cells ROW 43)).drew) rfl
    have HB2 := Lib.hid hb2
    have HG2 := Lib.hid hg2
    clear hcA
    clear hfin hk htk hlen hvb hvb1 hgb1 hgb hg htake h h1 hcs hrs1 hrs2 hrow1 hrow2 hfl hn hone hnc hcm hb hv2 hb1 hb2 hg2 hRt hRs hROW hG hGm hzc hft hold h1i h2i h3i h4i hGn hne2 hgl hvl
    go_enter Tryz.func82, Tryz.ntmps82
    go_wp2_with (first | (at_builtin; refine wpList_append_run2 _ rfl (.tmp 34) (.tmp 39) 27 3 rfl (.slice (some ⟨g, 0, none⟩) i cap) (.int .i64 ((n : Int) + 1 - (i : Int))) rfl rfl hz ?_) | (at_builtin; refine wpList_copy_run _ rfl (.tmp 43) (.tmp 44) 27 27 rfl (.slice (some ⟨w.heap.size, i * 2, none⟩) (n + 1 - i) (G - i)) (.slice (some ⟨vb, 0, none⟩) 1 1) rfl rfl hcA' ?_))
    go_region_law ((refine step_copy_run rfl (.tmp 50) (.tmp 53) 27 27 rfl (.slice (some ⟨w.heap.size, (i + 1) * 2, none⟩) (n - i) (G - (i + 1))) (.slice (some ⟨g, i * 2, none⟩) (n - i) (cap - i)) (by simp [Act.eval, Act.put]) (by simp [Act.eval, Act.put]) (hcB _ HB2.out HG2.out) ?_))
    go_wp2
    go_ret
    exact ⟨_, rfl, HF.out.1, HF.out.2.mono (by simp), fun b hb => .inr (by injection hb with hb; rw [← hb]; exact Nat.le_refl _)⟩
theorem insert_any (v : Value) (i : Nat) (h : HR w base v xs) (h1 : OneC xs) (hi : i ≤ xs.length) (hvb : Blk w vb #[S1 k, pv] 43) (hpv : pv.oneCell' = true) (hne : v.ownBlock ≠ some vb) (hbase : base ≤ w.heap.size) (hl : xs.length ≤ 1000) :
    Calls Tryz.prog 82 #[v, .int .i64 i, .slice (some ⟨vb, 0, none⟩) 1 1] w fun e w' => InsPost w base v (xs.take i ++ (k, pv) :: xs.drop i) e w' := by
  by_cases he : i = xs.length
  · subst he
    rw [List.take_length, List.drop_length]
    exact insert_end v h hvb hpv hbase hl
  · rcases h.2 with ⟨hv, h0⟩ | ⟨g, cap, cur, hv, hb, hg, hnc, hcm, hcs, htake⟩
    · omega
    · subst hv
      by_cases hroom : xs.length + 1 ≤ cap
      · exact insert_room g cap i h h1 (by omega) hroom hvb hpv (fun e => hne (by rw [e]; rfl)) hl
      · exact insert_grow g cap i h h1 (by omega) hroom hvb hpv hbase hl
end
end Go.Proofs.YtkbgnplknifmhaaGreatDoor
namespace Go.Proofs.YtkbgnplknifmhaaGreatDoor
open Go.RowKit
attribute [local go_sem ↓] Go.wp_at_zero Go.wp_at_succ
/-! ### spec.add (70) -/
theorem bytesLess_eq (a b : Bytes) : Op.bytesLess a b = bytesBefore a b := by
  induction a generalizing b with
  | nil => cases b <;> rfl
  | cons x a ih =>
    cases b with
    | nil => rfl
    | cons y b =>
      show (decide (x < y) || (x == y && Op.bytesLess a b)) = (decide (x < y) || (x == y && bytesBefore a b))
      rw [ih]
/-- One text more in a row of texts of the call's own. -/
theorem append_OV (w : World) (base : Nat) (ty : TypeId) (v : Value) (vs : List Bytes) (h : OV w base v vs) (g : Nat) (s : Bytes) (hs : w.cell? ⟨g, 0, none⟩ = some (S1 s)) (hl : vs.length ≤ 100000) (hbase : base ≤ w.heap.size) :
    ∃ v' w', (Builtin.append_ #[41, 41] ty #[v, .slice (some ⟨g, 0, none⟩) 1 1]).run Tryz.prog w = .ok v' w' ∧ OV w' base v' (vs ++ [s]) ∧ Kp v.ownBlock.toList w w' ∧ (∀ b, v'.ownBlock = some b → v.ownBlock = some b ∨ w.heap.size ≤ b) := by
  obtain ⟨i, h1, h2, h3, h4⟩ := ti9
  have hnews : ∀ j u, ([S1 s] : List Value)[j]? = some u → w.cell? ((⟨g, 0, none⟩ : Addr).add j) = some u := by
    intro j u hj
    cases j with
    | zero => simp at hj; subst hj; simpa [Addr.add] using hs
    | succ j => simp at hj
  have hone : ∀ u ∈ ([S1 s] : List Value), u.oneCell' = true := by intro u hu; simp at hu; subst hu; rfl
  have hll : (vs ++ [s]).length = vs.length + 1 := by simp
  rcases h.2 with ⟨hv, h0⟩ | ⟨gg, cap, cur, hv, hbb, hg, hnc, hcm, hcs, htake⟩
  · have hx : vs = [] := List.eq_nil_of_length_eq_zero h0
    subst hx; subst hv
    obtain ⟨v', w', e1, e2, e3, _⟩ := run_append_own (P := Tryz.prog) w w.heap.size 41 ty 9 i _ 1 16 elem41 h1 h2 h3 h4 rfl (by decide) (.slice none 0 0) 0 [] (World.ownsRow_nil w _ 9 1) ⟨g, 0, none⟩ 1 1 [S1 s] rfl hnews hone (by unfold maxLen; omega) (by omega) (Nat.le_refl _)
    have e2' : OV w' w.heap.size v' ([] ++ [s]) := by unfold OV; simpa using e2
    have hnew : ∀ b, v'.ownBlock = some b → w.heap.size ≤ b := fun b hb => (World.ownsRow.lt e2' b hb).1
    exact ⟨v', w', e1, e2'.base hbase, (Kp.refl _ w).grown e3 (by intro k hk; simp [Value.ownBlock] at hk), fun b hb => .inr (hnew b hb)⟩
  · subst hv
    by_cases hfit : vs.length + 1 ≤ cap
    · obtain ⟨w', e1, e2, e3⟩ := run_append_fits (P := Tryz.prog) w base 41 ty 9 i 1 elem41 h1 h3 gg vs.length cap _ h ⟨g, 0, none⟩ 1 1 [S1 s] rfl hnews hone hfit
      refine ⟨_, w', e1, ?_, (Kp.refl _ w).grown e3 (by intro k hk; left; simpa [Value.ownBlock] using hk.symm), fun b hb => .inl hb⟩
      unfold OV
      rw [hll, List.map_append]; exact e2
    · obtain ⟨v', w', e1, e2, e3⟩ := run_append_arg_grows (P := Tryz.prog) w 41 ty 9 i _ 1 16 elem41 h1 h2 h3 h4 rfl (by decide) ⟨gg, 0, none⟩ vs.length cap (vs.map S1) (by simp) (World.ownsRow.cells h rfl) ⟨g, 0, none⟩ 1 1 [S1 s] rfl hnews (by omega) (by unfold maxLen; omega) (by omega)
      have e2' : OV w' w.heap.size v' (vs ++ [s]) := by unfold OV; rw [hll, List.map_append]; exact e2
      have hnew : ∀ b, v'.ownBlock = some b → w.heap.size ≤ b := fun b hb => (World.ownsRow.lt e2' b hb).1
      exact ⟨v', w', e1, e2'.base hbase, (Kp.refl _ w).grown e3 (by simp), fun b hb => .inr (hnew b hb)⟩
/-- A header list of the call's own. -/
def Sep (svs : List (Bytes × Value)) : Prop := svs.Pairwise fun p q => ∀ b, p.2.ownBlock = some b → q.2.ownBlock ≠ some b
structure HLx (w : World) (base : Nat) (v : Value) (svs : List (Bytes × Value)) (hs : HL) : Prop where
  row : HR w base v svs
  two : Two (fun sv vs => OV w base sv vs) svs hs
  sep : Sep svs
theorem OV.one {w : World} {base : Nat} {v : Value} {vs : List Bytes} (h : OV w base v vs) : v.oneCell' = true := by
  rcases h.2 with ⟨rfl, _⟩ | ⟨g, cap, cur, rfl, _⟩ <;> rfl
theorem OV.type {w : World} {base : Nat} {v : Value} {vs : List Bytes} (h : OV w base v vs) : ∀ b, v.ownBlock = some b → b < w.heap.size ∧ base ≤ b ∧ ∃ cur, w.heap[b]? = some (.cells cur 9 (0, 0)) := by
  intro b hb
  rcases h.2 with ⟨rfl, _⟩ | ⟨g, cap, cur, rfl, hbb, hg, _⟩
  · simp [Value.ownBlock] at hb
  · simp [Value.ownBlock] at hb
    subst hb
    exact ⟨(Array.getElem?_eq_some_iff.1 hg).1, hbb, cur, hg⟩
theorem HR.type {w : World} {base : Nat} {v : Value} {xs : List (Bytes × Value)} (h : HR w base v xs) : ∀ b, v.ownBlock = some b → b < w.heap.size ∧ base ≤ b ∧ ∃ cur, w.heap[b]? = some (.cells cur 43 (0, 0)) := by
  intro b hb
  rcases h.2 with ⟨rfl, _⟩ | ⟨g, cap, cur, rfl, hbb, hg, _⟩
  · simp [Value.ownBlock] at hb
  · simp [Value.ownBlock] at hb
    subst hb
    exact ⟨(Array.getElem?_eq_some_iff.1 hg).1, hbb, cur, hg⟩
theorem ov_hr_apart {w : World} {b1 b2 : Nat} {v u : Value} {xs : List (Bytes × Value)} {vs : List Bytes} (h : HR w b1 v xs) (k : OV w b2 u vs) : ∀ b, v.ownBlock = some b → u.ownBlock ≠ some b := by
  intro b hb hu
  obtain ⟨_, _, c1, h1⟩ := h.type b hb
  obtain ⟨_, _, c2, h2⟩ := k.type b hu
  rw [h1] at h2
  injection h2 with h2
  injection h2 with _ h2
  cases h2
section
variable {w w' : World} {base : Nat} {v : Value} {svs : List (Bytes × Value)} {hs : HL}
theorem Two.len {α β : Type} {r : α → β → Prop} {l : List (Bytes × α)} {m : List (Bytes × β)} (h : Two r l m) : l.length = m.length := by
  induction h with
  | nil => rfl
  | cons k a b l m h t ih => simp [ih]
theorem HLx.one (h : HLx w base v svs hs) : OneC svs := by
  intro p hp
  obtain ⟨b, hb⟩ := h.two.mem p hp
  exact hb.one
theorem HLx.kp {S : List Nat} (h : HLx w base v svs hs) (k : Kp S w w') (h1 : ∀ b ∈ S, v.ownBlock ≠ some b) (h2 : ∀ p ∈ svs, ∀ b ∈ S, p.2.ownBlock ≠ some b) : HLx w' base v svs hs :=
  ⟨h.row.kp k h1, h.two.mono (fun p hp _b hb => hb.kp k (h2 p hp)), h.sep⟩
/-- The place of a key among ascending ones. -/
def posOf {α : Type} (k : Bytes) : List (Bytes × α) → Nat
  | [] => 0
  | p :: r => if bytesBefore p.1 k then posOf k r + 1 else 0
theorem posOf_le {α : Type} (k : Bytes) (l : List (Bytes × α)) : posOf k l ≤ l.length := by
  induction l with
  | nil => simp [posOf]
  | cons p r ih => unfold posOf; split <;> simp <;> omega
theorem posOf_before {α : Type} (k : Bytes) (l : List (Bytes × α)) (i : Nat) (hi : i < posOf k l) : ∃ p, l[i]? = some p ∧ bytesBefore p.1 k = true := by
  induction l generalizing i with
  | nil => simp [posOf] at hi
  | cons p r ih =>
    unfold posOf at hi
    split at hi
    · rename_i hb
      cases i with
      | zero => exact ⟨p, rfl, hb⟩
      | succ i => simpa using ih i (by omega)
    · omega
theorem posOf_at {α : Type} (k : Bytes) (l : List (Bytes × α)) (p : Bytes × α) (hp : l[posOf k l]? = some p) : bytesBefore p.1 k = false := by
  induction l with
  | nil => simp at hp
  | cons q r ih =>
    unfold posOf at hp
    split at hp
    · rw [List.getElem?_cons_succ] at hp; exact ih hp
    · rename_i hb
      simp at hp
      subst hp
      simpa using hb
theorem Two.pos {α β : Type} {r : α → β → Prop} {l : List (Bytes × α)} {m : List (Bytes × β)} (h : Two r l m) (k : Bytes) : posOf k l = posOf k m := by
  induction h with
  | nil => rfl
  | cons k' a b l m h t ih => unfold posOf; rw [ih]
theorem flat_get (xs : List (Bytes × Value)) (i : Nat) (p : Bytes × Value) (h : xs[i]? = some p) : (flatH xs)[i * 2]? = some (S1 p.1) ∧ (flatH xs)[i * 2 + 1]? = some p.2 := by
  induction xs generalizing i with
  | nil => simp at h
  | cons x r ih =>
    rw [flatH_cons]
    cases i with
    | zero => simp at h; subst h; exact ⟨rfl, rfl⟩
    | succ i =>
      have := ih i (by simpa using h)
      rw [show (i + 1) * 2 = i * 2 + 1 + 1 from by omega]
      simpa using this
theorem flat_set (xs : List (Bytes × Value)) (i : Nat) (k : Bytes) (u u' : Value) (h : xs[i]? = some (k, u)) : (flatH xs).set (i * 2 + 1) u' = flatH (xs.set i (k, u')) := by
  induction xs generalizing i with
  | nil => simp at h
  | cons x r ih =>
    cases i with
    | zero => simp at h; subst h; rfl
    | succ i =>
      have := ih i (by simpa using h)
      rw [flatH_cons, show (i + 1) * 2 + 1 = (i * 2 + 1) + 1 + 1 from by omega]
      simp only [List.set_cons_succ, flatH_cons, this]
/-- A row that is not empty: where it lies, and its cells. -/
theorem HR.open (h : HR w base v svs) (hn : 0 < svs.length) : ∃ g c, v = .slice (some ⟨g, 0, none⟩) svs.length c ∧ svs.length ≤ c ∧ c ≤ 9223372036854775807 ∧ base ≤ g ∧ g < w.heap.size ∧ (∀ i, w.frozen? ⟨g, i, none⟩ = false) ∧ (∀ i p, svs[i]? = some p → w.cell? ⟨g, i * 2, none⟩ = some (S1 p.1) ∧ w.cell? ⟨g, i * 2 + 1, none⟩ = some p.2) := by
  rcases h.2 with ⟨_, h0⟩ | ⟨g, cap, cur, hv, hb, hg, hnc, hcm, hcs, htake⟩
  · omega
  · have hgb : Blk w g cur 43 := hg
    refine ⟨g, cap, hv, hnc, by unfold maxLen at hcm; omega, hb, hgb.lt, hgb.free, fun i p hp => ?_⟩
    obtain ⟨h1, h2⟩ := flat_get svs i p hp
    rw [← htake, List.getElem?_take] at h1 h2
    constructor
    · split at h1
      · rw [hgb.cell]; simpa using h1
      · cases h1
    · split at h2
      · rw [hgb.cell]; simpa using h2
      · cases h2
theorem HR.setv {g c i : Nat} {k : Bytes} {u u' : Value} (h : HR w base (.slice (some ⟨g, 0, none⟩) svs.length c) svs) (hi : svs[i]? = some (k, u)) : HR (w.setCell ⟨g, i * 2 + 1, none⟩ u') base (.slice (some ⟨g, 0, none⟩) svs.length c) (svs.set i (k, u')) := by
  have hil : i < svs.length := (List.getElem?_eq_some_iff.1 hi).1
  refine ⟨by rw [flatH_len], ?_⟩
  rcases h.2 with ⟨hv, _⟩ | ⟨g', cap, cur, hv, hb, hg, hnc, hcm, hcs, htake⟩
  · cases hv
  · injection hv with hv1 hv2 hv3
    injection hv1 with hv1
    injection hv1 with hv1
    subst hv1; subst hv3
    have hgb : Blk w g cur 43 := hg
    refine .inr ⟨g, c, cur.setIfInBounds (i * 2 + 1) u', by rw [List.length_set], hb, hgb.set _ _, by rw [List.length_set]; exact hnc, hcm, by simp; exact hcs, ?_⟩
    rw [List.length_set, Array.toList_setIfInBounds, List.take_set, htake, flat_set _ _ _ _ _ hi]
theorem Two.set {α β : Type} {r : α → β → Prop} {l : List (Bytes × α)} {m : List (Bytes × β)} (h : Two r l m) (i : Nat) (k : Bytes) (a : α) (b : β) (hk : ∃ u, l[i]? = some (k, u)) (hab : r a b) : Two r (l.set i (k, a)) (m.set i (k, b)) := by
  induction h generalizing i with
  | nil => obtain ⟨u, hu⟩ := hk; simp at hu
  | cons k' a' b' l m h t ih =>
    cases i with
    | zero => exact .cons k a b l m hab t
    | succ i => exact .cons k' a' b' _ _ h (ih i (by simpa using hk))
theorem Sep.set (h : Sep svs) (i : Nat) (k : Bytes) (u : Value) (hu : ∀ j p, j ≠ i → svs[j]? = some p → ∀ b, p.2.ownBlock = some b → u.ownBlock ≠ some b) : Sep (svs.set i (k, u)) := by
  unfold Sep at h ⊢
  induction svs generalizing i with
  | nil => simp
  | cons x r ih =>
    rw [List.pairwise_cons] at h
    cases i with
    | zero =>
      rw [List.set_cons_zero, List.pairwise_cons]
      refine ⟨fun q hq b hb e => ?_, h.2⟩
      obtain ⟨j, hj⟩ := List.mem_iff_getElem?.1 hq
      exact hu (j + 1) q (by omega) (by simpa using hj) b e hb
    | succ i =>
      rw [List.set_cons_succ, List.pairwise_cons]
      refine ⟨fun q hq b hb e => ?_, ih h.2 i (fun j p hj hp => hu (j + 1) p (by omega) (by simpa using hp))⟩
      rcases List.mem_or_eq_of_mem_set hq with hq | rfl
      · exact h.1 q hq b hb e
      · exact hu 0 x (by omega) rfl b hb e
theorem Sep.get (h : Sep svs) (i j : Nat) (p q : Bytes × Value) (hp : svs[i]? = some p) (hq : svs[j]? = some q) (hij : i ≠ j) : ∀ b, p.2.ownBlock = some b → q.2.ownBlock ≠ some b := by
  unfold Sep at h
  have hi := List.getElem?_eq_some_iff.1 hp
  have hj := List.getElem?_eq_some_iff.1 hq
  obtain ⟨hi1, hi2⟩ := hi
  obtain ⟨hj1, hj2⟩ := hj
  rw [List.pairwise_iff_getElem] at h
  intro b hb e
  rcases Nat.lt_or_ge i j with hlt | hge
  · exact h i j hi1 hj1 hlt b (by rw [hi2]; exact hb) (by rw [hj2]; exact e)
  · exact h j i hj1 hi1 (by omega) b (by rw [hj2]; exact e) (by rw [hi2]; exact hb)
theorem two_set_mono {α β : Type} {r r' : α → β → Prop} {l : List (Bytes × α)} {m : List (Bytes × β)} (h : Two r l m) (i : Nat) (k : Bytes) (u v' : α) (_vs vs' : β) (hi : l[i]? = some (k, u)) (hr : ∀ j p, j ≠ i → l[j]? = some p → ∀ b, r p.2 b → r' p.2 b) (hv : r' v' vs') : Two r' (l.set i (k, v')) (m.set i (k, vs')) := by
  induction h generalizing i with
  | nil => simp at hi
  | cons k' a' b' l m h t ih =>
    cases i with
    | zero => exact .cons k v' vs' l m hv (by
        have : ∀ p ∈ l, ∀ b, r p.2 b → r' p.2 b := fun p hp b hb => by
          obtain ⟨j, hj⟩ := List.mem_iff_getElem?.1 hp
          exact hr (j + 1) p (by omega) (by simpa using hj) b hb
        exact t.mono this)
    | succ i => exact .cons k' a' b' _ _ (hr 0 (k', a') (by omega) rfl _ h) (ih i (by simpa using hi) (fun j p hj hp => hr (j + 1) p (by omega) (by simpa using hp)))
/-- What the last statement of add leaves. -/
theorem add_tail {g c i : Nat} {k : Bytes} {u : Value} {vs : List Bytes} (s : Bytes) (h : HLx w base (.slice (some ⟨g, 0, none⟩) svs.length c) svs hs) (hi : svs[i]? = some (k, u)) (_hj : hs[i]? = some (k, vs)) (hov : OV w base u vs) (hl : vs.length ≤ 1000) (hbase : base ≤ w.heap.size) :
    ∃ v' w4, (Builtin.append_ #[41, 41] 41 #[u, .slice (some ⟨w.heap.size, 0, none⟩) 1 1]).run Tryz.prog (w.alloc (.cells #[S1 s] 9)) = .ok v' w4 ∧ (∃ a n c, v' = .slice a n c) ∧ w4.cell? ⟨g, i * 2 + 1, none⟩ = some u ∧ w4.frozen? ⟨g, i * 2 + 1, none⟩ = false ∧
      HLx (w4.setCell ⟨g, i * 2 + 1, none⟩ v') base (.slice (some ⟨g, 0, none⟩) svs.length c) (svs.set i (k, v')) (hs.set i (k, vs ++ [s])) ∧ ∃ S, Kp S w (w4.setCell ⟨g, i * 2 + 1, none⟩ v') ∧ ∀ x ∈ S, base ≤ x := by
  have hk1 : Kp [] w (w.alloc (.cells #[S1 s] 9)) := (Kp.refl _ _).alloc _
  have hnew : (w.alloc (.cells #[S1 s] 9)).cell? ⟨w.heap.size, 0, none⟩ = some (S1 s) := by
    have := Blk.new w #[S1 s] 9
    rw [this.cell]; rfl
  have h1 := h.kp hk1 (by simp) (by simp)
  have hil : i < svs.length := (List.getElem?_eq_some_iff.1 hi).1
  obtain ⟨v', w4, e1, e2, e3, e4⟩ := append_OV (w.alloc (.cells #[S1 s] 9)) base 41 u vs (hov.kp hk1 (by simp)) w.heap.size s hnew (by omega) (by simp; omega)
  have hgu : (Value.slice (some ⟨g, 0, none⟩) svs.length c).ownBlock = some g := rfl
  have hsz1 : (w.alloc (.cells #[S1 s] 9)).heap.size = w.heap.size + 1 := by simp
  have hS : ∀ b ∈ u.ownBlock.toList, (Value.slice (some ⟨g, 0, none⟩) svs.length c).ownBlock ≠ some b := fun b hb e => ov_hr_apart h.row hov b e (by simpa using hb)
  have hrow4 := h1.row.kp e3 hS
  obtain ⟨g', c', hv, hnc, hc63, hbg, hgl, hfz, hcell⟩ := hrow4.open (by omega)
  injection hv with hv1 _ hv3
  injection hv1 with hv1
  injection hv1 with hv1
  subst hv1
  have hc4 := (hcell i _ hi).2
  refine ⟨v', w4, e1, by rcases e2.2 with ⟨h0, _⟩ | ⟨_, _, _, h0, _⟩ <;> exact ⟨_, _, _, h0⟩, hc4, hfz _, ?_, g :: u.ownBlock.toList, ?_, ?_⟩
  · have hk5 : Kp [g] w4 (w4.setCell ⟨g, i * 2 + 1, none⟩ v') := (Kp.refl _ _).setCell (.inl (by simp)) _
    have hov' : ∀ p ∈ svs.set i (k, v'), ∀ b, p.2.ownBlock = some b → b ≠ g := by
      intro p hp b hb e
      subst e
      rcases List.mem_or_eq_of_mem_set hp with hp | rfl
      · obtain ⟨vs2, hv2⟩ := h.two.mem p hp
        exact ov_hr_apart h.row hv2 b rfl hb
      · exact ov_hr_apart hrow4 e2 b rfl hb
    have hother : ∀ j p, j ≠ i → svs[j]? = some p → ∀ b, p.2.ownBlock = some b → u.ownBlock ≠ some b := fun j p hji hp b hb => h.sep.get j i p (k, u) hp hi hji b hb
    refine ⟨hrow4.setv hi, ?_, ?_⟩
    · have t1 : Two (fun sv vs => OV w4 base sv vs) (svs.set i (k, v')) (hs.set i (k, vs ++ [s])) := by
        have : ∀ p ∈ svs.set i (k, v'), True := fun _ _ => trivial
        have hmem : ∀ j p, j ≠ i → svs[j]? = some p → ∀ vs', OV w base p.2 vs' → OV w4 base p.2 vs' := fun j p hji hp vs' hv' => (hv'.kp hk1 (by simp)).kp e3 (fun b hb e => hother j p hji hp b e (by simpa using hb))
        exact two_set_mono h.two i k u v' vs (vs ++ [s]) hi hmem e2
      exact t1.mono (fun p hp b hb => hb.kp hk5 (fun x hx e => by simp at hx; subst hx; exact hov' p hp x e rfl))
    · refine h.sep.set i k v' (fun j p hji hp b hb e => ?_)
      rcases e4 b e with h5 | h5
      · exact hother j p hji hp b hb h5
      · obtain ⟨vs2, hv2⟩ := h.two.mem p (List.mem_of_getElem? hp)
        have := (hv2.type b hb).1
        omega
  · exact ((hk1.mono (by simp)).trans (e3.mono (fun x hx _ => by simp [hx]))).setCell (.inl (by simp)) _
  · intro x hx
    simp only [List.mem_cons] at hx
    rcases hx with rfl | hx
    · exact hbg
    · exact (hov.type x (by simpa using hx)).2.1
end
end Go.Proofs.YtkbgnplknifmhaaGreatDoor
namespace Go.Proofs.YtkbgnplknifmhaaGreatDoor
open Go.RowKit
attribute [local go_sem ↓] Go.wp_at_zero Go.wp_at_succ
theorem addP_old (k s : Bytes) (hs : HL) (vs : List Bytes) (h : hs[posOf k hs]? = some (k, vs)) : hs.set (posOf k hs) (k, vs ++ [s]) = addP k s hs := by
  induction hs with
  | nil => simp at h
  | cons p r ih =>
    unfold posOf at h ⊢
    unfold addP
    by_cases hb : bytesBefore p.1 k = true
    · rw [if_pos hb] at h ⊢
      rw [if_pos hb, List.set_cons_succ, ih (by simpa using h)]
    · rw [if_neg hb] at h ⊢
      rw [if_neg hb]
      simp at h
      subst h
      simp
theorem addP_new (k s : Bytes) (hs : HL) (h : ∀ p, hs[posOf k hs]? = some p → p.1 ≠ k) : (hs.take (posOf k hs) ++ (k, []) :: hs.drop (posOf k hs)).set (posOf k hs) (k, [] ++ [s]) = addP k s hs := by
  induction hs with
  | nil => simp [posOf, addP]
  | cons p r ih =>
    unfold posOf at h ⊢
    unfold addP
    by_cases hb : bytesBefore p.1 k = true
    · rw [if_pos hb] at h ⊢
      rw [if_pos hb, List.take_succ_cons, List.drop_succ_cons, List.cons_append, List.set_cons_succ, ih (fun q hq => h q (by simpa using hq))]
    · rw [if_neg hb] at h ⊢
      have := h p rfl
      rw [if_neg hb, if_neg this]
      simp
section
variable {w w' : World} {base : Nat} {v : Value} {svs : List (Bytes × Value)} {hs : HL}
theorem two_ins {α β : Type} {r : α → β → Prop} {l : List (Bytes × α)} {m : List (Bytes × β)} (h : Two r l m) (i : Nat) (k : Bytes) (a : α) (b : β) (hab : r a b) : Two r (l.take i ++ (k, a) :: l.drop i) (m.take i ++ (k, b) :: m.drop i) := by
  induction h generalizing i with
  | nil => simpa using Two.cons k a b [] [] hab .nil
  | cons k' a' b' l m h t ih =>
    cases i with
    | zero => simpa using Two.cons k a b _ _ hab (.cons k' a' b' l m h t)
    | succ i => simpa using Two.cons k' a' b' _ _ h (ih i)
theorem sep_ins (h : Sep svs) (i : Nat) (k : Bytes) : Sep (svs.take i ++ (k, .slice none 0 0) :: svs.drop i) := by
  have h1 : Sep (svs.take i ++ svs.drop i) := by rw [List.take_append_drop]; exact h
  unfold Sep at h1 ⊢
  rw [List.pairwise_append] at h1 ⊢
  refine ⟨h1.1, ?_, fun p hp q hq b hb e => ?_⟩
  · rw [List.pairwise_cons]
    exact ⟨fun q hq b hb => by simp [Value.ownBlock] at hb, h1.2.1⟩
  · rcases List.mem_cons.1 hq with rfl | hq
    · simp [Value.ownBlock] at e
    · exact h1.2.2 p hp q hq b hb e
theorem HLx.ins (h : HLx w base v svs hs) (i : Nat) (k : Bytes) {v' : Value} (hr : HR w' base v' (svs.take i ++ (k, .slice none 0 0) :: svs.drop i)) (hk : Kp v.ownBlock.toList w w') : HLx w' base v' (svs.take i ++ (k, .slice none 0 0) :: svs.drop i) (hs.take i ++ (k, []) :: hs.drop i) :=
  ⟨hr, (two_ins (h.two.mono (fun p hp b hb => hb.kp hk (fun x hx e => ov_hr_apart h.row hb x (by simpa using hx) e))) i k _ _ (World.ownsRow_nil w' base 9 1)), sep_ins h.sep i k⟩
def AddPost (w : World) (base : Nat) (hs' : HL) (e : Ending) (w' : World) : Prop := ∃ v' svs', e = .returned v' ∧ HLx w' base v' svs' hs' ∧ ∃ S, Kp S w w' ∧ ∀ x ∈ S, base ≤ x
theorem ix27 (g n c : Nat) : ∀ (w : World) (i : Nat), i < n → (Instr.indexAt 27 (.slice (some ⟨g, 0, none⟩) n c) (.int .i64 (i : Int))).run Tryz.prog w = .ok (.pointer (some ⟨g, i * 2, none⟩)) w := by
  intro w i h1
  have isS : Tryz.prog.underlying 27 = some (.slice (Tryz.prog.elem 27)) := isSlice27
  rw [run_indexAt_slice _ _ _ _ _ _ _ isS]
  simp [h1, elem27_eq, Addr.add_lit]
theorem Two.at_ {α β : Type} {r : α → β → Prop} {l : List (Bytes × α)} {m : List (Bytes × β)} (h : Two r l m) (i : Nat) (p : Bytes × α) (hp : l[i]? = some p) : ∃ b, m[i]? = some (p.1, b) ∧ r p.2 b := by
  induction h generalizing i with
  | nil => simp at hp
  | cons k a b l m h t ih =>
    cases i with
    | zero => simp at hp; subst hp; exact ⟨b, rfl, h⟩
    | succ i => simpa using ih i (by simpa using hp)
set_option maxRecDepth 20000 in
set_option maxHeartbeats 2000000 in
theorem add_row (k s : Bytes) (g c : Nat) (h : HLx w base (.slice (some ⟨g, 0, none⟩) svs.length c) svs hs) (hn : 0 < svs.length) (hbase : base ≤ w.heap.size) (hl : hs.length ≤ 500) (hvl : ∀ p ∈ hs, p.2.length ≤ 500) :
    Calls Tryz.prog 70 #[.slice (some ⟨g, 0, none⟩) svs.length c, .string (str k), .string (str s)] w fun e w' => AddPost w base (addP k s hs) e w' := by
  obtain ⟨g', c', hv, hnc, hc63, hbg, hgl, hfz, hcell⟩ := h.row.open hn
  injection hv with hv1 _ hv3
  injection hv1 with hv1
  injection hv1 with hv1
  subst hv1; subst hv3
  have hlen := h.two.len
  have hpos := h.two.pos k
  have hple := posOf_le k svs
  obtain ⟨n, hnn⟩ : ∃ n, n = svs.length := ⟨_, rfl⟩
  have hix := ix27 g n c
  have HH := Lib.hid h
  have HNN := Lib.hid hnn
  have HCELL := Lib.hid hcell
  have HVL := Lib.hid hvl
  have HIX := Lib.hid hix
  have HPOS := Lib.hid hpos
  have HLEN := Lib.hid hlen
  rw [← hnn]
  rw [← hnn] at hn hnc hple
  have hnl : (n : Int) ≤ 500 := by omega
  clear h hcell hvl hix hpos hlen hnn
  go_enter Tryz.func70, Tryz.ntmps70
  go_wp2
  go_loop [7] (fun i => ∃ j : Nat, j ≤ posOf k svs ∧ i = .int .i64 j) (fun i => n - (intOf i).toNat)
  case atStart => exact ⟨0, Nat.zero_le _, rfl⟩
  case round =>
    obtain ⟨j, hj, rfl⟩ := hrel
    by_cases hjp : j < posOf k svs
    · obtain ⟨p, hp, hbf⟩ := posOf_before k svs j hjp
      have hcl := (HCELL.out j p hp).1
      have hix := fun w => HIX.out w j (by omega)
      have hlt : decide ((j : Int) < (n : Int)) = true := by simp; omega
      have hbl : Op.bytesLess p.1 k = true := by rw [bytesLess_eq]; exact hbf
      unfold S1 at hcl
      clear hp hbf
      go_wp2
      go_round
      case rel => exact ⟨j + 1, hjp, by go_num⟩
      case measure => simp [intOf]; omega
    · have hje : j = posOf k svs := by omega
      subst hje
      clear hjp hj
      by_cases hen : posOf k svs = n
      · have hen0 := hen
        have HNO : Hid (∀ q, hs[posOf k hs]? = some q → q.1 ≠ k) := by
          intro q hq
          rw [← HPOS.out, List.getElem?_eq_none (by rw [← HLEN.out, ← HNN.out]; omega)] at hq
          cases hq
        have hnlt : ¬ posOf k svs < n := by omega
        have hne : ((posOf k svs : Int) == (n : Int)) = true := by rw [hen]; simp
        have hvb : Blk (w.alloc (.cells #[S1 k, .slice none 0 0] 43)) w.heap.size #[S1 k, .slice none 0 0] 43 := Blk.new _ _ _
        have hka : Kp [] w (w.alloc (.cells #[S1 k, .slice none 0 0] 43)) := (Kp.refl _ _).alloc _
        have h1 := HH.out.kp hka (by simp) (by simp)
        have hcon := insert_any (k := k) (pv := .slice none 0 0) _ (posOf k svs) h1.row h1.one (posOf_le _ _) hvb rfl (by intro e; injection e with e; have e' : g = w.heap.size := e; omega) (by simp; omega) (by have := HLEN.out; omega)
        rw [← HNN.out] at hcon
        have H1 := Lib.hid h1
        have HKA := Lib.hid hka
        clear hvb hka h1
        have HEN := Lib.hid hen
        clear hen0 hen
        go_wp2_with fail
        refine hcon.mono ?_
        rintro e w2 ⟨v2, rfl, hr2, hk2, hnb2⟩
        have hl2 := H1.out.ins (posOf k svs) k hr2 hk2
        have hll2 : (svs.take (posOf k svs) ++ (k, Value.slice none 0 0) :: svs.drop (posOf k svs)).length = svs.length + 1 := by have := posOf_le k svs; simp; omega
        obtain ⟨g2, c2, rfl, hnc2, hc632, hbg2, hgl2, hfz2, hcell2⟩ := hr2.open (by omega)
        have hgi : (svs.take (posOf k svs) ++ (k, Value.slice none 0 0) :: svs.drop (posOf k svs))[posOf k svs]? = some (k, .slice none 0 0) := by
          rw [List.getElem?_append_right (by rw [List.length_take]; omega), List.length_take, Nat.min_eq_left (posOf_le k svs), Nat.sub_self]; rfl
        have hgj : (hs.take (posOf k svs) ++ (k, ([] : List Bytes)) :: hs.drop (posOf k svs))[posOf k svs]? = some (k, []) := by
          have : posOf k svs ≤ hs.length := by rw [← HLEN.out]; exact posOf_le k svs
          rw [List.getElem?_append_right (by rw [List.length_take]; omega), List.length_take, Nat.min_eq_left this, Nat.sub_self]; rfl
        have hb2 : base ≤ w2.heap.size := by omega
        obtain ⟨v', w4, e1, ⟨av, nv, cv, rfl⟩, hc4, hf4, hx4, S, hk4, hS4⟩ := add_tail s hl2 hgi hgj (World.ownsRow_nil w2 base 9 1) (by simp) hb2
        have hcl := (hcell2 _ _ hgi).2
        have hix2 := fun w => ix27 g2 (n + 1) c2 w (posOf k svs) (by omega)
        have hfin : AddPost w base (addP k s hs) (.returned (.slice (some ⟨g2, 0, none⟩) (n + 1) c2)) (w4.setCell ⟨g2, posOf k svs * 2 + 1, none⟩ (.slice av nv cv)) := by
          have hadd := addP_new k s hs HNO.out
          rw [← HPOS.out] at hadd
          rw [hadd] at hx4
          rw [HNN.out, ← hll2]
          have hk2' : Kp [g] (w.alloc (.cells #[S1 k, .slice none 0 0] 43)) w2 := hk2
          refine ⟨_, _, rfl, hx4, g :: S, ?_, ?_⟩
          · exact (HKA.out.mono (by simp)).trans ((hk2'.mono (by intro x hx _; simp at hx; simp [hx])).trans (hk4.mono (by intro x hx _; simp [hx])))
          · intro x hx
            simp only [List.mem_cons] at hx
            rcases hx with rfl | hx
            · exact hbg
            · exact hS4 x hx
        have HFIN := Lib.hid hfin
        rw [hll2, ← HNN.out] at hr2 ⊢
        clear hx4 hk4 hS4 hl2 hgi hgj hcell2 hr2 hk2 hnb2 hfin hcon hll2
        go_wp2_with (at_builtin; refine wpList_append_run2 _ rfl (.tmp 48) (.tmp 50) 41 41 rfl (.slice none 0 0) (.slice (some ⟨w2.heap.size, 0, none⟩) 1 1) rfl rfl e1 ?_)
        go_ret
        exact HFIN.out
      · have hltn : posOf k svs < n := by omega
        have hne : ((posOf k svs : Int) == (n : Int)) = false := by rw [beq_eq_false_iff_ne]; omega
        obtain ⟨p, hp⟩ : ∃ p, svs[posOf k svs]? = some p := by
          refine ⟨svs[posOf k svs]'(by rw [← HNN.out]; omega), List.getElem?_eq_getElem _⟩
        have hbf := posOf_at k svs p hp
        have hcl0 := (HCELL.out _ p hp).1
        have hix := fun w => HIX.out w (posOf k svs) (by omega)
        have hbl : Op.bytesLess p.1 k = false := by rw [bytesLess_eq]; exact hbf
        unfold S1 at hcl0
        by_cases hk : p.1 = k
        · subst hk
          have hkk : (p.1 == p.1) = true := by simp
          obtain ⟨vs, hj, hov⟩ := HH.out.two.at_ _ p hp
          have hvs : vs.length ≤ 500 := HVL.out _ (List.mem_of_getElem? hj)
          obtain ⟨v', w4, e1, ⟨av, nv, cv, rfl⟩, hc4, hf4, hx4, S, hk4, hS4⟩ := add_tail s HH.out hp hj hov (by omega) hbase
          have hcl := (HCELL.out _ p hp).2
          have hadd := addP_old p.1 s hs vs (by rw [← HPOS.out]; exact hj)
          rw [← HPOS.out] at hadd
          rw [hadd] at hx4
          have hfin : AddPost w base (addP p.1 s hs) (.returned (.slice (some ⟨g, 0, none⟩) n c)) (w4.setCell ⟨g, posOf p.1 svs * 2 + 1, none⟩ (.slice av nv cv)) := by
            rw [HNN.out]
            exact ⟨_, _, rfl, hx4, S, hk4, hS4⟩
          have HFIN := Lib.hid hfin
          clear hp hbf hen hx4 hk4 hS4 hadd hj hov hvs hfin
          generalize p.2 = pv at hcl e1 hc4
          go_wp2_with (at_builtin; refine wpList_append_run2 _ rfl (.tmp 48) (.tmp 50) 41 41 rfl pv (.slice (some ⟨w.heap.size, 0, none⟩) 1 1) rfl rfl e1 ?_)
          go_ret
          exact HFIN.out
        · have hkk : (p.1 == k) = false := by simp [hk]
          have HNO : Hid (∀ q, hs[posOf k hs]? = some q → q.1 ≠ k) := by
            intro q hq
            obtain ⟨b, hb, _⟩ := HH.out.two.at_ _ p hp
            rw [← HPOS.out, hb] at hq
            injection hq with hq
            rw [← hq]; exact hk
          have hvb : Blk (w.alloc (.cells #[S1 k, .slice none 0 0] 43)) w.heap.size #[S1 k, .slice none 0 0] 43 := Blk.new _ _ _
          have hka : Kp [] w (w.alloc (.cells #[S1 k, .slice none 0 0] 43)) := (Kp.refl _ _).alloc _
          have h1 := HH.out.kp hka (by simp) (by simp)
          have hcon := insert_any (k := k) (pv := .slice none 0 0) _ (posOf k svs) h1.row h1.one (posOf_le _ _) hvb rfl (by intro e; injection e with e; have e' : g = w.heap.size := e; omega) (by simp; omega) (by have := HLEN.out; omega)
          rw [← HNN.out] at hcon
          have H1 := Lib.hid h1
          have HKA := Lib.hid hka
          clear hvb hka h1
          clear hp hbf hk hen
          go_wp2_with fail
          refine hcon.mono ?_
          rintro e w2 ⟨v2, rfl, hr2, hk2, hnb2⟩
          have hl2 := H1.out.ins (posOf k svs) k hr2 hk2
          have hll2 : (svs.take (posOf k svs) ++ (k, Value.slice none 0 0) :: svs.drop (posOf k svs)).length = svs.length + 1 := by have := posOf_le k svs; simp; omega
          obtain ⟨g2, c2, rfl, hnc2, hc632, hbg2, hgl2, hfz2, hcell2⟩ := hr2.open (by omega)
          have hgi : (svs.take (posOf k svs) ++ (k, Value.slice none 0 0) :: svs.drop (posOf k svs))[posOf k svs]? = some (k, .slice none 0 0) := by
            rw [List.getElem?_append_right (by rw [List.length_take]; omega), List.length_take, Nat.min_eq_left (posOf_le k svs), Nat.sub_self]; rfl
          have hgj : (hs.take (posOf k svs) ++ (k, ([] : List Bytes)) :: hs.drop (posOf k svs))[posOf k svs]? = some (k, []) := by
            have : posOf k svs ≤ hs.length := by rw [← HLEN.out]; exact posOf_le k svs
            rw [List.getElem?_append_right (by rw [List.length_take]; omega), List.length_take, Nat.min_eq_left this, Nat.sub_self]; rfl
          have hb2 : base ≤ w2.heap.size := by omega
          obtain ⟨v', w4, e1, ⟨av, nv, cv, rfl⟩, hc4, hf4, hx4, S, hk4, hS4⟩ := add_tail s hl2 hgi hgj (World.ownsRow_nil w2 base 9 1) (by simp) hb2
          have hcl := (hcell2 _ _ hgi).2
          have hix2 := fun w => ix27 g2 (n + 1) c2 w (posOf k svs) (by omega)
          have hfin : AddPost w base (addP k s hs) (.returned (.slice (some ⟨g2, 0, none⟩) (n + 1) c2)) (w4.setCell ⟨g2, posOf k svs * 2 + 1, none⟩ (.slice av nv cv)) := by
            have hadd := addP_new k s hs HNO.out
            rw [← HPOS.out] at hadd
            rw [hadd] at hx4
            rw [HNN.out, ← hll2]
            have hk2' : Kp [g] (w.alloc (.cells #[S1 k, .slice none 0 0] 43)) w2 := hk2
            refine ⟨_, _, rfl, hx4, g :: S, ?_, ?_⟩
            · exact (HKA.out.mono (by simp)).trans ((hk2'.mono (by intro x hx _; simp at hx; simp [hx])).trans (hk4.mono (by intro x hx _; simp [hx])))
            · intro x hx
              simp only [List.mem_cons] at hx
              rcases hx with rfl | hx
              · exact hbg
              · exact hS4 x hx
          have HFIN := Lib.hid hfin
          rw [hll2, ← HNN.out] at hr2 ⊢
          clear hx4 hk4 hS4 hl2 hgi hgj hcell2 hr2 hk2 hnb2 hfin hcon hll2
          go_wp2_with (at_builtin; refine wpList_append_run2 _ rfl (.tmp 48) (.tmp 50) 41 41 rfl (.slice none 0 0) (.slice (some ⟨w2.heap.size, 0, none⟩) 1 1) rfl rfl e1 ?_)
          go_ret
          exact HFIN.out
set_option maxRecDepth 20000 in
set_option maxHeartbeats 2000000 in
theorem add_nil (k s : Bytes) (hbase : base ≤ w.heap.size) :
    Calls Tryz.prog 70 #[.slice none 0 0, .string (str k), .string (str s)] w fun e w' => AddPost w base (addP k s []) e w' := by
  have h0 : HLx w base (.slice none 0 0) [] [] := ⟨HR.nil w base, .nil, .nil⟩
  have hvb : Blk (w.alloc (.cells #[S1 k, .slice none 0 0] 43)) w.heap.size #[S1 k, .slice none 0 0] 43 := Blk.new _ _ _
  have hka : Kp [] w (w.alloc (.cells #[S1 k, .slice none 0 0] 43)) := (Kp.refl _ _).alloc _
  have h1 := h0.kp hka (by simp) (by simp)
  have hcon := insert_any (k := k) (pv := .slice none 0 0) _ 0 h1.row h1.one (Nat.zero_le _) hvb rfl (by simp [Value.ownBlock]) (by simp; omega) (by simp)
  have H1 := Lib.hid h1
  have HKA := Lib.hid hka
  clear hvb hka h1 h0
  go_enter Tryz.func70, Tryz.ntmps70
  go_wp2
  go_loop [7] (fun i => i = .int .i64 ((0 : Nat) : Int)) (fun i => 0)
  case atStart => rfl
  case round =>
    obtain rfl := hrel
    go_wp2_with fail
    refine hcon.mono ?_
    rintro e w2 ⟨v2, rfl, hr2, hk2, hnb2⟩
    have hl2 := H1.out.ins 0 k hr2 hk2
    simp only [List.take_zero, List.drop_zero, List.nil_append] at hr2 hl2
    obtain ⟨g2, c2, rfl, hnc2, hc632, hbg2, hgl2, hfz2, hcell2⟩ := hr2.open (by simp)
    have hb2 : base ≤ w2.heap.size := by omega
    obtain ⟨v', w4, e1, ⟨av, nv, cv, rfl⟩, hc4, hf4, hx4, S, hk4, hS4⟩ := add_tail (i := 0) s hl2 rfl rfl (World.ownsRow_nil w2 base 9 1) (by simp) hb2
    have hcl := (hcell2 0 _ rfl).2
    have hix2 := fun w => ix27 g2 1 c2 w 0 (by omega)
    have hfin : AddPost w base (addP k s []) (.returned (.slice (some ⟨g2, 0, none⟩) 1 c2)) (w4.setCell ⟨g2, 0 * 2 + 1, none⟩ (.slice av nv cv)) := by
      refine ⟨_, _, rfl, hx4, S, ?_, hS4⟩
      exact (HKA.out.mono (by simp)).trans ((hk2.mono (by intro x hx _; simp [Value.ownBlock] at hx)).trans hk4)
    have HFIN := Lib.hid hfin
    clear hx4 hk4 hS4 hl2 hcell2 hr2 hk2 hnb2 hfin hcon
    simp only [Int.natCast_zero, Nat.zero_mul] at hix2 hcl hc4 hf4 HFIN
    go_wp2_with (at_builtin; refine wpList_append_run2 _ rfl (.tmp 48) (.tmp 50) 41 41 rfl (.slice none 0 0) (.slice (some ⟨w2.heap.size, 0, none⟩) 1 1) rfl rfl e1 ?_)
    go_ret
    exact HFIN.out
theorem add_any (k s : Bytes) (h : HLx w base v svs hs) (hv : svs = [] → v = .slice none 0 0) (hbase : base ≤ w.heap.size) (hl : hs.length ≤ 500) (hvl : ∀ p ∈ hs, p.2.length ≤ 500) :
    Calls Tryz.prog 70 #[v, .string (str k), .string (str s)] w fun e w' => AddPost w base (addP k s hs) e w' := by
  by_cases hs0 : svs = []
  · have := hv hs0
    subst this
    subst hs0
    have : hs = [] := List.eq_nil_of_length_eq_zero (by have := h.two.len; simpa using this.symm)
    subst this
    exact add_nil k s hbase
  · have hn : 0 < svs.length := List.length_pos_iff.2 hs0
    obtain ⟨g, c, rfl, _⟩ := h.row.open hn
    exact add_row k s g c h hn hbase hl hvl
end
end Go.Proofs.YtkbgnplknifmhaaGreatDoor
namespace Go.Proofs.YtkbgnplknifmhaaGreatDoor
open Go.RowKit
attribute [local go_sem ↓] Go.wp_at_zero Go.wp_at_succ
/-! ### spec.head (42) -/
/-- A slice that shows the bytes l, in the block of a. -/
structure Sub (w : World) (a0 : Option Addr) (l : Bytes) (v : Value) : Prop where
  ex : ∃ a c, v = .slice a l.length c ∧ HB w a l ∧ l.length ≤ c ∧ SameBlk a a0 ∧ (a = none → c = 0)
theorem Sub.kp {w w' : World} {a0 : Option Addr} {l : Bytes} {v : Value} (h : Sub w a0 l v) (k : Kp [] w w') : Sub w' a0 l v := by
  obtain ⟨a, c, h1, h2, h3, h4, h5⟩ := h.ex
  exact ⟨a, c, h1, h2.kp k (by simp), h3, h4, h5⟩
theorem addP_len (k s : Bytes) (hs : HL) : (addP k s hs).length ≤ hs.length + 1 := by
  induction hs with
  | nil => simp [addP]
  | cons p r ih =>
    unfold addP
    split
    · simp; omega
    · split <;> simp
theorem addP_vals (k s : Bytes) (hs : HL) (n : Nat) (h : ∀ p ∈ hs, p.2.length ≤ n) : ∀ p ∈ addP k s hs, p.2.length ≤ n + 1 := by
  induction hs with
  | nil => intro p hp; simp [addP] at hp; subst hp; simp
  | cons q r ih =>
    intro p hp
    have hq := h q (by simp)
    have hr := ih (fun p hp => h p (by simp [hp]))
    unfold addP at hp
    split at hp
    · rcases List.mem_cons.1 hp with rfl | hp
      · omega
      · exact hr p hp
    · split at hp
      · rcases List.mem_cons.1 hp with rfl | hp
        · simp; omega
        · have := h p (by simp [hp]); omega
      · rcases List.mem_cons.1 hp with rfl | hp
        · simp
        · have := h p hp; omega
theorem addP_ne (k s : Bytes) (hs : HL) : addP k s hs ≠ [] := by
  cases hs with
  | nil => simp [addP]
  | cons p r =>
    unfold addP
    split
    · simp
    · split <;> simp
structure HdRel (w w1 : World) (a0 : Option Addr) (src0 : Bytes) (v0 v5 v6 : Value) (q : Nat) : Prop where
  ex : ∃ (n : Nat) (src : Bytes) (out : HL) (svs : List (Bytes × Value)), v6 = .int .i64 n ∧ n ≤ 101 ∧ Sub w a0 src v0 ∧ src.length = q ∧ HLx w1 w.heap.size v5 svs out ∧ (svs = [] → v5 = .slice none 0 0) ∧ out.length ≤ n ∧ (∀ p ∈ out, p.2.length ≤ n) ∧ headP 101 src0 [] = headP (101 - n) src out ∧ Kp [] w w1
def HeadEnd (w : World) (a0 : Option Addr) (r : Option (HL × Bytes)) (e : Ending) (w' : World) : Prop :=
  match r with
  | none => e = .returned (.tuple #[.slice none 0 0, .slice none 0 0, .bool false]) ∧ Kp [] w w'
  | some (hs, rest) => ∃ v svs vr, e = .returned (.tuple #[v, vr, .bool true]) ∧ HLx w' w.heap.size v svs hs ∧ (svs = [] → v = .slice none 0 0) ∧ Sub w' a0 rest vr ∧ Kp [] w w'
section
variable {w : World} {a : Option Addr} {c : Nat} {src : Bytes}
set_option maxRecDepth 20000 in
set_option maxHeartbeats 4000000 in
theorem head_any (h : HB w a src) (hc : src.length ≤ c) (hnone : a = none → c = 0) (hl : src.length ≤ 281474976710656) :
    Calls Tryz.prog 42 #[.slice a src.length c] w fun e w' => HeadEnd w a (headP 101 src []) e w' := by
  have hR : HdRel w w a src (.slice a src.length c) (.slice none 0 0) (.int .i64 ((0 : Nat) : Int)) src.length := ⟨0, src, [], [], rfl, by omega, ⟨a, c, rfl, h, hc, SameBlk.refl a, hnone⟩, rfl, ⟨HR.nil w _, .nil, .nil⟩, fun _ => rfl, by simp, by simp, rfl, Kp.refl _ _⟩
  have HL0 := Lib.hid hl
  clear h hc hnone hl
  go_enter Tryz.func42, Tryz.ntmps42
  go_wp2
  go_loopg [0, 5, 6] src.length (fun q v0 v5 v6 w' => HdRel w w' a src v0 v5 v6 q ∧ q ≤ src.length)
  case atStart => exact ⟨hR, Nat.le_refl _⟩
  case round =>
    clear hR
    obtain ⟨⟨n, s, out, svs, rfl, hn, ⟨a1, c1, rfl, hb, hc1, hsb, hno⟩, hq, hx, hxn, hol, hov, hhd, hk⟩, hql⟩ := hrel
    have hsl : s.length ≤ 281474976710656 := by have := HL0.out; omega
    have HQ := Lib.hid hq
    clear hq
    cases hf : findL [13, 10] s with
    | none =>
      have hcon := line_none (hb.kp hk (by simp)) hc1 hsl hf
      have hres : headP (101 - n) s out = none := by
        cases h101 : 101 - n with
        | zero => rfl
        | succ f => unfold headP lineP; rw [hf]; rfl
      have HRES := Lib.hid (hhd.trans hres)
      have HK := Lib.hid hk
      clear hf hb hx hxn hol hov hhd hk hres hno hsb
      go_wp2_with fail
      (with_reducible refine hcon.mono ?_)
      rintro e w1 ⟨rfl, hk1⟩
      clear hcon
      have HK1 := Lib.hid (HK.out.trans hk1)
      clear hk1
      go_wp2
      go_ret3
      rw [HRES.out]
      exact ⟨rfl, HK1.out⟩
    | some i =>
      have hcon := line_some (hb.kp hk (by simp)) hc1 hsl i hf
      have hle := (findL_le hf).1
      have hle2 : i + 2 ≤ s.length := hle
      have hsub : Sub w a (s.drop (i + 2)) (.slice (cutAt a1 c1 (i + 2)) (s.drop (i + 2)).length (c1 - (i + 2))) := ⟨_, _, rfl, hb.drop hc1 hle2, by rw [List.length_drop]; omega, hsb.cut c1 (i + 2), fun e => by
        have : a1 = none := by unfold cutAt at e; split at e; exact e; simpa using e
        have := hno this; omega⟩
      have hstep : n < 101 → headP (101 - n) s out = (if 998 < (s.take i).length then none else if s.take i = [] then some (out, s.drop (i + 2)) else match lineKV (s.take i) with | none => none | some (k, v) => headP (101 - (n + 1)) (s.drop (i + 2)) (addP (canonB k) v out)) := by
        intro hlt
        have e : 101 - n = (101 - (n + 1)) + 1 := by omega
        rw [e]
        conv => lhs; unfold headP lineP
        rw [hf]; rfl
      have hrl : (s.drop (i + 2)).length < gk := by have := HQ.out; rw [List.length_drop]; omega
      have hLl : (s.take i).length ≤ 281474976710656 := by rw [List.length_take]; omega
      obtain ⟨L, hL⟩ : ∃ L, L = s.take i := ⟨_, rfl⟩
      obtain ⟨r, hr⟩ : ∃ r, r = s.drop (i + 2) := ⟨_, rfl⟩
      rw [← hL] at hcon hstep hLl
      rw [← hr] at hcon hsub hstep hrl
      generalize cutAt a1 c1 (i + 2) = a2 at hcon hsub
      generalize c1 - (i + 2) = c2 at hcon hsub
      have HSUB := Lib.hid hsub
      have HSTEP := Lib.hid hstep
      have HK := Lib.hid hk
      have HX := Lib.hid hx
      have HXN := Lib.hid hxn
      have HOV := Lib.hid hov
      have HHD := Lib.hid hhd
      have HOL := Lib.hid hol
      have HRL := Lib.hid hrl
      clear hf hle hle2 hsub hstep hb hx hxn hov hhd hk hno hsb hol hL hr hrl hc1 hsl
      have hnn : (n : Int) ≤ 101 := by omega
      generalize hrlen : r.length = rl at hcon
      have HRLEN := Lib.hid hrlen
      clear hrlen
      by_cases h998 : 998 < L.length
      · have hlt : decide ((998 : Int) < (L.length : Int)) = true := by simp; omega
        have HRES : Hid (headP 101 src [] = none) := by
          refine HHD.out.trans ?_
          by_cases h1 : n < 101
          · rw [HSTEP.out h1, if_pos h998]
          · rw [show 101 - n = 0 from by omega]; rfl
        clear HHD HSTEP HX HSUB
        go_wp2_with fail
        (with_reducible refine hcon.mono ?_)
        rintro e w1 ⟨rfl, hk1⟩
        clear hcon
        have HK1 := Lib.hid (HK.out.trans hk1)
        clear hk1
        go_wp2
        go_ret3
        rw [HRES.out]
        exact ⟨rfl, HK1.out⟩
      · have h998' : (L.length : Int) ≤ 998 := by omega
        by_cases h101 : n < 101
        · have h101' : (n : Int) ≤ 100 := by omega
          have hst := HSTEP.out h101
          rw [if_neg h998] at hst
          by_cases hL0 : L = []
          · rw [if_pos hL0] at hst
            have HRES := Lib.hid (HHD.out.trans hst)
            subst hL0
            have HFIN : Hid (∀ w1, Kp [] wr w1 → HeadEnd w a (some (out, r)) (.returned (.tuple #[u5, .slice a2 rl c2, .bool true])) w1) := by
              intro w1 k1
              have h1 := HSUB.out.kp (HK.out.trans k1)
              rw [HRLEN.out] at h1
              exact ⟨_, svs, _, rfl, HX.out.kp k1 (by simp) (by simp), HXN.out, h1, HK.out.trans k1⟩
            clear HSTEP HHD hst h998
            go_wp2_with fail
            (with_reducible refine hcon.mono ?_)
            rintro e w1 ⟨rfl, hk1⟩
            clear hcon
            have HK1 := Lib.hid hk1
            clear hk1
            go_wp2
            go_ret3
            rw [HRES.out]
            exact HFIN.out _ HK1.out
          · rw [if_neg hL0] at hst
            have hle0 : (L == []) = false := by simp [hL0]
            have hle1 : L.isEmpty = false := by simp [hL0]
            have HHD2 := Lib.hid (HHD.out.trans hst)
            clear hst HSTEP HHD h998 hL0
            go_wp2_with fail
            (with_reducible refine hcon.mono ?_)
            rintro e w1 ⟨rfl, hk1⟩
            clear hcon
            obtain ⟨c3, w2, hcv, hb2, hlc3, hk2, hsz2⟩ := conv_bytes L w1
            have kc := conv22 w2 #[.int .u8 58, .int .u8 32] 2 2
            have hkb : Kp [] w2 (w2.alloc (.cells #[.int .u8 58, .int .u8 32] 5 (2, 3))) := (Kp.refl _ _).alloc _
            have hfind := find_any (some ⟨w1.heap.size, 0, none⟩) (some ⟨w2.heap.size, 0, none⟩) c3 2 L [58, 32] _ (hb2.kp hkb (by simp)) hlc3 (lit2 w2 58 32 _) hLl (by simp)
            have hkW : Kp [] wr (w2.alloc (.cells #[.int .u8 58, .int .u8 32] 5 (2, 3))) := (hk1.trans hk2).trans hkb
            have HKW := Lib.hid hkW
            clear hb2 hlc3 hk2 hkb hkW hk1 hsz2
            rw [show ([58, 32] : Bytes).length = 2 from rfl] at hfind
            cases hj : findL [58, 32] L with
            | none =>
              rw [findI_none hj] at hfind
              have HRES : Hid (headP 101 src [] = none) := by refine HHD2.out.trans ?_; unfold lineKV; rw [hj]
              clear HHD2 hj
              go_wp2_with fail
              (with_reducible refine hfind.mono ?_)
              rintro e w' ⟨rfl, rfl⟩
              clear hfind
              go_wp2
              go_ret3
              rw [HRES.out]
              exact ⟨rfl, HK.out.trans HKW.out⟩
            | some j =>
              rw [findI_some hj] at hfind
              have hjl : j + 2 ≤ L.length := (findL_le hj).1
              have hneg : decide ((j : Int) < 0) = false := by simp
              have hj2 : (j : Int) + 2 ≤ (L.length : Int) := by omega
              have ht2 : ((j : Int) + 2).toNat = j + 2 := by omega
              have htk : List.take (L.length - (j + 2)) (List.drop (j + 2) L) = List.drop (j + 2) L := List.take_of_length_le (by simp)
              have hwr : IntKind.i64.wrap ((j : Int) + 2) = (j : Int) + 2 := IntWalk.i64_in _ (by omega)
              have hkey := fun w => key_any (L.take j) w (by rw [List.length_take]; omega)
              have hpl := fun w => plain_any (L.drop (j + 2)) w (by rw [List.length_drop]; omega)
              cases hkb : keyB (L.take j) with
              | false =>
                have HRES : Hid (headP 101 src [] = none) := by refine HHD2.out.trans ?_; unfold lineKV; rw [hj]; simp [hkb]
                simp only [hkb] at hkey
                clear HHD2 hj hkb hpl
                go_wp2_with fail
                (with_reducible refine hfind.mono ?_)
                rintro e w' ⟨rfl, rfl⟩
                clear hfind
                go_wp2_with (go_at_call 16; (with_reducible refine (hkey _).mono ?_); rintro e w' ⟨rfl, rfl⟩)
                go_ret3
                rw [HRES.out]
                exact ⟨rfl, HK.out.trans HKW.out⟩
              | true =>
                simp only [hkb] at hkey
                cases hpb : plainB (L.drop (j + 2)) with
                | false =>
                  have HRES : Hid (headP 101 src [] = none) := by refine HHD2.out.trans ?_; unfold lineKV; rw [hj]; simp [hkb, hpb]
                  simp only [hpb] at hpl
                  clear HHD2 hj hkb hpb
                  go_wp2_with fail
                  (with_reducible refine hfind.mono ?_)
                  rintro e w' ⟨rfl, rfl⟩
                  clear hfind
                  go_wp2_with (first | (go_at_call 16; (with_reducible refine (hkey _).mono ?_); rintro e w' ⟨rfl, rfl⟩) | (go_at_call 17; (with_reducible refine (hpl _).mono ?_); rintro e w' ⟨rfl, rfl⟩))
                  go_ret3
                  rw [HRES.out]
                  exact ⟨rfl, HK.out.trans HKW.out⟩
                | true =>
                  simp only [hpb] at hpl
                  have hnext : headP 101 src [] = headP (101 - (n + 1)) r (addP (canonB (L.take j)) (L.drop (j + 2)) out) := by refine HHD2.out.trans ?_; unfold lineKV; rw [hj]; simp [hkb, hpb]
                  have HNEXT := Lib.hid hnext
                  clear HHD2 hj hkb hpb hnext
                  go_wp2_with fail
                  (with_reducible refine hfind.mono ?_)
                  rintro e w' ⟨rfl, rfl⟩
                  clear hfind
                  go_wp2_with (first | (go_at_call 16; (with_reducible refine (hkey _).mono ?_); rintro e w' ⟨rfl, rfl⟩) | (go_at_call 17; (with_reducible refine (hpl _).mono ?_); rintro e w' ⟨rfl, rfl⟩))
                  refine wp_world (fun W HW => ?_)
                  have HKR : Hid (Kp [] wr W) := by rw [HW.out]; exact HKW.out
                  clear HW HKW hkey hpl kc hcv
                  have hjn : j ≤ L.length := by omega
                  have hj0 : (0 : Int) ≤ (j : Int) + 2 := by omega
                  have hjI : (j : Int) ≤ (L.length : Int) := by omega
                  have hj00 : (0 : Int) ≤ (j : Int) := by omega
                  have hcan := fun w => canon_any (L.take j) w (by rw [List.length_take]; omega)
                  have hadd := fun (w5 : World) (k5 : Kp [] W.drew w5) => add_any (w := w5) (base := w.heap.size) (canonB (L.take j)) (L.drop (j + 2)) (HX.out.kp ((HKR.out.trans (Kp.refl _ W).drew).trans k5) (by simp) (by simp)) HXN.out (Nat.le_trans HK.out.size (Nat.le_trans HKR.out.size k5.size)) (by have := HOL.out; omega) (fun p hp => by have := HOV.out p hp; omega)
                  have HCAN := Lib.hid hcan
                  have HADD := Lib.hid hadd
                  clear hcan hadd
                  go_region_with (first | (go_at_call 23; refine (HCAN.out _).mono ?_; rintro e w5 ⟨rfl, hk5⟩) | (go_at_call 70; refine (HADD.out _ hk5).mono ?_; rintro e w6 ⟨v', svs', rfl, hx6, S6, hk6, hS6⟩))
                  all_goals
                    have hkr6 : Kp [] w w6 := (HK.out.trans ((HKR.out.trans (Kp.refl _ W).drew).trans hk5)).trans' hk6 (fun x hx => .inr (hS6 x hx))
                    have hrel6 : HdRel w w6 a src (.slice a2 rl c2) v' (.int .i64 ((n : Int) + 1)) rl := by
                      have h1 := HSUB.out
                      rw [HRLEN.out] at h1
                      exact ⟨n + 1, r, _, svs', by simp, by omega, h1, HRLEN.out, hx6, fun e => absurd hx6.two (by rw [e]; intro h; have := h.len; exact absurd (List.eq_nil_of_length_eq_zero this.symm) (addP_ne _ _ _)), Nat.le_trans (addP_len _ _ _) (by have := HOL.out; omega), addP_vals _ _ _ _ HOV.out, HNEXT.out, hkr6⟩
                    have hmm : rl < gk := by have := HRL.out; have := HRLEN.out; omega
                    have HREL := Lib.hid hrel6
                    have HMM := Lib.hid hmm
                    clear hx6 hk6 hS6 hkr6 hrel6 hmm
                    go_wp2
                    go_roundg rl
                    case measure => exact HMM.out
                    case rel => exact ⟨HREL.out, by have := HMM.out; omega⟩
        · have h101' : (101 : Int) ≤ (n : Int) := by omega
          have HRES : Hid (headP 101 src [] = none) := HHD.out.trans (by rw [show 101 - n = 0 from by omega]; rfl)
          clear HHD HSTEP HX HSUB h998
          go_wp2_with fail
          (with_reducible refine hcon.mono ?_)
          rintro e w1 ⟨rfl, hk1⟩
          clear hcon
          have HK1 := Lib.hid (HK.out.trans hk1)
          clear hk1
          go_wp2
          go_ret3
          rw [HRES.out]
          exact ⟨rfl, HK1.out⟩
end
end Go.Proofs.YtkbgnplknifmhaaGreatDoor
namespace Go.Proofs.YtkbgnplknifmhaaGreatDoor
open Go.RowKit
attribute [local go_sem ↓] Go.wp_at_zero Go.wp_at_succ
/-! ### Rows of parts (type 24, elements of type 29, two cells each) -/
theorem elem24 : Tryz.prog.underlying 24 = some (.slice 29) := by kernel_rfl
theorem ti29 : ∃ i, Tryz.prog.info? 29 = some i ∧ i.zero = some (.agg #[.slice none 0 0, .slice none 0 0]) ∧ i.size = 2 ∧ i.bytes = 48 := by
  have h : (Tryz.prog.info? 29).map (fun i => (i.zero, i.size, i.bytes)) = some (some (.agg #[.slice none 0 0, .slice none 0 0]), 2, 48) := by kernel_rfl
  obtain ⟨i, h1, h2⟩ := Option.map_eq_some_iff.1 h
  injection h2 with h2 h3
  injection h3 with h3 h4
  exact ⟨i, h1, h2, h3, h4⟩
def flatP (xs : List (Value × Value)) : List Value := xs.flatMap fun p => [p.1, p.2]
theorem flatP_len (xs : List (Value × Value)) : (flatP xs).length = xs.length * 2 := by
  unfold flatP
  induction xs with
  | nil => rfl
  | cons x r ih => simp only [List.flatMap_cons, List.length_append, ih, List.length_cons, List.length_nil]; omega
theorem flatP_append (xs ys : List (Value × Value)) : flatP (xs ++ ys) = flatP xs ++ flatP ys := by unfold flatP; simp
theorem flatP_get (xs : List (Value × Value)) (i : Nat) (p : Value × Value) (h : xs[i]? = some p) : (flatP xs)[i * 2]? = some p.1 ∧ (flatP xs)[i * 2 + 1]? = some p.2 := by
  induction xs generalizing i with
  | nil => simp at h
  | cons x r ih =>
    have e : flatP (x :: r) = x.1 :: x.2 :: flatP r := rfl
    rw [e]
    cases i with
    | zero => simp at h; subst h; exact ⟨rfl, rfl⟩
    | succ i =>
      have := ih i (by simpa using h)
      rw [show (i + 1) * 2 = i * 2 + 1 + 1 from by omega]
      simpa using this
def PR (w : World) (base : Nat) (v : Value) (xs : List (Value × Value)) : Prop := w.ownsRow base 29 2 v xs.length (flatP xs)
theorem PR.kp {S : List Nat} {w w' : World} {base : Nat} {v : Value} {xs : List (Value × Value)} (h : PR w base v xs) (k : Kp S w w') (hS : ∀ b ∈ S, v.ownBlock ≠ some b) : PR w' base v xs := by
  refine ⟨h.1, ?_⟩
  rcases h.2 with h0 | ⟨g, cap, cur, rfl, hb, hg, rest⟩
  · exact .inl h0
  · refine .inr ⟨g, cap, cur, rfl, hb, ?_, rest⟩
    rw [k.block g (Array.getElem?_eq_some_iff.1 hg).1 (fun e => hS g e rfl)]; exact hg
theorem PR.nil (w : World) (base : Nat) : PR w base (.slice none 0 0) [] := World.ownsRow_nil w base 29 2
theorem PR.type {w : World} {base : Nat} {v : Value} {xs : List (Value × Value)} (h : PR w base v xs) : ∀ b, v.ownBlock = some b → b < w.heap.size ∧ base ≤ b ∧ ∃ cur, w.heap[b]? = some (.cells cur 29 (0, 0)) := by
  intro b hb
  rcases h.2 with ⟨rfl, _⟩ | ⟨g, cap, cur, rfl, hbb, hg, _⟩
  · simp [Value.ownBlock] at hb
  · simp [Value.ownBlock] at hb
    subst hb
    exact ⟨(Array.getElem?_eq_some_iff.1 hg).1, hbb, cur, hg⟩
theorem append_one29 (w : World) (base : Nat) (xs : List (Value × Value)) (v : Value) (ty : TypeId) (vb : Nat) (x : Value × Value) (h : PR w base v xs) (hvb : Blk w vb #[x.1, x.2] 29) (hx1 : x.1.oneCell' = true) (hx2 : x.2.oneCell' = true) (hbase : base ≤ w.heap.size) (hl : xs.length ≤ 1000000000) :
    ∃ v' w', (Builtin.append_ #[24, 24] ty #[v, .slice (some ⟨vb, 0, none⟩) 1 1]).run Tryz.prog w = .ok v' w' ∧ PR w' base v' (xs ++ [x]) ∧ Kp v.ownBlock.toList w w' ∧ (∀ b, v'.ownBlock = some b → v.ownBlock = some b ∨ w.heap.size ≤ b) := by
  obtain ⟨i, h1, h2, h3, h4⟩ := ti29
  have hone : ∀ u ∈ ([x.1, x.2] : List Value), u.oneCell' = true := by intro u hu; simp at hu; rcases hu with rfl | rfl; exact hx1; exact hx2
  have hnews : ∀ j u, ([x.1, x.2] : List Value)[j]? = some u → w.cell? ((⟨vb, 0, none⟩ : Addr).add j) = some u := by
    intro j u hj
    rw [Addr.add_lit, Nat.zero_add, hvb.cell]
    simpa using hj
  have hfl : flatP (xs ++ [x]) = flatP xs ++ [x.1, x.2] := by rw [flatP_append]; rfl
  have hll : (xs ++ [x]).length = xs.length + 1 := by simp
  have lift : ∀ {w' : World} {v' : Value} {n : Nat} {l : List Value}, w'.ownsRow w.heap.size 29 2 v' n l → w'.ownsRow base 29 2 v' n l := fun {w' v' n l} e => by
    refine ⟨e.1, ?_⟩
    rcases e.2 with h0 | ⟨g, cap, cur, rfl, hb, rest⟩
    · exact .inl h0
    · exact .inr ⟨g, cap, cur, rfl, Nat.le_trans hbase hb, rest⟩
  rcases h.2 with ⟨hv, h0⟩ | ⟨g, cap, cur, hv, hb, hg, hnc, hcm, hcs, htake⟩
  · have hx : xs = [] := List.eq_nil_of_length_eq_zero h0
    subst hx; subst hv
    obtain ⟨v', w', e1, e2, e3, _⟩ := run_append_own (P := Tryz.prog) w w.heap.size 24 ty 29 i _ 2 48 elem24 h1 h2 h3 h4 rfl (by decide) (.slice none 0 0) 0 [] (World.ownsRow_nil w _ 29 2) ⟨vb, 0, none⟩ 1 1 [x.1, x.2] rfl hnews hone (by unfold maxLen; omega) (by omega) (Nat.le_refl _)
    have hnew : ∀ b, v'.ownBlock = some b → w.heap.size ≤ b := fun b hb => (World.ownsRow.lt e2 b hb).1
    refine ⟨v', w', e1, ?_, (Kp.refl _ w).grown e3 (by intro k hk; simp [Value.ownBlock] at hk), fun b hb => .inr (hnew b hb)⟩
    have e2' : w'.ownsRow w.heap.size 29 2 v' 1 (flatP ([] ++ [x])) := by simpa [hfl, flatP] using e2
    exact lift e2'
  · subst hv
    by_cases hfit : xs.length + 1 ≤ cap
    · obtain ⟨w', e1, e2, e3⟩ := run_append_fits (P := Tryz.prog) w base 24 ty 29 i 2 elem24 h1 h3 g xs.length cap _ h ⟨vb, 0, none⟩ 1 1 [x.1, x.2] rfl hnews hone hfit
      refine ⟨_, w', e1, ?_, (Kp.refl _ w).grown e3 (by intro k hk; left; simpa [Value.ownBlock] using hk.symm), fun b hb => .inl hb⟩
      unfold PR
      rw [hll, hfl]; exact e2
    · obtain ⟨v', w', e1, e2, e3⟩ := run_append_arg_grows (P := Tryz.prog) w 24 ty 29 i _ 2 48 elem24 h1 h2 h3 h4 rfl (by decide) ⟨g, 0, none⟩ xs.length cap (flatP xs) (flatP_len xs) (World.ownsRow.cells h rfl) ⟨vb, 0, none⟩ 1 1 [x.1, x.2] rfl hnews (by omega) (by unfold maxLen; omega) (by omega)
      have hnew : ∀ b, v'.ownBlock = some b → w.heap.size ≤ b := fun b hb => (World.ownsRow.lt e2 b hb).1
      refine ⟨v', w', e1, ?_, (Kp.refl _ w).grown e3 (by simp), fun b hb => .inr (hnew b hb)⟩
      unfold PR
      rw [hll, hfl]
      exact lift e2
/-- Two lists, the same length, related one by one. -/
inductive All2 {α β : Type} (r : α → β → Prop) : List α → List β → Prop
  | nil : All2 r [] []
  | cons (a : α) (b : β) (l : List α) (m : List β) (h : r a b) (t : All2 r l m) : All2 r (a :: l) (b :: m)
theorem All2.mono {α β : Type} {r r' : α → β → Prop} {l : List α} {m : List β} (h : All2 r l m) (hr : ∀ a ∈ l, ∀ b, r a b → r' a b) : All2 r' l m := by
  induction h with
  | nil => exact .nil
  | cons a b l m h t ih => exact .cons a b l m (hr a (by simp) b h) (ih (fun x hx => hr x (by simp [hx])))
theorem All2.snoc {α β : Type} {r : α → β → Prop} {l : List α} {m : List β} (h : All2 r l m) (a : α) (b : β) (hab : r a b) : All2 r (l ++ [a]) (m ++ [b]) := by
  induction h with
  | nil => exact .cons a b [] [] hab .nil
  | cons a' b' l m h t ih => exact .cons a' b' _ _ h ih
theorem All2.len {α β : Type} {r : α → β → Prop} {l : List α} {m : List β} (h : All2 r l m) : l.length = m.length := by
  induction h with
  | nil => rfl
  | cons a b l m h t ih => simp [ih]
theorem All2.at_ {α β : Type} {r : α → β → Prop} {l : List α} {m : List β} (h : All2 r l m) (i : Nat) (b : β) (hb : m[i]? = some b) : ∃ a, l[i]? = some a ∧ r a b := by
  induction h generalizing i with
  | nil => simp at hb
  | cons a' b' l m h t ih =>
    cases i with
    | zero => simp at hb; subst hb; exact ⟨a', rfl, h⟩
    | succ i => simpa using ih i (by simpa using hb)
/-- The reference's list of parts: headers in memory of the call's own, bodies in the argument's block. -/
structure PVx (w0 w : World) (a0 : Option Addr) (v : Value) (ps : PL) : Prop where
  ex : ∃ xs, PR w w0.heap.size v xs ∧ All2 (fun x p => (∃ svs, HLx w w0.heap.size x.1 svs p.1) ∧ Sub w0 a0 p.2 x.2) xs ps
theorem HLx.oneV {w : World} {base : Nat} {v : Value} {svs : List (Bytes × Value)} {hs : HL} (h : HLx w base v svs hs) : v.oneCell' = true := by
  rcases h.row.2 with ⟨rfl, _⟩ | ⟨g, cap, cur, rfl, _⟩ <;> rfl
theorem Sub.one {w : World} {a0 : Option Addr} {l : Bytes} {v : Value} (h : Sub w a0 l v) : v.oneCell' = true := by
  obtain ⟨a, c, h1, _⟩ := h.ex
  subst h1; rfl
theorem pr_hr_apart {w : World} {b1 b2 : Nat} {v u : Value} {xs : List (Value × Value)} {ys : List (Bytes × Value)} (h : PR w b1 v xs) (k : HR w b2 u ys) : ∀ b, v.ownBlock = some b → u.ownBlock ≠ some b := by
  intro b hb hu
  obtain ⟨_, _, c1, h1⟩ := h.type b hb
  obtain ⟨_, _, c2, h2⟩ := k.type b hu
  rw [h1] at h2
  injection h2 with h2
  injection h2 with _ h2
  cases h2
theorem pr_ov_apart {w : World} {b1 b2 : Nat} {v u : Value} {xs : List (Value × Value)} {vs : List Bytes} (h : PR w b1 v xs) (k : OV w b2 u vs) : ∀ b, v.ownBlock = some b → u.ownBlock ≠ some b := by
  intro b hb hu
  obtain ⟨_, _, c1, h1⟩ := h.type b hb
  obtain ⟨_, _, c2, h2⟩ := k.type b hu
  rw [h1] at h2
  injection h2 with h2
  injection h2 with _ h2
  cases h2
theorem PVx.kp0 {w0 w w' : World} {a0 : Option Addr} {v : Value} {ps : PL} (h : PVx w0 w a0 v ps) (k : Kp [] w w') : PVx w0 w' a0 v ps := by
  obtain ⟨xs, h1, h2⟩ := h.ex
  exact ⟨xs, h1.kp k (by simp), h2.mono (fun x hx p ⟨⟨svs, h3⟩, h4⟩ => ⟨⟨svs, h3.kp k (by simp) (by simp)⟩, h4⟩)⟩
/-- A part more. -/
theorem PVx.add {w0 w : World} {a0 : Option Addr} {v : Value} {ps : PL} (h : PVx w0 w a0 v ps) (hv bv : Value) (svs : List (Bytes × Value)) (hs : HL) (body : Bytes) (hh : HLx w w0.heap.size hv svs hs) (hb : Sub w0 a0 body bv) (hbase : w0.heap.size ≤ w.heap.size) (hl : ps.length ≤ 1000000000) :
    ∃ v' w', (Builtin.append_ #[24, 24] 24 #[v, .slice (some ⟨w.heap.size, 0, none⟩) 1 1]).run Tryz.prog (w.alloc (.cells #[hv, bv] 29)) = .ok v' w' ∧ PVx w0 w' a0 v' (ps ++ [(hs, body)]) ∧ ∃ S, Kp S w w' ∧ ∀ x ∈ S, w0.heap.size ≤ x := by
  have hka : Kp [] w (w.alloc (.cells #[hv, bv] 29)) := (Kp.refl _ _).alloc _
  obtain ⟨xs, h1, h2⟩ := (h.kp0 hka).ex
  have hh1 := hh.kp hka (by simp) (by simp)
  obtain ⟨v', w', e1, e2, e3, e4⟩ := append_one29 (w.alloc (.cells #[hv, bv] 29)) w0.heap.size xs v 24 w.heap.size (hv, bv) h1 (Blk.new _ _ _) hh.oneV hb.one (by simp; omega) (by have := h2.len; omega)
  have hkeep : ∀ {u : Value} {sv : List (Bytes × Value)} {l : HL}, HLx (w.alloc (.cells #[hv, bv] 29)) w0.heap.size u sv l → HLx w' w0.heap.size u sv l := fun {u sv l} hx =>
    hx.kp e3 (fun b hb e => pr_hr_apart h1 hx.row b (by simpa using hb) e) (fun p hp b hb e => by
      obtain ⟨vs, hov⟩ := hx.two.mem p hp
      exact pr_ov_apart h1 hov b (by simpa using hb) e)
  refine ⟨v', w', e1, ⟨xs ++ [(hv, bv)], e2, ?_⟩, v.ownBlock.toList, (hka.mono (by simp)).trans e3, fun x hx => (h1.type x (by simpa using hx)).2.1⟩
  exact (h2.mono (fun x hx p ⟨⟨sv, h3⟩, h4⟩ => ⟨⟨sv, hkeep h3⟩, h4⟩)).snoc _ _ ⟨⟨svs, hkeep hh1⟩, hb⟩
end Go.Proofs.YtkbgnplknifmhaaGreatDoor
namespace Go.Proofs.YtkbgnplknifmhaaGreatDoor
open Go.RowKit
/-! ### What Parse (13) needs besides -/
theorem cell_lt {w : World} {a : Addr} {v : Value} (h : w.cell? a = some v) : a.block < w.heap.size := by
  unfold World.cell? at h
  split at h
  · exact (Array.getElem?_eq_some_iff.1 ‹_›).1
  · cases h
theorem cell_congr {w w' : World} {a : Addr} (h : w'.heap[a.block]? = w.heap[a.block]?) : w'.cell? a = w.cell? a := by
  unfold World.cell?
  rw [h]
theorem at_block (x : Addr) (i : Nat) : (at_ (some x) i).block = x.block := by
  unfold at_
  rw [Option.getD_some, add_eq]
  split <;> rfl
theorem HB.back {S : List Nat} {w w' : World} {a a0 : Option Addr} {l src : Bytes} (h : HB w' a l) (k : Kp S w w') (hS : ∀ x ∈ S, w.heap.size ≤ x) (hs : SameBlk a a0) (h0 : HB w a0 src) (hl : l.length ≤ src.length) : HB w a l := by
  refine ⟨h.some_, fun i hi => ?_⟩
  have hne : src ≠ [] := fun e => by rw [e] at hl; exact absurd hi (by simp at hl; simp [hl])
  have hpos : 0 < src.length := List.length_pos_iff.2 hne
  have hl0 : l ≠ [] := fun e => by rw [e] at hi; exact absurd hi (Nat.not_lt_zero _)
  obtain ⟨x, rfl⟩ := Option.isSome_iff_exists.1 (h.some_ hl0)
  obtain ⟨y, rfl, hxy⟩ := hs x rfl
  have hy := cell_lt (h0.cell 0 hpos)
  rw [at_block] at hy
  rw [← h.cell i hi]
  refine (cell_congr ?_).symm
  rw [at_block, hxy]
  exact k.block _ hy (fun e => absurd (hS _ e) (by omega))
theorem HB.fwd {S : List Nat} {w w' : World} {a : Option Addr} {l : Bytes} (h : HB w a l) (k : Kp S w w') (hS : ∀ x ∈ S, w.heap.size ≤ x) : HB w' a l := by
  refine ⟨h.some_, fun i hi => ?_⟩
  have hl0 : l ≠ [] := fun e => by rw [e] at hi; exact absurd hi (Nat.not_lt_zero _)
  obtain ⟨x, rfl⟩ := Option.isSome_iff_exists.1 (h.some_ hl0)
  have hx := cell_lt (h.cell i hi)
  rw [at_block] at hx
  rw [← h.cell i hi]
  refine cell_congr ?_
  rw [at_block]
  exact k.block _ hx (fun e => absurd (hS _ e) (by omega))
theorem SameBlk.trans {a b c : Option Addr} (h : SameBlk a b) (k : SameBlk b c) : SameBlk a c := fun x hx => by
  obtain ⟨y, hy, e⟩ := h x hx
  obtain ⟨z, hz, e'⟩ := k y hy
  exact ⟨z, hz, e.trans e'⟩
theorem HLx.shape {w : World} {base : Nat} {v : Value} {svs : List (Bytes × Value)} {hs : HL} (h : HLx w base v svs hs) : ∃ a n c, v = .slice a n c := by
  rcases h.row.2 with ⟨rfl, _⟩ | ⟨g, cap, cur, rfl, _⟩
  · exact ⟨_, _, _, rfl⟩
  · exact ⟨_, _, _, rfl⟩
theorem none_cut {a : Option Addr} {c : Nat} (k : Nat) (h : a = none → c = 0) : cutAt a c k = none → c - k = 0 := fun e => by
  have : a = none := by unfold cutAt at e; split at e; exact e; simpa using e
  have := h this
  omega
theorem boundaryB_len {b : Bytes} (h : boundaryB b = true) : b.length ≤ 70 := by
  unfold boundaryB at h
  simp at h
  omega
theorem Sub.back {S : List Nat} {w w' : World} {a0 : Option Addr} {l src : Bytes} {v : Value} (h : Sub w' a0 l v) (k : Kp S w w') (hS : ∀ x ∈ S, w.heap.size ≤ x) (h0 : HB w a0 src) (hl : l.length ≤ src.length) : Sub w a0 l v := by
  obtain ⟨a, c, h1, h2, h3, h4, h5⟩ := h.ex
  exact ⟨a, c, h1, h2.back k hS h4 h0 hl, h3, h4, h5⟩
theorem HR.base {w : World} {base base' : Nat} {v : Value} {xs : List (Bytes × Value)} (h : HR w base v xs) (hb : base' ≤ base) : HR w base' v xs := by
  refine ⟨h.1, ?_⟩
  rcases h.2 with h0 | ⟨g, cap, cur, rfl, hb2, rest⟩
  · exact .inl h0
  · exact .inr ⟨g, cap, cur, rfl, Nat.le_trans hb hb2, rest⟩
theorem HLx.base {w : World} {base base' : Nat} {v : Value} {svs : List (Bytes × Value)} {hs : HL} (h : HLx w base v svs hs) (hb : base' ≤ base) : HLx w base' v svs hs :=
  ⟨h.row.base hb, h.two.mono (fun _p _hp _b hbb => hbb.base hb), h.sep⟩
theorem lineP_lt {src l r : Bytes} (h : lineP src = some (l, r)) : l.length + r.length + 2 = src.length := by
  unfold lineP at h
  obtain ⟨i, h1, h2⟩ := Option.map_eq_some_iff.1 h
  have := (findL_le h1).1
  injection h2 with h2 h3
  subst h2; subst h3
  rw [List.length_take, List.length_drop]
  simp at this
  omega
theorem headP_lt (f : Nat) : ∀ {src : Bytes} {out hs : HL} {rest : Bytes}, headP f src out = some (hs, rest) → rest.length + 2 ≤ src.length := by
  induction f with
  | zero => intro src out hs rest h; cases h
  | succ f ih =>
    intro src out hs rest h
    unfold headP at h
    cases hl : lineP src with
    | none => rw [hl] at h; cases h
    | some p =>
      obtain ⟨l, r⟩ := p
      have := lineP_lt hl
      rw [hl] at h
      simp only at h
      split at h
      · cases h
      · split at h
        · injection h with h; injection h with _ h; subst h; omega
        · split at h
          · cases h
          · have := ih h; omega
/-- The parser's state at loop 2. -/
def P1Rel (w w1 : World) (a0 : Option Addr) (d src0 : Bytes) (v0 : Value) (q : Nat) : Prop :=
  ∃ s f, Sub w a0 s v0 ∧ s.length = q ∧ s.length < f ∧ preP d (src0.length + 1) src0 = preP d f s ∧ Kp [] w w1
def P2Rel (w w1 : World) (a0 : Option Addr) (d src0 rest0 : Bytes) (v0 v6 : Value) (q : Nat) : Prop :=
  ∃ s f ps S, Sub w a0 s v0 ∧ s.length = q ∧ s.length < f ∧ PVx w w1 a0 v6 ps ∧ ps.length + s.length ≤ src0.length ∧ partsP d (src0.length + 1) rest0 [] = partsP d f s ps ∧ Kp S w w1 ∧ ∀ x ∈ S, w.heap.size ≤ x
def ParseEnd (w : World) (a0 : Option Addr) (r : Option PL) (e : Ending) (w' : World) : Prop :=
  match r with
  | none => e = .returned (.tuple #[.slice none 0 0, .bool false]) ∧ ∃ S, Kp S w w' ∧ ∀ x ∈ S, w.heap.size ≤ x
  | some ps => ∃ v, e = .returned (.tuple #[v, .bool true]) ∧ PVx w w' a0 v ps ∧ ∃ S, Kp S w w' ∧ ∀ x ∈ S, w.heap.size ≤ x
theorem PVx.nil (w w1 : World) (a0 : Option Addr) : PVx w w1 a0 (.slice none 0 0) [] := ⟨[], PR.nil _ _, .nil⟩
end Go.Proofs.YtkbgnplknifmhaaGreatDoor
namespace Go.Proofs.YtkbgnplknifmhaaGreatDoor

/-! ### What the reference parses is what the reader meets -/
theorem findL_split {m l : Bytes} {i : Nat} (h : findL m l = some i) : l = l.take i ++ m ++ l.drop (i + m.length) := by
  obtain ⟨h1, h2⟩ := findL_le h
  obtain ⟨t, ht⟩ := List.isPrefixOf_iff_prefix.1 h2
  have e : l.drop (i + m.length) = t := by
    rw [← List.drop_drop, ← ht, List.drop_append_of_le_length (Nat.le_refl _), List.drop_length, List.nil_append]
  rw [e, List.append_assoc, ht, List.take_append_drop]
theorem lineP_split {src l r : Bytes} (h : lineP src = some (l, r)) : src = l ++ 13 :: 10 :: r := by
  unfold lineP at h
  obtain ⟨i, h1, h2⟩ := Option.map_eq_some_iff.1 h
  injection h2 with h2 h3
  have := findL_split h1
  rw [h2] at this
  have e : List.drop (i + ([13, 10] : Bytes).length) src = r := h3
  rw [e] at this
  simpa using this
theorem lineP_none {src : Bytes} (h : lineP src = none) : findL [13, 10] src = none := by
  unfold lineP at h
  simpa using h
theorem keyC_not {c : UInt8} (h : keyC c = true) : c ≠ 10 ∧ c ≠ 13 ∧ blankC c = false ∧ c ≠ 58 := by
  refine ⟨fun e => ?_, fun e => ?_, ?_, fun e => ?_⟩
  · subst e; revert h; decide
  · subst e; revert h; decide
  · cases hb : blankC c with
    | false => rfl
    | true =>
      unfold blankC at hb
      simp only [Bool.or_eq_true, beq_iff_eq] at hb
      rcases hb with rfl | rfl <;> (revert h; decide)
  · subst e; revert h; decide
theorem printC_not {c : UInt8} (h : printC c = true) : c ≠ 10 ∧ c ≠ 13 ∧ c ≠ 9 := by
  refine ⟨fun e => ?_, fun e => ?_, fun e => ?_⟩ <;> (subst e; revert h; decide)
theorem boundC_not {c : UInt8} (h : boundC c = true) : c ≠ 10 ∧ c ≠ 13 := by
  refine ⟨fun e => ?_, fun e => ?_⟩ <;> (subst e; revert h; decide)
theorem blankC_not {c : UInt8} (h : blankC c = true) : c ≠ 10 ∧ c ≠ 13 := by
  refine ⟨fun e => ?_, fun e => ?_⟩ <;> (subst e; revert h; decide)
theorem trB_last (l : Bytes) (x : UInt8) (h : blankC x = false) : trB (l ++ [x]) = l ++ [x] := by
  unfold trB
  rw [List.reverse_append]
  simp [h]
theorem trB_space (l : Bytes) (x y : UInt8) (h : blankC x = false) (hy : blankC y = true) : trB (l ++ [x] ++ [y]) = l ++ [x] := by
  unfold trB
  rw [List.reverse_append, List.reverse_append]
  simp [h, hy]
/-- A header's line. -/
theorem lineKV_log {l k v rest : Bytes} {c0 : UInt8} (h : lineKV l = some (k, v)) (hl : l.length ≤ 998) (hc0 : blankC c0 = false) :
    ∃ kv vt, LogLine (l ++ 13 :: 10 :: c0 :: rest) kv (c0 :: rest) ∧ kv = k ++ 58 :: vt ∧ k.all keyC = true ∧ 0 < k.length ∧ vt.all valueC = true ∧ kv.length ≤ 2100 ∧ vt.dropWhile blankC = v := by
  unfold lineKV at h
  split at h
  · rename_i i hf
    split at h
    · rename_i hkp
      injection h with h
      injection h with hk hv
      rw [hk, hv] at hkp
      simp only [Bool.and_eq_true] at hkp
      obtain ⟨hkk, hpl⟩ := hkp
      have hs := findL_split hf
      have hv' : List.drop (i + ([58, 32] : Bytes).length) l = v := hv
      rw [hk, hv'] at hs
      have hl0 : l = k ++ 58 :: 32 :: v := by simpa using hs
      unfold keyB at hkk
      simp only [Bool.and_eq_true, decide_eq_true_eq] at hkk
      unfold plainB at hpl
      simp only [Bool.and_eq_true] at hpl
      have hk10 : ∀ c ∈ k, keyC c = true := List.all_eq_true.1 hkk.1
      have hv10 : ∀ c ∈ v, printC c = true := List.all_eq_true.1 hpl.1
      have h10 : (10 : UInt8) ∉ l ++ [13] := by
        rw [hl0]
        intro e
        simp only [List.mem_append, List.mem_cons] at e
        rcases e with (e | e | e | e) | e | e
        · exact (keyC_not (hk10 _ e)).1 rfl
        · cases e
        · cases e
        · exact (printC_not (hv10 _ e)).1 rfl
        · cases e
        · cases e
      have hfirst : blankC (byt l 0) = false := by
        rw [hl0]
        cases k with
        | nil => simp at hkk
        | cons x k => exact (keyC_not (hk10 x (by simp))).2.2.1
      have hval : v.all valueC = true := by
        rw [List.all_eq_true]
        intro c hc
        unfold valueC
        rw [hv10 c hc]; rfl
      have hmk : ∀ kv, kv = trB l → LogLine (l ++ 13 :: 10 :: c0 :: rest) kv (c0 :: rest) := by
        intro kv e
        have := LogLine.plain (l ++ [13]) c0 rest h10 (by simp; omega) (by rw [dropCR_cr, hl0]; simp; omega) (by rw [dropCR_cr]; exact hfirst) (by rw [dropCR_cr, hl0]; simp) hc0
        rw [dropCR_cr] at this
        rw [e]
        simpa using this
      cases hvl : v.reverse with
      | nil =>
        have hv0 : v = [] := by simpa using hvl
        subst hv0
        refine ⟨k ++ [58], [], hmk _ ?_, rfl, hkk.1, hkk.2, rfl, ?_, rfl⟩
        · rw [hl0]
          have := trB_space k 58 32 (by decide) (by decide)
          rw [← this]; simp
        · have := congrArg List.length hl0; simp at this ⊢; omega
      | cons x y =>
        have hv1 : v = y.reverse ++ [x] := by
          have := congrArg List.reverse hvl
          simpa using this
        have hne : v.isEmpty = false := by rw [hv1]; simp
        have h2 := hpl.2
        rw [hne] at h2
        simp only [Bool.false_or, Bool.and_eq_true, bne_iff_ne, ne_eq] at h2
        have hx : x ≠ 32 := by
          intro e
          apply h2.2
          unfold lastB
          rw [hv1]; simp [e]
        have hxb : blankC x = false := by
          unfold blankC
          simp only [Bool.or_eq_false_iff, beq_eq_false_iff_ne]
          exact ⟨hx, (printC_not (hv10 x (by rw [hv1]; simp))).2.2⟩
        refine ⟨l, 32 :: v, hmk _ ?_, hl0, hkk.1, hkk.2, ?_, by omega, ?_⟩
        · have := trB_last (k ++ 58 :: 32 :: y.reverse) x hxb
          rw [hl0, hv1]
          simpa using this.symm
        · rw [List.all_cons, hval]; decide
        · rw [List.dropWhile_cons, if_pos (by decide)]
          cases v with
          | nil => simp at hne
          | cons z v =>
            rw [List.dropWhile_cons, if_neg]
            have hz : z ≠ 32 := by
              intro e
              apply h2.1
              simp [e]
            have := (printC_not (hv10 z (by simp))).2.2
            unfold blankC
            simp [hz, this]
    · cases h
  · cases h
theorem lineKV_key {l k v : Bytes} (h : lineKV l = some (k, v)) : ∃ x y, l = x :: y ∧ blankC x = false := by
  unfold lineKV at h
  split at h
  · rename_i i hf
    split at h
    · rename_i hkp
      injection h with h
      injection h with hk hv
      rw [hk, hv] at hkp
      simp only [Bool.and_eq_true] at hkp
      have hs := findL_split hf
      rw [hk] at hs
      have hkk := hkp.1
      unfold keyB at hkk
      simp only [Bool.and_eq_true, decide_eq_true_eq] at hkk
      cases k with
      | nil => simp at hkk
      | cons x k =>
        rw [hs]
        exact ⟨x, _, by simp; rfl, (keyC_not (List.all_eq_true.1 hkk.1 x (by simp))).2.2.1⟩
    · cases h
  · cases h
theorem headP_first (f : Nat) {src : Bytes} {out hs : HL} {rest : Bytes} (h : headP f src out = some (hs, rest)) : ∃ c0 r, src = c0 :: r ∧ blankC c0 = false := by
  cases f with
  | zero => cases h
  | succ f =>
    unfold headP at h
    cases hl : lineP src with
    | none => rw [hl] at h; cases h
    | some p =>
      obtain ⟨l, r⟩ := p
      rw [hl] at h
      simp only at h
      have hs := lineP_split hl
      split at h
      · cases h
      · split at h
        · rename_i h0
          subst h0
          exact ⟨13, 10 :: r, by rw [hs]; rfl, by decide⟩
        · split at h
          · cases h
          · rename_i k v hkv
            obtain ⟨x, y, rfl, hb⟩ := lineKV_key hkv
            exact ⟨x, _, by rw [hs]; rfl, hb⟩
theorem headP_lines (f : Nat) : ∀ {src : Bytes} {out hs : HL} {rest : Bytes}, headP f src out = some (hs, rest) → ∃ items, Lines src items rest ∧ items.length < f ∧ hs = items.foldl (fun h p => addP p.1 p.2 h) out := by
  induction f with
  | zero => intro src out hs rest h; cases h
  | succ f ih =>
    intro src out hs rest h
    unfold headP at h
    cases hl : lineP src with
    | none => rw [hl] at h; cases h
    | some p =>
      obtain ⟨l, r⟩ := p
      rw [hl] at h
      simp only at h
      have hsp := lineP_split hl
      split at h
      · cases h
      · rename_i h998
        split at h
        · rename_i h0
          subst h0
          injection h with h
          injection h with h1 h2
          subst h1; subst h2
          refine ⟨[], ?_, by simp, rfl⟩
          rw [hsp]
          exact Lines.done [13] r (by decide) (by decide) (by decide)
        · split at h
          · cases h
          · rename_i k v hkv
            obtain ⟨c0, r', rfl, hc0⟩ := headP_first f h
            obtain ⟨items, hL, hlen, hfold⟩ := ih h
            obtain ⟨kv, vt, h1, h2, h3, h4, h5, h6, h7⟩ := lineKV_log (rest := r') hkv (by omega) hc0
            refine ⟨(canonB k, v) :: items, ?_, by simp; omega, ?_⟩
            · rw [hsp, ← h7]
              exact Lines.more _ kv _ k vt rest items h1 h2 h3 h4 h5 h6 hL
            · rw [hfold]; rfl
end Go.Proofs.YtkbgnplknifmhaaGreatDoor
namespace Go.Proofs.YtkbgnplknifmhaaGreatDoor

/-! ### The parts of a text, as the reader meets them -/
/-- A part at rest0, behind its delimiter's line; tail: what stands behind the delimiter that ends it. -/
structure PartAt (b nl rest0 : Bytes) (items : List (Bytes × Bytes)) (body tail : Bytes) : Prop where
  lines : Lines rest0 items (body ++ (nl ++ dlm b) ++ tail)
  few : items.length ≤ 100
  fnd : findL (nl ++ dlm b) (body ++ (nl ++ dlm b) ++ tail) = some body.length
  fst : (dlm b).isPrefixOf (body ++ (nl ++ dlm b) ++ tail) = false
  tl : matchP tail = 1
def hdrs (items : List (Bytes × Bytes)) : HL := items.foldl (fun h p => hAdd p.1 p.2 h) []
inductive PartsAt (b nl : Bytes) : Bytes → PL → Prop
  | last (rest0 : Bytes) (items : List (Bytes × Bytes)) (body tail : Bytes) (h : PartAt b nl rest0 items body tail) (hn : ∀ pr, pr ≠ 0 → NP b nl pr false (nl ++ dlm b ++ tail) none) : PartsAt b nl rest0 [(hdrs items, body)]
  | more (rest0 : Bytes) (items : List (Bytes × Bytes)) (body tail rest1 : Bytes) (ps : PL) (h : PartAt b nl rest0 items body tail) (hn : ∀ pr, pr ≠ 0 → NP b nl pr false (nl ++ dlm b ++ tail) (some (false, rest1))) (t : PartsAt b nl rest1 ps) : PartsAt b nl rest0 ((hdrs items, body) :: ps)

theorem dlm_no {b : Bytes} (h : boundaryB b = true) : (10 : UInt8) ∉ dlm b ∧ (13 : UInt8) ∉ dlm b := by
  unfold boundaryB at h
  simp only [Bool.and_eq_true] at h
  have hall := List.all_eq_true.1 h.1
  unfold dlm
  refine ⟨fun e => ?_, fun e => ?_⟩
  · simp only [List.mem_cons] at e
    rcases e with e | e | e
    · cases e
    · cases e
    · exact (boundC_not (hall _ e)).1 rfl
  · simp only [List.mem_cons] at e
    rcases e with e | e | e
    · cases e
    · cases e
    · exact (boundC_not (hall _ e)).2 rfl
theorem not_prefix_of {d l : Bytes} {x : UInt8} (hx : x ∉ d) (h : d.isPrefixOf l = false) (t : Bytes) : d.isPrefixOf (l ++ x :: t) = false := by
  cases hp : d.isPrefixOf (l ++ x :: t) with
  | false => rfl
  | true =>
    exfalso
    rw [List.isPrefixOf_iff_prefix] at hp
    by_cases hle : d.length ≤ l.length
    · have h2 : d <+: l := List.prefix_of_prefix_length_le hp (List.prefix_append _ _) hle
      rw [← List.isPrefixOf_iff_prefix] at h2
      rw [h2] at h; cases h
    · have h2 : l ++ [x] <+: d := by
        refine List.prefix_of_prefix_length_le (l₃ := l ++ x :: t) ⟨t, by simp⟩ hp ?_
        simp; omega
      exact hx (h2.subset (by simp))
theorem delimB_split {l d : Bytes} (h : delimB l d = true) : ∃ pad, l = d ++ pad ∧ pad.length ≤ 20 ∧ pad.all blankC = true := by
  unfold delimB at h
  simp only [Bool.and_eq_true, decide_eq_true_eq] at h
  obtain ⟨h1, h2, h3⟩ := h
  unfold cutPre at h2 h3
  rw [if_pos h1] at h2 h3
  obtain ⟨t, rfl⟩ := List.isPrefixOf_iff_prefix.1 h1
  rw [List.drop_append_of_le_length (Nat.le_refl _), List.drop_length, List.nil_append] at h2 h3
  exact ⟨t, rfl, h2, h3⟩
theorem dropWhile_pad {pad t : Bytes} (h : pad.all blankC = true) : (pad ++ t).dropWhile blankC = t.dropWhile blankC := by
  induction pad with
  | nil => rfl
  | cons x pad ih =>
    simp only [List.all_cons, Bool.and_eq_true] at h
    rw [List.cons_append, List.dropWhile_cons, if_pos h.1, ih h.2]
theorem pad_no {pad : Bytes} (h : pad.all blankC = true) : (10 : UInt8) ∉ pad ∧ (13 : UInt8) ∉ pad :=
  ⟨fun e => (blankC_not (List.all_eq_true.1 h _ e)).1 rfl, fun e => (blankC_not (List.all_eq_true.1 h _ e)).2 rfl⟩
theorem behind_app (d t : Bytes) : behind d (d ++ t) = t.dropWhile blankC := by
  unfold behind
  rw [List.drop_append_of_le_length (Nat.le_refl _), List.drop_length, List.nil_append]
theorem pre_app (d t : Bytes) : d.isPrefixOf (d ++ t) = true := by
  rw [List.isPrefixOf_iff_prefix]; exact List.prefix_append _ _
/-- The line ends of a text: CR LF, or LF. -/
inductive NLk : Bytes → Bytes → Prop
  | crlf : NLk [13, 10] [13]
  | lf : NLk [10] []
theorem NLk.eq {nl c : Bytes} (h : NLk nl c) : nl = c ++ [10] := by cases h <;> rfl
theorem NLk.len {nl c : Bytes} (h : NLk nl c) : c.length ≤ 1 := by cases h <;> decide
theorem NLk.no {nl c : Bytes} (h : NLk nl c) : (10 : UInt8) ∉ c := by cases h <;> decide
theorem NLk.dw {nl c : Bytes} (h : NLk nl c) (t : Bytes) : (c ++ 10 :: t).dropWhile blankC = c ++ 10 :: t := by cases h <;> rfl
section
variable {b nl c : Bytes}
/-- A delimiter's line: d, blanks, the line's end. -/
theorem np_delim (hk : NLk nl c) (hb : boundaryB b = true) (pr : Int) (hpr : pr ≠ 0 ∨ nl = [13, 10]) (flag : Bool) (pad rest : Bytes) (hp : pad.all blankC = true) (hpl : pad.length ≤ 20) : NP b nl pr flag (dlm b ++ pad ++ nl ++ rest) (some (false, rest)) := by
  have hbl := boundaryB_len hb
  have hno := dlm_no hb
  have hdl : (dlm b).length = b.length + 2 := rfl
  have h1 : delimLineB b nl (dlm b ++ pad ++ c ++ [10]) = true := by
    unfold delimLineB
    rw [show dlm b ++ pad ++ c ++ [10] = dlm b ++ (pad ++ (c ++ 10 :: [])) from by simp, pre_app, behind_app, dropWhile_pad hp, hk.dw, hk.eq]
    simp
  have := NP.delim (b := b) (nl := nl) (pr := pr) flag (dlm b ++ pad ++ c) rest (by
      simp only [List.mem_append, not_or]
      exact ⟨⟨hno.1, (pad_no hp).1⟩, hk.no⟩) (by have := hk.len; simp only [List.length_append]; omega) h1 (by
      rintro ⟨e, e2⟩
      rcases hpr with h | h
      · exact h e
      · rw [show dlm b ++ pad ++ c ++ [10] = dlm b ++ (pad ++ (c ++ 10 :: [])) from by simp, behind_app, dropWhile_pad hp, hk.dw] at e2
        have h2 := hk.eq
        rw [h] at h2
        rw [← h2] at e2
        simp at e2)
  have e : dlm b ++ pad ++ nl ++ rest = dlm b ++ pad ++ c ++ 10 :: rest := by rw [hk.eq]; simp
  rw [e]; exact this
/-- The last delimiter's line. -/
theorem np_final (hk : NLk nl c) (hb : boundaryB b = true) (pr : Int) (hpr : pr ≠ 0) (flag : Bool) (pad rest : Bytes) (hp : pad.all blankC = true) (hpl : pad.length ≤ 1000) : NP b nl pr flag (dlm b ++ [45, 45] ++ pad ++ nl ++ rest) none := by
  have hbl := boundaryB_len hb
  have hno := dlm_no hb
  have hdl : (dlm b).length = b.length + 2 := rfl
  have hdw : ([45, 45] ++ pad ++ (c ++ [10])).dropWhile blankC = [45, 45] ++ pad ++ (c ++ [10]) := rfl
  have h1 : delimLineB b nl (dlm b ++ [45, 45] ++ pad ++ c ++ [10]) = false := by
    unfold delimLineB
    rw [show dlm b ++ [45, 45] ++ pad ++ c ++ [10] = dlm b ++ ([45, 45] ++ pad ++ (c ++ [10])) from by simp, behind_app, hdw]
    cases hk <;> simp
  have h2 : finalB b nl (dlm b ++ [45, 45] ++ pad ++ c ++ [10]) = true := by
    unfold finalB
    rw [show dlm b ++ [45, 45] ++ pad ++ c ++ [10] = (dlm b ++ [45, 45]) ++ (pad ++ (c ++ 10 :: [])) from by simp, pre_app, behind_app, dropWhile_pad hp, hk.dw, hk.eq]
    simp
  have := NP.final (b := b) (nl := nl) (pr := pr) flag (dlm b ++ [45, 45] ++ pad ++ c) rest (by
      simp only [List.mem_append, not_or]
      exact ⟨⟨⟨hno.1, by decide⟩, (pad_no hp).1⟩, hk.no⟩) (by have := hk.len; simp only [List.length_append, List.length_cons, List.length_nil]; omega) h1 (fun e => hpr e.1) h2
  have e : dlm b ++ [45, 45] ++ pad ++ nl ++ rest = dlm b ++ [45, 45] ++ pad ++ c ++ 10 :: rest := by rw [hk.eq]; simp
  rw [e]; exact this
/-- The last delimiter, the text's end behind it. -/
theorem np_finalE (hb : boundaryB b = true) (pr : Int) (flag : Bool) (pad : Bytes) (hp : pad.all blankC = true) (hpl : pad.length ≤ 1000) : NP b nl pr flag (dlm b ++ [45, 45] ++ pad) none := by
  have hbl := boundaryB_len hb
  have hno := dlm_no hb
  have hdl : (dlm b).length = b.length + 2 := rfl
  refine NP.finalE flag _ (by
      simp only [List.mem_append, not_or]
      exact ⟨⟨hno.1, by decide⟩, (pad_no hp).1⟩) (by simp only [List.length_append, List.length_cons, List.length_nil]; omega) (by simp only [List.length_append, List.length_cons, List.length_nil]; omega) ?_
  unfold finalB
  have hdw : pad.dropWhile blankC = [] := by have := dropWhile_pad (t := []) hp; simpa using this
  rw [pre_app, behind_app, hdw]
  rfl
/-- Behind a part: its line's end, then a line. -/
theorem np_sep (hk : NLk nl c) (pr : Int) (hpr : pr ≠ 0) (rest : Bytes) (out : Option (Bool × Bytes)) (t : NP b nl pr true rest out) : NP b nl pr false (nl ++ rest) out := by
  have h1 : (dlm b).isPrefixOf (c ++ [10]) = false := by
    cases hk <;> rfl
  have := NP.sep (b := b) (nl := nl) (pr := pr) c rest out hpr hk.no (by have := hk.len; omega) hk.eq h1 t
  have e : nl ++ rest = c ++ 10 :: rest := by rw [hk.eq]; simp
  rw [e]; exact this
/-- A line ahead of the first delimiter. -/
theorem np_skip (hk : NLk nl c) (hb : boundaryB b = true) (l rest : Bytes) (out : Option (Bool × Bytes)) (h10 : (10 : UInt8) ∉ l) (hl : l.length ≤ 4000) (hd : (dlm b).isPrefixOf l = false) (t : NP b [13, 10] 0 false rest out) : NP b [13, 10] 0 false (l ++ nl ++ rest) out := by
  have h1 : (dlm b).isPrefixOf (l ++ c ++ [10]) = false := by
    cases hk with
    | crlf => simpa using not_prefix_of (dlm_no hb).2 hd [10]
    | lf => simpa using not_prefix_of (dlm_no hb).1 hd []
  have := NP.skip (b := b) (nl := [13, 10]) (pr := 0) (l ++ c) rest out rfl (by
    simp only [List.mem_append, not_or]; exact ⟨h10, hk.no⟩) (by have := hk.len; simp only [List.length_append]; omega) h1 t
  rw [hk.eq]
  simpa using this
end
end Go.Proofs.YtkbgnplknifmhaaGreatDoor
