/-
  Walks and facts for the mailparts program.
-/
import Derived.Test.YtkbgnplknifmhaaGreatDoorKVw1ToEp1
namespace Go.Proofs.YtkbgnplknifmhaaGreatDoor
open Go.RowKit
attribute [local go_sem ↓] Go.wp_at_zero Go.wp_at_succ
/-! ### spec.Has (66), spec.Without (33) -/
/-- "Content-Transfer-Encoding". -/
def cte : Bytes := [67, 111, 110, 116, 101, 110, 116, 45, 84, 114, 97, 110, 115, 102, 101, 114, 45, 69, 110, 99, 111, 100, 105, 110, 103]
def hasB (hs : HL) : Bool := hs.any fun h => canonB h.1 == cte
section
variable {w : World} {v u : Value}
theorem len0_66 (a : Option Addr) (c : Nat) (s : ByteArray) : Calls Tryz.prog 66 #[.slice a 0 c, .string s] w fun e w' => e = .returned (.bool false) ∧ Kp [] w w' := by
  go_enter Tryz.func66, Tryz.ntmps66
  go_wp2
  refine wp_loop_rounds 1 ?_
  rw [rounds_succ]
  go_wp2
  go_ret
  exact ⟨rfl, Kp.refl _ _⟩
def HasRel (w wr : World) (hs : HL) (v : Value) (q : Nat) : Prop := ∃ i : Nat, v = .int .i64 (i : Int) ∧ i + q = hs.length ∧ hasB (hs.take i) = false ∧ Kp [] w wr
theorem hasB_take (hs : HL) (i : Nat) (p : Bytes × List Bytes) (hp : hs[i]? = some p) (h : hasB (hs.take i) = false) : hasB (hs.take (i + 1)) = (canonB p.1 == cte) := by
  unfold hasB at h ⊢
  rw [List.take_add_one, hp, List.any_append, h]
  simp
theorem hasB_at (hs : HL) (i : Nat) (p : Bytes × List Bytes) (hp : hs[i]? = some p) (h : (canonB p.1 == cte) = true) : hasB hs = true := List.any_eq_true.2 ⟨p, List.mem_of_getElem? hp, h⟩
set_option maxRecDepth 20000 in
set_option maxHeartbeats 2000000 in
theorem has_any {hs : HL} (h : HView w v hs) (hl : hs.length ≤ 1000000000) (hk : ∀ p ∈ hs, p.1.length ≤ 281474976710656) : Calls Tryz.prog 66 #[v, .string (str cte)] w fun e w' => e = .returned (.bool (hasB hs)) ∧ Kp [] w w' := by
  by_cases h0 : hs = []
  · subst h0
    rcases h.ex with ⟨_, a, c, rfl⟩ | ⟨g, c, rfl, _⟩ <;> exact len0_66 _ _ _
  · rcases h.ex with ⟨e, _⟩ | ⟨g, c, rfl, hc1⟩
    · exact absurd e h0
    have HA := Lib.hid hc1
    have HV := Lib.hid hk
    have HR0 : Hid (HasRel w w hs (.int .i64 ((0 : Nat) : Int)) hs.length) := ⟨0, rfl, by omega, by simp [hasB], Kp.refl _ _⟩
    have hix1 := ix27 g hs.length c
    obtain ⟨kk, hkk⟩ : ∃ kk, cte = kk := ⟨_, rfl⟩
    rw [hkk]
    clear h hc1 hk
    go_enter Tryz.func66, Tryz.ntmps66
    go_wp2
    go_loopg [9] hs.length (fun q v9 wr => HasRel w wr hs v9 q)
    case atStart => exact HR0.out
    case round =>
      clear HR0
      obtain ⟨i, rfl, hq, hno, hk⟩ := hrel
      by_cases hi : i < hs.length
      · have hi' : (i : Int) < (hs.length : Int) := by omega
        obtain ⟨p, hp⟩ : ∃ p, hs[i]? = some p := ⟨_, List.getElem?_eq_getElem hi⟩
        obtain ⟨u1, ec1, ed1, hs1⟩ := HA.out i p hp
        have hkc : ∀ {x : Addr} {u : Value}, w.cell? x = some u → wr.cell? x = some u := fun {x u} hx => by
          rw [← hx]; exact World.cell?_of_block (w := w) (hk.block _ (World.block_lt_of_cell? w _ hx) (by simp))
        have hc1 : wr.cell? ⟨g, i * 2, none⟩ = some (.string (str p.1)) := hkc ec1
        have hd1 := hkc ed1
        obtain ⟨a1, z1, rfl, _⟩ := hs1.open
        clear ec1 ed1 hkc hs1
        have hix1 := fun w => hix1 w i hi
        have hka : Kp [] wr (wr.alloc (.cells #[.string (str p.1), .slice a1 p.2.length z1] 43)) := (Kp.refl _ _).alloc _
        have hcan := canon_any p.1 (wr.alloc (.cells #[.string (str p.1), .slice a1 p.2.length z1] 43)) (HV.out p (List.mem_of_getElem? hp))
        have HX := Lib.hid (And.intro hk (And.intro hq (And.intro hno (And.intro hp hka))))
        clear hk hq hno hp hka
        go_wp2_with fail
        refine hcan.mono ?_
        rintro e w1 ⟨rfl, hk1⟩
        obtain ⟨hk, hq, hno, hp, hka⟩ := HX.out
        have hkw : Kp [] w w1 := (hk.trans hka).trans hk1
        clear hcan
        cases hce : (canonB p.1 == kk) with
        | true =>
          have hyes := hasB_at hs i p hp (by rw [hkk]; exact hce)
          have hce := eq_of_beq hce
          have HFIN : Hid (hasB hs = true ∧ Kp [] w w1) := ⟨hyes, hkw⟩
          rw [hce]
          clear hk hq hno hp hka hk1 hkw hyes hce
          go_wp2
          go_ret
          exact ⟨congrArg (fun b => Ending.returned (.bool b)) HFIN.out.1.symm, HFIN.out.2⟩
        | false =>
          have hno2 := hasB_take hs i p hp hno
          rw [hkk, hce] at hno2
          have HREL : Hid (HasRel w w1 hs (.int .i64 ((i : Int) + 1)) (hs.length - (i + 1))) := ⟨i + 1, by simp, by omega, hno2, hkw⟩
          have HMM : Hid (hs.length - (i + 1) < gk) := by show _ < _; omega
          clear hk hq hno hp hka hk1 hkw hno2
          go_wp2
          go_roundg (hs.length - (i + 1))
          case measure => exact HMM.out
          case rel => exact HREL.out
      · have hge : ¬ (i : Int) < (hs.length : Int) := by omega
        have HFIN : Hid (hasB hs = false ∧ Kp [] w wr) := by
          rw [List.take_of_length_le (by omega)] at hno
          exact ⟨hno, hk⟩
        clear hq hk hno
        go_wp2
        go_ret
        exact ⟨congrArg (fun b => Ending.returned (.bool b)) HFIN.out.1.symm, HFIN.out.2⟩
theorem len0_33 (a : Option Addr) (c : Nat) : Calls Tryz.prog 33 #[.slice a 0 c] w fun e w' => e = .returned (.bool true) ∧ Kp [] w w' := by
  go_enter Tryz.func33, Tryz.ntmps33
  go_wp2
  refine wp_loop_rounds 1 ?_
  rw [rounds_succ]
  go_wp2
  go_ret
  exact ⟨rfl, Kp.refl _ _⟩
def withB (ps : PL) : Bool := ps.any fun p => hasB p.1
def WithRel (w wr : World) (ps : PL) (v : Value) (q : Nat) : Prop := ∃ i : Nat, v = .int .i64 (i : Int) ∧ i + q = ps.length ∧ withB (ps.take i) = false ∧ Kp [] w wr
theorem withB_take (ps : PL) (i : Nat) (p : HL × Bytes) (hp : ps[i]? = some p) (h : withB (ps.take i) = false) : withB (ps.take (i + 1)) = hasB p.1 := by
  unfold withB at h ⊢
  rw [List.take_add_one, hp, List.any_append, h]
  simp
theorem withB_at (ps : PL) (i : Nat) (p : HL × Bytes) (hp : ps[i]? = some p) (h : hasB p.1 = true) : withB ps = true := List.any_eq_true.2 ⟨p, List.mem_of_getElem? hp, h⟩
set_option maxRecDepth 20000 in
set_option maxHeartbeats 2000000 in
theorem without_any {ps : PL} (h : PView w v ps) (hl : ps.length ≤ 1000000000) (hk : ∀ p ∈ ps, p.1.length ≤ 1000000000 ∧ ∀ q ∈ p.1, q.1.length ≤ 281474976710656) : Calls Tryz.prog 33 #[v] w fun e w' => e = .returned (.bool (!withB ps)) ∧ Kp [] w w' := by
  by_cases h0 : ps = []
  · subst h0
    rcases h.ex with ⟨_, a, c, rfl⟩ | ⟨g, c, rfl, _⟩ <;> exact len0_33 _ _
  · rcases h.ex with ⟨e, _⟩ | ⟨g, c, rfl, hc1⟩
    · exact absurd e h0
    have HA := Lib.hid hc1
    have HV := Lib.hid hk
    have HR0 : Hid (WithRel w w ps (.int .i64 ((0 : Nat) : Int)) ps.length) := ⟨0, rfl, by omega, by simp [withB], Kp.refl _ _⟩
    have hix1 := ix24s g ps.length c
    clear h hc1 hk
    go_enter Tryz.func33, Tryz.ntmps33
    go_wp2
    go_loopg [7] ps.length (fun q v7 wr => WithRel w wr ps v7 q)
    case atStart => exact HR0.out
    case round =>
      clear HR0
      obtain ⟨i, rfl, hq, hno, hk⟩ := hrel
      by_cases hi : i < ps.length
      · have hi' : (i : Int) < (ps.length : Int) := by omega
        obtain ⟨p, hp⟩ : ∃ p, ps[i]? = some p := ⟨_, List.getElem?_eq_getElem hi⟩
        obtain ⟨t1, u1, ec1, ed1, hh1, hs1⟩ := HA.out i p hp
        have hkc : ∀ {x : Addr} {u : Value}, w.cell? x = some u → wr.cell? x = some u := fun {x u} hx => by
          rw [← hx]; exact World.cell?_of_block (w := w) (hk.block _ (World.block_lt_of_cell? w _ hx) (by simp))
        have hc1 := hkc ec1
        have hd1 := hkc ed1
        obtain ⟨a1, z1, rfl, _⟩ := hs1.ex
        obtain ⟨b1, n1, y1, rfl⟩ := hh1.shape
        have hka : Kp [] wr (wr.alloc (.cells #[.slice b1 n1 y1, .slice a1 p.2.length z1] 29)) := (Kp.refl _ _).alloc _
        have hhas := has_any ((hh1.kp0 hk).kp0 hka) (HV.out p (List.mem_of_getElem? hp)).1 (HV.out p (List.mem_of_getElem? hp)).2
        have hkk : (str cte) = ⟨#[67, 111, 110, 116, 101, 110, 116, 45, 84, 114, 97, 110, 115, 102, 101, 114, 45, 69, 110, 99, 111, 100, 105, 110, 103]⟩ := rfl
        rw [hkk] at hhas
        clear ec1 ed1 hkc hs1 hh1 hkk
        have hix1 := fun w => hix1 w i hi
        have HX := Lib.hid (And.intro hk (And.intro hq (And.intro hno (And.intro hp hka))))
        clear hk hq hno hp hka
        go_wp2_with fail
        refine hhas.mono ?_
        rintro e w1 ⟨rfl, hk1⟩
        obtain ⟨hk, hq, hno, hp, hka⟩ := HX.out
        have hkw : Kp [] w w1 := (hk.trans hka).trans hk1
        clear hhas
        cases hce : hasB p.1 with
        | true =>
          have hyes := withB_at ps i p hp hce
          have HFIN : Hid (withB ps = true ∧ Kp [] w w1) := ⟨hyes, hkw⟩
          clear hk hq hno hp hka hk1 hkw hyes hce
          go_wp2
          go_ret
          exact ⟨congrArg (fun b => Ending.returned (.bool b)) (show false = !withB ps by rw [HFIN.out.1]; rfl), HFIN.out.2⟩
        | false =>
          have hno2 := withB_take ps i p hp hno
          rw [hce] at hno2
          have HREL : Hid (WithRel w w1 ps (.int .i64 ((i : Int) + 1)) (ps.length - (i + 1))) := ⟨i + 1, by simp, by omega, hno2, hkw⟩
          have HMM : Hid (ps.length - (i + 1) < gk) := by show _ < _; omega
          clear hk hq hno hp hka hk1 hkw hno2 hce
          go_wp2
          go_roundg (ps.length - (i + 1))
          case measure => exact HMM.out
          case rel => exact HREL.out
      · have hge : ¬ (i : Int) < (ps.length : Int) := by omega
        have HFIN : Hid (withB ps = false ∧ Kp [] w wr) := by
          rw [List.take_of_length_le (by omega)] at hno
          exact ⟨hno, hk⟩
        clear hq hk hno
        go_wp2
        go_ret
        exact ⟨congrArg (fun b => Ending.returned (.bool b)) (show true = !withB ps by rw [HFIN.out.1]; rfl), HFIN.out.2⟩
end
end Go.Proofs.YtkbgnplknifmhaaGreatDoor
