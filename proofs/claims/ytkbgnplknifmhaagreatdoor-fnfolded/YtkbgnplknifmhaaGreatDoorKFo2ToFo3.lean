/-
  Walks and facts for the mailparts program.
-/
import Derived.Test.YtkbgnplknifmhaaGreatDoorKFo1
import Derived.Test.YtkbgnplknifmhaaGreatDoorKHs2ToEp2
namespace Go.Proofs.YtkbgnplknifmhaaGreatDoor
open Go.RowKit
attribute [local go_sem ↓] Go.wp_at_zero Go.wp_at_succ
/-! ### spec.Close (20), laws.FnFolded (4) -/
def closeT (b : Bytes) : Bytes := 13 :: 10 :: 45 :: 45 :: (b ++ [45, 45, 13, 10])
theorem closeT_len (b : Bytes) : (closeT b).length = b.length + 8 := by
  unfold closeT
  simp
theorem len_ok (l m : Bytes) (h : l.length + m.length ≤ 9223372036854775807) : ¬ 9223372036854775807 < l.length + m.length := by omega
def CloseEnd (w : World) (b : Bytes) (e : Ending) (w' : World) : Prop := ∃ x c, e = .returned (.slice (some ⟨x, 0, none⟩) (closeT b).length c) ∧ HB w' (some ⟨x, 0, none⟩) (closeT b) ∧ Kp [] w w'
set_option maxRecDepth 20000 in
set_option maxHeartbeats 1000000 in
theorem close20 (b : Bytes) (w : World) (hb : b.length ≤ 1000) : Calls Tryz.prog 20 #[.string (str b)] w fun e w' => CloseEnd w b e w' := by
  obtain ⟨c, w1, hcv, hb1, hlc, hk1, hsz1⟩ := conv_bytes (closeT b) w
  have e1 : (⟨#[13, 10, 45, 45]⟩ : ByteArray) ++ str b = str (13 :: 10 :: 45 :: 45 :: b) := str_append [13, 10, 45, 45] b
  have e2 : str (13 :: 10 :: 45 :: 45 :: b) ++ (⟨#[45, 45, 13, 10]⟩ : ByteArray) = str (closeT b) := by
    rw [show (⟨#[45, 45, 13, 10]⟩ : ByteArray) = str [45, 45, 13, 10] from rfl, str_append]; rfl
  have n1 : ¬ 9223372036854775807 < 4 + b.length := by omega
  have n2 : ¬ 9223372036854775807 < b.length + 1 + 1 + 1 + 1 + 4 := by omega
  have HF : Hid (CloseEnd w b (.returned (.slice (some ⟨w.heap.size, 0, none⟩) (closeT b).length c)) w1) := ⟨_, c, rfl, hb1, hk1⟩
  clear hb1 hk1
  go_enter Tryz.func20, Tryz.ntmps20
  go_wp2
  go_ret
  exact HF.out
theorem onePart {w : World} {k s body : Bytes} {u : Value} (h : BView w u body) : PView (((w.alloc (.cells #[.string (str s)] 9)).alloc (.cells #[.string (str k), .slice (some ⟨w.heap.size, 0, none⟩) 1 1] 43)).alloc (.cells #[.slice (some ⟨w.heap.size + 1, 0, none⟩) 1 1, u] 29)) (.slice (some ⟨w.heap.size + 1 + 1, 0, none⟩) 1 1) [([(k, [s])], body)] := by
  have k1 : Kp [] w (w.alloc (.cells #[.string (str s)] 9)) := (Kp.refl [] w).alloc _
  have b1 := Blk.new w #[.string (str s)] 9
  have z1 : (w.alloc (.cells #[.string (str s)] 9)).heap.size = w.heap.size + 1 := by simp
  generalize w.alloc (.cells #[.string (str s)] 9) = w1 at *
  have k2 : Kp [] w1 (w1.alloc (.cells #[.string (str k), .slice (some ⟨w.heap.size, 0, none⟩) 1 1] 43)) := (Kp.refl [] w1).alloc _
  have b2 := Blk.new w1 #[.string (str k), .slice (some ⟨w.heap.size, 0, none⟩) 1 1] 43
  have z2 : (w1.alloc (.cells #[.string (str k), .slice (some ⟨w.heap.size, 0, none⟩) 1 1] 43)).heap.size = w1.heap.size + 1 := by simp
  generalize w1.alloc (.cells #[.string (str k), .slice (some ⟨w.heap.size, 0, none⟩) 1 1] 43) = w2 at *
  have k3 : Kp [] w2 (w2.alloc (.cells #[.slice (some ⟨w.heap.size + 1, 0, none⟩) 1 1, u] 29)) := (Kp.refl [] w2).alloc _
  have b3 := Blk.new w2 #[.slice (some ⟨w.heap.size + 1, 0, none⟩) 1 1, u] 29
  generalize w2.alloc (.cells #[.slice (some ⟨w.heap.size + 1, 0, none⟩) 1 1, u] 29) = w3 at *
  rw [z1] at b2 z2
  rw [z2] at b3
  have b1 := (b1.kp k2 (by simp)).kp k3 (by simp)
  have b2 := b2.kp k3 (by simp)
  refine ⟨.inr ⟨_, _, rfl, fun i p hp => ?_⟩⟩
  cases i with
  | succ i => simp at hp
  | zero =>
    simp at hp
    subst hp
    refine ⟨_, _, b3.cell 0, b3.cell 1, ⟨.inr ⟨_, _, rfl, fun i p hp => ?_⟩⟩, ((h.kp0 k1).kp0 k2).kp0 k3⟩
    cases i with
    | succ i => simp at hp
    | zero =>
      simp at hp
      subst hp
      refine ⟨_, b2.cell 0, b2.cell 1, ⟨_, _, rfl, Nat.le_refl _, by simp, fun x hx => ⟨_, _, (Option.some.inj hx).symm⟩, fun i hi => ?_⟩⟩
      cases i with
      | succ i => simp at hi
      | zero => exact b1.cell 0
section
variable {w : World} {E : Value} {a5 : Option Addr} {c5 : Nat} {b key a v sp body : Bytes}
/-- The law's text. -/
theorem foldT_eq : 45 :: 45 :: b ++ [13, 10] ++ key ++ [58, 32] ++ a ++ [13, 10] ++ sp ++ v ++ [13, 10, 13, 10] ++ body ++ closeT b = foldT b key a sp v body := by
  unfold foldT closeT dlm
  simp
theorem foldT_len : (foldT b key a sp v body).length = 2 * b.length + key.length + a.length + sp.length + v.length + body.length + 20 := by
  unfold foldT dlm
  simp
  omega
theorem ne_of_beq_false {l : Bytes} (h : (l == []) = false) : l ≠ [] := by
  rintro rfl; exact absurd h (by decide)
set_option maxRecDepth 20000 in
set_option maxHeartbeats 8000000 in
theorem fnFolded_walk (hE : Env w E) (h : HB w a5 body) (hc : body.length ≤ c5) (hnone : a5 = none → c5 = 0) (h0 : b.length ≤ 16777216) (h1 : key.length ≤ 16777216) (h2 : a.length ≤ 16777216) (h3 : v.length ≤ 16777216) (h4 : sp.length ≤ 16777216) (h5 : body.length ≤ 16777216) :
    Calls Tryz.prog 4 #[.string (str b), .string (str key), .string (str a), .string (str v), .string (str sp), .slice a5 body.length c5] w fun e w' => e = .returned (.bool true) ∧ Kp [] w w' := by
  have i0 : ¬ (16777216 : Int) < (b.length : Int) := by omega
  have i1 : ¬ (16777216 : Int) < (key.length : Int) := by omega
  have i2 : ¬ (16777216 : Int) < (a.length : Int) := by omega
  have i3 : ¬ (16777216 : Int) < (v.length : Int) := by omega
  have i4 : ¬ (16777216 : Int) < (sp.length : Int) := by omega
  have i5 : ¬ (16777216 : Int) < (body.length : Int) := by omega
  have j0 : ¬ (2147483647 : Int) < (b.length : Int) := by omega
  have j1 : ¬ (2147483647 : Int) < (key.length : Int) := by omega
  have j2 : ¬ (2147483647 : Int) < (a.length : Int) := by omega
  have j3 : ¬ (2147483647 : Int) < (v.length : Int) := by omega
  have j4 : ¬ (2147483647 : Int) < (sp.length : Int) := by omega
  have j5 : ¬ (2147483647 : Int) < (body.length : Int) := by omega
  have d0 := boundary_any b w (by omega)
  have d1 := key_any key w (by omega)
  have d2 := plain_any a w (by omega)
  have d3 := plain_any v w (by omega)
  have d4 := blank_any sp w (by omega)
  have HX := Lib.hid (And.intro hE (And.intro h (And.intro hc hnone)))
  have HK : Hid (Kp [] w w) := Kp.refl _ _
  clear hE h hc hnone
  go_enter Tryz.func4, Tryz.ntmps4
  go_wp2_with fail
  refine d0.mono ?_
  rintro e w' ⟨rfl, rfl⟩
  clear d0
  cases hb : boundaryB b with
  | false =>
    go_wp2
    go_ret
    exact ⟨rfl, HK.out⟩
  | true =>
    go_wp2_with fail
    refine d1.mono ?_
    rintro e w' ⟨rfl, rfl⟩
    clear d1
    cases hk : keyB key with
    | false =>
      go_wp2
      go_ret
      exact ⟨rfl, HK.out⟩
    | true =>
      cases ha0 : (a == []) with
      | true =>
        have ha1 := eq_of_beq ha0
        subst ha1
        go_wp2
        go_ret
        exact ⟨rfl, HK.out⟩
      | false =>
        cases hv0 : (v == []) with
        | true =>
          have hv1 := eq_of_beq hv0
          subst hv1
          go_wp2
          go_ret
          exact ⟨rfl, HK.out⟩
        | false =>
          go_wp2_with fail
          refine d2.mono ?_
          rintro e w' ⟨rfl, rfl⟩
          clear d2
          cases hpa : plainB a with
          | false =>
            go_wp2
            go_ret
            exact ⟨rfl, HK.out⟩
          | true =>
            go_wp2_with fail
            refine d3.mono ?_
            rintro e w' ⟨rfl, rfl⟩
            clear d3
            cases hpv : plainB v with
            | false =>
              go_wp2
              go_ret
              exact ⟨rfl, HK.out⟩
            | true =>
              by_cases hlen : key.length + 2 + a.length + sp.length + v.length ≤ 998
              · have hlen' : ¬ (998 : Int) < (key.length : Int) + 2 + (a.length : Int) + (sp.length : Int) + (v.length : Int) := by omega
                go_wp2_with fail
                refine d4.mono ?_
                rintro e w' ⟨rfl, rfl⟩
                clear d4
                cases hbk : blankB sp with
                | false =>
                  go_wp2
                  go_ret
                  exact ⟨rfl, HK.out⟩
                | true =>
                  obtain ⟨hE, h, hc, hnone⟩ := HX.out
                  have hbl := boundaryB_len hb
                  have d5 := free_any (b := b) h hc (by omega) (by omega)
                  clear hE h hc hnone
                  go_wp2_with fail
                  refine d5.mono ?_
                  rintro e w1 ⟨rfl, hk1⟩
                  clear d5
                  have HK1 := Lib.hid hk1
                  clear hk1
                  cases hfr : freeB body (dlm b) with
                  | false =>
                    go_wp2
                    go_ret
                    exact ⟨rfl, HK1.out⟩
                  | true =>
                    have HF := Lib.hid (And.intro hb (And.intro hk (And.intro ha0 (And.intro hv0 (And.intro hpa (And.intro hpv (And.intro hlen (And.intro hbk hfr))))))))
                    clear i0 i1 i2 i3 i4 i5 j0 j1 j2 j3 j4 j5 hb hk ha0 hv0 hpa hpv hlen hbk hfr HK
                    have hbl' : b.length ≤ 1000 := by omega
                    have hcv : ∀ wx, Kp [] w1 wx → (convert 22 9 (.slice a5 body.length c5)).run Tryz.prog wx = .ok (.string (str body)) wx := fun wx k => run_str wx a5 body body.length c5 (((HX.out.2.1).kp HK1.out (by simp)).kp k (by simp)) rfl
                    have hcv1 := hcv w1.drew (Kp.refl [] w1).drew
                    have e0 : (⟨#[45, 45]⟩ : ByteArray) = str [45, 45] := rfl
                    have e1 : (⟨#[13, 10]⟩ : ByteArray) = str [13, 10] := rfl
                    have e2 : (⟨#[58, 32]⟩ : ByteArray) = str [58, 32] := rfl
                    have e3 : (⟨#[13, 10, 13, 10]⟩ : ByteArray) = str [13, 10, 13, 10] := rfl
                    have e4 : (⟨#[32]⟩ : ByteArray) = str [32] := rfl
                    go_wp2
                    clear hlen'
                    have n1 := len_ok ([45, 45]) (b) (by simp; omega)
                    have n2 := len_ok ([45, 45] ++ b) ([13, 10]) (by simp; omega)
                    have n3 := len_ok ([45, 45] ++ b ++ [13, 10]) (key) (by simp; omega)
                    have n4 := len_ok ([45, 45] ++ b ++ [13, 10] ++ key) ([58, 32]) (by simp; omega)
                    have n5 := len_ok ([45, 45] ++ b ++ [13, 10] ++ key ++ [58, 32]) (a) (by simp; omega)
                    have n6 := len_ok ([45, 45] ++ b ++ [13, 10] ++ key ++ [58, 32] ++ a) ([13, 10]) (by simp; omega)
                    have n7 := len_ok ([45, 45] ++ b ++ [13, 10] ++ key ++ [58, 32] ++ a ++ [13, 10]) (sp) (by simp; omega)
                    have n8 := len_ok ([45, 45] ++ b ++ [13, 10] ++ key ++ [58, 32] ++ a ++ [13, 10] ++ sp) (v) (by simp; omega)
                    have n9 := len_ok ([45, 45] ++ b ++ [13, 10] ++ key ++ [58, 32] ++ a ++ [13, 10] ++ sp ++ v) ([13, 10, 13, 10]) (by simp; omega)
                    have n10 := len_ok ([45, 45] ++ b ++ [13, 10] ++ key ++ [58, 32] ++ a ++ [13, 10] ++ sp ++ v ++ [13, 10, 13, 10]) (body) (by simp; omega)
                    have hct := closeT_len b
                    have n11 := len_ok ([45, 45] ++ b ++ [13, 10] ++ key ++ [58, 32] ++ a ++ [13, 10] ++ sp ++ v ++ [13, 10, 13, 10] ++ body) (closeT b) (by simp; omega)
                    clear hct
                    simp only [List.cons_append, List.nil_append, List.append_assoc, List.length_append, List.length_cons, List.length_nil, Nat.zero_add, Nat.reduceAdd] at n1 n2 n3 n4 n5 n6 n7 n8 n9 n10 n11
                    go_cut [13] from 124 to 144 (fun v13 wx => v13 = .string (str (foldT b key a sp v body)) ∧ Kp [] w1 wx)
                    case first =>
                      have HFT : Hid ([45, 45] ++ b ++ [13, 10] ++ key ++ [58, 32] ++ a ++ [13, 10] ++ sp ++ v ++ [13, 10, 13, 10] ++ body ++ closeT b = foldT b key a sp v body) := foldT_eq
                      go_region_law (go_simp; go_at_call 20; refine (close20 b _ hbl').mono ?_; rintro e wz ⟨xz, cz, rfl, hbz, hkz⟩; have hkz1 : Kp [] w1 wz := (Kp.refl [] w1).drew.trans hkz; have hcvz := hcv wz hkz1; have hcvy := run_str wz _ _ _ cz hbz rfl; have HKZ := Lib.hid hkz1; clear hkz hkz1 hbz)
                      all_goals
                        go_wp2_with fail
                        go_meet
                        exact ⟨congrArg (fun l => Value.string (str l)) (by simpa using HFT.out), HKZ.out⟩
                    case rest =>
                      obtain ⟨rfl, hkx⟩ := hcut
                      clear n1 n2 n3 n4 n5 n6 n7 n8 n9 n10 n11 hcv hcv1 e0 e1 e2 e3
                      obtain ⟨hE, h, hc, hnone⟩ := HX.out
                      obtain ⟨hb, hk, ha0, hv0, hpa, hpv, hlen, hbk, hfr⟩ := HF.out
                      have hkw : Kp [] w wc := HK1.out.trans hkx
                      obtain ⟨cs, w2, hcv2, hb2, hlc2, hk2, hsz2⟩ := conv_bytes (foldT b key a sp v body) wc
                      have hbk' : sp.all blankC = true ∧ 0 < sp.length := by
                        unfold blankB at hbk
                        simp only [Bool.and_eq_true, decide_eq_true_eq] at hbk
                        exact ⟨hbk.1, hbk.2.1⟩
                      obtain ⟨rest0, hn, hx⟩ := folded_nxt (body := body) hb hk hpa (ne_of_beq_false ha0) hpv (ne_of_beq_false hv0) hlen hbk'.1 hbk'.2 hfr
                      have hpt := parts21 (c := cs) headersOk ((hE.kp hkw (by simp)).kp hk2 (by simp)) hb2 (by simp) (by rw [foldT_len]; omega) hb hn hx (by intro p hp; simp at hp; subst hp; show body.length ≤ _; omega)
                      have hkw2 : Kp [] w w2 := hkw.trans hk2
                      have hbv : BView w2 (.slice a5 body.length c5) body := ⟨a5, c5, rfl, h.kp hkw2 (by simp), hnone⟩
                      have HP := Lib.hid (And.intro hkw2 hbv)
                      have hkl : key.length ≤ 281474976710656 := by omega
                      clear hE h hc hnone hb hk ha0 hv0 hpa hpv hlen hbk hfr hkw hkw2 hb2 hk2 hn hx hbv hkx hbk' HX HF
                      go_wp2_with fail
                      refine hpt.mono ?_
                      rintro e w3 ⟨v3, rfl, hgp, hk3⟩
                      clear hpt
                      have hca := canon_any key w3 hkl
                      have HG := Lib.hid (And.intro hgp hk3)
                      clear hgp hk3
                      go_wp2_with fail
                      refine hca.mono ?_
                      rintro e w4 ⟨rfl, hk4⟩
                      clear hca
                      have hpv2 := onePart (k := canonB key) (s := a ++ 32 :: v) ((HP.out.2.kp0 HG.out.2).kp0 hk4)
                      have hka := hk4.trans ((((Kp.refl [] w4).alloc (.cells #[.string (str (a ++ 32 :: v))] 9)).alloc (.cells #[.string (str (canonB key)), .slice (some ⟨w4.heap.size, 0, none⟩) 1 1] 43)).alloc (.cells #[.slice (some ⟨w4.heap.size + 1, 0, none⟩) 1 1, .slice a5 body.length c5] 29))
                      have hsm := same_any (HG.out.1.view.kp0 hka) hpv2 (by simp) (by intro p hp; simp at hp; subst hp; refine ⟨by simp, by intro q hq; simp at hq; subst hq; simp, by show body.length ≤ _; omega⟩)
                      have HKF := Lib.hid (HP.out.1.trans (HG.out.2.trans hka))
                      clear hk4 hpv2 hka HP HG
                      go_wp2_with fail
                      refine hsm.mono ?_
                      rintro e w5 ⟨rfl, hk5⟩
                      have HFIN := Lib.hid (HKF.out.trans hk5)
                      clear hsm hk5 HKF
                      go_wp2
                      go_ret
                      exact ⟨rfl, HFIN.out⟩
              · have hlen' : (998 : Int) < (key.length : Int) + 2 + (a.length : Int) + (sp.length : Int) + (v.length : Int) := by omega
                clear d4
                go_wp2
                go_ret
                exact ⟨rfl, HK.out⟩
end
end Go.Proofs.YtkbgnplknifmhaaGreatDoor
namespace Go.Proofs.YtkbgnplknifmhaaGreatDoor
open Go.RowKit
attribute [local go_sem ↓] Go.wp_at_zero Go.wp_at_succ
/-! ### laws.FnFolded (4), whatever the sizes -/
section
variable {w : World} {E : Value} {a5 : Option Addr} {c5 : Nat} {b key a v sp body : Bytes}
set_option maxRecDepth 20000 in
set_option maxHeartbeats 4000000 in
theorem fnFolded_any (hE : Env w E) (h : HB w a5 body) (hc : body.length ≤ c5) (hnone : a5 = none → c5 = 0) :
    Calls Tryz.prog 4 #[.string (str b), .string (str key), .string (str a), .string (str v), .string (str sp), .slice a5 body.length c5] w fun e w' => e = .returned (.bool true) ∧ Kp [] w w' := by
  by_cases hs : (b.length ≤ 16777216 ∧ key.length ≤ 16777216 ∧ a.length ≤ 16777216) ∧ (v.length ≤ 16777216 ∧ sp.length ≤ 16777216 ∧ body.length ≤ 16777216)
  · exact fnFolded_walk hE h hc hnone hs.1.1 hs.1.2.1 hs.1.2.2 hs.2.1 hs.2.2.1 hs.2.2.2
  · have HK : Hid (Kp [] w w) := Kp.refl _ _
    clear hE h hc hnone
    go_enter Tryz.func4, Tryz.ntmps4
    go_wp2_with fail
    all_goals first
      | (go_ret; exact ⟨rfl, HK.out⟩)
      | (exfalso; omega)
end
end Go.Proofs.YtkbgnplknifmhaaGreatDoor
