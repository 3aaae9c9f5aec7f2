/-
  Walks and facts for the mailparts program.
-/
import Derived.Test.YtkbgnplknifmhaaGreatDoorKHs1
import Derived.Test.YtkbgnplknifmhaaGreatDoorKShelf2
import Derived.Shelf.SlSortCmp.NoneTotal
import Derived.Test.YtkbgnplknifmhaaGreatDoorKVw1ToEp1
namespace Go.Proofs.YtkbgnplknifmhaaGreatDoor
open Go.RowKit Go.Sort Go.Shelf
attribute [local go_sem ↓] Go.wp_at_zero Go.wp_at_succ
/-! ### impl.headers (56) and its closure (78) -/
set_option maxHeartbeats 1000000 in
theorem closure78 (x y : Bytes × Value) (W : World) : Calls Tryz.prog 78 #[.agg #[S1 x.1, onec x.2], .agg #[S1 y.1, onec y.2]] W fun e w' => e = .returned (.int .i64 (cmpH x y)) ∧ ∃ q os', w' = grow (W.drewN q) os' := by
  obtain ⟨xk, xv⟩ := x
  obtain ⟨yk, yv⟩ := y
  have hcmp : cmpH (xk, xv) (yk, yv) = if bytesBefore xk yk = true then -1 else 1 := rfl
  rw [hcmp]
  simp only [S1]
  generalize onec xv = xv'
  generalize onec yv = yv'
  cases h : bytesBefore xk yk with
  | true =>
    have hb : Op.bytesLess xk yk = true := by rw [bytesLess_eq]; exact h
    clear hcmp h
    go_enter Tryz.func78, Tryz.ntmps78
    go_wp2
    go_ret
    exact ⟨rfl, 0, _, by rw [alloc_eq_grow, alloc_eq_grow, grow_grow]; rfl⟩
  | false =>
    have hb : Op.bytesLess xk yk = false := by rw [bytesLess_eq]; exact h
    clear hcmp h
    go_enter Tryz.func78, Tryz.ntmps78
    go_wp2
    go_ret
    exact ⟨rfl, 0, _, by rw [alloc_eq_grow, alloc_eq_grow, grow_grow]; rfl⟩
theorem cmpLays78 (blk off size : Nat) (w : World) : CmpLays Tryz.prog 78 #[] encH 2 cmpH blk off size w := fun _ _ _ _ x y => closure78 x y _
theorem isAgg43 (w : World) : (isAgg 43).run Tryz.prog w = .ok true w := by kernel_rfl
theorem sort_any (g cap : Nat) (d : Array (Bytes × Value)) (w : World) (hH : HoldsK encH 2 w g 0 d) (hg : g < w.heap.size) (hsz : d.size < 1000000) :
    Calls Tryz.prog 77 #[.slice (some ⟨g, 0, none⟩) d.size cap, .func (.func 78) #[] #[]] w fun e w' => e = .returned (.tuple #[]) ∧ ∃ d' n os, PermIn 0 d.size d d' ∧ SortedIn (ltOf cmpH) 0 d.size d' ∧ w' = sortWorldK encH 2 w g 0 n d' os :=
  AnyQ.slices_SortFunc Tryz.sort6 2 isAgg43 sizeOf43 encH encH_len encH_one cmpH swoH 78 #[] g 0 cap d w (enters_of Tryz.func78 (by kernel_rfl) rfl) (cmpLays78 g 0 d.size w) hH hg (by omega)
theorem sort_none (p : Option Addr) (cap : Nat) (w : World) : Calls Tryz.prog 77 #[.slice p 0 cap, .func (.func 78) #[] #[]] w fun e w' => e = .returned (.tuple #[]) ∧ w' = w :=
  AnyF.slices_SortFunc_none Tryz.sort6 p cap _ w
theorem Col.fin {w : World} {base g cap : Nat} {xs : List (Bytes × Value)} {hs : HL} {left : Lit → Bool} (h : Col w base (.slice (some ⟨g, 0, none⟩) xs.length cap) xs hs left) (hks : KS hs) (hl : ∀ kl, left kl = false) (d' : Array (Bytes × Value)) (n : Nat) (os : Array Obj)
    (hp : PermIn 0 xs.toArray.size xs.toArray d') (hs' : SortedIn (ltOf cmpH) 0 xs.toArray.size d') : HLx (sortWorldK encH 2 w g 0 n d' os) base (.slice (some ⟨g, 0, none⟩) xs.length cap) d'.toList hs ∧ Kp [g] w (sortWorldK encH 2 w g 0 n d' os) ∧ base ≤ g := by
  obtain ⟨hp1, _, hp2⟩ := hp
  have hperm : d'.toList.Perm xs := by
    have e1 : d'.extract 0 xs.toArray.size = d' := by rw [← hp1]; simp
    have e2 : xs.toArray.extract 0 xs.toArray.size = xs.toArray := by simp
    rw [e1, e2] at hp2
    simpa using hp2
  have hone : OneC d'.toList := fun p hp => h.one p (hperm.mem_iff.1 hp)
  have hk := HR.sorted h.row (ys := d'.toList) hperm.length_eq hone n os
  rw [show d'.toList.toArray = d' from by simp] at hk
  rw [← hp1] at hs'
  have hbg : base ≤ g := (h.row.type g rfl).2.1
  refine ⟨⟨hk.1, ?_, ?_⟩, hk.2, hbg⟩
  · refine two_sorted hks hperm hs' h.nd (fun k => ⟨fun hk => ?_, fun hk => h.all k hk (hl _)⟩) (fun p hp q hq e => ?_)
    · obtain ⟨p, hp, rfl⟩ := List.mem_map.1 hk
      obtain ⟨vs, h1, _⟩ := h.vals p hp
      exact List.mem_map.2 ⟨_, h1, rfl⟩
    · obtain ⟨vs, h1, h2⟩ := h.vals p hp
      have h3 := hks.get _ h1
      have h4 := hks.get _ hq
      simp only at h3
      rw [e, h4] at h3
      injection h3 with h3
      rw [h3]
      exact h2.kp hk.2 (fun b hb e => by
        simp at hb
        subst hb
        exact ov_hr_apart h.row h2 b rfl e)
  · exact (hperm.pairwise_iff (fun {p q} hpq b hb e => hpq b e hb)).2 h.sep
section
variable {w : World} {pb mb b0 : Nat} {hs : HL}
set_option maxRecDepth 20000 in
set_option maxHeartbeats 2000000 in
theorem headers_any (hH : HDR w b0 mb hs) (hks : KS hs) (hl : hs.length ≤ 1000) (hv : ∀ p ∈ hs, p.2.length ≤ 1000) (hc : w.cell? ⟨pb, 0, none⟩ = some (.map (some mb))) : Calls Tryz.prog 56 #[.pointer (some ⟨pb, 0, none⟩)] w fun e w' => HsEnd w hs e w' := by
  obtain ⟨sb, used, cnt, vb, kvs, hI⟩ := hH
  have hmp := hI.mp
  have hmb := hmp.lt
  have hkl : kvs.length = hs.length := hI.two.len
  have hke := hI.two.keys
  unfold MP at hmp
  have HI0 := Lib.hid hI
  have HKS := Lib.hid hks
  have HV := Lib.hid hv
  clear hI hks hv
  go_enter Tryz.func56, Tryz.ntmps56
  go_wp2_with (at_range; refine wpList_range_own _ rfl _ 114 rfl 9 41 keyed9 Tryz.underlying114 RV mb cnt (mapD kvs) rfl hmp ?_; intro w0 hrg0 hg0 hs0)
  go_frame
  have hR0 : HsRel w w0 mb cnt kvs hs (.slice none 0 0) hs.length := by
    rw [size_mapD, hkl] at hrg0
    refine ⟨_, [], hrg0, ⟨HR.nil _ _, by simp, List.Pairwise.nil, by simp, by simp, fun k hk hlk => ?_⟩, by simp, (Kp.refl [] w).grown hg0 (by simp), by omega⟩
    rw [← hke] at hk
    rw [has_key hk] at hlk; cases hlk
  have HR0 := Lib.hid hR0
  clear hR0 hrg0 hg0 hs0 hmp
  go_loopg [3] hs.length (fun q v3 wr => HsRel w wr mb cnt kvs hs v3 q)
  case atStart => exact HR0.out
  case round =>
    clear HR0
    obtain ⟨left, xs, hrg, hC, hq, hk, hsz⟩ := hrel.ex
    clear hrel
    have HC := Lib.hid hC
    have HK := Lib.hid hk
    have HQ := Lib.hid (And.intro hq hsz)
    clear hC hk hq
    go_wp2_with (at_next; refine wpList_next_ranges _ rfl _ rfl 9 keyed9 RV (fun l : Bytes => .string (str l)) (fun v => v) (fun key kl hk => by obtain ⟨x, hx, _⟩ := keyOf9 hk; exact ⟨x, hx⟩) (fun v y hv => ⟨v, rfl⟩) mb w.heap.size cnt _ _ _ rfl hrg ?_ ?_)
    · intro hc0 hl0
      obtain ⟨hq, hsz⟩ := HQ.out
      rcases HC.out.row.2 with ⟨hnil, h0⟩ | ⟨g, cap, cur, hvv, hbase, hb, h1, h2, h3, h4⟩
      · have hx : xs = [] := List.eq_nil_of_length_eq_zero h0
        subst hx
        subst hnil
        have hcon := sort_none none 0 wr
        have hfin : HsEnd w hs (.returned (.slice none 0 0)) wr := by
          have hC := HC.out
          have hh : hs = [] := by
            cases hs with
            | nil => rfl
            | cons p r => have := hC.all p.1 (by simp) (hl0 _); simp at this
          subst hh
          exact ⟨_, [], rfl, ⟨HR.nil _ _, .nil, List.Pairwise.nil⟩, HK.out⟩
        have HFIN := Lib.hid hfin
        clear hfin hrg hl0 hc0 hq hsz
        go_wp2_with fail
        (with_reducible refine hcon.mono ?_)
        rintro e w1 ⟨rfl, rfl⟩
        go_wp2
        go_ret
        exact HFIN.out
      · subst hvv
        have hC := HC.out
        have hHo := hC.row.holdsK hC.one
        have hcon := sort_any g cap xs.toArray wr hHo.1 hHo.2 (by simp; omega)
        rw [show xs.toArray.size = xs.length from by simp] at hcon
        have hfin : ∀ d' n os, PermIn 0 xs.length xs.toArray d' → SortedIn (ltOf cmpH) 0 xs.length d' → HsEnd w hs (.returned (.slice (some ⟨g, 0, none⟩) xs.length cap)) (sortWorldK encH 2 wr g 0 n d' os) := fun d' n os hp hs' => by
          obtain ⟨h5, h6, h7⟩ := Col.fin hC HKS.out hl0 d' n os (by simpa using hp) (by simpa using hs')
          exact ⟨_, _, rfl, h5.base (by omega), HK.out.trans' h6 (fun x hx => by simp at hx; subst hx; exact .inr (by omega))⟩
        have HFIN := Lib.hid hfin
        clear hfin hrg hl0 hc0 hq hsz hC hHo hb h1 h2 h3 h4 hbase
        go_wp2_with fail
        (with_reducible refine hcon.mono ?_)
        rintro e w1 ⟨rfl, d', n, os, hp, hs', rfl⟩
        have HF2 := Lib.hid (HFIN.out d' n os hp hs')
        clear hp hs' HFIN
        go_wp2
        go_ret
        exact HF2.out
    · intro x c kl y yp w1 cnt1 hkey hlk hR hat hrg1 hlt hg1 hs1 hen
      obtain ⟨hq, hsz⟩ := HQ.out
      obtain ⟨x', hx', rfl⟩ := keyOf9 hkey
      have hxx : x = x' := by
        have := Value.string.inj hx'
        have h2 := congrArg (fun s : ByteArray => s.data.toList) this
        simpa [str] using h2
      subst hxx
      have hR' : y = .held c := by unfold RV at hR; simp at hR; exact hR.1.symm
      subst hR'
      obtain ⟨c', hg, hcc⟩ := at_of hat
      have : c' = c := by injection hcc with hcc; exact hcc.symm
      subst this
      have hk1 : Kp [w.heap.size] wr w1 := (Kp.refl _ wr).grown hg1 (by intro k hk; left; injection hk with hk; simp [hk])
      have hkw1 : Kp [] w w1 := HK.out.trans' hk1 (fun z hz => .inr (by simp at hz; omega))
      have hI1 := HI0.out.kp (vb' := vb) hkw1 (by simp) (by simp) (fun b hb => .inl hb)
      have hgg := hI1.get x
      rw [hg] at hgg
      obtain ⟨hVV, _, _, _, hshape⟩ := hgg
      obtain ⟨aa, nn, cc, rfl⟩ := hshape c' rfl
      rcases hI1.two.get x with ⟨h1, _⟩ | ⟨v1, vs, h1, h2, ⟨h3, h4, h5⟩, h6⟩
      · rw [hg] at h1; cases h1
      rw [hg] at h1
      injection h1 with h1
      subst h1
      have hkvmem : (x, vs) ∈ hs := by
        unfold kvGet at h2
        obtain ⟨q, hq1, hq2⟩ := Option.map_eq_some_iff.1 h2
        have h7 := List.mem_of_find?_eq_some hq1
        have h8 := List.find?_some hq1
        simp at h8
        rw [← h8, ← hq2]
        exact h7
      have hsv := h3.sv
      have hnn : nn = vs.length := by
        obtain ⟨a', c2, e, _⟩ := hsv.ex
        injection e with _ e _
      subst hnn
      obtain ⟨sv, wB, e1, hov, hkB, hszB⟩ := copyS w1 41 aa cc vs hsv (by have := HV.out _ hkvmem; simp at this; omega)
      obtain ⟨sa, sc, rfl⟩ : ∃ a c, sv = .slice a vs.length c := by
        obtain ⟨a, c, e, _⟩ := hov.sv.ex
        exact ⟨a, c, e⟩
      have hC1 : Col w1 (w.heap.size + 1) u3 xs hs left := HC.out.kp hk1 (by simp)
      have hCB := hC1.kp hkB (by simp)
      have hxl : xs.length ≤ 1000 := by omega
      obtain ⟨v', wC, e2, hCC, SC, hkC, hSC⟩ := hCB.add x _ vs hkvmem (hov.base (by omega)) (fun p hp b hb e => by
          obtain ⟨us, _, h8⟩ := hC1.vals p hp
          have := (h8.type b hb).1
          have := (hov.type b e).2.1
          omega) hlk (by omega) (by omega)
      have hSb : ∀ z ∈ SC, w.heap.size + 1 ≤ z := fun z hz => (hCB.row.type z (hSC z hz)).2.1
      have hrgC := ranges_kp (ranges_kp hrg1 hkB (by simp) (by simp)) hkC (fun e => by have := hSb _ e; omega) (fun e => by have := hSb _ e; omega)
      have hkwC : Kp [] w wC := (hkw1.trans hkB).trans' hkC (fun z hz => .inr (by have := hSb z hz; omega))
      have hrel2 : HsRel w wC mb cnt kvs hs v' cnt1 := ⟨_, _, hrgC, hCC, by simp; omega, hkwC, by have := hkC.size; omega⟩
      have HREL := Lib.hid hrel2
      have hmm : cnt1 < gk := hlt
      clear hrel2 hrgC hkwC hSb hkC hSC hCC hC1 hCB hkB hov hsv h2 h3 h4 h5 h6 hVV hI1 hkw1 hk1 hat hR hkey hx' hlk hrg1 hrg hlt hg1 HC HK hq hsz hs1 hg hcc hxl hkvmem hszB HQ
      go_wp2_with (at_builtin; first | (refine wpList_append_run2 _ rfl (.tmp 18) (.tmp 19) 41 41 rfl (.slice (some ⟨w1.heap.size, 0, none⟩) 0 0) (.slice (some aa) vs.length cc) rfl rfl e1 ?_) | (refine wpList_append_run2 _ rfl (.tmp 16) (.tmp 22) 27 27 rfl u3 (.slice (some ⟨wB.heap.size, 0, none⟩) 1 1) rfl rfl e2 ?_))
      go_roundg cnt1
      case measure => exact hmm
      case rel => exact HREL.out
end
theorem headersOk : HeadersOk := fun _w _pb _mb _b0 _hs h1 h2 h3 h4 h5 => headers_any h1 h2 h3 h4 h5
end Go.Proofs.YtkbgnplknifmhaaGreatDoor
namespace Go.Proofs.YtkbgnplknifmhaaGreatDoor
open Go.RowKit
attribute [local go_sem ↓] Go.wp_at_zero Go.wp_at_succ
theorem int_le {z : Int} (h : (Lit.int .i64 z).wf = true) : z ≤ 9223372036854775807 := by
  have e2 : IntKind.i64.max = 9223372036854775807 := rfl
  simp [Lit.wf, e2] at h
  omega
section
variable {w : World} {E : Value} {a : Option Addr} {c : Nat} {src b : Bytes}
set_option maxRecDepth 20000 in
set_option maxHeartbeats 1000000 in
theorem exactParse_any (hE : Env w E) (h : HB w a src) (hc : src.length ≤ c) (hnone : a = none → c = 0) :
    Calls Tryz.prog 10 #[.slice a src.length c, .string (str b)] w fun e w' => e = .returned (.bool true) ∧ Kp [] w w' := by
  by_cases hs : src.length ≤ 16777216 ∧ b.length ≤ 16777216
  · exact exactParse_walk headersOk hE h hc hnone hs.1 hs.2
  · have HK : Hid (Kp [] w w) := Kp.refl _ _
    clear hE h hc hnone
    go_enter Tryz.func10, Tryz.ntmps10
    go_wp2_with fail
    all_goals first
      | (go_ret; exact ⟨rfl, HK.out⟩)
      | (exfalso; omega)
set_option maxRecDepth 20000 in
set_option maxHeartbeats 1000000 in
theorem exactSlow_any (piece : Int) (hpi : piece ≤ 9223372036854775807) (hE : Env w E) (h : HB w a src) (hc : src.length ≤ c) (hnone : a = none → c = 0) :
    Calls Tryz.prog 8 #[.slice a src.length c, .string (str b), .int .i64 piece] w fun e w' => e = .returned (.bool true) ∧ Kp [] w w' := by
  by_cases hs : src.length ≤ 16777216 ∧ b.length ≤ 16777216
  · exact exactSlow_walk headersOk piece hpi hE h hc hnone hs.1 hs.2
  · have HK : Hid (Kp [] w w) := Kp.refl _ _
    clear hE h hc hnone
    go_enter Tryz.func8, Tryz.ntmps8
    go_wp2_with fail
    all_goals first
      | (go_ret; exact ⟨rfl, HK.out⟩)
      | (exfalso; omega)
end
end Go.Proofs.YtkbgnplknifmhaaGreatDoor
