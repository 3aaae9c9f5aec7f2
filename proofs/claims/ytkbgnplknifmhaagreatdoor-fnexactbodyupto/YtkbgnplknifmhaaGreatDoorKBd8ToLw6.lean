/-
  Walks and facts for the mailparts program.
-/
import Derived.Test.YtkbgnplknifmhaaGreatDoorKBd1ToPure11
import Derived.Test.YtkbgnplknifmhaaGreatDoorKHs2ToEp2
namespace Go.Proofs.YtkbgnplknifmhaaGreatDoor
open Go.RowKit
attribute [local go_sem ↓] Go.wp_at_zero Go.wp_at_succ
/-! ### spec.CanonHead (64) -/
theorem insK_pos (k : Bytes) (vs : List Bytes) (hs : HL) : insK k vs hs = hs.take (posOf k hs) ++ (k, vs) :: hs.drop (posOf k hs) := by
  induction hs with
  | nil => rfl
  | cons p r ih =>
    unfold insK posOf
    by_cases hb : bytesBefore p.1 k = true
    · rw [if_pos hb, if_pos hb, List.take_succ_cons, List.drop_succ_cons, List.cons_append, ih]
    · rw [if_neg hb, if_neg hb]; rfl
theorem canonH_take {hs : HL} {i : Nat} {p : Bytes × List Bytes} (h : hs[i]? = some p) : canonH (hs.take (i + 1)) = insK (canonB p.1) p.2 (canonH (hs.take i)) := by
  unfold canonH
  rw [List.take_add_one, h, List.foldl_append]
  rfl
theorem cell_spot {w : World} {x : Addr} {v : Value} (h : w.cell? x = some v) : x.spot = none := by
  unfold World.cell? at h
  split at h
  · split at h
    · cases h
    · rename_i hs
      simpa using hs
  · cases h
theorem TB.sv {w : World} {a : Option Addr} {c : Nat} {vs : List Bytes} (h : TB w a vs) (h0 : vs ≠ []) (hc : vs.length ≤ c) (hn : a = none → c = 0) : SV w (.slice a vs.length c) vs := by
  refine ⟨a, c, rfl, hc, hn, fun x hx => ?_, h.cell⟩
  subst hx
  have h1 := h.cell 0 (by cases vs with | nil => exact absurd rfl h0 | cons _ _ => simp)
  have h2 : at_ (some x) 0 = x := by simp [at_, Addr.add]
  rw [h2] at h1
  have h3 := cell_spot h1
  exact ⟨x.block, x.off, by cases x; simp at h3; subst h3; rfl⟩
/-- A header list of the call's own, its values' lists as they came in. -/
structure CHx (w0 w : World) (base : Nat) (v : Value) (hs : HL) : Prop where
  ex : ∃ svs, HR w base v svs ∧ Two (fun u vs => SV w0 u vs) svs hs
theorem Two.mem2 {α β : Type} {r : α → β → Prop} {l : List (Bytes × α)} {m : List (Bytes × β)} (h : Two r l m) : ∀ p ∈ l, ∃ b, r p.2 b := by
  induction h with
  | nil => intro p hp; simp at hp
  | cons k a b l m h t ih =>
    intro p hp
    rcases List.mem_cons.1 hp with rfl | hp
    · exact ⟨b, h⟩
    · exact ih p hp
theorem sv_one {w : World} {svs : List (Bytes × Value)} {hs : HL} (h : Two (fun u vs => SV w u vs) svs hs) : OneC svs := by
  intro p hp
  obtain ⟨b, hb⟩ := h.mem2 p hp
  obtain ⟨a, c, e, _⟩ := hb.ex
  rw [e]; rfl
theorem CHx.view {w0 w : World} {base : Nat} {v : Value} {hs : HL} (h : CHx w0 w base v hs) (k : Kp [] w0 w) : HView w v hs := by
  obtain ⟨svs, h1, h2⟩ := h.ex
  have hl := h2.len
  rcases h1.2 with ⟨rfl, h0⟩ | ⟨g, cap, cur, rfl, hb, rest⟩
  · exact ⟨.inl ⟨List.eq_nil_of_length_eq_zero (by omega), none, 0, rfl⟩⟩
  · refine ⟨.inr ⟨g, cap, by rw [hl], fun i p hp => ?_⟩⟩
    have hi : i < svs.length := by rw [hl]; exact (List.getElem?_eq_some_iff.1 hp).1
    obtain ⟨q, hq⟩ : ∃ q, svs[i]? = some q := ⟨_, List.getElem?_eq_getElem hi⟩
    obtain ⟨vs, h3, h4⟩ := h2.at_ i q hq
    rw [hp] at h3
    injection h3 with h3
    obtain ⟨h5, h6⟩ := flat_get svs i q hq
    refine ⟨q.2, ?_, ?_, ?_⟩
    · have := World.ownsRow.cellAt h1 (i * 2) (by omega)
      rw [this, h5, h3]
    · have := World.ownsRow.cellAt h1 (i * 2 + 1) (by omega)
      rw [this, h6]
    · rw [h3]; exact h4.kp0 k
theorem HR.shape {w : World} {base : Nat} {v : Value} {svs : List (Bytes × Value)} (h : HR w base v svs) : ∃ a c, v = .slice a svs.length c := by
  rcases h.2 with ⟨rfl, h0⟩ | ⟨g, cap, cur, rfl, _⟩
  · exact ⟨none, 0, by rw [h0]⟩
  · exact ⟨_, _, rfl⟩
def ChRel (w0 w wr : World) (hs : HL) (v3 v10 : Value) (q : Nat) : Prop := ∃ i : Nat, v10 = .int .i64 (i : Int) ∧ i + q = hs.length ∧ CHx w0 wr w.heap.size v3 (canonH (hs.take i)) ∧ Kp [] w wr
def PosRel (w wr : World) (n : Nat) (v7 : Value) (q : Nat) : Prop := ∃ j : Nat, v7 = .int .i64 (j : Int) ∧ j + q = n ∧ w = wr
def ChEnd (w0 w : World) (hs : HL) (e : Ending) (w' : World) : Prop := ∃ v', e = .returned v' ∧ CHx w0 w' w.heap.size v' hs ∧ Kp [] w w'
theorem insK_len (k : Bytes) (vs : List Bytes) (hs : HL) : (insK k vs hs).length = hs.length + 1 := by
  induction hs with
  | nil => rfl
  | cons p r ih => unfold insK; split <;> simp [ih]
theorem canonH_len : ∀ (hs out : HL), (hs.foldl (fun out p => insK (canonB p.1) p.2 out) out).length = out.length + hs.length
  | [], out => by simp
  | p :: hs, out => by rw [List.foldl_cons, canonH_len hs, insK_len, List.length_cons]; omega
section
variable {w0 w : World} {v : Value}
set_option maxRecDepth 20000 in
set_option maxHeartbeats 4000000 in
theorem canonHead64 {hs : HL} (k0 : Kp [] w0 w) (h : HVa w0 v hs) (hk1 : ∀ p ∈ hs, p.1.length ≤ 1048576 ∧ p.2 ≠ []) (hl : hs.length ≤ 900) : Calls Tryz.prog 64 #[v] w fun e w' => ChEnd w0 w (canonH hs) e w' := by
  obtain ⟨a, c, rfl⟩ := h.shape
  have hn : (hs.length : Int) ≤ 1048576 := by omega
  have HA := Lib.hid h
  have HK0 := Lib.hid k0
  have HV := Lib.hid (And.intro hk1 hl)
  have HR0 : Hid (ChRel w0 w w hs (.slice none 0 0) (.int .i64 ((0 : Nat) : Int)) hs.length) := ⟨0, rfl, by omega, ⟨[], HR.nil _ _, .nil⟩, Kp.refl _ _⟩
  clear h k0 hk1 hl
  go_enter Tryz.func64, Tryz.ntmps64
  go_wp2
  go_loopg [3, 10] hs.length (fun q v3 v10 wr => ChRel w0 w wr hs v3 v10 q)
  case atStart => exact HR0.out
  case round =>
    clear HR0
    obtain ⟨wO, rfl⟩ : ∃ x, x = wr := ⟨_, rfl⟩
    obtain ⟨gO, rfl⟩ : ∃ x, x = gk := ⟨_, rfl⟩
    obtain ⟨i, rfl, hq, hch, hk⟩ := hrel
    by_cases hi : i < hs.length
    · have hi' : (i : Int) < (hs.length : Int) := by omega
      obtain ⟨p, hp⟩ : ∃ p, hs[i]? = some p := ⟨_, List.getElem?_eq_getElem hi⟩
      rcases HA.out.ex with ⟨e0, _⟩ | ⟨g, o, c0, e0, hlc, hc⟩
      · rw [e0] at hi; simp at hi
      injection e0 with x1 x2 x3
      subst x1; subst x3
      obtain ⟨a', c', hc1, hc2, hc3, hc4, hc5⟩ := hc i p hp
      replace hc1 : wO.cell? ⟨g, o + i * 2, none⟩ = some (.string (str p.1)) := (HK0.out.trans hk).rc hc1
      replace hc2 := (HK0.out.trans hk).rc hc2
      have hix := fun w => ix27o g o hs.length c w i hi
      have hka : Kp [] wO (wO.alloc (.cells #[.string (str p.1), .slice a' p.2.length c'] 43)) := (Kp.refl _ _).alloc _
      have hnew := Blk.new wO #[.string (str p.1), .slice a' p.2.length c'] 43
      obtain ⟨wA, hwA⟩ : ∃ wA, wO.alloc (.cells #[.string (str p.1), .slice a' p.2.length c'] 43) = wA := ⟨_, rfl⟩
      rw [hwA] at hka hnew
      obtain ⟨svs, hr, htw⟩ := hch.ex
      obtain ⟨a3, c3, e3⟩ := hr.shape
      subst e3
      have hps := HV.out.1 p (List.mem_of_getElem? hp)
      have hsv := hc3.sv hps.2 hc4 hc5
      have hca := canon_any p.1 wA (by have := hps.1; omega)
      have kc0 := hnew.cell
      have hlen : svs.length = i := by rw [htw.len, canonH, canonH_len, List.length_take, List.length_nil]; omega
      have HX := Lib.hid (And.intro hq (And.intro htw (And.intro (canonH_take hp) (And.intro hsv (And.intro (hk.trans hka) (And.intro (hr.kp hka (by simp)) (And.intro hnew (And.intro hlen (HV.out.2)))))))))
      clear hk hq hch hc hc3 hc4 hc5 hp hka hps hnew x2 hlc hsv hr htw hlen
      go_wp2_with fail
      refine hca.mono ?_
      rintro e w1 ⟨rfl, hk1⟩
      have kc1 : w1.cell? ⟨wO.heap.size, 1, none⟩ = some (.slice a' p.2.length c') := hk1.rc (kc0 1)
      have hr1 := HX.out.2.2.2.2.2.1.kp hk1 (by simp)
      have HK1 : Hid (Kp [] w w1) := HX.out.2.2.2.2.1.trans hk1
      have HR1 := Lib.hid hr1
      have hsl := HX.out.2.2.2.2.2.2.2.1
      have HP0 : Hid (PosRel w1 w1 (posOf (canonB p.1) svs) (.int .i64 ((0 : Nat) : Int)) (posOf (canonB p.1) svs)) := ⟨0, rfl, by omega, rfl⟩
      have hsn : (svs.length : Int) ≤ 900 := by have := HX.out.2.2.2.2.2.2.2.2; omega
      have hpn := posOf_le (canonB p.1) svs
      clear hca hk1 hr1 kc0 hc1 hc2 hix hsl
      generalize hK : canonB p.1 = K at *
      have HKK := Lib.hid hK
      clear hK
      go_wp2
      go_loopg [7] (posOf K svs) (fun q v7 wr => PosRel w1 wr (posOf K svs) v7 q)
      case atStart => exact HP0.out
      case round =>
        clear HP0
        obtain ⟨j, rfl, hq2, rfl⟩ := hrel
        by_cases hj : j < posOf K svs
        · obtain ⟨x, hx, hbf⟩ := posOf_before K svs j hj
          obtain ⟨gr, cr, er, _, _, _, _, _, hcell⟩ := HR1.out.open (by omega)
          injection er with er1 er2 er3
          subst er1; subst er3
          have hcl : w1.cell? ⟨gr, j * 2, none⟩ = some (.string (str x.1)) := (hcell j x hx).1
          have hix := fun w => ix27 gr svs.length c3 w j (by omega)
          have hlt : decide ((j : Int) < (svs.length : Int)) = true := by simp; omega
          have hbl : Op.bytesLess x.1 K = true := by rw [bytesLess_eq]; exact hbf
          have HREL : Hid (PosRel w1 w1 (posOf K svs) (.int .i64 ((j : Int) + 1)) (posOf K svs - (j + 1))) := ⟨j + 1, by simp, by omega, rfl⟩
          have HMM : Hid (posOf K svs - (j + 1) < gk) := by show _ < _; omega
          clear hx hbf hcell er2 hq2
          go_wp2
          go_roundg (posOf K svs - (j + 1))
          case measure => exact HMM.out
          case rel => exact HREL.out
        · have hje : j = posOf K svs := by omega
          subst hje
          have hvb : Blk (w1.alloc (.cells #[.string (str K), .slice a' p.2.length c'] 43)) w1.heap.size #[S1 K, .slice a' p.2.length c'] 43 := Blk.new _ _ _
          have hka : Kp [] w1 (w1.alloc (.cells #[.string (str K), .slice a' p.2.length c'] 43)) := (Kp.refl _ _).alloc _
          have hlt1 : ∀ x, (Value.slice a3 svs.length c3).ownBlock = some x → x < w1.heap.size ∧ w.heap.size ≤ x := fun x hx => by
            obtain ⟨h1, h2, _⟩ := HR1.out.type x hx
            exact ⟨h1, h2⟩
          have hcon := insert_any (k := K) (pv := .slice a' p.2.length c') (.slice a3 svs.length c3) (posOf K svs) (HR1.out.kp hka (by simp)) (sv_one HX.out.2.1) hpn hvb rfl (fun e => by have := (hlt1 _ e).1; omega) (by have := HK1.out.size; have := hka.size; omega) (by have := HX.out.2.2.2.2.2.2.2; omega)
          have HFIN : Hid (∀ v2 w2, HR w2 w.heap.size v2 (svs.take (posOf K svs) ++ (K, .slice a' p.2.length c') :: svs.drop (posOf K svs)) → Kp (Value.slice a3 svs.length c3).ownBlock.toList (w1.alloc (.cells #[.string (str K), .slice a' p.2.length c'] 43)) w2 → ChRel w0 w w2 hs v2 (.int .i64 ((i : Int) + 1)) (hs.length - (i + 1))) := by
            intro v2 w2 h1 h2
            obtain ⟨g1, g2, g3, g4, _⟩ := HX.out
            refine ⟨i + 1, by simp, by omega, ⟨_, h1, ?_⟩, ?_⟩
            · rw [g3, insK_pos, ← g2.pos K]
              exact two_ins g2 _ K _ _ g4
            · exact (HK1.out.trans hka).trans' h2 (fun x hx => .inr (hlt1 x (by simpa using hx)).2)
          have HMM : Hid (hs.length - (i + 1) < gO) := by have := HX.out.1; show _ < _; omega
          clear hvb hka hlt1 hq2
          by_cases hen : posOf K svs = svs.length
          · have hlt : ¬ posOf K svs < svs.length := by omega
            clear hen hj
            go_wp2_with fail
            refine hcon.mono ?_
            rintro e w2 ⟨v2, rfl, hr2, hk2, hnb2⟩
            have HREL := Lib.hid (HFIN.out v2 w2 hr2 hk2)
            clear hcon hr2 hk2 hnb2
            go_wp2
            go_roundg (hs.length - (i + 1))
            case measure => exact HMM.out
            case rel => exact HREL.out
          · obtain ⟨x, hx⟩ : ∃ x, svs[posOf K svs]? = some x := ⟨_, List.getElem?_eq_getElem (by omega)⟩
            have hbf := posOf_at K svs x hx
            obtain ⟨gr, cr, er, _, _, _, _, _, hcell⟩ := HR1.out.open (by omega)
            injection er with er1 er2 er3
            subst er1; subst er3
            have hcl : w1.cell? ⟨gr, posOf K svs * 2, none⟩ = some (.string (str x.1)) := (hcell _ x hx).1
            have hix := fun w => ix27 gr svs.length c3 w (posOf K svs) (by omega)
            have hlt : posOf K svs < svs.length := by omega
            have hbl : Op.bytesLess x.1 K = false := by rw [bytesLess_eq]; exact hbf
            clear hx hbf hcell er2 hen hj
            go_wp2_with fail
            refine hcon.mono ?_
            rintro e w2 ⟨v2, rfl, hr2, hk2, hnb2⟩
            have HREL := Lib.hid (HFIN.out v2 w2 hr2 hk2)
            clear hcon hr2 hk2 hnb2
            go_wp2
            go_roundg (hs.length - (i + 1))
            case measure => exact HMM.out
            case rel => exact HREL.out
    · have hge : ¬ (i : Int) < (hs.length : Int) := by omega
      rw [List.take_of_length_le (by omega)] at hch
      have HF : Hid (ChEnd w0 w (canonH hs) (.returned u3) wO) := ⟨_, rfl, hch, hk⟩
      clear hq hk hch
      go_wp2
      go_ret
      exact HF.out
end
end Go.Proofs.YtkbgnplknifmhaaGreatDoor
namespace Go.Proofs.YtkbgnplknifmhaaGreatDoor
open Go.RowKit
attribute [local go_sem ↓] Go.wp_at_zero Go.wp_at_succ
/-! ### spec.CanonParts (29) -/
theorem step_append_run {ops : Array Oper} {o : Oper} {a : Act} {w : World} {K : Act → World → Prop} {Q : Exit → Act → World → Prop} {E : Prop}
    (hg : o.guard = none) (d s : Operand) (t t' : TypeId) (ho : o.op = .call { callee := .builtin .append, args := #[d, s], argTypes := #[t, t'] })
    (v u : Value) (hd : a.eval d = v) (hs : a.eval s = u) {v' : Value} {w' : World} (hr : (Builtin.append_ #[t, t'] o.type #[v, u]).run Tryz.prog w = .ok v' w') (hK : K (a.put o.dst v') w') :
    if Region.wanted o (yielded ops a.tmps) = true then Oper.wp Tryz.prog o a w K Q else E := by
  have hw : Region.wanted o (yielded ops a.tmps) = true := by simp [Region.wanted, hg]
  rw [if_pos hw]
  exact wp_append_run w d s t t' ho v u hd hs hr hK
theorem CHx.base {w0 w : World} {base base' : Nat} {v : Value} {hs : HL} (h : CHx w0 w base v hs) (hb : base' ≤ base) : CHx w0 w base' v hs := by
  obtain ⟨svs, h1, h2⟩ := h.ex
  exact ⟨svs, h1.base hb, h2⟩
theorem CHx.keep {S : List Nat} {w0 w w' : World} {base : Nat} {v : Value} {hs : HL} (h : CHx w0 w base v hs) (k : Kp S w w') (hS : ∀ x ∈ S, ∀ cur, w.heap[x]? = some (.cells cur 43 (0, 0)) → False) : CHx w0 w' base v hs := by
  obtain ⟨svs, h1, h2⟩ := h.ex
  refine ⟨svs, h1.kp k (fun b hb e => ?_), h2⟩
  obtain ⟨_, _, cur, h4⟩ := h1.type b e
  exact hS b hb cur h4
theorem CHx.one {w0 w : World} {base : Nat} {v : Value} {hs : HL} (h : CHx w0 w base v hs) : v.oneCell' = true := by
  obtain ⟨svs, h1, h2⟩ := h.ex
  obtain ⟨a, c, rfl⟩ := h1.shape
  rfl
theorem CHx.slice {w0 w : World} {base : Nat} {v : Value} {hs : HL} (h : CHx w0 w base v hs) : ∃ a n c, v = .slice a n c := by
  obtain ⟨svs, h1, h2⟩ := h.ex
  obtain ⟨a, c, rfl⟩ := h1.shape
  exact ⟨a, _, c, rfl⟩
/-- The list of parts, in memory of the call's own, the bodies as they came in. -/
structure CPx (w0 w : World) (base : Nat) (v : Value) (ps : PL) : Prop where
  ex : ∃ xs, PR w base v xs ∧ All2 (fun x p => CHx w0 w base x.1 p.1 ∧ BView w0 x.2 p.2) xs ps
theorem CPx.nil (w0 w : World) (base : Nat) : CPx w0 w base (.slice none 0 0) [] := ⟨[], PR.nil _ _, .nil⟩
theorem CPx.kp0 {w0 w w' : World} {base : Nat} {v : Value} {ps : PL} (h : CPx w0 w base v ps) (k : Kp [] w w') : CPx w0 w' base v ps := by
  obtain ⟨xs, h1, h2⟩ := h.ex
  exact ⟨xs, h1.kp k (by simp), h2.mono (fun x hx p ⟨h3, h4⟩ => ⟨h3.keep k (by simp), h4⟩)⟩
theorem CPx.view {w0 w : World} {base : Nat} {v : Value} {ps : PL} (h : CPx w0 w base v ps) (k : Kp [] w0 w) : PView w v ps := by
  obtain ⟨xs, h1, h2⟩ := h.ex
  exact h1.view (h2.mono (fun x hx p ⟨h3, h4⟩ => ⟨h3.view k, h4.kp0 k⟩))
theorem CPx.add {w0 w : World} {base : Nat} {v : Value} {ps : PL} (h : CPx w0 w base v ps) (hv bv : Value) (hs : HL) (body : Bytes) (hh : CHx w0 w base hv hs) (hb : BView w0 bv body) (hbase : base ≤ w.heap.size) (hl : ps.length ≤ 1000000000) :
    ∃ v' w', (Builtin.append_ #[24, 24] 24 #[v, .slice (some ⟨w.heap.size, 0, none⟩) 1 1]).run Tryz.prog (w.alloc (.cells #[hv, bv] 29)) = .ok v' w' ∧ CPx w0 w' base v' (ps ++ [(hs, body)]) ∧ ∃ S, Kp S w w' ∧ ∀ x ∈ S, base ≤ x := by
  have hka : Kp [] w (w.alloc (.cells #[hv, bv] 29)) := (Kp.refl _ _).alloc _
  obtain ⟨xs0, h01, _⟩ := h.ex
  obtain ⟨xs, h1, h2⟩ := (h.kp0 hka).ex
  have hh1 := hh.keep hka (by simp)
  have hb1 : bv.oneCell' = true := by
    obtain ⟨a, c, rfl, _⟩ := hb.ex
    rfl
  obtain ⟨v', w', e1, e2, e3, e4⟩ := append_one29 (w.alloc (.cells #[hv, bv] 29)) base xs v 24 w.heap.size (hv, bv) h1 (Blk.new _ _ _) hh1.one hb1 (by simp; omega) (by have := h2.len; omega)
  have hoff : ∀ x ∈ v.ownBlock.toList, ∀ cur, (w.alloc (.cells #[hv, bv] 29)).heap[x]? = some (.cells cur 43 (0, 0)) → False := fun x hx cur hc => by
    obtain ⟨_, _, c, h5⟩ := h1.type x (by simpa using hx)
    rw [h5] at hc
    injection hc with hc
    injection hc with _ hc
    exact absurd hc (by decide)
  refine ⟨v', w', e1, ⟨xs ++ [(hv, bv)], e2, ?_⟩, v.ownBlock.toList, (hka.mono (by simp)).trans e3, fun x hx => ?_⟩
  · exact (h2.mono (fun x hx p ⟨h3, h4⟩ => ⟨h3.keep e3 hoff, h4⟩)).snoc _ _ ⟨hh1.keep e3 hoff, hb⟩
  · exact (h01.type x (by simpa using hx)).2.1
theorem canonPs_take {ps : PL} {i : Nat} {p : HL × Bytes} (h : ps[i]? = some p) : canonPs (ps.take (i + 1)) = canonPs (ps.take i) ++ [(canonH p.1, p.2)] := by
  unfold canonPs
  rw [List.take_add_one, h, List.map_append]
  rfl
def CpRel (w wr : World) (ps : PL) (v3 v8 : Value) (q : Nat) : Prop := ∃ i : Nat, v8 = .int .i64 (i : Int) ∧ i + q = ps.length ∧ CPx w wr w.heap.size v3 (canonPs (ps.take i)) ∧ Kp [] w wr
def CpCut (w wx : World) (ps : PL) (v3 : Value) : Prop := CPx w wx w.heap.size v3 ps ∧ Kp [] w wx
def CpEnd (w : World) (ps : PL) (e : Ending) (w' : World) : Prop := ∃ v', e = .returned v' ∧ CPx w w' w.heap.size v' ps ∧ Kp [] w w'
section
variable {w : World} {v : Value}
set_option maxRecDepth 20000 in
set_option maxHeartbeats 4000000 in
theorem canonParts29 {ps : PL} (h : PVa w v ps) (hk1 : ∀ q ∈ ps, (∀ p ∈ q.1, p.1.length ≤ 1048576 ∧ p.2 ≠ []) ∧ q.1.length ≤ 900) (hl : ps.length ≤ 1048576) : Calls Tryz.prog 29 #[v] w fun e w' => CpEnd w (canonPs ps) e w' := by
  obtain ⟨a, c, rfl⟩ := h.shape
  have hn : (ps.length : Int) ≤ 1048576 := by omega
  have HA := Lib.hid h
  have HV := Lib.hid (And.intro hk1 hl)
  have HR0 : Hid (CpRel w w ps (.slice none 0 0) (.int .i64 ((0 : Nat) : Int)) ps.length) := ⟨0, rfl, by omega, CPx.nil _ _ _, Kp.refl _ _⟩
  clear h hk1 hl
  go_enter Tryz.func29, Tryz.ntmps29
  go_wp2
  go_loopg [3, 8] ps.length (fun q v3 v8 wr => CpRel w wr ps v3 v8 q)
  case atStart => exact HR0.out
  case round =>
    clear HR0
    obtain ⟨i, rfl, hq, hcp, hk⟩ := hrel
    by_cases hi : i < ps.length
    · have hi' : (i : Int) < (ps.length : Int) := by omega
      obtain ⟨p, hp⟩ : ∃ p, ps[i]? = some p := ⟨_, List.getElem?_eq_getElem hi⟩
      rcases HA.out.ex with ⟨e0, _⟩ | ⟨g, o, c0, e0, hc⟩
      · rw [e0] at hi; simp at hi
      injection e0 with x1 x2 x3
      subst x1; subst x3
      obtain ⟨a1, c1, a2, c2, hc1, hc2, hc3, hc4, hc5, hc6⟩ := hc i p hp
      replace hc1 := hk.rc hc1
      replace hc2 := hk.rc hc2
      have hix := fun w => ix24o g o ps.length c w i hi
      have hka : Kp [] wr (wr.alloc (.cells #[.slice a1 p.1.length c1, .slice a2 p.2.length c2] 29)) := (Kp.refl _ _).alloc _
      have hnew := Blk.new wr #[.slice a1 p.1.length c1, .slice a2 p.2.length c2] 29
      obtain ⟨wA, hwA⟩ : ∃ wA, wr.alloc (.cells #[.slice a1 p.1.length c1, .slice a2 p.2.length c2] 29) = wA := ⟨_, rfl⟩
      rw [hwA] at hka hnew
      have hkd : Kp [] wA wA.drew := (Kp.refl _ _).drew
      have hps := HV.out.1 p (List.mem_of_getElem? hp)
      have hcon := canonHead64 ((hk.trans hka).trans hkd) hc3 hps.1 hps.2
      have hbv : BView w (.slice a2 p.2.length c2) p.2 := ⟨a2, c2, rfl, hc4, hc6⟩
      have kd := (hnew.kp hkd (by simp)).cell
      have HX := Lib.hid (And.intro hq (And.intro (canonPs_take hp) (And.intro ((hcp.kp0 hka).kp0 hkd) (And.intro ((hk.trans hka).trans hkd) (And.intro (hnew.kp hkd (by simp)) hbv)))))
      have hll : (canonPs (ps.take i)).length ≤ 1000000000 := by
        unfold canonPs
        rw [List.length_map, List.length_take]; omega
      have HLL := Lib.hid hll
      clear hk hq hcp hc hc3 hc4 hc5 hc6 hp hka hkd hps hnew x2 hbv hll
      go_wp2_with fail
      go_region_law (first | (refine step_append_run rfl (.tmp 12) (.tmp 19) 24 24 rfl u3 (.slice (some ⟨w5.heap.size, 0, none⟩) 1 1) rfl rfl HE6.out ?_) | (go_simp; go_at_call 64; refine hcon.mono ?_; rintro e w5 ⟨v5, rfl, hch5, hk5⟩; obtain ⟨av, nv, cv, e5⟩ := hch5.slice; subst e5; obtain ⟨v6, w6, e6, hcp6, S, hk6, hS6⟩ := (HX.out.2.2.1.kp0 hk5).add (.slice av nv cv) (.slice a2 p.2.length c2) (canonH p.1) p.2 (hch5.base HX.out.2.2.2.1.size) HX.out.2.2.2.2.2 (HX.out.2.2.2.1.trans hk5).size HLL.out; have HE6 := Lib.hid e6; have HOUT : Hid (CpCut w w6 (canonPs (ps.take i) ++ [(canonH p.1, p.2)]) v6) := ⟨hcp6, (HX.out.2.2.2.1.trans hk5).trans' hk6 (fun x hx => .inr (hS6 x hx))⟩; have kd5 := (HX.out.2.2.2.2.1.kp hk5 (by simp)).cell; clear e6 hcp6 hk6 hS6 hch5 hk5))
      all_goals
        have HREL : Hid (CpRel w w6 ps v6 (.int .i64 ((i : Int) + 1)) (ps.length - (i + 1))) := by
          have h1 := HX.out.1
          exact ⟨i + 1, by simp, by omega, by rw [HX.out.2.1]; exact HOUT.out.1, HOUT.out.2⟩
        have HMM : Hid (ps.length - (i + 1) < gk) := by have := HX.out.1; show _ < _; omega
        clear HOUT kd hcon HE6
        go_wp2
        go_roundg (ps.length - (i + 1))
        case measure => exact HMM.out
        case rel => exact HREL.out
    · have hge : ¬ (i : Int) < (ps.length : Int) := by omega
      rw [List.take_of_length_le (by omega)] at hcp
      have HF : Hid (CpEnd w (canonPs ps) (.returned u3) wr) := ⟨_, rfl, hcp, hk⟩
      clear hq hk hcp
      go_wp2
      go_ret
      exact HF.out
end
end Go.Proofs.YtkbgnplknifmhaaGreatDoor
namespace Go.Proofs.YtkbgnplknifmhaaGreatDoor
open Go.RowKit
attribute [local go_sem ↓] Go.wp_at_zero Go.wp_at_succ
/-! ### laws.FnExactBody (6) -/
section
variable {w : World} {E : Value} {cs : Array Value} {ls pads : List Bytes} {ps : PL} {after b : Bytes}
theorem bodyText_len (h : WellP ls ps pads b) (hbulk : bulkT ls + bulkP ps + bulkT pads + after.length ≤ 1048576) : (linesT [13, 10] ls).length + (bodyT b pads 0 ps).length ≤ 900000000 ∧ (bodyText ls ps pads after b).length ≤ 1000000000 := by
  obtain ⟨h1, h2, h3⟩ := well_len (after := after) h
  unfold bodyText
  simp only [List.length_append]
  omega
theorem OB.none_cap {w : World} {base n c : Nat} {l : Bytes} {a : Option Addr} (h : OB w base (.slice a n c) l) : a = none → c = 0 := by
  intro e
  subst e
  rcases h.2 with ⟨he, _⟩ | ⟨g, cap, cur, he, _⟩
  · injection he with _ _ h
  · injection he with he _ _
    cases he
set_option maxRecDepth 20000 in
set_option maxHeartbeats 8000000 in
theorem fnExactBody_walk (hE : Env w E) (h : BdV w cs ls ps pads after) (hbulk : bulkT ls + bulkP ps + bulkT pads + after.length ≤ 1048576) (hb : b.length ≤ 1048576) :
    Calls Tryz.prog 6 #[.agg cs, .string (str b)] w fun e w' => e = .returned (.bool true) ∧ Kp [] w w' := by
  have h1 : SmT ls := smT_of (by omega)
  have h2 : SmP ps := smP_of (by omega)
  have h3 : SmT pads := smT_of (by omega)
  have h4 : after.length ≤ 1048576 := by omega
  have n1 : ¬ (2147483647 : Int) < (b.length : Int) := by omega
  have n2 : ¬ (16777216 : Int) < (b.length : Int) := by omega
  obtain ⟨al, cl, vp, ad, cd, aa, ca, rfl, k1, k2, k3, k4, k5, k6⟩ := h.ex
  obtain ⟨ap, cp, rfl⟩ := k2.shape
  have hka : Kp [] w (w.alloc (.cells #[.slice al ls.length cl, .slice ap ps.length cp, .slice ad pads.length cd, .slice aa after.length ca] 48)) := (Kp.refl _ _).alloc _
  have hnew := Blk.new w #[.slice al ls.length cl, .slice ap ps.length cp, .slice ad pads.length cd, .slice aa after.length ca] 48
  obtain ⟨wA, hwA⟩ : ∃ wA, w.alloc (.cells #[.slice al ls.length cl, .slice ap ps.length cp, .slice ad pads.length cd, .slice aa after.length ca] 48) = wA := ⟨_, rfl⟩
  rw [hwA] at hka hnew
  have hc1 := fits26 (h.kp0 hka) h1 h2 h3 h4
  have kc := hnew.cell
  have HE := Lib.hid hE
  have HBD := Lib.hid h
  have HP := Lib.hid k2
  have HS := Lib.hid (And.intro h1 (And.intro h2 (And.intro h3 (And.intro h4 (And.intro hbulk hb)))))
  have HA := Lib.hid (And.intro hka hnew)
  clear h h1 h2 h3 h4 k1 k2 k3 k4 k5 k6 hka hnew hE hbulk
  go_enter Tryz.func6, Tryz.ntmps6
  go_wp2_with fail
  refine hc1.mono ?_
  rintro e w1 ⟨rfl, hk1⟩
  clear hc1 kc
  obtain ⟨h1, h2, h3, h4, hbulk, hb⟩ := HS.out
  have HK1 : Hid (Kp [] w w1) := HA.out.1.trans hk1
  have HB1 : Hid (Blk w1 w.heap.size #[.slice al ls.length cl, .slice ap ps.length cp, .slice ad pads.length cd, .slice aa after.length ca] 48) := HA.out.2.kp hk1 (by simp)
  have kc := HB1.out.cell
  have hc2 := well27 (HBD.out.kp0 HK1.out) h1 h2 h3 hb
  clear hk1 h1 h2 h3 h4 hbulk hb HA
  go_wp2_with fail
  refine hc2.mono ?_
  rintro e w2 ⟨r, rfl, hr, hk2⟩
  clear hc2 kc
  have HK2 : Hid (Kp [] w w2) := HK1.out.trans hk2
  have HB2 : Hid (Blk w2 w.heap.size #[.slice al ls.length cl, .slice ap ps.length cp, .slice ad pads.length cd, .slice aa after.length ca] 48) := HB1.out.kp hk2 (by simp)
  have kc := HB2.out.cell
  clear hk2 HK1 HB1
  cases r with
  | false =>
    clear hr
    go_wp2
    go_ret
    exact ⟨rfl, HK2.out⟩
  | true =>
    have HW := Lib.hid (hr rfl)
    clear hr
    obtain ⟨h1, h2, h3, h4, hbulk, hb⟩ := HS.out
    have HL := Lib.hid (bodyText_len HW.out hbulk)
    have hc3 : Calls Tryz.prog 28 #[.agg #[.slice al ls.length cl, .slice ap ps.length cp, .slice ad pads.length cd, .slice aa after.length ca], .string (str b)] w2 fun e w' => HtR w2 (bodyText ls ps pads after b) e w' := text28 (HBD.out.kp0 HK2.out) h1 h2 h3 h4 hb HL.out.1
    clear h1 h2 h3 h4 hbulk hb
    go_wp2_with fail
    refine hc3.mono ?_
    rintro e w3 ⟨v3, rfl, hob3, hk3⟩
    clear hc3 kc
    obtain ⟨a4, c4, rfl, hlc4, hlt4, hhb4, hbl4⟩ := hob3.len
    have HK4 : Hid (Kp [] w w3) := HK2.out.trans hk3
    have HB4 : Hid (Blk w3 w.heap.size #[.slice al ls.length cl, .slice ap ps.length cp, .slice ad pads.length cd, .slice aa after.length ca] 48) := HB2.out.kp hk3 (by simp)
    obtain ⟨out, hn, hx⟩ := well_nxt (after := after) HW.out
    have hlen : (bodyText ls ps pads after b).length ≤ 1000000000 := HL.out.2
    obtain ⟨hpl, hbody, hbnd⟩ := canonPs_bounds hn hx hlen
    have hc4 := parts21 (c := c4) headersOk (HE.out.kp HK4.out (by simp)) hhb4 hob3.none_cap hlen HW.out.2.2.2.1 hn hx hbody
    have HN := Lib.hid (And.intro hpl hbnd)
    have kc := HB4.out.cell
    clear hk3 hob3 hlc4 hlt4 hhb4 hbl4 hn hx hlen hpl hbody hbnd HK2 HB2
    go_wp2_with fail
    refine hc4.mono ?_
    rintro e w5 ⟨v5, rfl, hgp, hk5⟩
    clear hc4 kc
    have HK5 : Hid (Kp [] w w5) := HK4.out.trans hk5
    have HB5 : Hid (Blk w5 w.heap.size #[.slice al ls.length cl, .slice ap ps.length cp, .slice ad pads.length cd, .slice aa after.length ca] 48) := HB4.out.kp hk5 (by simp)
    have HG := Lib.hid hgp
    have kc := HB5.out.cell
    have hc5 := canonParts29 (HP.out.kp0 HK5.out) (well_parts HW.out HS.out.2.1) HS.out.2.1.1
    clear hgp hk5 HK4 HB4
    go_wp2_with fail
    refine hc5.mono ?_
    rintro e w6 ⟨v6, rfl, hcp, hk6⟩
    clear hc5 kc
    have hc6 := same_any (HG.out.view.kp0 hk6) (hcp.view hk6) HN.out.1 HN.out.2
    have HK6 : Hid (Kp [] w w6) := HK5.out.trans hk6
    clear hcp hk6 HG HB5
    go_wp2_with fail
    refine hc6.mono ?_
    rintro e w7 ⟨rfl, hk7⟩
    have HF : Hid (Kp [] w w7) := HK6.out.trans hk7
    clear hc6 hk7
    go_wp2
    go_ret
    exact ⟨rfl, HF.out⟩
end
end Go.Proofs.YtkbgnplknifmhaaGreatDoor
