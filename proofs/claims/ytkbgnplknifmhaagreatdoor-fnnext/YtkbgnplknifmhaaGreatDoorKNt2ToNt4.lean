/-
  Walks and facts for the mailparts program.
-/
import Derived.Test.YtkbgnplknifmhaaGreatDoorKNt1
import Derived.Test.YtkbgnplknifmhaaGreatDoorKHs2ToEp2
import Derived.Shelf.RegionOpenPlain
namespace Go.Proofs.YtkbgnplknifmhaaGreatDoor
open Go.RowKit
attribute [local go_sem ↓] Go.wp_at_zero Go.wp_at_succ
/-! ### textproto.CanonicalMIMEHeaderKey (124) at a key that is canonical; Get (104); EqualFold (103) of nothing -/
def KyRel (w wr : World) (l : Bytes) (v0 v3 v4 : Value) (q : Nat) : Prop := ∃ i : Nat, v0 = .string (str l) ∧ v4 = .int .i64 (i : Int) ∧ v3 = .bool (upAt true l i) ∧ i + q = l.length ∧ w = wr
theorem upAt_succ (l : Bytes) (i : Nat) : upAt true l (i + 1) = (byt l i == 45) := by unfold upAt; simp
set_option maxRecDepth 20000 in
set_option maxHeartbeats 2000000 in
theorem canonKey124 (l : Bytes) (w : World) (hl : l.length ≤ 1000) (hC : ∀ i, i < l.length → keyC (byt l i) = true ∧ ¬ (upAt true l i = true ∧ 97 ≤ (byt l i).toNat ∧ (byt l i).toNat ≤ 122) ∧ ¬ (upAt true l i = false ∧ 65 ≤ (byt l i).toNat ∧ (byt l i).toNat ≤ 90)) :
    Calls Tryz.prog 124 #[.string (str l)] w fun e w' => e = .returned (.string (str l)) ∧ w = w' := by
  have HC := Lib.hid hC
  have HR0 : Hid (KyRel w w l (.string (str l)) (.bool true) (.int .i64 ((0 : Nat) : Int)) l.length) := ⟨0, rfl, rfl, rfl, by omega, rfl⟩
  clear hC
  go_enter Tryz.func124, Tryz.ntmps124
  go_wp2
  go_loopg [0, 3, 4] l.length (fun q v0 v3 v4 wr => KyRel w wr l v0 v3 v4 q)
  case atStart => exact HR0.out
  case round =>
    clear HR0
    obtain ⟨i, rfl, rfl, rfl, hq, rfl⟩ := hrel
    by_cases hi : i < l.length
    · have hi' : (i : Int) < (l.length : Int) := by omega
      obtain ⟨hk, h1, h2⟩ := HC.out i hi
      have hfb := fieldByte (byt l i) w hk
      have heq : (((byt l i).toNat : Int) == 45) = (byt l i == 45) := by
        rw [Bool.eq_iff_iff, beq_iff_eq, beq_iff_eq]
        constructor
        · intro h
          apply UInt8.toNat_inj.1
          have : (byt l i).toNat = 45 := by omega
          simpa using this
        · intro h; rw [h]; rfl
      have HREL : Hid (KyRel w w l (.string (str l)) (.bool (((byt l i).toNat : Int) == 45)) (.int .i64 ((i : Int) + 1)) (l.length - (i + 1))) := ⟨i + 1, rfl, by simp, by rw [upAt_succ, heq], by omega, rfl⟩
      have HMM : Hid (l.length - (i + 1) < gk) := by show _ < _; omega
      clear hk hq heq
      cases hup : upAt true l i with
      | true =>
        rw [hup] at h1
        have h1' : ¬ (97 ≤ (byt l i).toNat ∧ (byt l i).toNat ≤ 122) := fun h => h1 ⟨rfl, h⟩
        clear h1 h2
        by_cases h97 : 97 ≤ (byt l i).toNat
        · have ha : (97 : Int) ≤ ((byt l i).toNat : Int) := by omega
          have hb : ¬ (((byt l i).toNat : Int) ≤ 122) := by omega
          clear h1' h97
          go_wp2_with fail
          refine hfb.mono ?_
          rintro e w' ⟨rfl, rfl⟩
          go_wp2
          go_roundg (l.length - (i + 1))
          case measure => exact HMM.out
          case rel => exact HREL.out
        · have ha : ¬ ((97 : Int) ≤ ((byt l i).toNat : Int)) := by omega
          clear h1' h97
          go_wp2_with fail
          refine hfb.mono ?_
          rintro e w' ⟨rfl, rfl⟩
          go_wp2
          go_roundg (l.length - (i + 1))
          case measure => exact HMM.out
          case rel => exact HREL.out
      | false =>
        rw [hup] at h2
        have h2' : ¬ (65 ≤ (byt l i).toNat ∧ (byt l i).toNat ≤ 90) := fun h => h2 ⟨rfl, h⟩
        clear h1 h2
        by_cases h65 : 65 ≤ (byt l i).toNat
        · have ha : (65 : Int) ≤ ((byt l i).toNat : Int) := by omega
          have hb : ¬ (((byt l i).toNat : Int) ≤ 90) := by omega
          clear h2' h65
          go_wp2_with fail
          refine hfb.mono ?_
          rintro e w' ⟨rfl, rfl⟩
          go_wp2
          go_roundg (l.length - (i + 1))
          case measure => exact HMM.out
          case rel => exact HREL.out
        · have ha : ¬ ((65 : Int) ≤ ((byt l i).toNat : Int)) := by omega
          clear h2' h65
          go_wp2_with fail
          refine hfb.mono ?_
          rintro e w' ⟨rfl, rfl⟩
          go_wp2
          go_roundg (l.length - (i + 1))
          case measure => exact HMM.out
          case rel => exact HREL.out
    · have hge : ¬ (i : Int) < (l.length : Int) := by omega
      clear hq
      go_wp2
      go_ret
      exact ⟨rfl, rfl⟩
theorem cte_fine : ∀ i, i < cte.length → keyC (byt cte i) = true ∧ ¬ (upAt true cte i = true ∧ 97 ≤ (byt cte i).toNat ∧ (byt cte i).toNat ≤ 122) ∧ ¬ (upAt true cte i = false ∧ 65 ≤ (byt cte i).toNat ∧ (byt cte i).toNat ≤ 90) := by decide +kernel
theorem cte_canon : canonB cte = cte := by decide +kernel
set_option maxRecDepth 20000 in
set_option maxHeartbeats 1000000 in
theorem get104 {w : World} {b0 mb : Nat} {hs : HL} (k : Bytes) (hH : HDR w b0 mb hs) (hno : kvGet k hs = none) (hk : Calls Tryz.prog 124 #[.string (str k)] w fun e w' => e = .returned (.string (str k)) ∧ w = w') (hl : k.length ≤ 1000) : Calls Tryz.prog 104 #[.map (some mb), .string (str k)] w fun e w' => e = .returned (.string (str [])) ∧ w = w' := by
  obtain ⟨sb, used, cnt, vb, kvs, hI⟩ := hH
  have hlk := hI.mp.lookup k (by unfold maxLen; omega)
  have hg : kvGet k kvs = none := by
    rcases hI.two.get k with ⟨h1, _⟩ | ⟨v, vs, _, h2, _⟩
    · exact h1
    · rw [hno] at h2; cases h2
  rw [hg] at hlk
  have hlk : (Instr.lookup 114 (.map (some mb)) (.string (str k)) false).run Tryz.prog w = .ok (.slice none 0 0) w := hlk
  have hnil : ∀ w : World, (binOp .eql 114 (.map (some mb)) (.map none)).run Tryz.prog w = .ok (.bool false) w := fun w => by kernel_rfl
  clear hI hg hno
  go_enter Tryz.func104, Tryz.ntmps104
  go_wp2_with fail
  refine hk.mono ?_
  rintro e w' ⟨rfl, rfl⟩
  go_wp2
  go_ret
  exact ⟨rfl, rfl⟩
set_option maxRecDepth 20000 in
set_option maxHeartbeats 1000000 in
theorem fold103 (s : Bytes) (hs : 0 < s.length) (w : World) : Calls Tryz.prog 103 #[.string (str []), .string (str s)] w fun e w' => e = .returned (.bool false) ∧ w = w' := by
  have e0 : str [] = ⟨#[]⟩ := rfl
  rw [e0]
  have hm : min (0 : Int) (s.length : Int) = 0 := by omega
  have hne : ((0 : Int) == (s.length : Int)) = false := by simp; omega
  have hne2 : ¬ (0 : Int) = (s.length : Int) := by omega
  go_enter Tryz.func103, Tryz.ntmps103
  go_wp2
  go_step3
  go_wp2
  refine wp_loop_rounds 1 ?_
  rw [rounds_succ]
  go_wp2
  simp only [Exit.noGoto]
  go_ret
  exact ⟨rfl, rfl⟩
end Go.Proofs.YtkbgnplknifmhaaGreatDoor
namespace Go.Proofs.YtkbgnplknifmhaaGreatDoor
open Go.RowKit
attribute [local go_sem ↓] Go.wp_at_zero Go.wp_at_succ
/-! ### newPart (90) where no encoding is told -/
section
variable {w : World} {E : Value} {R : RS} {M : MS} {b nl : Bytes} {cur : Value} {pr : Int} {whole : Bytes}
set_option maxRecDepth 20000 in
set_option maxHeartbeats 2000000 in
theorem newPart_cooked (h : RD w E R M b nl cur pr whole) (items : List (Bytes × Bytes)) (rest : Bytes) (hL : Lines whole items rest) (hlen : items.length ≤ 150) (HF : List (Bytes × List Bytes)) (hHF : items.foldl (fun h p => hAdd p.1 p.2 h) [] = HF) (hno : kvGet cte HF = none) :
    Calls Tryz.prog 90 #[.pointer (some ⟨M.m, 0, none⟩), .bool false, .int .i64 10485760, .int .i64 10000] w fun e w' => ∃ pb mb, e = .returned (.tuple #[.pointer (some ⟨pb, 0, none⟩), .nilIface]) ∧ NewPost w w' E R M b nl cur pr rest HF pb mb := by
  have hsz := h.own_lt
  have hml := h.mr.blk.lt
  have hK1 : Kp [] w ((w.alloc (.map #[] 0)).alloc (.cells (ptCells (.map (some w.heap.size)) M.m .nilIface 0 0 .nilIface .nilIface) 117)) := ((Kp.refl _ _).alloc _).alloc _
  have hrd1 := h.kp hK1 (by simp) (by simp) (by simp) (by simp) (by simp)
  have hs1 : (w.alloc (.map #[] 0)).heap.size = w.heap.size + 1 := by simp
  have hpb : Blk ((w.alloc (.map #[] 0)).alloc (.cells (ptCells (.map (some w.heap.size)) M.m .nilIface 0 0 .nilIface .nilIface) 117)) (w.heap.size + 1) (ptCells (.map (some w.heap.size)) M.m .nilIface 0 0 .nilIface .nilIface) 117 := by rw [← hs1]; exact Blk.new _ _ _
  have hdl := h.dl
  have hbd := h.bo.2.2.2
  have hmg := h.mo.2.2
  have hcon := populate_any hrd1 (w.heap.size + 1) w.heap.size hpb (fun e => by have := hsz _ e; omega) (by omega) (by omega) (by omega) (by omega) items rest hL hlen HF hHF
  have hmk : ∀ w : World, (Instr.makeMap 113 none).run Tryz.prog w = .ok (.map (some w.heap.size)) (w.alloc (.map #[] 0)) := fun w => rfl
  clear hL hHF
  go_enter Tryz.func90, Tryz.ntmps90
  go_wp2_with fail
  refine hcon.mono ?_
  rintro e w2 ⟨rfl, mb, hpo⟩
  have hblk2 : Blk w2 (w.heap.size + 1) #[.map (some mb), .pointer (some ⟨M.m, 0, none⟩), .string (str []), .map none, .nilIface, .int .i64 0, .int .i64 0, .nilIface, .nilIface] 117 := hpo.blk
  have hk3 : Kp [w.heap.size + 1] w2 (w2.setCell ⟨w.heap.size + 1, 4, none⟩ (rdV (w.heap.size + 1))) := (Kp.refl _ _).setCell (.inl (by simp)) _
  have hh2 : HDR w2 (w.heap.size + 2) mb HF := by
    have := hpo.hdr
    simpa using this
  have hh3 := hh2.kp hk3 (by simp)
  have hget := get104 cte hh3 hno (canonKey124 cte _ (by decide) cte_fine) (by decide)
  have hfo := fold103 [113, 117, 111, 116, 101, 100, 45, 112, 114, 105, 110, 116, 97, 98, 108, 101] (by decide) (w2.setCell ⟨w.heap.size + 1, 4, none⟩ (rdV (w.heap.size + 1)))
  have e1 : str cte = ⟨#[67, 111, 110, 116, 101, 110, 116, 45, 84, 114, 97, 110, 115, 102, 101, 114, 45, 69, 110, 99, 111, 100, 105, 110, 103]⟩ := rfl
  have e2 : str [113, 117, 111, 116, 101, 100, 45, 112, 114, 105, 110, 116, 97, 98, 108, 101] = ⟨#[113, 117, 111, 116, 101, 100, 45, 112, 114, 105, 110, 116, 97, 98, 108, 101]⟩ := rfl
  rw [e1] at hget
  rw [e2] at hfo
  have k2 := hblk2.cell
  have f2 := hblk2.free
  have HPO := Lib.hid hpo
  have HB2 := Lib.hid hblk2
  have HH3 := Lib.hid hh3
  clear hcon hpo hpb hrd1 e1 e2 hh2 hh3 hblk2 hk3
  unfold rdV at hget hfo
  go_wp2_with fail
  refine hget.mono ?_
  rintro e w' ⟨rfl, rfl⟩
  go_wp2_with fail
  refine hfo.mono ?_
  rintro e w' ⟨rfl, rfl⟩
  go_wp2
  go_ret2
  have hpo := HPO.out
  have hblk2 := HB2.out
  have hk3 : Kp [w.heap.size + 1] w2 (w2.setCell ⟨w.heap.size + 1, 4, none⟩ (rdV (w.heap.size + 1))) := (Kp.refl _ _).setCell (.inl (by simp)) _
  refine ⟨w.heap.size + 1, mb, rfl, ⟨hpo.rd.kp hk3 (fun x hx e => by simp at e; subst e; have := hsz _ hx; omega) (by simp; omega) (by simp; omega) (by simp; omega) (by simp; omega), hblk2.set 4 (rdV (w.heap.size + 1)), HH3.out.base (by omega), ?_, by omega⟩⟩
  exact (hK1.mono (by simp)).trans' hpo.kp (fun x hx => by simp at hx; rcases hx with rfl | hx; exact .inr (by omega); exact .inl hx) |>.setCell (.inr (by simp)) _
theorem newC_cooked {rest0 : Bytes} (items : List (Bytes × Bytes)) (rest : Bytes) (hL : Lines rest0 items rest) (hlen : items.length ≤ 150) (HF : List (Bytes × List Bytes)) (hHF : items.foldl (fun h p => hAdd p.1 p.2 h) [] = HF) (hno : kvGet cte HF = none) : NewC E R M b nl false rest0 rest HF :=
  fun _ _ _ h => newPart_cooked h items rest hL hlen HF hHF hno
/-- NextPart, where no encoding is told. -/
theorem nxgCooked : Nxg E R 67 false (fun hs => kvGet cte hs = none) := ⟨fun h => nextPart_of h, fun hL hl hok => newC_cooked _ _ hL (by omega) _ rfl hok⟩
end
/-- No part tells an encoding. -/
theorem without_ok {ps : PL} (h : withB ps = false) : ∀ p ∈ ps, kvGet cte p.1 = none := by
  intro p hp
  cases hg : kvGet cte p.1 with
  | none => rfl
  | some vs =>
    exfalso
    unfold kvGet at hg
    obtain ⟨q, hq1, hq2⟩ := Option.map_eq_some_iff.1 hg
    have h1 := List.mem_of_find?_eq_some hq1
    have h2 := List.find?_some hq1
    simp at h2
    have : withB ps = true := by
      unfold withB hasB
      exact List.any_eq_true.2 ⟨p, hp, List.any_eq_true.2 ⟨q, h1, by rw [h2, cte_canon]; simp⟩⟩
    rw [this] at h; cases h
end Go.Proofs.YtkbgnplknifmhaaGreatDoor
namespace Go.Proofs.YtkbgnplknifmhaaGreatDoor
open Go.RowKit
attribute [local go_sem ↓] Go.wp_at_zero Go.wp_at_succ
/-! ### impl.Next (34), laws.FnNext (11) -/
theorem hdrs_keys (items : List (Bytes × Bytes)) : ∀ q ∈ hdrs items, ∃ p ∈ items, p.1 = q.1 := by
  rw [hdrs_addP]
  have : ∀ (l : List (Bytes × Bytes)) (hs : HL), ∀ q ∈ l.foldl (fun h p => addP p.1 p.2 h) hs, (∃ p ∈ l, p.1 = q.1) ∨ ∃ p ∈ hs, p.1 = q.1 := by
    intro l
    induction l with
    | nil => intro hs q hq; exact .inr ⟨q, hq, rfl⟩
    | cons x r ih =>
      intro hs q hq
      rcases ih (addP x.1 x.2 hs) q hq with ⟨p, hp, e⟩ | ⟨p, hp, e⟩
      · exact .inl ⟨p, by simp [hp], e⟩
      · rcases addP_mem hp with h1 | ⟨p2, hp2, e2⟩
        · exact .inl ⟨x, by simp, by rw [← e, h1]⟩
        · exact .inr ⟨p2, hp2, e2.trans e⟩
  intro q hq
  rcases this items [] q hq with h | ⟨p, hp, _⟩
  · exact h
  · simp at hp
theorem Lines.keys {whole fin : Bytes} {items : List (Bytes × Bytes)} (h : Lines whole items fin) : ∀ p ∈ items, p.1.length ≤ 2100 := by
  induction h with
  | done l rest hl hl2 hd => intro p hp; simp at hp
  | more whole kv rest k vt fin items hL hkv hk hk0 hv hlen t ih =>
    intro p hp
    rcases List.mem_cons.1 hp with rfl | hp
    · have : (canonB k).length = k.length := canonGo_length true k
      rw [hkv] at hlen
      simp only [List.length_append, List.length_cons] at hlen
      show (canonB k).length ≤ _
      omega
    · exact ih p hp
theorem PartsAt.keys {b nl rest0 : Bytes} {ps : PL} (h : PartsAt b nl rest0 ps) : ∀ p ∈ ps, ∀ q ∈ p.1, q.1.length ≤ 2100 := by
  have hone : ∀ {rest0 : Bytes} {items : List (Bytes × Bytes)} {body tail : Bytes}, PartAt b nl rest0 items body tail → ∀ q ∈ hdrs items, q.1.length ≤ 2100 := fun {rest0 items body tail} h q hq => by
    obtain ⟨p, hp, e⟩ := hdrs_keys items q hq
    rw [← e]; exact h.lines.keys p hp
  induction h with
  | last rest0 items body tail h hn =>
    intro p hp
    simp at hp
    subst hp
    exact hone h
  | more rest0 items body tail rest1 ps h hn t ih =>
    intro p hp
    rcases List.mem_cons.1 hp with rfl | hp
    · exact hone h
    · exact ih p hp
theorem parse_keys {src b : Bytes} {ps : PL} (h : parseP src b = some ps) : ∀ p ∈ ps, ∀ q ∈ p.1, q.1.length ≤ 281474976710656 := by
  obtain ⟨hb, rest0, hn, hp⟩ := parseP_at h
  exact fun p hpm q hq => by have := hp.keys p hpm q hq; omega
section
variable {w : World} {E : Value} {a : Option Addr} {c : Nat} {src b : Bytes} {out : Option (Bool × Bytes)} {ps : PL}
set_option maxRecDepth 20000 in
set_option maxHeartbeats 2000000 in
theorem next34 (HH : HeadersOk) (hE : Env w E) (h : HB w a src) (hnone : a = none → c = 0) (hl : src.length ≤ 1000000000) (hb : boundaryB b = true) (hn : NP b [13, 10] 0 false src out) (hx : Nxt b [13, 10] out ps) (hok : ∀ p ∈ ps, kvGet cte p.1 = none) (hbody : ∀ p ∈ ps, p.2.length ≤ 140737488355328) :
    Calls Tryz.prog 34 #[.slice a src.length c, .string (str b)] w fun e w' => GotEnd w ps e w' := by
  have hbl := boundaryB_len hb
  have hfew := hn.few hx
  have hsrc := source_any a src.length c src w h rfl hnone (by omega)
  have HE := Lib.hid hE
  clear h hnone hE
  go_enter Tryz.func34, Tryz.ntmps34
  go_wp2_with fail
  refine hsrc.mono ?_
  rintro e w1 ⟨ur, da, a', c', rfl, hsp⟩
  clear hsrc
  have hE1 := HE.out.kp hsp.kp (by simp)
  have hnr := newReader44 109 ur da b src E w1 (srcPost_src hsp (by omega)) hE1.g0 hE1.isE hE1.gv ⟨by have := hsp.nu; have := HE.out.sz; omega, hsp.blk.lt, hsp.nd.2.2, hsp.nd.2.1, by have := hsp.nd; have := HE.out.sz; omega⟩ hbl
  have HSP := Lib.hid hsp
  clear hsp hE1
  go_wp2_with fail
  refine hnr.mono ?_
  rintro e w2 ⟨R, M, rfl, hF⟩
  clear hnr
  have hE2 := (HE.out.kp HSP.out.kp (by simp)).kp hF.kp (by simp)
  have hps := parts_any (rp := false) HH nxgCooked (enters_of Tryz.func67 (by kernel_rfl) rfl) (fresh_st hF hn (by omega)) hx hok NLk.crlf hE2 hb hbody (by omega)
  have HF := Lib.hid hF
  clear hF hn hE2 hx
  go_wp2_with fail
  refine hps.mono ?_
  rintro e w3 ⟨v, rfl, hgp, hk⟩
  clear hps
  have hlo : ∀ x ∈ M.m :: R.own, w.heap.size ≤ x := by
    intro x hx
    have hF := HF.out
    have hs := HSP.out
    have h1 := hs.kp.size
    have h2 := hF.nw
    have h3 : w.heap.size ≤ R.ur := by rw [hF.hur]; exact hs.nu
    have hx' : x = M.m ∨ x = R.rb ∨ x = R.bb ∨ x = R.st ∨ x = R.ur := by simpa [RS.own] using hx
    omega
  have hk3 : Kp [] w w3 := (HSP.out.kp.trans HF.out.kp).trans' hk (fun x hx => .inr (hlo x hx))
  have HFIN : Hid (GotEnd w ps (.returned (.tuple #[v, .int .i64 1])) w3) := ⟨v, rfl, hgp.base (HSP.out.kp.trans HF.out.kp).size, hk3⟩
  clear hgp hk hlo hk3 HF HSP
  go_wp2
  go_ret2
  exact HFIN.out
set_option maxRecDepth 20000 in
set_option maxHeartbeats 2000000 in
theorem fnNext_walk (HH : HeadersOk) (hE : Env w E) (h : HB w a src) (hc : src.length ≤ c) (hnone : a = none → c = 0) (hs : src.length ≤ 16777216) (hbl : b.length ≤ 16777216) :
    Calls Tryz.prog 11 #[.slice a src.length c, .string (str b)] w fun e w' => e = .returned (.bool true) ∧ Kp [] w w' := by
  have hs1 : (src.length : Int) ≤ 2147483647 := by omega
  have hs2 : (src.length : Int) ≤ 16777216 := by omega
  have hs3 : (b.length : Int) ≤ 2147483647 := by omega
  have hs4 : (b.length : Int) ≤ 16777216 := by omega
  have hpar := parse_any h hc hnone (by omega) (b := b) (by omega)
  have HX := Lib.hid (And.intro hE (And.intro h (And.intro hc (And.intro hnone hs))))
  clear hE h hc hnone hbl
  cases hpp : parseP src b with
  | none =>
    rw [hpp] at hpar
    go_enter Tryz.func11, Tryz.ntmps11
    go_wp2_with fail
    refine hpar.mono ?_
    rintro e w1 ⟨rfl, S, hk, hS⟩
    have HK : Hid (Kp [] w w1) := hk.trans' (Kp.refl [] _) (by simp) |>.mono (by
      intro x hx hlt; have := hS x hx; omega)
    clear hk hS hpar hpp
    go_wp2
    go_ret
    exact ⟨rfl, HK.out⟩
  | some ps =>
    rw [hpp] at hpar
    go_enter Tryz.func11, Tryz.ntmps11
    go_wp2_with fail
    refine hpar.mono ?_
    rintro e w1 ⟨v, rfl, hpv, S, hk, hS⟩
    clear hpar
    obtain ⟨hE, h, hc, hnone, hs⟩ := HX.out
    obtain ⟨hbd, out, hn, hx, hpl, hbody, hbnd⟩ := parse_facts hpp (by omega)
    have hkeys := parse_keys hpp
    have hpv1 := hpv.view hk hS
    obtain ⟨av, nv, cv, rfl⟩ : ∃ a n c, v = .slice a n c := by
      rcases hpv1.ex with ⟨_, a, c, rfl⟩ | ⟨g, c, rfl, _⟩ <;> exact ⟨_, _, _, rfl⟩
    have hwo := without_any hpv1 hpl (fun p hp => ⟨(hbnd p hp).1, hkeys p hp⟩)
    have HQ := Lib.hid (And.intro hE (And.intro h (And.intro hnone (And.intro hs (And.intro hbd (And.intro hn (And.intro hx hbody)))))))
    have HP := Lib.hid (And.intro hpv1 (And.intro hpl (And.intro hbnd (And.intro hk hS))))
    clear hE h hc hnone hs hpp hbd hn hx hbody hbnd hk hS hpv1 hpv hpl HX hkeys
    go_wp2_with fail
    refine hwo.mono ?_
    rintro e w1' ⟨rfl, hkx⟩
    clear hwo
    obtain ⟨hE, h, hnone, hs, hbd, hn, hx, hbody⟩ := HQ.out
    obtain ⟨hpv1, hpl, hbnd, hk, hS⟩ := HP.out
    have hk := hk.trans (hkx.mono (by simp))
    have hpv1 := hpv1.kp0 hkx
    cases hwb : withB ps with
    | true =>
      have HK : Hid (Kp [] w w1') := hk.mono (S' := []) (by
        intro x hx hlt; have := hS x hx; omega)
      clear hE h hnone hs hbd hn hx hbody hpv1 hpl hbnd hk hS hkx HQ HP hwb
      go_wp2
      go_ret
      exact ⟨rfl, HK.out⟩
    | false =>
      have hpt := next34 (c := c) HH (hE.kp hk (fun x hx => by have := hS x hx; have := hE.sz; omega)) (h.fwd hk hS) hnone (by omega) hbd hn hx (without_ok hwb) hbody
      have HP2 := Lib.hid (And.intro hpv1 (And.intro hpl (And.intro hbnd (And.intro hk hS))))
      clear hE h hnone hs hbd hn hx hbody hpv1 hpl hbnd hk hS hkx HQ HP hwb
      go_wp2_with fail
      refine hpt.mono ?_
      rintro e w2 ⟨v2, rfl, hgp, hk2⟩
      clear hpt
      obtain ⟨hpv1, hpl, hbnd, hk, hS⟩ := HP2.out
      have hsm := same_any hgp.view (hpv1.kp0 hk2) hpl hbnd
      have hkw : Kp [] w w2 := ((hk.trans (hk2.mono (by simp))).mono (S' := []) (by
        intro x hx hlt; have := hS x hx; omega))
      have HK := Lib.hid hkw
      clear hgp hk2 hkw hpv1 hpl hbnd hk hS HP2
      go_wp2_with fail
      refine hsm.mono ?_
      rintro e w3 ⟨rfl, hk3⟩
      have HF := Lib.hid (HK.out.trans hk3)
      clear hk3 hsm
      go_wp2
      go_ret
      exact ⟨rfl, HF.out⟩
set_option maxRecDepth 20000 in
set_option maxHeartbeats 1000000 in
theorem fnNext_any (hE : Env w E) (h : HB w a src) (hc : src.length ≤ c) (hnone : a = none → c = 0) :
    Calls Tryz.prog 11 #[.slice a src.length c, .string (str b)] w fun e w' => e = .returned (.bool true) ∧ Kp [] w w' := by
  by_cases hs : src.length ≤ 16777216 ∧ b.length ≤ 16777216
  · exact fnNext_walk headersOk hE h hc hnone hs.1 hs.2
  · have HK : Hid (Kp [] w w) := Kp.refl _ _
    clear hE h hc hnone
    go_enter Tryz.func11, Tryz.ntmps11
    go_wp2_with fail
    all_goals first
      | (go_ret; exact ⟨rfl, HK.out⟩)
      | (exfalso; omega)
end
end Go.Proofs.YtkbgnplknifmhaaGreatDoor
