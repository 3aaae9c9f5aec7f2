/-
  Walks and facts for the mailparts program.
-/
import Derived.Test.YtkbgnplknifmhaaGreatDoorKHs2ToEp2
namespace Go.Proofs.YtkbgnplknifmhaaGreatDoor
open Go.RowKit
attribute [local go_sem ↓] Go.wp_at_zero Go.wp_at_succ
/-! ### impl.Skips (24) -/
theorem ptCells_str {hd rd err rerr : Value} {m o : Nat} {n tot : Int} {s : Bytes} (h1 : ∀ x, hd ≠ .string x) (h2 : ∀ x, rd ≠ .string x) (h3 : ∀ x, err ≠ .string x) (h4 : ∀ x, rerr ≠ .string x) (h : (ptCells hd m rd n tot err rerr)[o]? = some (S1 s)) : o = 2 := by
  unfold ptCells S1 at h
  match o, h with
  | 0, h => exact absurd (by simpa using h) (h1 _)
  | 1, h => simp at h
  | 2, _ => rfl
  | 3, h => simp at h
  | 4, h => exact absurd (by simpa using h) (h2 _)
  | 5, h => simp at h
  | 6, h => simp at h
  | 7, h => exact absurd (by simpa using h) (h3 _)
  | 8, h => exact absurd (by simpa using h) (h4 _)
  | o + 9, h => simp at h
/-- A part's header stays while the part is read. -/
theorem HDR.read {w w' : World} {base mb db pb m : Nat} {hs : HL} {own : List Nat} {dbs : Bytes} {hd rd err rerr err' : Value} {n tot n' tot' : Int} (h : HDR w base mb hs) (k : Kp (db :: pb :: own) w w') (hown : ∀ x ∈ own, x < base)
    (hdb : Blk w db (encB dbs) 5) (hpb : Blk w pb (ptCells hd m rd n tot err rerr) 117) (hpb' : Blk w' pb (ptCells hd m rd n' tot' err' rerr) 117) (h1 : ∀ x, hd ≠ .string x) (h2 : ∀ x, rd ≠ .string x) (h3 : ∀ x, err ≠ .string x) (h4 : ∀ x, rerr ≠ .string x) : HDR w' base mb hs := by
  obtain ⟨sb, used, cnt, v, kvs, hI⟩ := h
  have hmap : ∃ es clock, w.heap[mb]? = some (.map es clock) := by
    obtain ⟨es, clock, h5, _⟩ := hI.mp
    exact ⟨es, clock, h5⟩
  obtain ⟨es, clock, hmap⟩ := hmap
  have hmS : mb ∉ db :: pb :: own := by
    intro e
    simp only [List.mem_cons] at e
    rcases e with rfl | rfl | e
    · have h5 : w.heap[mb]? = some (.cells (encB dbs) 5 (0, 0)) := hdb
      rw [hmap] at h5; cases h5
    · have h5 : w.heap[mb]? = some (.cells _ 117 (0, 0)) := hpb
      rw [hmap] at h5; cases h5
    · have := hown mb e; have := hI.mbase; omega
  have hvv : ∀ p ∈ kvs, ∀ vs, VV w sb used p.2 vs → vs ≠ [] → VV w' sb used p.2 vs := by
    intro p hp vs hv hne
    cases hv with
    | own ho hb =>
      refine .own (ho.kp k (fun x hx e => ?_)) hb
      obtain ⟨_, _, cur, h5⟩ := ho.type x e
      simp only [List.mem_cons] at hx
      rcases hx with rfl | rfl | hx
      · have h6 : w.heap[x]? = some (.cells (encB dbs) 5 (0, 0)) := hdb
        rw [h5] at h6; injection h6 with h6; injection h6 with _ h6; cases h6
      · have h6 : w.heap[x]? = some (.cells _ 117 (0, 0)) := hpb
        rw [h5] at h6; injection h6 with h6; injection h6 with _ h6; cases h6
      · have := hown x hx; have := (hI.new p hp x e).1; omega
    | sh o hvs ho s hss hc =>
      refine .sh o hvs ho s hss ?_
      have hbs : base ≤ sb := (hI.new p hp sb (by rw [hvs]; rfl)).1
      by_cases e1 : sb = db
      · subst e1
        exfalso
        rw [hdb.cell] at hc
        unfold encB at hc
        rw [List.getElem?_toArray, List.getElem?_map] at hc
        obtain ⟨x, _, hx⟩ := Option.map_eq_some_iff.1 hc
        unfold B8 S1 at hx
        cases hx
      · by_cases e2 : sb = pb
        · subst e2
          rw [hpb.cell] at hc
          have ho2 := ptCells_str h1 h2 h3 h4 hc
          subst ho2
          rw [hpb'.cell]
          exact hc
        · rw [← hc]
          refine World.cell?_of_block (w := w) (k.block sb hI.slt ?_)
          intro e
          simp only [List.mem_cons] at e
          rcases e with e | e | e
          · exact e1 e
          · exact e2 e
          · have := hown sb e; omega
  exact ⟨sb, used, cnt, v, kvs, ⟨hI.mp.kp k hmS, hI.two.mono (fun p hp b ⟨h5, h6, h7⟩ => ⟨hvv p hp b h5 h6, h6, h7⟩), hI.sep, hI.new, hI.ms, hI.mbase, Nat.lt_of_lt_of_le hI.slt k.size, hI.vsep⟩⟩
/-- A beginning of each part. -/
def Pre (g p : HL × Bytes) : Prop := g.1 = p.1 ∧ g.2 <+: p.2
structure SksRel (w wr : World) (E : Value) (R : RS) (m bd : Nat) (b : Bytes) (ps : PL) (v8 v10 : Value) (q : Nat) : Prop where
  ex : ∃ M nl c pr S out done rest gs, M.m = m ∧ M.bd = bd ∧ NLk nl c ∧ PsSt wr E R M b nl pr S out ∧ Nxt b nl out rest ∧ ps = done ++ rest ∧ rest.length = q ∧ 0 ≤ pr ∧ pr + q ≤ 4611686018427387904 ∧ v10 = .int .i64 (done.length : Nat) ∧ GPx wr w.heap.size v8 gs ∧ All2 Pre gs done ∧ Kp (m :: R.own) w wr ∧ (∀ x ∈ S, w.heap.size ≤ x ∧ ∃ cur, wr.heap[x]? = some (.cells cur 117 (0, 0)))
def SksEnd (w : World) (ps : PL) (e : Ending) (w' : World) : Prop := ∃ v gs, e = .returned (.tuple #[v, .int .i64 1]) ∧ GPx w' w.heap.size v gs ∧ All2 Pre gs ps ∧ Kp [] w w'
end Go.Proofs.YtkbgnplknifmhaaGreatDoor
namespace Go.Proofs.YtkbgnplknifmhaaGreatDoor
open Go.RowKit
attribute [local go_sem ↓] Go.wp_at_zero Go.wp_at_succ
section
variable {w : World} {E : Value} {a ai : Option Addr} {c ci : Nat} {src b : Bytes} {out : Option (Bool × Bytes)} {ps : PL} {is : List Int}
theorem errV_str {E : Value} (hE : ∃ t v, E = .iface t v) (f : Bool) : ∀ x, errV E f ≠ .string x := by
  obtain ⟨t, v, rfl⟩ := hE
  intro x e
  cases f with
  | true => rw [errV_t] at e; cases e
  | false => rw [errV_f] at e; cases e
set_option maxRecDepth 20000 in
set_option maxHeartbeats 8000000 in
theorem skips24 (hE : Env w E) (h : HB w a src) (hnone : a = none → c = 0) (hl : src.length ≤ 1000000000) (hb : boundaryB b = true) (hn : NP b [13, 10] 0 false src out) (hx : Nxt b [13, 10] out ps) (hi : IB w ai is) :
    Calls Tryz.prog 24 #[.slice a src.length c, .string (str b), .slice ai is.length ci] w fun e w' => SksEnd w ps e w' := by
  have hbl := boundaryB_len hb
  have hfew := hn.few hx
  have hsrc := source_any a src.length c src w h rfl hnone (by omega)
  have HE := Lib.hid hE
  have HI := Lib.hid hi
  clear h hnone hE hi
  go_enter Tryz.func24, Tryz.ntmps24
  go_wp2_with fail
  refine hsrc.mono ?_
  rintro e w1 ⟨ur, da, a', c', rfl, hsp⟩
  clear hsrc
  have hE1 := HE.out.kp hsp.kp (by simp)
  have hnr := newReader44 109 ur da b src E w1 (srcPost_src hsp (by omega)) hE1.g0 hE1.isE hE1.gv ⟨by have := hsp.nu; have := HE.out.sz; omega, hsp.blk.lt, hsp.nd.2.2, hsp.nd.2.1, by have := hsp.nd; have := HE.out.sz; omega⟩ hbl
  have HSP := Lib.hid hsp
  clear hsp hE1
  go_wp2_with fail
  refine hnr.mono ?_
  rintro e w2 ⟨R, M, rfl, hF⟩
  clear hnr
  have hst := fresh_st hF hn (by omega)
  have hlo : (∀ x ∈ M.m :: R.own, 15 ≤ x ∧ x < w2.heap.size) ∧ R.da < w2.heap.size := ⟨fun x hx => by
    rcases List.mem_cons.1 hx with rfl | hx
    · exact hst.lo.m
    · exact hst.lo.own x hx, hst.lo.da⟩
  have hbdl : Hid (M.bd < w2.heap.size) := hst.lo.bd
  have hlow : ∀ x ∈ M.m :: R.own, w.heap.size ≤ x := by
    intro x hx
    have h1 := HSP.out.kp.size
    have h2 := hF.nw
    have h3 : w.heap.size ≤ R.ur := by rw [hF.hur]; exact HSP.out.nu
    have hx' : x = M.m ∨ x = R.rb ∨ x = R.bb ∨ x = R.st ∨ x = R.ur := by simpa [RS.own] using hx
    omega
  have hk02 : Kp [] w w2 := HSP.out.kp.trans hF.kp
  have hE2 := HE.out.kp hk02 (by simp)
  have hR0 : SksRel w2 w2 E R M.m M.bd b ps (.slice none 0 0) (.int .i64 ((0 : Nat) : Int)) ps.length := ⟨M, [13, 10], [13], 0, [], out, [], ps, [], rfl, rfl, NLk.crlf, hst, hx, rfl, rfl, by omega, by omega, rfl, GPx.nil _ _, .nil, Kp.refl _ _, by simp⟩
  have HR0 := Lib.hid hR0
  have HLO := Lib.hid hlo
  have HLW := Lib.hid (And.intro hlow hk02)
  have HE2 := Lib.hid hE2
  generalize M.m = m at HR0 HLO HLW ⊢
  generalize M.bd = bd at HR0 hbdl
  clear hF hn hx hst hlo hlow hk02 hE2 hR0 HSP
  go_wp2
  go_loopg [8, 10] ps.length (fun q v8 v10 wr => SksRel w2 wr E R m bd b ps v8 v10 q)
  case atStart => exact HR0.out
  case round =>
    clear HR0
    obtain ⟨M, nl, c, pr, S, out, done, rest, gs, rfl, rfl, hk, hst, hnx, hps, hq, hp0, hpl, rfl, hgp, hall, hkw, hS⟩ := hrel.ex
    have hcon := next_step nxgRaw hst hnx (fun _ _ => trivial) hk HE2.out.eq hb ⟨hp0, by omega⟩
    obtain ⟨tE, vE, hEE⟩ := HE2.out.isE
    have hnn := nil_eq_iface tE vE
    have heqE := HE2.out.eq
    rw [hEE] at heqE
    have hcl : Clr wr w2.heap.size (S ++ M.m :: R.own) := fun x hx => by
      rcases List.mem_append.1 hx with hx | hx
      · exact .inr (.inr (hS x hx).2)
      · exact .inl (HLO.out.1 x hx).2
    cases rest with
    | nil =>
      have hdone : done = ps := by rw [hps]; simp
      subst hdone
      have HX := Lib.hid (And.intro hgp (And.intro hkw (And.intro hS (And.intro hcl hall))))
      clear hgp hkw hS hst hnx hrel hq hpl hps hcl hall
      go_wp2_with fail
      refine hcon.mono ?_
      rintro e w3 ⟨rfl, hk1⟩
      obtain ⟨hgp, hkw, hS, hcl, hall⟩ := HX.out
      have hgp1 := hgp.kp hk1 hcl
      have hkw1 : Kp (M.m :: R.own) w2 w3 := hkw.trans' hk1 (fun x hx => by
        rcases List.mem_append.1 hx with hx | hx
        · exact .inr (hS x hx).1
        · exact .inl hx)
      have hs := state_end (HE2.out.kp hkw1 (fun x hx => (HLO.out.1 x hx).1))
      rw [hEE] at hs
      have HFIN : Hid (SksEnd w done (.returned (.tuple #[u8, .int .i64 1])) w3) := ⟨_, gs, rfl, hgp1.base HLW.out.2.size, hall, HLW.out.2.trans' hkw1 (fun x hx => .inr (HLW.out.1 x hx))⟩
      clear hgp hkw hS hcl hgp1 hkw1 hk1 hcon HX hall
      rw [hEE]
      go_wp2_with fail
      refine hs.mono ?_
      rintro e w4 ⟨rfl, rfl⟩
      go_wp2
      go_ret2
      exact HFIN.out
    | cons p rest =>
      obtain ⟨hs, body⟩ := p
      have hlen := congrArg List.length hps
      simp only [List.length_append, List.length_cons] at hlen hq
      have hgl := hall.len
      have HX := Lib.hid (And.intro hgp (And.intro hkw (And.intro hS (And.intro hps (And.intro hcl hall)))))
      have HNUM := Lib.hid (And.intro hq (And.intro hpl (And.intro hlen hgl)))
      clear hgp hkw hS hst hnx hrel hcl hall heqE
      by_cases hlt : done.length < is.length
      · have hlt' : (done.length : Int) < (is.length : Int) := by omega
        go_wp2_with fail
        refine hcon.mono ?_
        rintro e w3 ⟨pb, mb, M', nl', c', tail, out', rfl, hG⟩
        clear hcon
        have HG := Lib.hid hG
        obtain ⟨hgp, hkw, hS, hps, hcl, hall⟩ := HX.out
        have hkw3 : Kp (M.m :: R.own) w2 w3 := hkw.trans' hG.kp (fun x hx => by
          rcases List.mem_append.1 hx with hx | hx
          · exact .inr (hS x hx).1
          · exact .inl hx)
        have hk03 : Kp [] w w3 := HLW.out.2.trans' hkw3 (fun x hx => .inr (HLW.out.1 x hx))
        have hiw := HI.out.fwd hk03 (by simp)
        obtain ⟨s, hs0⟩ : ∃ s, is.getD done.length 0 = s := ⟨_, rfl⟩
        have hix := hiw.ix ci done.length hlt
        have hld : w3.cell? (at_ ai done.length) = some (.int .i64 s) := by rw [← hs0]; exact hiw.cell done.length hlt
        obtain ⟨mm, hm⟩ : ∃ m : Nat, max (0 : Int) (min s 65536) = (m : Int) := ⟨(max (0 : Int) (min s 65536)).toNat, by omega⟩
        have hm2 : mm ≤ 65536 := by omega
        have hmk := make22 mm (by omega)
        obtain ⟨dbs, hdbs⟩ : ∃ dbs : Bytes, List.replicate mm 0 = dbs := ⟨_, rfl⟩
        have hdl : dbs.length = mm := by rw [← hdbs]; simp
        rw [hdbs] at hmk
        have hka : Kp [] w3 (w3.alloc (.cells (encB dbs) 5)) := (Kp.refl _ _).alloc _
        have hP4 := hG.prd.kp hka (by simp) (by simp) (by simp) (by simp) (by simp) (by simp)
        have hd1 := hG.prd.rd.lo
        have hcon2 := partRead_any hP4 mm mm w3.heap.size dbs 5 (Blk.new _ _ _) (by omega) (Nat.le_refl _) (by omega) ⟨fun e => by have := (hd1.own _ e).2; omega, by have := hd1.da; omega, by have := hd1.m; omega, by have := hd1.bd; omega, by have := hG.prd.blk.lt; omega, by have := hd1.m; omega⟩
        have HK3 := Lib.hid (And.intro hkw3 (And.intro hdl hka))
        have hmI : (0 : Int) ≤ (mm : Int) := by omega
        have hdlen : Hid (mm ≤ dbs.length) := by show _ ≤ _; omega
        clear hG hgp hkw hS hps hcl hall hkw3 hk03 hiw hs0 hdbs hka hP4 hd1 hdl
        go_wp2_with fail
        (with_reducible refine hcon2.mono ?_)
        rintro e w5 ⟨k, x, rfl, hp⟩
        clear hcon2 hix hld hmk
        obtain ⟨hkw3, hdl, hka⟩ := HK3.out
        obtain ⟨n', fin', hP5, hx5⟩ := hp.prd
        have hkm : k ≤ mm := hp.km
        have hkI : (k : Int) ≤ (mm : Int) := by omega
        have hP4 := HG.out.prd.kp hka (by simp) (by simp) (by simp) (by simp) (by simp) (by simp)
        have hh5 : HDR w5 wr.heap.size mb hs := (HG.out.hdr.kp hka (by simp)).read hp.kp (fun x hx => by have := (HLO.out.1 x (by simp [hx])).2; have := (HX.out.2.1).size; omega) (Blk.new _ _ _) hP4.blk hP5.blk (fun x e => by cases e) (fun x e => by cases e) (errV_str ⟨tE, vE, hEE⟩ _) (fun x e => by cases e)
        have hh := headersOk w5 pb mb _ hs hh5 HG.out.ks HG.out.few.1 HG.out.few.2 (by rw [hP5.blk.cell]; rfl)
        have HP := Lib.hid (And.intro hp (And.intro hP5 hkw3))
        clear hp hP5 hP4 hh5 hkw3 hka hdl HK3 hkm
        go_wp2_with fail
        refine hh.mono ?_
        rintro e w6 ⟨hv, svs, rfl, hhl, hk6⟩
        clear hh
        obtain ⟨a1, n1, c1, rfl⟩ := hhl.shape
        obtain ⟨hp, hP5, hkw3⟩ := HP.out
        obtain ⟨hgp, hkw, hS, hps, hcl, hall⟩ := HX.out
        obtain ⟨hq, hpl, hlen, hgl⟩ := HNUM.out
        have hkb := hp.kb
        have htl : (body.take k).length = k := by rw [List.length_take]; omega
        have hlow : ∀ x ∈ R.own, x < w2.heap.size := fun x hx => (HLO.out.1 x (by simp [hx])).2
        have hpb := HG.out.new
        have hz1 : w2.heap.size ≤ wr.heap.size := hkw.size
        have hz2 : wr.heap.size ≤ w3.heap.size := HG.out.kp.size
        have hpbl : pb < w3.heap.size := HG.out.prd.blk.lt
        have hk35 : Kp (pb :: R.own) w3 w5 := ((Kp.refl [] w3).alloc (.cells (encB dbs) 5) |>.mono (by simp)).trans' hp.kp (fun x hx => by
          simp only [List.mem_cons] at hx
          rcases hx with rfl | rfl | hx
          · exact .inr (Nat.le_refl _)
          · exact .inl (by simp)
          · exact .inl (by simp [hx]))
        have hcl3 : Clr w3 w2.heap.size (pb :: R.own) := fun x hx => by
          rcases List.mem_cons.1 hx with rfl | hx
          · exact .inr (.inr ⟨_, HG.out.prd.blk⟩)
          · exact .inl (hlow x hx)
        have hz5 : w3.heap.size < w5.heap.size := hp.blk.lt
        have hgp6 := ((hgp.kp HG.out.kp hcl).kp hk35 hcl3).kp hk6 (fun x hx => by simp at hx)
        have hhl6 : HLx w6 w2.heap.size (.slice a1 n1 c1) svs hs := hhl.base (by omega)
        have hblk6 := hp.blk.kp hk6 (by simp)
        have hsrc6 : HB w6 (some ⟨w3.heap.size, 0, none⟩) (body.take k) := by
          refine HB.of_cells (fun i hi => ?_)
          rw [htl] at hi
          have hdl : mm ≤ dbs.length := hdlen.out
          rw [Nat.zero_add, hblk6.cell, encB_get _ i (by rw [length_spliceB _ _ _ (by rw [htl]; omega)]; omega)]
          have : byt (spliceB dbs 0 (body.take k)) i = byt (body.take k) i := by
            unfold spliceB
            rw [List.take_zero, List.nil_append]
            unfold byt
            rw [List.getD, List.getD, List.getElem?_append_left (by rw [htl]; exact hi)]
          rw [this]
        have hbv6 : BVw w6 w2.heap.size (.slice (some ⟨w3.heap.size, 0, none⟩) k mm) (body.take k) := ⟨_, mm, by rw [htl], hsrc6, by simp, fun x hx => by
          injection hx with hx
          subst hx
          exact ⟨by show w2.heap.size ≤ w3.heap.size; omega, _, hblk6⟩⟩
        have hkw6 : Kp (M.m :: R.own) w2 w6 := (hkw3.trans' hk35 (fun x hx => by
          rcases List.mem_cons.1 hx with rfl | hx
          · exact .inr (by omega)
          · exact .inl (by simp [hx]))).trans (hk6.mono (by simp))
        have hkp6 : k ≤ body.length := hkb
        have hpre : (body.take k) <+: body := List.take_prefix _ _
        have hP6 := hP5.kp hk6 (by simp) (by simp) (by simp) (by simp) (by simp) (by simp)
        obtain ⟨v', w7, e1, hgp7, S7, hk7, hS7⟩ := hgp6.add _ _ svs hs (body.take k) hhl6 hbv6 hkw6.size (by omega)
        have hkw7 : Kp (M.m :: R.own) w2 w7 := hkw6.trans' hk7 (fun x hx => .inr (hS7 x hx).1)
        have hn7 : ∀ y, y < w2.heap.size → y ∉ S7 := fun y hy e => by have := (hS7 y e).1; omega
        have hpb7 : pb ∉ S7 := fun e => by
          obtain ⟨_, cur, h5⟩ := hS7 pb e
          have h6 : w6.heap[pb]? = _ := hP6.blk
          rw [h5] at h6
          injection h6 with h6
          injection h6 with _ h6
          cases h6
        have hda := HLO.out.2
        have hm0 := (HLO.out.1 M.m (by simp)).2
        have hm15 := (HLO.out.1 M.m (by simp)).1
        have hm' : M'.m = M.m := HG.out.mm
        have hbd' : M'.bd < w2.heap.size := by rw [HG.out.mbd]; exact hbdl.out
        have hP7 := hP6.kp hk7 (fun x hx => hn7 x (hlow x hx)) (hn7 _ hda) (by rw [hm']; exact hn7 _ hm0) (hn7 _ hbd') (fun x hx => by have := (hS7 x hx).1; omega) hpb7
        have hrel : SksRel w2 w7 E R M.m M.bd b ps v' (.int .i64 ((done.length : Int) + 1)) rest.length :=
          ⟨M', nl', c', pr + 1, [pb], out', done ++ [(hs, body)], rest, gs ++ [(hs, (body.take k))], hm', HG.out.mbd, HG.out.nlk, .next _ _ _ _ _ _ _ _ _ hP7 (HG.out.np _ (by omega)), HG.out.nxt, by rw [hps]; simp, rfl, by omega, by omega, by simp, hgp7, hall.snoc _ _ ⟨rfl, hpre⟩, hkw7, fun x hx => by
            simp at hx
            subst hx
            exact ⟨by omega, _, hP7.blk⟩⟩
        have hdI : (done.length : Int) ≤ 1000000000 := by omega
        have HREL := Lib.hid hrel
        have HMM : Hid (rest.length < gk) := by show _ < _; omega
        clear hrel hP7 hbd' hm' hm0 hm15 hda hpb7 hn7 hkw7 hgp7 hS7 hk7 hP6 hpre hkw6 hbv6 hhl6 hgp6 hgp hkw hS hps hcl hall hhl hk6 hkw3 hlow hp hP5 hsrc6 hblk6 hcl3 hk35 hkp6
        go_wp2_with (at_builtin; refine wpList_append_run2 _ rfl (.tmp 52) (.tmp 57) 24 24 rfl u8 (.slice (some ⟨w6.heap.size, 0, none⟩) 1 1) rfl rfl e1 ?_)
        go_roundg rest.length
        case measure => exact HMM.out
        case rel => exact HREL.out
      · have hlt' : ¬ (done.length : Int) < (is.length : Int) := by omega
        go_wp2_with fail
        refine hcon.mono ?_
        rintro e w3 ⟨pb, mb, M', nl', c', tail, out', rfl, hG⟩
        clear hcon
        have HG := Lib.hid hG
        have hh := headersOk w3 pb mb _ hs hG.hdr hG.ks hG.few.1 hG.few.2 (by rw [hG.prd.blk.cell]; rfl)
        clear hG
        go_wp2_with fail
        refine hh.mono ?_
        rintro e w6 ⟨hv, svs, rfl, hhl, hk6⟩
        clear hh
        obtain ⟨a1, n1, c1, rfl⟩ := hhl.shape
        obtain ⟨hgp, hkw, hS, hps, hcl, hall⟩ := HX.out
        obtain ⟨hq, hpl, hlen, hgl⟩ := HNUM.out
        have hlow : ∀ x ∈ R.own, x < w2.heap.size := fun x hx => (HLO.out.1 x (by simp [hx])).2
        have hpb := HG.out.new
        have hz1 : w2.heap.size ≤ wr.heap.size := hkw.size
        have hz2 : wr.heap.size ≤ w3.heap.size := HG.out.kp.size
        have hpbl : pb < w3.heap.size := HG.out.prd.blk.lt
        have hkw3 : Kp (M.m :: R.own) w2 w3 := hkw.trans' HG.out.kp (fun x hx => by
          rcases List.mem_append.1 hx with hx | hx
          · exact .inr (hS x hx).1
          · exact .inl hx)
        have hgp6 := (hgp.kp HG.out.kp hcl).kp hk6 (fun x hx => by simp at hx)
        have hhl6 : HLx w6 w2.heap.size (.slice a1 n1 c1) svs hs := hhl.base (by omega)
        have hbv6 : BVw w6 w2.heap.size (.slice none 0 0) [] := ⟨none, 0, rfl, HB.nil _ _, fun _ => rfl, by simp⟩
        have hkw6 : Kp (M.m :: R.own) w2 w6 := hkw3.trans (hk6.mono (by simp))
        have hpre : ([] : Bytes) <+: body := List.nil_prefix
        have hP6 := HG.out.prd.kp hk6 (by simp) (by simp) (by simp) (by simp) (by simp) (by simp)
        obtain ⟨v', w7, e1, hgp7, S7, hk7, hS7⟩ := hgp6.add _ _ svs hs [] hhl6 hbv6 hkw6.size (by omega)
        have hkw7 : Kp (M.m :: R.own) w2 w7 := hkw6.trans' hk7 (fun x hx => .inr (hS7 x hx).1)
        have hn7 : ∀ y, y < w2.heap.size → y ∉ S7 := fun y hy e => by have := (hS7 y e).1; omega
        have hpb7 : pb ∉ S7 := fun e => by
          obtain ⟨_, cur, h5⟩ := hS7 pb e
          have h6 : w6.heap[pb]? = _ := hP6.blk
          rw [h5] at h6
          injection h6 with h6
          injection h6 with _ h6
          cases h6
        have hda := HLO.out.2
        have hm0 := (HLO.out.1 M.m (by simp)).2
        have hm15 := (HLO.out.1 M.m (by simp)).1
        have hm' : M'.m = M.m := HG.out.mm
        have hbd' : M'.bd < w2.heap.size := by rw [HG.out.mbd]; exact hbdl.out
        have hP7 := hP6.kp hk7 (fun x hx => hn7 x (hlow x hx)) (hn7 _ hda) (by rw [hm']; exact hn7 _ hm0) (hn7 _ hbd') (fun x hx => by have := (hS7 x hx).1; omega) hpb7
        have hrel : SksRel w2 w7 E R M.m M.bd b ps v' (.int .i64 ((done.length : Int) + 1)) rest.length :=
          ⟨M', nl', c', pr + 1, [pb], out', done ++ [(hs, body)], rest, gs ++ [(hs, [])], hm', HG.out.mbd, HG.out.nlk, .next _ _ _ _ _ _ _ _ _ hP7 (HG.out.np _ (by omega)), HG.out.nxt, by rw [hps]; simp, rfl, by omega, by omega, by simp, hgp7, hall.snoc _ _ ⟨rfl, hpre⟩, hkw7, fun x hx => by
            simp at hx
            subst hx
            exact ⟨by omega, _, hP7.blk⟩⟩
        have hdI : (done.length : Int) ≤ 1000000000 := by omega
        have HREL := Lib.hid hrel
        have HMM : Hid (rest.length < gk) := by show _ < _; omega
        clear hrel hP7 hbd' hm' hm0 hm15 hda hpb7 hn7 hkw7 hgp7 hS7 hk7 hP6 hpre hkw6 hbv6 hhl6 hgp6 hgp hkw hS hps hcl hall hhl hk6 hkw3 hlow
        go_wp2_with (at_builtin; refine wpList_append_run2 _ rfl (.tmp 52) (.tmp 57) 24 24 rfl u8 (.slice (some ⟨w6.heap.size, 0, none⟩) 1 1) rfl rfl e1 ?_)
        go_roundg rest.length
        case measure => exact HMM.out
        case rel => exact HREL.out
end
end Go.Proofs.YtkbgnplknifmhaaGreatDoor
namespace Go.Proofs.YtkbgnplknifmhaaGreatDoor
open Go.RowKit
attribute [local go_sem ↓] Go.wp_at_zero Go.wp_at_succ
/-! ### laws.FnSkips (5) -/
/-- A world in which all that was there is as it was. -/
structure KW (w : World) where
  w' : World
  kp : Kp [] w w'
theorem wp_region_quiet_kw {id : Nat} {Q : Exit → Act → World → Prop} {a : Act} {w wA : World} {l : List Oper} (hm : Tryz.prog.follows .mixedOrders = true) (hB : Region.lexB .any l.toArray = true) (hC : Kp [] wA { w with drawn := w.drawn + 1 })
    (h : wpQuiet Tryz.prog l.toArray (fun w' => ∃ p : KW wA, w' = p.w') (fun a' => ∀ w', (∃ p : KW wA, w' = p.w') → Q .normal a' w') l a) : (Code.region id l.toArray true).wp Tryz.prog Q a w :=
  wp_region_quiet (C := fun w' => ∃ p : KW wA, w' = p.w') hm hB ⟨⟨_, hC⟩, rfl⟩ (by simpa using h)
theorem PVx.viewc {w0 w : World} {a0 : Option Addr} {v : Value} {ps : PL} (h : PVx w0 w a0 v ps) {S : List Nat} (k : Kp S w0 w) (hS : ∀ x ∈ S, w0.heap.size ≤ x) :
    (ps = [] ∧ ∃ a c, v = .slice a 0 c) ∨ ∃ g c, v = .slice (some ⟨g, 0, none⟩) ps.length c ∧ ∀ i p, ps[i]? = some p → ∃ hv a c, w.cell? ⟨g, i * 2, none⟩ = some hv ∧ w.cell? ⟨g, i * 2 + 1, none⟩ = some (.slice a p.2.length c) ∧ HView w hv p.1 ∧ HB w a p.2 ∧ p.2.length ≤ c := by
  obtain ⟨xs, h1, h2⟩ := h.ex
  have hl := h2.len
  rcases h1.2 with ⟨rfl, h0⟩ | ⟨g, cap, cur, rfl, hb, rest⟩
  · exact .inl ⟨List.eq_nil_of_length_eq_zero (by omega), none, 0, rfl⟩
  · refine .inr ⟨g, cap, by rw [hl], fun i p hp => ?_⟩
    obtain ⟨q, hq, ⟨⟨svs, h3⟩, h4⟩⟩ := h2.at_ i p hp
    have hi : i < xs.length := (List.getElem?_eq_some_iff.1 hq).1
    obtain ⟨h5, h6⟩ := flatP_get xs i q hq
    obtain ⟨a, c, e1, e2, e3, e4, e5⟩ := h4.ex
    refine ⟨q.1, a, c, ?_, ?_, h3.view, e2.fwd k hS, e3⟩
    · have := World.ownsRow.cellAt h1 (i * 2) (by omega)
      rw [this, h5]
    · have := World.ownsRow.cellAt h1 (i * 2 + 1) (by omega)
      rw [this, h6, e1]
section
variable {w : World} {E : Value} {a ai : Option Addr} {c ci : Nat} {src b : Bytes} {is : List Int}
set_option maxRecDepth 20000 in
set_option maxHeartbeats 4000000 in
theorem fnSkips_walk (hE : Env w E) (h : HB w a src) (hc : src.length ≤ c) (hnone : a = none → c = 0) (hi : IB w ai is) (hs : src.length ≤ 16777216) (hbl : b.length ≤ 16777216) (his : is.length ≤ 1048576) :
    Calls Tryz.prog 5 #[.slice a src.length c, .string (str b), .slice ai is.length ci] w fun e w' => e = .returned (.bool true) ∧ Kp [] w w' := by
  have hs1 : (src.length : Int) ≤ 2147483647 := by omega
  have hs2 : (src.length : Int) ≤ 16777216 := by omega
  have hs3 : (b.length : Int) ≤ 2147483647 := by omega
  have hs4 : (b.length : Int) ≤ 16777216 := by omega
  have hs5 : (is.length : Int) ≤ 2147483647 := by omega
  have hs6 : (is.length : Int) ≤ 1048576 := by omega
  have hpar := parse_any h hc hnone (by omega) (b := b) (by omega)
  have HX := Lib.hid (And.intro hE (And.intro h (And.intro hc (And.intro hnone (And.intro hs hi)))))
  clear hE h hc hnone hbl hi his
  cases hpp : parseP src b with
  | none =>
    rw [hpp] at hpar
    go_enter Tryz.func5, Tryz.ntmps5
    go_wp2_with fail
    refine hpar.mono ?_
    rintro e w1 ⟨rfl, S, hk, hS⟩
    have HK : Hid (Kp [] w w1) := hk.trans' (Kp.refl [] _) (by simp) |>.mono (by
      intro x hx hlt; have := hS x hx; omega)
    clear hk hS hpar hpp
    go_wp2
    go_ret
    exact ⟨rfl, HK.out⟩
  | some ps =>
    rw [hpp] at hpar
    go_enter Tryz.func5, Tryz.ntmps5
    go_wp2_with fail
    refine hpar.mono ?_
    rintro e w1 ⟨v, rfl, hpv, S, hk, hS⟩
    clear hpar
    obtain ⟨hE, h, hc, hnone, hs, hi⟩ := HX.out
    obtain ⟨hbd, out, hn, hx, hpl, hbody, hbnd⟩ := parse_facts hpp (by omega)
    have hsk := skips24 (c := c) (ci := ci) (hE.kp hk (fun x hx => by have := hS x hx; have := hE.sz; omega)) (h.fwd hk hS) hnone (by omega) hbd hn hx (hi.fwd hk hS)
    have hpv1 := hpv.viewc hk hS
    obtain ⟨av, cv, rfl⟩ : ∃ a c, v = .slice a ps.length c := by
      rcases hpv1 with ⟨rfl, a, c, rfl⟩ | ⟨g, c, rfl, _⟩
      · exact ⟨a, c, rfl⟩
      · exact ⟨_, _, rfl⟩
    have HP := Lib.hid (And.intro hpv1 (And.intro hpl (And.intro hbnd (And.intro hk hS))))
    clear hE h hc hnone hs hi hpp hbd hn hx hbody hbnd hk hS hpv1 hpv hpl HX
    go_wp2_with fail
    refine hsk.mono ?_
    rintro e w2 ⟨v2, gs, rfl, hgp, hall, hk2⟩
    clear hsk
    obtain ⟨hpv1, hpl, hbnd, hk, hS⟩ := HP.out
    have hgl := hall.len
    have hgv := hgp.view
    obtain ⟨ag, cg, rfl⟩ : ∃ a c, v2 = .slice a gs.length c := by
      rcases hgv.ex with ⟨rfl, a, c, rfl⟩ | ⟨g, c, rfl, _⟩
      · exact ⟨a, c, rfl⟩
      · exact ⟨_, _, rfl⟩
    rw [hgl] at hgv ⊢
    have HG := Lib.hid (And.intro hgv (And.intro hall hk2))
    have HR0 : Hid (IxRel w2 w2 ps.length (.int .i64 ((0 : Nat) : Int)) ps.length) := ⟨0, rfl, by omega, Kp.refl _ _⟩
    have HK0 : Hid (Kp [] w w2) := ((hk.trans (hk2.mono (by simp))).mono (S' := []) (by
      intro x hx hlt; have := hS x hx; omega))
    clear hpv1 hbnd hk hS hgv hall hk2 hgp
    go_wp2
    go_loopg [65] ps.length (fun q v65 wr => IxRel w2 wr ps.length v65 q)
    case atStart => exact HR0.out
    case round =>
      clear HR0
      obtain ⟨i, rfl, hq, hkr⟩ := hrel
      by_cases hi : i < ps.length
      · have hi' : (i : Int) < (ps.length : Int) := by omega
        obtain ⟨hgv, hall, hk2⟩ := HG.out
        obtain ⟨hpv1, hpl, hbnd, hk, hS⟩ := HP.out
        obtain ⟨p, hp⟩ : ∃ p, ps[i]? = some p := ⟨_, List.getElem?_eq_getElem hi⟩
        obtain ⟨gq, hgq, hpe1, hpe2⟩ := hall.at_ i p hp
        rcases hgv.ex with ⟨e0, _⟩ | ⟨g1, y1, e0, hc1⟩
        · rw [e0] at hgq; simp at hgq
        rcases hpv1 with ⟨e1, _⟩ | ⟨g2, y2, e1, hc2⟩
        · rw [e1] at hi; simp at hi
        injection e0 with e01 e02 e03
        injection e1 with e11 e12 e13
        subst e01; subst e03; subst e11; subst e13
        obtain ⟨h1, bv, kc1, kd1, hv1, hb1⟩ := hc1 i gq hgq
        obtain ⟨h2, a2, z2, kc2, kd2, hv2, hb2, hz2⟩ := hc2 i p hp
        obtain ⟨a1, z1, rfl, hb1', hn1⟩ := hb1.ex
        obtain ⟨f1, n1, x1, rfl⟩ := hv1.shape
        obtain ⟨f2, n2, x2, rfl⟩ := hv2.shape
        have hkw : Kp [] w1 wr := hk2.trans hkr
        have hl1 : gq.2.length ≤ p.2.length := hpe2.length_le
        obtain ⟨hbn1, hbn2, hbn3⟩ := hbnd p (List.mem_of_getElem? hp)
        have htk : p.2.take gq.2.length = gq.2 := by
          obtain ⟨t, ht⟩ := hpe2
          rw [← ht, List.take_append_of_le_length (Nat.le_refl _), List.take_length]
        -- facts in the loop's world and behind
        have hrc : ∀ {x : Addr} {u : Value} {wa wb : World}, Kp [] wa wb → wa.cell? x = some u → wb.cell? x = some u := fun {x u wa wb} hk hx => by
          rw [← hx]; exact World.cell?_of_block (w := wa) (hk.block _ (World.block_lt_of_cell? wa _ hx) (by simp))
        have kc1 := hrc hkr kc1
        have kd1 := hrc hkr kd1
        have hka : Kp [] wr (wr.alloc (.cells #[.slice f1 n1 x1, .slice a1 gq.2.length z1] 29)) := (Kp.refl _ _).alloc _
        have hnew := Blk.new wr #[.slice f1 n1 x1, .slice a1 gq.2.length z1] 29
        obtain ⟨wA, hwA⟩ : ∃ wA, wr.alloc (.cells #[.slice f1 n1 x1, .slice a1 gq.2.length z1] 29) = wA := ⟨_, rfl⟩
        rw [hwA] at hka hnew
        have q0 : ∀ p : KW wA, p.w'.cell? ⟨wr.heap.size, 0, none⟩ = some (.slice f1 n1 x1) := fun p => hrc p.kp (hnew.cell 0)
        have q1 : ∀ p : KW wA, p.w'.cell? ⟨wr.heap.size, 1, none⟩ = some (.slice a1 gq.2.length z1) := fun p => hrc p.kp (hnew.cell 1)
        have q2 : ∀ p : KW wA, p.w'.cell? ⟨g2, i * 2, none⟩ = some (.slice f2 n2 x2) := fun p => hrc p.kp (hrc hka (hrc hkw kc2))
        have q3 : ∀ q : KW wA, q.w'.cell? ⟨g2, i * 2 + 1, none⟩ = some (.slice a2 p.2.length z2) := fun q => hrc q.kp (hrc hka (hrc hkw kd2))
        have hix1 := fun w => ix24s g1 ps.length cg w i hi
        have hix2 := fun w => ix24s g2 ps.length cv w i hi
        have hst1 : ∀ q : KW wA, (convert 22 9 (.slice a1 gq.2.length z1)).run Tryz.prog q.w' = .ok (.string (str gq.2)) q.w' := fun q => run_str _ a1 gq.2 gq.2.length z1 (((hb1'.kp hkr (by simp)).kp hka (by simp)).kp q.kp (by simp)) rfl
        have hst2 : ∀ q : KW wA, (convert 22 9 (.slice a2 gq.2.length z2)).run Tryz.prog q.w' = .ok (.string (str gq.2)) q.w' := fun q => by
          have h3 := (((hb2.kp hkw (by simp)).kp hka (by simp)).kp q.kp (by simp)).take gq.2.length
          rw [htk] at h3
          exact run_str _ a2 gq.2 gq.2.length z2 h3 rfl
        have hsame : ∀ q : KW wA, Calls Tryz.prog 25 #[.slice f1 n1 x1, .slice f2 n2 x2] q.w' fun e w'' => e = .returned (.bool true) ∧ ∃ r : KW wA, w'' = r.w' := fun q => by
          have h4 : HView q.w' (.slice f1 n1 x1) p.1 := by
            rw [← hpe1]
            exact ((hv1.kp0 hkr).kp0 hka).kp0 q.kp
          have h5 : HView q.w' (.slice f2 n2 x2) p.1 := ((hv2.kp0 hkw).kp0 hka).kp0 q.kp
          exact (sameHead h4 h5 hbn1 hbn2).mono fun e w'' ⟨he, hk''⟩ => ⟨he, ⟨w'', q.kp.trans hk''⟩, rfl⟩
        have hd1 : decide ((p.2.length : Int) < (gq.2.length : Int)) = false := by simp; omega
        have hd2 : decide (p.2.length < gq.2.length) = false := by simp; omega
        have hz : (gq.2.length : Int) ≤ (z2 : Int) := by omega
        have HREL : Hid (∀ r : KW wA, IxRel w2 r.w' ps.length (.int .i64 ((i : Int) + 1)) (ps.length - (i + 1))) := fun r => ⟨i + 1, by simp, by omega, (hkr.trans hka).trans r.kp⟩
        have HMM : Hid (ps.length - (i + 1) < gk) := by show _ < _; omega
        have HD : Hid (Kp [] wA { wA with drawn := wA.drawn + 1 }) := Kp.drewN [] wA 1
        clear hgv hall hk2 hbnd hk hS hgq hpe1 hpe2 hc1 hc2 kc2 kd2 hv1 hb1 hv2 hb2 hz2 hb1' hkw hl1 hbn1 hbn2 hbn3 htk hka hnew hkr hq hp HG HP e02 e12 hrc
        generalize gq.2.length = gl at *
        generalize gq.2 = gb at *
        go_wp2_with fail
        have hinh : Inhabited (KW wA) := ⟨⟨wA, Kp.refl _ _⟩⟩
        refine wp_region_quiet_kw (by kernel_rfl) (by kernel_rfl) HD.out ?_
        repeat (quiet_step ((go_at_call 25; exact hsame _)))
        refine wpQuiet_nil ?_
        intro _ hw'
        obtain ⟨r, hw''⟩ := hw'
        subst hw''
        clear q0 q1 q2 q3 hst1 hst2 hsame
        go_wp2
        go_roundg (ps.length - (i + 1))
        case measure => exact HMM.out
        case rel => exact HREL.out _
      · have hge : ¬ (i : Int) < (ps.length : Int) := by omega
        have HF := Lib.hid (HK0.out.trans hkr)
        clear hq hkr
        go_wp2
        go_ret
        exact ⟨rfl, HF.out⟩
end
end Go.Proofs.YtkbgnplknifmhaaGreatDoor
namespace Go.Proofs.YtkbgnplknifmhaaGreatDoor
open Go.RowKit
attribute [local go_sem ↓] Go.wp_at_zero Go.wp_at_succ
section
variable {w : World} {E : Value} {a ai : Option Addr} {c ci : Nat} {src b : Bytes} {is : List Int}
set_option maxRecDepth 20000 in
set_option maxHeartbeats 1000000 in
theorem fnSkips_any (hE : Env w E) (h : HB w a src) (hc : src.length ≤ c) (hnone : a = none → c = 0) (hi : IB w ai is) :
    Calls Tryz.prog 5 #[.slice a src.length c, .string (str b), .slice ai is.length ci] w fun e w' => e = .returned (.bool true) ∧ Kp [] w w' := by
  by_cases hs : src.length ≤ 16777216 ∧ b.length ≤ 16777216 ∧ is.length ≤ 1048576
  · exact fnSkips_walk hE h hc hnone hi hs.1 hs.2.1 hs.2.2
  · have HK : Hid (Kp [] w w) := Kp.refl _ _
    clear hE h hc hnone hi
    go_enter Tryz.func5, Tryz.ntmps5
    go_wp2_with fail
    all_goals first
      | (go_ret; exact ⟨rfl, HK.out⟩)
      | (exfalso; omega)
end
end Go.Proofs.YtkbgnplknifmhaaGreatDoor
