/-
  Walks and facts for the mailparts program.
-/
import Derived.Test.YtkbgnplknifmhaaGreatDoorKTx9ToScan2
import Derived.Test.YtkbgnplknifmhaaGreatDoorKBuf6ToTx3
import Derived.Test.YtkbgnplknifmhaaGreatDoorKQt
namespace Go.Proofs.YtkbgnplknifmhaaGreatDoor
open Go.RowKit
attribute [local go_sem ↓] Go.wp_at_zero Go.wp_at_succ

/-- A part that is being read: body is still to be given, n bytes of it are known to wait; fin: the end stands behind them. -/
structure PRd (w : World) (E : Value) (R : RS) (M : MS) (b nl : Bytes) (cur : Value) (pr : Int) (pb : Nat) (hd : Value) (body tail : Bytes) (n tot : Nat) (fin : Bool) : Prop where
  rd : RD w E R M b nl cur pr (body ++ (nl ++ dlm b) ++ tail)
  br : ∃ r n1 bs src lb lr, BRx w E R r n1 bs src .nilIface lb lr ∧ win bs r n1 ++ src = body ++ (nl ++ dlm b) ++ tail ∧ n ≤ n1
  blk : Blk w pb (ptCells hd M.m (rdV pb) n tot (errV E fin) .nilIface) 117
  po : pb ∉ R.own ∧ pb ≠ R.da ∧ pb ≠ M.m ∧ pb ≠ M.bd ∧ 15 ≤ pb
  fnd : findL (nl ++ dlm b) (body ++ (nl ++ dlm b) ++ tail) = some body.length
  tl : matchP tail = 1
  nc : (nl ++ dlm b).getD 0 0 ∉ (nl ++ dlm b).drop 1
  nl2 : nl.length ≤ 2
  fst : tot = 0 → n = 0 → fin = false → (dlm b).isPrefixOf (body ++ (nl ++ dlm b) ++ tail) = false
  nb : n ≤ body.length
  nw : fin = true → n = body.length
  len : tot + (body ++ (nl ++ dlm b) ++ tail).length ≤ 281474976710656

theorem method151 (pb : Nat) (w : World) : (method 355 151 (.agg #[.pointer (some ⟨pb, 0, none⟩)]) "Read").run Tryz.prog w = .ok (188, .agg #[.pointer (some ⟨pb, 0, none⟩)]) w := by kernel_rfl
section
variable {w : World} {E : Value} {R : RS} {M : MS} {b nl : Bytes} {cur : Value} {pr : Int} {pb : Nat} {hd : Value} {body tail : Bytes} {n tot : Nat} {fin : Bool}
/-- What the loop of Read leaves: bytes to give, or the end. -/
def PRel (w0 : World) (E : Value) (R : RS) (M : MS) (b nl : Bytes) (cur : Value) (pr : Int) (pb : Nat) (hd : Value) (body tail : Bytes) (tot : Nat) (w : World) (q : Nat) : Prop :=
  ∃ n fin src r n1 bs lb lr, PRd w E R M b nl cur pr pb hd body tail n tot fin ∧ BRx w E R r n1 bs src .nilIface lb lr ∧ win bs r n1 ++ src = body ++ (nl ++ dlm b) ++ tail ∧ n ≤ n1 ∧ src.length + (if n = 0 ∧ fin = false then 1 else 0) = q ∧ Kp (pb :: R.own) w0 w
theorem PRd.kp {w' : World} {S : List Nat} (h : PRd w E R M b nl cur pr pb hd body tail n tot fin) (k : Kp S w w') (h1 : ∀ x ∈ R.own, x ∉ S) (h2 : R.da ∉ S) (h3 : M.m ∉ S) (h4 : M.bd ∉ S) (h5 : ∀ x ∈ S, 15 ≤ x) (h6 : pb ∉ S) : PRd w' E R M b nl cur pr pb hd body tail n tot fin := by
  obtain ⟨r, n1, bs, src, lb, lr, hb, he, hn⟩ := h.br
  exact ⟨h.rd.kp k h1 h2 h3 h4 h5, ⟨r, n1, bs, src, lb, lr, hb.kp k h1 h2 (fun e => by have := h5 _ e; omega), he, hn⟩, h.blk.kp k h6, h.po, h.fnd, h.tl, h.nc, h.nl2, h.fst, h.nb, h.nw, h.len⟩
theorem RD.next {w' : World} {whole whole' : Bytes} (h : RD w E R M b nl cur pr whole) (k : Kp R.own w w') {r n1 : Nat} {bs src : Bytes} {lb lr : Int} (hb : BRx w' E R r n1 bs src .nilIface lb lr) (he : win bs r n1 ++ src = whole') : RD w' E R M b nl cur pr whole' :=
  ⟨⟨r, n1, bs, src, lb, lr, hb, he⟩, h.mr.kp k h.mo.1 h.bo.1, h.gv.kp k h.rg, h.rg, Nat.lt_of_lt_of_le h.dl k.size, h.rb, h.mo, h.bo.1, h.bo.2.1, h.bo.2.2.1, Nat.lt_of_lt_of_le h.bo.2.2.2 k.size⟩
theorem PRd.next {w' : World} (h : PRd w E R M b nl cur pr pb hd body tail n tot fin) (k : Kp R.own w w') {r n1 : Nat} {bs src : Bytes} {lb lr : Int} (hb : BRx w' E R r n1 bs src .nilIface lb lr) (he : win bs r n1 ++ src = body ++ (nl ++ dlm b) ++ tail) (hn : n ≤ n1) : PRd w' E R M b nl cur pr pb hd body tail n tot fin :=
  ⟨h.rd.next k hb he, ⟨r, n1, bs, src, lb, lr, hb, he, hn⟩, h.blk.kp k h.po.1, h.po, h.fnd, h.tl, h.nc, h.nl2, h.fst, h.nb, h.nw, h.len⟩
theorem PRd.cellP (h : PRd w E R M b nl cur pr pb hd body tail n tot fin) : ∀ i, w.cell? ⟨pb, i, none⟩ = (#[hd, .pointer (some ⟨M.m, 0, none⟩), .string (str []), .map none, rdV pb, .int .i64 n, .int .i64 tot, errV E fin, .nilIface] : Array Value)[i]? := h.blk.cell
theorem RD.cellM {whole : Bytes} (h : RD w E R M b nl cur pr whole) : ∀ i, w.cell? ⟨M.m, i, none⟩ = (#[.pointer (some ⟨R.rb, 0, none⟩), .string (str []), cur, .int .i64 pr, .slice M.an nl.length M.cn, .slice M.ad (nl ++ dlm b).length M.cd, .slice M.ae (dlm b ++ [45, 45]).length M.ce, .slice M.ab (dlm b).length M.cb] : Array Value)[i]? := by rw [← h.rb]; exact h.mr.blk.cell
theorem findL_drop {m l : Bytes} {i : Nat} (h : findL m l = some i) (q : Nat) (hq : q ≤ i) : findL m (l.drop q) = some (i - q) := by
  induction q generalizing l i with
  | zero => simpa using h
  | succ q ih =>
    cases l with
    | nil =>
      have := (findL_le h).1
      simp at this
      omega
    | cons c l =>
      unfold findL at h
      split at h
      · cases h; omega
      · cases hf : findL m l with
        | none => rw [hf] at h; cases h
        | some j =>
          rw [hf] at h
          simp only [Option.map_some, Option.some.injEq] at h
          subst h
          rw [List.drop_succ_cons, ih hf (by omega)]
          congr 1; omega
theorem win_more {bs : Bytes} {r n q : Nat} (hq : q ≤ n) (_hl : r + n ≤ bs.length) : win bs r n = win bs r q ++ win bs (r + q) (n - q) := by
  unfold win
  rw [← List.drop_drop]
  generalize List.drop r bs = y
  rw [show n = q + (n - q) from by omega, List.take_add, show q + (n - q) - q = n - q from by omega]
/-- q bytes have been read. -/
theorem PRd.read {w' : World} (h : PRd w E R M b nl cur pr pb hd body tail n tot fin) {r n1 : Nat} {bs src : Bytes} {lb lr : Int} (hb : BRx w E R r n1 bs src .nilIface lb lr) (he : win bs r n1 ++ src = body ++ (nl ++ dlm b) ++ tail) (hn : n ≤ n1)
    (q db : Nat) (hq : q ≤ n) (k : Kp (db :: pb :: R.own) w w') {lb' lr' : Int} (hb' : BRx w' E R (r + q) (n1 - q) bs src .nilIface lb' lr') (hp : Blk w' pb (ptCells hd M.m (rdV pb) ((n - q : Nat) : Int) ((tot + q : Nat) : Int) (errV E fin) .nilIface) 117)
    (hd1 : db ∉ R.own ∧ db ≠ R.da ∧ db ≠ M.m ∧ db ≠ M.bd ∧ db ≠ pb ∧ 15 ≤ db) : PRd w' E R M b nl cur pr pb hd (body.drop q) tail (n - q) (tot + q) fin ∧ win bs r q = body.take q := by
  have hnb := h.nb
  have hfit := hb.fit
  have hlen := hb.len
  have hwl : (win bs r q).length = q := win_len (by omega)
  have hsp := win_more (bs := bs) (r := r) hq (by omega : r + n ≤ bs.length)
  have hsp1 := win_more (bs := bs) (r := r) (Nat.le_trans hq hn) (by omega)
  rw [hsp1, List.append_assoc, List.append_assoc] at he
  have htk : win bs r q = body.take q := by
    have := congrArg (List.take q) he
    rw [List.take_append_of_le_length (by omega), List.take_of_length_le (by omega), List.take_append_of_le_length (by omega)] at this
    exact this
  have hdr : win bs (r + q) (n1 - q) ++ src = body.drop q ++ (nl ++ dlm b) ++ tail := by
    have := congrArg (List.drop q) he
    rw [List.drop_append_of_le_length (by omega), List.drop_of_length_le (by omega), List.nil_append, List.drop_append_of_le_length (by omega)] at this
    rw [this, ← List.append_assoc]
  have hdl : (body.drop q).length = body.length - q := by simp
  have hfd := findL_drop h.fnd q (by omega)
  rw [List.append_assoc, List.drop_append_of_le_length (by omega), ← List.append_assoc] at hfd
  have hm1 : M.m ∉ db :: pb :: R.own := by simp; exact ⟨fun e => hd1.2.2.1 e.symm, fun e => h.po.2.2.1 e.symm, h.rd.mo.1⟩
  have hbd : M.bd ∉ db :: pb :: R.own := by simp; exact ⟨fun e => hd1.2.2.2.1 e.symm, fun e => h.po.2.2.2.1 e.symm, h.rd.bo.1⟩
  have hlen2 := h.len
  refine ⟨⟨⟨⟨_, _, _, _, _, _, hb', hdr⟩, h.rd.mr.kp k hm1 hbd, h.rd.gv.kp k (by intro x hx; simp at hx; rcases hx with rfl | rfl | hx; exact hd1.2.2.2.2.2; exact h.po.2.2.2.2; exact h.rd.rg _ hx), h.rd.rg, Nat.lt_of_lt_of_le h.rd.dl k.size, h.rd.rb, h.rd.mo, h.rd.bo.1, h.rd.bo.2.1, h.rd.bo.2.2.1, Nat.lt_of_lt_of_le h.rd.bo.2.2.2 k.size⟩,
    ⟨_, _, _, _, _, _, hb', hdr, by omega⟩, hp, h.po, by rw [hdl]; exact hfd, h.tl, h.nc, h.nl2, ?_, by omega, fun hf => by have := h.nw hf; omega, ?_⟩, htk⟩
  · intro ht hn0 hf
    have hq0 : q = 0 := by omega
    subst hq0
    rw [List.drop_zero]
    exact h.fst (by omega) (by omega) hf
  · simp only [List.length_append, List.length_drop] at hlen2 ⊢
    omega
/-- Read (182) of q bytes that wait. -/
theorem bread_q {r n : Nat} {bs src : Bytes} {lb lr : Int} (h : BRx w E R r n bs src .nilIface lb lr) (q : Nat) (hn : 0 < n) (hq : q ≤ n) (db : Nat) (dbs : Bytes) (t : TypeId) (c : Nat) (hd : Blk w db (encB dbs) t) (hdl : q ≤ dbs.length) (hdb : db ∉ R.own) (hdda : R.da ≠ db) (hd0 : db ≠ 0) :
    Calls Tryz.prog 182 #[.pointer (some ⟨R.rb, 0, none⟩), .slice (some ⟨db, 0, none⟩) q c] w fun e w' => e = .returned (.tuple #[.int .i64 q, .nilIface]) ∧
      ∃ lb' lr', BRx w' E R (r + q) (n - q) bs src .nilIface lb' lr' ∧ Blk w' db (encB (spliceB dbs 0 (win bs r q))) t ∧ Kp (db :: R.own) w w' := by
  by_cases h0 : q = 0
  · subst h0
    refine (bread0 h hn _ c).mono ?_
    rintro e w' ⟨rfl, j, rfl⟩
    refine ⟨rfl, lb, lr, h.drewN j, ?_, (Kp.refl _ _).drewN' j⟩
    have : spliceB dbs 0 (win bs r 0) = dbs := by simp [spliceB, win]
    rw [this]; exact hd.drewN j
  · refine (bread_hit h q (by omega) hq db dbs t c hd hdl hdb hdda hd0).mono ?_
    rintro e w' ⟨rfl, lb', h1, h2, h3⟩
    exact ⟨rfl, lb', -1, h1, h2, h3⟩
/-- What Read of a part leaves. -/
structure ReadPost (w w' : World) (E : Value) (R : RS) (M : MS) (b nl : Bytes) (cur : Value) (pr : Int) (pb : Nat) (hd : Value) (body tail : Bytes) (tot m db : Nat) (dbs : Bytes) (t : TypeId) (k : Nat) (e : Bool) : Prop where
  km : k ≤ m
  kb : k ≤ body.length
  prd : ∃ n' fin', PRd w' E R M b nl cur pr pb hd (body.drop k) tail n' (tot + k) fin' ∧ (e = true → n' = 0 ∧ fin' = true)
  blk : Blk w' db (encB (spliceB dbs 0 (body.take k))) t
  kp : Kp (db :: pb :: R.own) w w'
  fin : e = true → k = body.length
  prog : 0 < m → 0 < k ∨ e = true
def ReadEnd (w : World) (E : Value) (R : RS) (M : MS) (b nl : Bytes) (cur : Value) (pr : Int) (pb : Nat) (hd : Value) (body tail : Bytes) (tot m db : Nat) (dbs : Bytes) (t : TypeId) (e : Ending) (w' : World) : Prop :=
  ∃ k x, e = .returned (.tuple #[.int .i64 (k : Nat), errV E x]) ∧ ReadPost w w' E R M b nl cur pr pb hd body tail tot m db dbs t k x
end
end Go.Proofs.YtkbgnplknifmhaaGreatDoor
namespace Go.Proofs.YtkbgnplknifmhaaGreatDoor
open Go.RowKit
attribute [local go_sem ↓] Go.wp_at_zero Go.wp_at_succ
section
variable {w : World} {E : Value} {R : RS} {M : MS} {b nl : Bytes} {cur : Value} {pr : Int} {pb : Nat} {hd : Value} {body tail : Bytes} {n tot : Nat} {fin : Bool}
theorem nil_eq_iface (t : TypeId) (v : Value) (w : World) : (binOp .eql 69 .nilIface (.iface t v)).run Tryz.prog w = .ok (.bool false) w := by
  kernel_rfl
/-- What the scan has told. -/
theorem PRd.scanned {w' : World} (h : PRd w E R M b nl cur pr pb hd body tail 0 tot false) {r n1 : Nat} {bs src : Bytes} {lb lr : Int} (hb : BRx w E R r n1 bs src .nilIface lb lr) (he : win bs r n1 ++ src = body ++ (nl ++ dlm b) ++ tail)
    (k : Kp [pb] w w') (kk : Nat) (ee : Bool) (hk1 : kk ≤ body.length) (hk2 : kk ≤ n1) (hk3 : ee = true → kk = body.length) (hp : Blk w' pb (ptCells hd M.m (rdV pb) kk tot (errV E ee) .nilIface) 117) :
    PRd w' E R M b nl cur pr pb hd body tail kk tot ee ∧ BRx w' E R r n1 bs src .nilIface lb lr := by
  have hS1 : ∀ x ∈ R.own, x ∉ [pb] := fun x hx e => by simp at e; subst e; exact h.po.1 hx
  have hS2 : R.da ∉ [pb] := by simp; exact fun e => h.po.2.1 e.symm
  have hS5 : ∀ x ∈ [pb], 15 ≤ x := by simp; exact h.po.2.2.2.2
  have hb' := hb.kp k hS1 hS2 (fun e => by have := hS5 _ e; omega)
  exact ⟨⟨h.rd.kp k hS1 hS2 (by simp; exact fun e => h.po.2.2.1 e.symm) (by simp; exact fun e => h.po.2.2.2.1 e.symm) hS5, ⟨_, _, _, _, _, _, hb', he, hk2⟩, hp, h.po, h.fnd, h.tl, h.nc, h.nl2, fun h1 _ _ => h.fst h1 rfl rfl, hk1, hk3, h.len⟩, hb'⟩
theorem read_end {m db : Nat} {dbs : Bytes} {t : TypeId} {wr w5 w6 : World} {r n1 : Nat} {bs src : Bytes} {lb lr lb' lr' : Int} (hP : PRd wr E R M b nl cur pr pb hd body tail n tot fin) (hbr : BRx wr E R r n1 bs src .nilIface lb lr) (heq : win bs r n1 ++ src = body ++ (nl ++ dlm b) ++ tail) (hnn : n ≤ n1)
    (hK : Kp (pb :: R.own) w wr) (hd1 : db ∉ R.own ∧ db ≠ R.da ∧ db ≠ M.m ∧ db ≠ M.bd ∧ db ≠ pb ∧ 15 ≤ db) (q : Nat) (hq : q ≤ n)
    (h5 : BRx w5 E R (r + q) (n1 - q) bs src .nilIface lb' lr') (hd5 : Blk w5 db (encB (spliceB dbs 0 (win bs r q))) t) (hk5 : Kp (db :: R.own) wr w5) (hk6 : Kp [pb] w5 w6)
    (hp6 : Blk w6 pb (ptCells hd M.m (rdV pb) ((n - q : Nat) : Int) ((tot + q : Nat) : Int) (errV E fin) .nilIface) 117) (hqm : q ≤ m) (x : Bool) (hx : x = true → n = q ∧ fin = true) (hprog : 0 < m → 0 < q ∨ x = true) :
    ReadPost w w6 E R M b nl cur pr pb hd body tail tot m db dbs t q x := by
  have hS1 : ∀ y ∈ R.own, y ∉ [pb] := fun y hy e => by simp at e; subst e; exact hP.po.1 hy
  have h6 := h5.kp hk6 hS1 (by simp; exact fun e => hP.po.2.1 e.symm) (by simp; have := hP.po.2.2.2.2; omega)
  have hkk : Kp (db :: pb :: R.own) wr w6 := (hk5.mono (by intro y hy _; simp at hy; rcases hy with rfl | hy <;> simp [*])).trans (hk6.mono (by intro y hy _; simp at hy; simp [hy]))
  obtain ⟨h7, h8⟩ := hP.read hbr heq hnn q db hq hkk h6 hp6 hd1
  have hnb := hP.nb
  refine ⟨hqm, by omega, ⟨_, _, h7, fun e => by have := hx e; exact ⟨by omega, this.2⟩⟩, by rw [← h8]; exact hd5.kp hk6 (by simp; exact hd1.2.2.2.2.1), ?_, fun e => by have h := hx e; have := hP.nw h.2; omega, hprog⟩
  exact (hK.mono (by intro y hy _; simp at hy; rcases hy with rfl | hy <;> simp [*])).trans hkk
set_option maxRecDepth 20000 in
set_option maxHeartbeats 2000000 in
theorem pread_any (h : PRd w E R M b nl cur pr pb hd body tail n tot fin) (m c : Nat) (db : Nat) (dbs : Bytes) (t : TypeId) (hdb : Blk w db (encB dbs) t) (hdl : m ≤ dbs.length) (hmc : m ≤ c) (_hc : c ≤ 281474976710656)
    (hd1 : db ∉ R.own ∧ db ≠ R.da ∧ db ≠ M.m ∧ db ≠ M.bd ∧ db ≠ pb ∧ 15 ≤ db) :
    Calls Tryz.prog 188 #[.agg #[.pointer (some ⟨pb, 0, none⟩)], .slice (some ⟨db, 0, none⟩) m c] w fun e w' => ReadEnd w E R M b nl cur pr pb hd body tail tot m db dbs t e w' := by
  have hK1 : Kp [] w (w.alloc (.cells #[.pointer (some ⟨pb, 0, none⟩)] 151)) := (Kp.refl _ _).alloc _
  have h1 := h.kp hK1 (by simp) (by simp) (by simp) (by simp) (by simp) (by simp)
  have hdb1 := hdb.kp hK1 (by simp)
  have kp := h1.cellP
  have km := h1.rd.cellM
  have H := Lib.hid h1
  have HK := Lib.hid hK1
  have HDB := Lib.hid hdb
  have HD1 := Lib.hid hd1
  clear h h1 hK1 hdb hdb1 hd1
  go_enter Tryz.func188, Tryz.ntmps188
  go_wp2
  have hR : ∃ q, PRel w E R M b nl cur pr pb hd body tail tot (w.alloc (.cells #[.pointer (some ⟨pb, 0, none⟩)] 151)) q := by
    obtain ⟨r, n1, bs, src, lb, lr, hb, he, hn⟩ := H.out.br
    exact ⟨_, n, fin, src, r, n1, bs, lb, lr, H.out, hb, he, hn, rfl, HK.out.mono (by simp)⟩
  obtain ⟨q0, hR⟩ := hR
  clear kp km H HK
  go_loopg [8] q0 (fun q v8 w' => PRel w E R M b nl cur pr pb hd body tail tot w' q)
  case atStart => exact hR
  case round =>
    clear hR
    obtain ⟨n0, fin0, src, r, n1, bs, lb, lr, hP, hbr, heq, hnn, hq, hK⟩ := hrel
    have kp := hP.cellP
    have km := hP.rd.cellM
    by_cases hz : n0 = 0 ∧ fin0 = false
    · obtain ⟨rfl, rfl⟩ := hz
      have hbf := buffered_any hbr
      have HP := Lib.hid hP
      have HB := Lib.hid hbr
      have HWK := Lib.hid hK
      clear hP hbr hK
      simp only [errV_f] at kp
      go_wp2_with fail
      refine hbf.mono ?_
      rintro e w2 ⟨rfl, j, rfl⟩
      have hpk := peek_there (HB.out.drewN j) n1 (Nat.le_refl _)
      clear hbf
      go_wp2_with fail
      refine hpk.mono ?_
      rintro e w3 ⟨rfl, hbr3, hK3⟩
      have hKj : Kp R.own wr w3 := ((Kp.refl R.own wr).drewN' j).trans hK3.rb_own
      have hP3 := HP.out.next hKj hbr3 heq (Nat.zero_le _)
      have kp3 := hP3.cellP
      have km3 := hP3.rd.cellM
      have hfit := hbr3.fit
      have hlen := hbr3.len
      have hwl : (win bs r n1).length = n1 := win_len (by omega)
      have hlW : n1 ≤ (body ++ (nl ++ dlm b) ++ tail).length := by rw [← heq, List.length_append, hwl]; omega
      have hwt : win bs r n1 = (body ++ (nl ++ dlm b) ++ tail).take n1 := by rw [← heq, List.take_append_of_le_length (by omega), List.take_of_length_le (by omega)]
      have hhb := hbr3.hb_at r n1 (by omega)
      have hmr := hP3.rd.mr
      have hscan := fun j => scan_any (bbAt R r) M.ab M.ad (4096 - r) M.cb M.cd (win bs r n1) (dlm b) (nl ++ dlm b) (w3.drewN j) E tot hbr3.eof (hhb.drewN j) (by omega) (hmr.hb.drewN j) hmr.cb (hmr.hd.drewN j) hmr.cd (by simp [dlm]; omega) (by omega) (by have := hmr.lb; have := HP.out.nl2; simp [dlm]; omega)
      obtain ⟨kk, ee, hsp, hk1, hk2, hk3, hk4⟩ := scan_law body (dlm b) (nl ++ dlm b) tail _ ((tot : Int) == 0) n1 rfl HP.out.fnd (fun h => HP.out.fst (by simpa using h) rfl rfl) HP.out.tl HP.out.nc (by simp [dlm]) (by simp) hlW
      rw [hwl, hwt, hsp] at hscan
      rw [hwt] at hhb
      have HFACT := Lib.hid (And.intro hk3 hk4)
      clear hhb hmr hsp hk3 hk4 hwt km kp
      have c1 : w3.cell? ⟨pb, 1, none⟩ = some (.pointer (some ⟨M.m, 0, none⟩)) := kp3 1
      have c6 : w3.cell? ⟨pb, 6, none⟩ = some (.int .i64 tot) := kp3 6
      have c8 : w3.cell? ⟨pb, 8, none⟩ = some .nilIface := kp3 8
      have m5 : w3.cell? ⟨M.m, 5, none⟩ = some (.slice M.ad (nl ++ dlm b).length M.cd) := km3 5
      have m7 : w3.cell? ⟨M.m, 7, none⟩ = some (.slice M.ab (dlm b).length M.cb) := km3 7
      have HP3 := Lib.hid hP3
      have HBR3 := Lib.hid hbr3
      have HKP3 := Lib.hid kp3
      clear kp3 km3 hP3 hbr3 hpk
      generalize hLD : (nl ++ dlm b).length = LD at m5 hscan
      generalize hLB : (dlm b).length = LB at m7 hscan
      have HLD := Lib.hid hLD
      have HLB := Lib.hid hLB
      clear hLD hLB
      go_wp2
      refine wp_region_any (by kernel_rfl) ?_
      change wpAny _ _ _ _ 35 _ _ (World.drewN w3 1)
      refine wpAny_take (i := 0) (v := .pointer (some ⟨pb, 0, none⟩)) rfl (by kernel_rfl) (by kernel_rfl) (by kernel_rfl) (fun _ _ _ h => h) (Or.inl ⟨by rfl, by intro w; go_simp⟩) ?_
      refine wpAny_take (i := 1) (v := .pointer (some ⟨pb, 0, none⟩)) rfl (by kernel_rfl) (by kernel_rfl) (by kernel_rfl) (fun _ _ _ h => h) (Or.inl ⟨by rfl, by intro w; go_simp⟩) ?_
      simp only [Act.put, List.setIfInBounds_toArray]
      refine wpAny_qhead (C := fun w' => ∃ k, w' = w3.drewN k) [2, 3, 4, 5, 6, 7, 8, 9, 10, 11, 12, 13, 14, 15, 16, 17, 18, 19, 20, 21, 22, 23, 24, 25, 26] 26 8 33 (by rfl) (by kernel_rfl) ⟨1, rfl⟩ ?_
      simp only [pickOps, List.getElem?_toArray, List.getElem?_cons_succ, List.getElem?_cons_zero]
      repeat (quiet_step ((go_at_call 189; refine (hscan _).mono ?_; rintro e w4 ⟨rfl, j4, rfl⟩; exact ⟨rfl, _, World.drewN_drewN _ _ _⟩)))
      refine wpQuiet_nil ?_
      intro _ hw'
      obtain ⟨nq, hw''⟩ := hw'
      subst hw''
      simp only [scanV]
      refine wpAny_take (i := 27) (v := .int .i64 kk) rfl (by kernel_rfl) (by kernel_rfl) (by kernel_rfl) (fun _ _ _ h => h) (Or.inl ⟨by rfl, by intro w; go_simp⟩) ?_
      refine wpAny_take (i := 28) (v := errV E ee) rfl (by kernel_rfl) (by kernel_rfl) (by kernel_rfl) (fun _ _ _ h => h) (Or.inl ⟨by rfl, by intro w; go_simp⟩) ?_
      simp only [Act.put, List.setIfInBounds_toArray]
      refine wpAny_tail 29 6 (by rfl) (by kernel_rfl) ?_
      simp only [List.drop_succ_cons, List.drop_zero]
      have hP4 := HP3.out.kp (S := []) (Kp.drewN [] w3 nq) (by simp) (by simp) (by simp) (by simp) (by simp) (by simp)
      have hBR4 := HBR3.out.drewN nq
      generalize hw4 : w3.drewN nq = w4 at hP4 hBR4 ⊢
      have HW4 := Lib.hid hw4
      clear hw4 c1 c6 c8 m5 m7 hscan
      have kp4 : ∀ i, w4.cell? ⟨pb, i, none⟩ = (#[hd, .pointer (some ⟨M.m, 0, none⟩), .string (str []), .map none, rdV pb, .int .i64 ((0 : Nat) : Int), .int .i64 tot, .nilIface, .nilIface] : Array Value)[i]? := hP4.cellP
      have hb4 : Blk w4 pb (ptCells hd M.m (rdV pb) ((0 : Nat) : Int) tot .nilIface .nilIface) 117 := hP4.blk
      have hK4 : Kp (pb :: R.own) w w4 := (HWK.out.trans (hKj.mono (by intro x hx _; simp [hx]))).trans (by rw [← HW4.out]; exact Kp.drewN _ _ _)
      obtain ⟨tE, vE, hEE⟩ := hBR4.isE
      subst hEE
      have hsc : ∀ w5, Kp [pb] w4 w5 → Blk w5 pb (ptCells hd M.m (rdV pb) kk tot (errV (.iface tE vE) ee) .nilIface) 117 → PRd w5 (.iface tE vE) R M b nl cur pr pb hd body tail kk tot ee ∧ BRx w5 (.iface tE vE) R r n1 bs src .nilIface (-1) (-1) := fun w5 k hp => hP4.scanned hBR4 heq k kk ee hk1 hk2 (HFACT.out.1) hp
      have hsc' : ∀ w5, Kp [pb] w4 w5 → Blk w5 pb (ptCells hd M.m (rdV pb) kk tot (errV (.iface tE vE) ee) .nilIface) 117 → ∃ q', PRel w (.iface tE vE) R M b nl cur pr pb hd body tail tot w5 q' ∧ ((kk = 0 ∧ ee = false) ∨ q' < gk) := by
        intro w5 k hp
        obtain ⟨h1, h2⟩ := hsc w5 k hp
        refine ⟨_, ⟨kk, ee, src, r, n1, bs, -1, -1, h1, h2, heq, hk2, rfl, hK4.trans (k.mono (by intro x hx _; simp at hx; simp [hx]))⟩, ?_⟩
        by_cases hz : kk = 0 ∧ ee = false
        · exact .inl hz
        · right; rw [if_neg hz]; simp at hq; omega
      have HSC := Lib.hid hsc
      have HSC' := Lib.hid hsc'
      have f4 := hP4.blk.free
      have HBL4 := Lib.hid hb4
      have HP4 := Lib.hid hP4
      have HBR4 := Lib.hid hBR4
      have HQ := Lib.hid hq
      clear hP4 hBR4 hb4 hsc hsc' hq
      have HK0 := Lib.hid hk1
      have HK1 := Lib.hid hk2
      have hkl : (kk : Int) ≤ 4096 := by omega
      clear hk1 hk2
      have hkp5 : ∀ u v, Kp [pb] w4 ((w4.setCell ⟨pb, 5, none⟩ u).setCell ⟨pb, 7, none⟩ v) := fun u v => ((Kp.refl _ _).setCell (.inl (by simp)) _).setCell (.inl (by simp)) _
      cases ee with
      | true =>
        simp only [errV_t]
        obtain ⟨q', hr', hlt'⟩ := HSC'.out _ (hkp5 (.int .i64 kk) (.iface tE vE)) ((HBL4.out.set 5 (.int .i64 kk)).set 7 (.iface tE vE))
        have HR := Lib.hid hr'
        have HL := Lib.hid (hlt'.resolve_left (by simp))
        clear hr' hlt' hkp5
        by_cases hk0 : kk = 0
        · have hz : ((kk : Int) == 0) = true := by simp [hk0]
          have HKK := Lib.hid hk0
          clear hk0
          go_wp2
          go_roundg q'
          case measure => exact HL.out
          case rel => exact HR.out
        · have hz : ((kk : Int) == 0) = false := by simp [hk0]
          have HKK := Lib.hid hk0
          clear hk0
          go_wp2
          go_roundg q'
          case measure => exact HL.out
          case rel => exact HR.out
      | false =>
        simp only [errV_f]
        by_cases hk0 : kk = 0
        · have hsz : n1 + src.length = (body ++ (nl ++ dlm b) ++ tail).length := by rw [← heq, List.length_append, hwl]
          obtain ⟨hf1, hf2⟩ := HFACT.out.2 hk0 rfl
          have hlb := HP4.out.rd.mr.lb
          have hn2 := HP4.out.nl2
          have hk5 := hkp5 (.int .i64 kk) .nilIface
          obtain ⟨hP5, hB5⟩ := HSC.out _ hk5 ((HBL4.out.set 5 (.int .i64 kk)).set 7 .nilIface)
          have hpk := peek_any hB5 (n1 + 1) (by simp [dlm] at hf1; omega) (by omega)
          have e1 : ((n1 + 1 : Nat) : Int) = (n1 : Int) + 1 := by omega
          rw [e1] at hpk
          have hz : ((kk : Int) == 0) = true := by simp [hk0]
          have HKK := Lib.hid hk0
          have HK5 := Lib.hid hk5
          have HP5 := Lib.hid hP5
          have HSZ := Lib.hid hsz
          clear hk0 hf1 hf2 hlb hn2 hk5 hP5 hB5 hkp5 e1 hsz
          go_wp2_with fail
          refine hpk.mono ?_
          rintro e w6 ⟨r1, n2, bs1, src1, rfl, hn2, hbr6, heq6, hK6⟩
          have hP6 := HP5.out.next hK6 hbr6 (heq6.trans heq) (by rw [HKK.out]; exact Nat.zero_le _)
          have hl6 := congrArg List.length heq6
          rw [List.length_append, List.length_append, win_len (by have := hbr6.fit; have := hbr6.len; omega), hwl] at hl6
          have kp6 : ∀ i, w6.cell? ⟨pb, i, none⟩ = (#[hd, .pointer (some ⟨M.m, 0, none⟩), .string (str []), .map none, rdV pb, .int .i64 kk, .int .i64 tot, .nilIface, .nilIface] : Array Value)[i]? := hP6.cellP
          have f6 := hP6.blk.free
          have hge : w6.cell? ⟨0, 0, none⟩ = some (.iface tE vE) := hbr6.eof
          have hrel7 : ∀ nq, PRel w (.iface tE vE) R M b nl cur pr pb hd body tail tot ((w6.setCell ⟨pb, 8, none⟩ .nilIface).drewN nq) (src1.length + 1) := by
            intro nq
            have hk7 : Kp [pb] w6 ((w6.setCell ⟨pb, 8, none⟩ .nilIface).drewN nq) := ((Kp.refl _ _).setCell (.inl (by simp)) _).drewN' nq
            have hP6z : PRd w6 (.iface tE vE) R M b nl cur pr pb hd body tail 0 tot false := by rw [HKK.out] at hP6; exact hP6
            obtain ⟨h7, h8⟩ := hP6z.scanned hbr6 (heq6.trans heq) hk7 0 false (Nat.zero_le _) (Nat.zero_le _) (by simp) ((hP6z.blk.set 8 .nilIface).drewN nq)
            exact ⟨0, false, src1, r1, n2, bs1, -1, -1, h7, h8, heq6.trans heq, Nat.zero_le _, by simp, ((hK4.trans (HK5.out.mono (by intro x hx _; simp at hx; simp [hx]))).trans (hK6.mono (by intro x hx _; simp [hx]))).trans (hk7.mono (by intro x hx _; simp at hx; simp [hx]))⟩
          have hmeas : src1.length + 1 < gk := by have := HSZ.out; have := HQ.out; simp at this; omega
          have HR7 := Lib.hid hrel7
          have HM7 := Lib.hid hmeas
          clear hP6 hbr6 hpk hl6 heq6 hrel7 hmeas
          have heqn : ∀ w, (binOp .eql 69 .nilIface (.iface tE vE)).run Tryz.prog w = .ok (.bool false) w := nil_eq_iface tE vE
          go_wp2
          go_quiet (fail)
          go_wp2
          go_roundg (src1.length + 1)
          case measure => exact HM7.out
          case rel => exact HR7.out _
        · obtain ⟨q', hr', hlt'⟩ := HSC'.out _ (hkp5 (.int .i64 kk) .nilIface) ((HBL4.out.set 5 (.int .i64 kk)).set 7 .nilIface)
          have HR := Lib.hid hr'
          have HL := Lib.hid (hlt'.resolve_left (by simp [hk0]))
          have hz : ((kk : Int) == 0) = false := by simp [hk0]
          have HKK := Lib.hid hk0
          clear hk0 hr' hlt' hkp5
          go_wp2
          go_roundg q'
          case measure => exact HL.out
          case rel => exact HR.out
    · have hd1 := HD1.out
      have hdbr : Blk wr db (encB dbs) t := HDB.out.kp hK (by simp; exact ⟨hd1.2.2.2.2.1, hd1.1⟩)
      have hfit := hbr.fit
      have hlen2 := hP.len
      simp only [List.length_append] at hlen2
      have hnb := hP.nb
      have hll : (tot : Int) + n0 ≤ 281474976710656 := by omega
      have hn0c : (n0 : Int) ≤ 4096 := by omega
      have f := hP.blk.free
      obtain ⟨tE, vE, hEE⟩ := hbr.isE
      have HP := Lib.hid hP
      have HB := Lib.hid hbr
      have HWK := Lib.hid hK
      have HDBR := Lib.hid hdbr
      have HEQ := Lib.hid heq
      by_cases hn0 : n0 = 0
      · have hf : fin0 = true := by
          cases hff : fin0 with
          | true => rfl
          | false => exact absurd ⟨hn0, hff⟩ hz
        subst hf
        subst hn0
        rw [errV_t] at kp
        rw [hEE] at kp
        have hfin := fun j => read_end (w := w) (m := m) (w6 := wr.drewN j) hP hbr heq hnn hK hd1 0 (Nat.le_refl _) hbr (by rw [show win bs r 0 = [] from by simp [win], show spliceB dbs 0 [] = dbs from by simp [spliceB]]; exact hdbr) (Kp.refl _ _) (Kp.drewN _ _ j) (hP.blk.drewN j) (Nat.zero_le _) true (fun _ => ⟨rfl, rfl⟩) (fun _ => .inr rfl)
        have HFIN := Lib.hid hfin
        have HEE := Lib.hid hEE
        clear hd1 hdbr hfit hlen2 hnb hll hn0c hP hbr hK heq hfin hz hEE
        go_wp2
        go_quiet (fail)
        go_wp2
        go_ret2
        rw [← HEE.out]
        exact ⟨0, true, rfl, HFIN.out _⟩
      · have hz0 : ((n0 : Int) == 0) = false := by simp [hn0]
        have hn00 : 0 < n0 := Nat.pos_of_ne_zero hn0
        have hd0 : db ≠ 0 := by omega
        have hend := fun (q : Nat) (hq : q ≤ n0) (w5 w6 : World) (lb' lr' : Int) (h5 : BRx w5 E R (r + q) (n1 - q) bs src .nilIface lb' lr') (hd5 : Blk w5 db (encB (spliceB dbs 0 (win bs r q))) t) (hk5 : Kp (db :: R.own) wr w5) (hk6 : Kp [pb] w5 w6) (hp6 : Blk w6 pb (ptCells hd M.m (rdV pb) ((n0 - q : Nat) : Int) ((tot + q : Nat) : Int) (errV E fin0) .nilIface) 117) (hqm : q ≤ m) (x : Bool) (hx : x = true → n0 = q ∧ fin0 = true) (hprog : 0 < m → 0 < q ∨ x = true) => read_end hP hbr heq hnn hK hd1 q hq h5 hd5 hk5 hk6 hp6 hqm x hx hprog
        have hblk := hP.blk
        have hpo := hP.po
        have hrd := fun (q : Nat) (hq : q ≤ n0) (hqd : q ≤ dbs.length) => bread_q hbr q (by omega) (by omega) db dbs t c hdbr hqd hd1.1 (fun e => hd1.2.1 e.symm) hd0
        have HEND := Lib.hid hend
        have HBLK := Lib.hid hblk
        have HPO := Lib.hid hpo
        have HEE := Lib.hid hEE
        clear hd1 hdbr hlen2 hnb hP hbr hK heq hend hblk hpo hn0 hd0 hz hEE hq
        by_cases hm : n0 < m
        · have hgt : decide ((n0 : Int) < (m : Int)) = true := by simp [hm]
          have hcc : (n0 : Int) ≤ (c : Int) := by omega
          have hcon := hrd n0 (Nat.le_refl _) (by omega)
          clear hrd
          go_wp2_with fail
          refine hcon.mono ?_
          rintro e w5 ⟨rfl, lb', lr', h5, hd5, hk5⟩
          have hblk5 : Blk w5 pb #[hd, .pointer (some ⟨M.m, 0, none⟩), .string (str []), .map none, rdV pb, .int .i64 n0, .int .i64 tot, errV E fin0, .nilIface] 117 := HBLK.out.kp hk5 (by simp; exact ⟨fun e => HD1.out.2.2.2.2.1 e.symm, HPO.out.1⟩)
          have k5 := hblk5.cell
          have f5 := hblk5.free
          have hk6 : ∀ u v nq, Kp [pb] w5 (((w5.setCell ⟨pb, 6, none⟩ u).setCell ⟨pb, 5, none⟩ v).drewN nq) := fun u v nq => (((Kp.refl _ _).setCell (.inl (by simp)) _).setCell (.inl (by simp)) _).drewN' _
          have hfin := fun nq => HEND.out n0 (Nat.le_refl _) w5 (((w5.setCell ⟨pb, 6, none⟩ (.int .i64 ((tot : Int) + n0))).setCell ⟨pb, 5, none⟩ (.int .i64 0)).drewN nq) lb' lr' h5 hd5 hk5 (hk6 _ _ nq) (by rw [show ((n0 - n0 : Nat) : Int) = 0 from by omega, show ((tot + n0 : Nat) : Int) = (tot : Int) + n0 from by omega]; exact ((hblk5.set 6 _).set 5 _).drewN nq) (Nat.le_of_lt hm) fin0 (fun e => ⟨rfl, e⟩) (fun _ => .inl hn00)
          have HFIN := Lib.hid hfin
          clear kp km f hcon h5 hd5 hk5 hk6 hfin hblk5
          go_wp2
          go_quiet (fail)
          go_wp2
          go_ret2
          exact ⟨n0, fin0, rfl, HFIN.out _⟩
        · have hgt : decide ((n0 : Int) < (m : Int)) = false := by simp; omega
          have hcc : (m : Int) ≤ (c : Int) := by omega
          have hcon := hrd m (by omega) (by omega)
          clear hrd
          by_cases hmn : m = n0
          · subst hmn
            go_wp2_with fail
            refine hcon.mono ?_
            rintro e w5 ⟨rfl, lb', lr', h5, hd5, hk5⟩
            have hblk5 : Blk w5 pb #[hd, .pointer (some ⟨M.m, 0, none⟩), .string (str []), .map none, rdV pb, .int .i64 m, .int .i64 tot, errV E fin0, .nilIface] 117 := HBLK.out.kp hk5 (by simp; exact ⟨fun e => HD1.out.2.2.2.2.1 e.symm, HPO.out.1⟩)
            have k5 := hblk5.cell
            have f5 := hblk5.free
            have hk6 : ∀ u v nq, Kp [pb] w5 (((w5.setCell ⟨pb, 6, none⟩ u).setCell ⟨pb, 5, none⟩ v).drewN nq) := fun u v nq => (((Kp.refl _ _).setCell (.inl (by simp)) _).setCell (.inl (by simp)) _).drewN' _
            have hfin := fun nq => HEND.out m (Nat.le_refl _) w5 (((w5.setCell ⟨pb, 6, none⟩ (.int .i64 ((tot : Int) + m))).setCell ⟨pb, 5, none⟩ (.int .i64 0)).drewN nq) lb' lr' h5 hd5 hk5 (hk6 _ _ nq) (by rw [show ((m - m : Nat) : Int) = 0 from by omega, show ((tot + m : Nat) : Int) = (tot : Int) + m from by omega]; exact ((hblk5.set 6 _).set 5 _).drewN nq) (Nat.le_refl _) fin0 (fun e => ⟨rfl, e⟩) (fun _ => .inl hn00)
            have HFIN := Lib.hid hfin
            clear kp km f hcon h5 hd5 hk5 hk6 hfin hblk5
            go_wp2
            go_quiet (fail)
            go_wp2
            go_ret2
            exact ⟨m, fin0, rfl, HFIN.out _⟩
          · have hml : m < n0 := by omega
            have hz5 : ((n0 : Int) - (m : Int) == 0) = false := by rw [beq_eq_false_iff_ne]; omega
            have HMN := Lib.hid hmn
            clear hmn
            go_wp2_with fail
            refine hcon.mono ?_
            rintro e w5 ⟨rfl, lb', lr', h5, hd5, hk5⟩
            have hblk5 : Blk w5 pb #[hd, .pointer (some ⟨M.m, 0, none⟩), .string (str []), .map none, rdV pb, .int .i64 n0, .int .i64 tot, errV E fin0, .nilIface] 117 := HBLK.out.kp hk5 (by simp; exact ⟨fun e => HD1.out.2.2.2.2.1 e.symm, HPO.out.1⟩)
            have k5 := hblk5.cell
            have f5 := hblk5.free
            have hk6 : ∀ u v, Kp [pb] w5 ((w5.setCell ⟨pb, 6, none⟩ u).setCell ⟨pb, 5, none⟩ v) := fun u v => ((Kp.refl _ _).setCell (.inl (by simp)) _).setCell (.inl (by simp)) _
            have hfin := HEND.out m (by omega) w5 ((w5.setCell ⟨pb, 6, none⟩ (.int .i64 ((tot : Int) + m))).setCell ⟨pb, 5, none⟩ (.int .i64 ((n0 : Int) - m))) lb' lr' h5 hd5 hk5 (hk6 _ _) (by rw [show ((n0 - m : Nat) : Int) = (n0 : Int) - m from by omega, show ((tot + m : Nat) : Int) = (tot : Int) + m from by omega]; exact (hblk5.set 6 _).set 5 _) (Nat.le_refl _) false (by simp) (fun h => .inl h)
            have HFIN := Lib.hid hfin
            clear kp km f hcon h5 hd5 hk5 hk6 hfin hblk5
            go_wp2
            go_ret2
            exact ⟨m, false, rfl, HFIN.out⟩
end
end Go.Proofs.YtkbgnplknifmhaaGreatDoor
namespace Go.Proofs.YtkbgnplknifmhaaGreatDoor
open Go.RowKit
attribute [local go_sem ↓] Go.wp_at_zero Go.wp_at_succ
section
variable {w : World} {E : Value} {R : RS} {M : MS} {b nl : Bytes} {cur : Value} {pr : Int} {pb : Nat} {hd : Value} {body tail : Bytes} {n tot : Nat} {fin : Bool}
/-! ### Part.Read: function 47 -/
set_option maxHeartbeats 1000000 in
theorem partRead_any (h : PRd w E R M b nl cur pr pb hd body tail n tot fin) (m c : Nat) (db : Nat) (dbs : Bytes) (t : TypeId) (hdb : Blk w db (encB dbs) t) (hdl : m ≤ dbs.length) (hmc : m ≤ c) (hc : c ≤ 281474976710656)
    (hd1 : db ∉ R.own ∧ db ≠ R.da ∧ db ≠ M.m ∧ db ≠ M.bd ∧ db ≠ pb ∧ 15 ≤ db) :
    Calls Tryz.prog 47 #[.pointer (some ⟨pb, 0, none⟩), .slice (some ⟨db, 0, none⟩) m c] w fun e w' => ReadEnd w E R M b nl cur pr pb hd body tail tot m db dbs t e w' := by
  have hcon := pread_any h m c db dbs t hdb hdl hmc hc hd1
  have kp : ∀ i, w.cell? ⟨pb, i, none⟩ = (#[hd, .pointer (some ⟨M.m, 0, none⟩), .string (str []), .map none, .iface 151 (.agg #[.pointer (some ⟨pb, 0, none⟩)]), .int .i64 n, .int .i64 tot, errV E fin, .nilIface] : Array Value)[i]? := h.cellP
  have mt := method151
  clear h hdb hd1 hdl
  go_enter Tryz.func47, Tryz.ntmps47
  go_wp2_with fail
  refine hcon.mono ?_
  rintro e w1 ⟨k, x, rfl, hp⟩
  have HP := Lib.hid hp
  clear hp hcon
  go_wp2
  go_ret2
  exact ⟨k, x, rfl, HP.out⟩
/-! ### discard: function 96 -/
theorem zero168 : Tryz.zeroCells168 = encB (List.replicate 512 0) := by kernel_rfl
def DRel (w0 : World) (E : Value) (R : RS) (M : MS) (b nl : Bytes) (cur : Value) (pr : Int) (pb : Nat) (hd : Value) (tail : Bytes) (w : World) (q : Nat) : Prop :=
  ∃ body' n' tot' fin' dbs, PRd w E R M b nl cur pr pb hd body' tail n' tot' fin' ∧ Blk w w0.heap.size (encB dbs) 168 ∧ dbs.length = 512 ∧ body'.length = q ∧ Kp (pb :: R.own) w0 w
theorem method67' (pb : Nat) (w : World) : (method 355 67 (.pointer (some ⟨pb, 0, none⟩)) "Read").run Tryz.prog w = .ok (47, .pointer (some ⟨pb, 0, none⟩)) w := method67 _ _
theorem nilAhead67 (pb : Nat) (w : World) : (nilAhead 355 67 (.pointer (some ⟨pb, 0, none⟩)) "Read").run Tryz.prog w = .ok (some false) w := by kernel_rfl
def DEnd (w0 : World) (E : Value) (R : RS) (M : MS) (b nl : Bytes) (cur : Value) (pr : Int) (pb : Nat) (hd : Value) (tail : Bytes) (w : World) : Prop := ∃ tot', PRd w E R M b nl cur pr pb hd [] tail 0 tot' true ∧ Kp (pb :: R.own) w0 w
theorem PRd.drewN (h : PRd w E R M b nl cur pr pb hd body tail n tot fin) (j : Nat) : PRd (w.drewN j) E R M b nl cur pr pb hd body tail n tot fin := h.kp (S := []) (Kp.drewN [] w j) (by simp) (by simp) (by simp) (by simp) (by simp) (by simp)
theorem PRd.drew (h : PRd w E R M b nl cur pr pb hd body tail n tot fin) : PRd w.drew E R M b nl cur pr pb hd body tail n tot fin := h.drewN 1
theorem splice_len {dbs l : Bytes} {k : Nat} (h : k ≤ dbs.length) : (spliceB dbs 0 (l.take k)).length = dbs.length := length_spliceB _ _ _ (by rw [List.length_take]; omega)
set_option maxRecDepth 20000 in
set_option maxHeartbeats 1000000 in
theorem discard_any (h : PRd w E R M b nl cur pr pb hd body tail n tot fin) (hpl : ∀ x ∈ R.own, x < w.heap.size) :
    Calls Tryz.prog 96 #[.iface 67 (.pointer (some ⟨pb, 0, none⟩))] w fun e w' => e = .returned (.tuple #[]) ∧ DEnd w E R M b nl cur pr pb hd tail w' := by
  have hK1 : Kp [] w (w.alloc (.cells Tryz.zeroCells168 168)) := (Kp.refl _ _).alloc _
  have h1 := h.kp hK1 (by simp) (by simp) (by simp) (by simp) (by simp) (by simp)
  have hdb : Blk (w.alloc (.cells Tryz.zeroCells168 168)) w.heap.size (encB (List.replicate 512 0)) 168 := by rw [← zero168]; exact Blk.new _ _ _
  have hR0 : DRel w E R M b nl cur pr pb hd tail (w.alloc (.cells Tryz.zeroCells168 168)) body.length := ⟨body, n, tot, fin, _, h1, hdb, by simp, rfl, hK1.mono (by simp)⟩
  have hd1 : w.heap.size ∉ R.own ∧ w.heap.size ≠ R.da ∧ w.heap.size ≠ M.m ∧ w.heap.size ≠ M.bd ∧ w.heap.size ≠ pb ∧ 15 ≤ w.heap.size := by
    have h2 := h.rd.dl
    have h3 := h.rd.mr.blk.lt
    have h4 := h.rd.bo.2.2.2
    have h5 := h.blk.lt
    have h6 := h.po.2.2.2.2
    exact ⟨fun e => by have := hpl _ e; omega, by omega, by omega, by omega, by omega, by omega⟩
  have HD1 := Lib.hid hd1
  clear h h1 hK1 hdb hd1 hpl
  have mt := method67' pb
  have mn := nilAhead67 pb
  go_enter Tryz.func96, Tryz.ntmps96
  go_wp2
  go_loopg [3, 4] body.length (fun q v3 v4 w' => DRel w E R M b nl cur pr pb hd tail w' q)
  case atStart => exact hR0
  case round =>
    clear hR0
    obtain ⟨body', n', tot', fin', dbs, hP, hB, hdl, hq, hK⟩ := hrel
    have hcon := partRead_any hP.drew 512 512 w.heap.size dbs 168 hB (by omega) (Nat.le_refl _) (by omega) HD1.out
    have HP := Lib.hid hP
    have HDL := Lib.hid hdl
    have HQ := Lib.hid hq
    have HK := Lib.hid hK
    clear hP hB hdl hq hK
    go_wp2
    go_region_with ((go_at_call 47; refine hcon.mono ?_; rintro e w1 ⟨k, x, rfl, hp⟩))
    have hdl2 : (spliceB dbs 0 (body'.take k)).length = 512 := by
      have h1 := hp.km
      have h2 := HDL.out
      have := splice_len (dbs := dbs) (l := body') (k := k) (by omega)
      omega
    have hkp : Kp (pb :: R.own) w w1 := HK.out.trans' (by have := hp.kp; exact (Kp.drewN _ _ 1).trans this) (fun y hy => by simp at hy; rcases hy with rfl | rfl | hy <;> simp [*])
    have hE := HP.out.rd.br
    obtain ⟨_, _, _, _, _, _, hbr, _⟩ := hE
    obtain ⟨tE, vE, hEE⟩ := hbr.isE
    clear hbr
    obtain ⟨n2, f2, hP2, hx2⟩ := hp.prd
    cases x with
    | true =>
      obtain ⟨rfl, rfl⟩ := hx2 rfl
      have hb0 : body'.drop k = [] := by rw [hp.fin rfl]; simp
      rw [hb0] at hP2
      have hend : DEnd w E R M b nl cur pr pb hd tail w1 := ⟨_, hP2, hkp⟩
      have HEND := Lib.hid hend
      have HEE := Lib.hid hEE
      rw [errV_t, hEE]
      clear hp hdl2 hkp hP2 hx2 hb0 hend hEE hcon
      go_wp2
      refine bodyPost_ret (results_none rfl _ _ _) rfl ?_
      exact ⟨rfl, HEND.out⟩
    | false =>
      have hk0 : 0 < k := by
        rcases hp.prog (by omega) with h | h
        · exact h
        · cases h
      have hrel2 : DRel w E R M b nl cur pr pb hd tail w1 (body'.drop k).length := ⟨_, _, _, _, _, hP2, hp.blk, hdl2, rfl, hkp⟩
      have hlt : (body'.drop k).length < gk := by have := HQ.out; have := hp.kb; rw [List.length_drop]; omega
      have HREL := Lib.hid hrel2
      have HLT := Lib.hid hlt
      rw [errV_f]
      clear hp hdl2 hkp hP2 hx2 hrel2 hlt hEE hcon hk0
      go_wp2
      go_roundg (body'.drop k).length
      case measure => exact HLT.out
      case rel => exact HREL.out
/-! ### Part.Close: function 85 -/
set_option maxHeartbeats 1000000 in
theorem close_any (h : PRd w E R M b nl cur pr pb hd body tail n tot fin) (hpl : ∀ x ∈ R.own, x < w.heap.size) :
    Calls Tryz.prog 85 #[.pointer (some ⟨pb, 0, none⟩)] w fun e w' => e = .returned .nilIface ∧ DEnd w E R M b nl cur pr pb hd tail w' := by
  have hcon := discard_any h hpl
  clear h hpl
  go_enter Tryz.func85, Tryz.ntmps85
  go_wp2_with fail
  refine hcon.mono ?_
  rintro e w1 ⟨rfl, hp⟩
  have HP := Lib.hid hp
  clear hp hcon
  go_wp2
  go_ret
  exact ⟨rfl, HP.out⟩
end
end Go.Proofs.YtkbgnplknifmhaaGreatDoor
namespace Go.Proofs.YtkbgnplknifmhaaGreatDoor
open Go.RowKit
attribute [local go_sem ↓] Go.wp_at_zero Go.wp_at_succ

/-- io.EOF is io.EOF. -/
def EqE (E : Value) : Prop := ∀ w, (binOp .eql 69 E E).run Tryz.prog w = .ok (.bool true) w
/-- What nextPart finds in the lines to come: the delimiter of a part (and how its lines end), or the end. -/
inductive NP (b nl : Bytes) (pr : Int) : Bool → Bytes → Option (Bool × Bytes) → Prop
  | skip (l rest : Bytes) (out : Option (Bool × Bytes)) (hp : pr = 0) (hl : (10 : UInt8) ∉ l) (hl2 : l.length + 1 ≤ 4096) (hd : (dlm b).isPrefixOf (l ++ [10]) = false) (t : NP b nl pr false rest out) : NP b nl pr false (l ++ 10 :: rest) out
  | sep (l rest : Bytes) (out : Option (Bool × Bytes)) (hp : pr ≠ 0) (hl : (10 : UInt8) ∉ l) (hl2 : l.length + 1 ≤ 4096) (hnl : nl = l ++ [10]) (hd : (dlm b).isPrefixOf (l ++ [10]) = false) (t : NP b nl pr true rest out) : NP b nl pr false (l ++ 10 :: rest) out
  | delim (flag : Bool) (l rest : Bytes) (hl : (10 : UInt8) ∉ l) (hl2 : l.length + 1 ≤ 4096) (hd : delimLineB b nl (l ++ [10]) = true) (hlf : ¬ (pr = 0 ∧ behind (dlm b) (l ++ [10]) = [10])) : NP b nl pr flag (l ++ 10 :: rest) (some (false, rest))
  | delimLF (flag : Bool) (l rest : Bytes) (hp : pr = 0) (hnl : nl = [13, 10]) (hl : (10 : UInt8) ∉ l) (hl2 : l.length + 1 ≤ 4096) (hpre : (dlm b).isPrefixOf (l ++ [10]) = true) (hlf : behind (dlm b) (l ++ [10]) = [10]) : NP b nl pr flag (l ++ 10 :: rest) (some (true, rest))
  | final (flag : Bool) (l rest : Bytes) (hl : (10 : UInt8) ∉ l) (hl2 : l.length + 1 ≤ 4096) (hd : delimLineB b nl (l ++ [10]) = false) (hlf : ¬ (pr = 0 ∧ behind (dlm b) (l ++ [10]) = [10])) (hf : finalB b nl (l ++ [10]) = true) : NP b nl pr flag (l ++ 10 :: rest) none
  | finalE (flag : Bool) (l : Bytes) (hl : (10 : UInt8) ∉ l) (hl2 : l.length < 4096) (hl3 : 0 < l.length) (hf : finalB b nl l = true) : NP b nl pr flag l none
theorem delim_no {b nl l : Bytes} (h : (dlm b).isPrefixOf l = false) : delimLineB b nl l = false := by unfold delimLineB; rw [h]; rfl
theorem final_no {b nl l : Bytes} (h : (dlm b).isPrefixOf l = false) : finalB b nl l = false := by
  unfold finalB
  have : (dlm b ++ [45, 45]).isPrefixOf l = false := by
    cases hh : (dlm b ++ [45, 45]).isPrefixOf l with
    | false => rfl
    | true =>
      have h1 := List.isPrefixOf_iff_prefix.1 hh
      have h2 : dlm b <+: l := (List.prefix_append _ _).trans h1
      rw [List.isPrefixOf_iff_prefix.2 h2] at h
      cases h
  rw [this]; rfl
section
variable {w : World} {E : Value} {R : RS} {M : MS} {b nl : Bytes} {cur : Value} {pr : Int} {pb : Nat} {hd : Value} {body tail whole : Bytes} {n tot : Nat} {fin : Bool}
/-- The reader's own two cells turn. -/
theorem RD.turn {w' : World} (h : RD w E R M b nl cur pr whole) (k : Kp [M.m] w w') {cur' : Value} {pr' : Int} (hb : Blk w' M.m (mrCells M b nl cur' pr') 108) : RD w' E R M b nl cur' pr' whole := by
  obtain ⟨r, n, bs, src, lb, lr, hbr, he⟩ := h.br
  have hS1 : ∀ x ∈ R.own, x ∉ [M.m] := fun x hx e => by simp at e; subst e; exact h.mo.1 hx
  have hbd : M.bd ∉ [M.m] := by simp; exact fun e => h.mr.ne e.symm
  have hm0 : 0 ∉ [M.m] := by simp; have := h.mo.2.2; omega
  exact ⟨⟨r, n, bs, src, lb, lr, hbr.kp k hS1 (by simp; exact fun e => h.mo.2.1 e.symm) hm0, he⟩,
    ⟨hb, h.mr.hn.kp k (fun x e => by rw [h.mr.inn x e]; exact hbd), h.mr.hd.kp k (fun x e => by rw [h.mr.ind x e]; exact hbd), h.mr.he.kp k (fun x e => by rw [h.mr.ine x e]; exact hbd), h.mr.hb.kp k (fun x e => by rw [h.mr.inb x e]; exact hbd), h.mr.cn, h.mr.cd, h.mr.ce, h.mr.cb, h.mr.inn, h.mr.ind, h.mr.ine, h.mr.inb, h.mr.ne, h.mr.lb⟩,
    h.gv.kp k (by simp; exact h.mo.2.2), h.rg, Nat.lt_of_lt_of_le h.dl k.size, h.rb, h.mo, h.bo.1, h.bo.2.1, h.bo.2.2.1, Nat.lt_of_lt_of_le h.bo.2.2.2 k.size⟩
/-- How nextPart begins: no part has been given yet, or one has (and is read on to its end). -/
inductive NPStart (w : World) (E : Value) (R : RS) (M : MS) (b nl : Bytes) (pr : Int) : Value → Bytes → List Nat → Prop
  | first (whole : Bytes) (h : RD w E R M b nl (.pointer none) pr whole) : NPStart w E R M b nl pr (.pointer none) whole []
  | next (pb : Nat) (hd : Value) (body tail : Bytes) (n tot : Nat) (fin : Bool) (h : PRd w E R M b nl (.pointer (some ⟨pb, 0, none⟩)) pr pb hd body tail n tot fin) : NPStart w E R M b nl pr (.pointer (some ⟨pb, 0, none⟩)) (nl ++ dlm b ++ tail) [pb]
/-- What nextPart leaves where there is a part. -/
structure NextPost (w w' : World) (E : Value) (R : RS) (M : MS) (b nl : Bytes) (pr : Int) (rest : Bytes) (HF : List (Bytes × List Bytes)) (pb mb : Nat) (S : List Nat) : Prop where
  rd : RD w' E R M b nl (.pointer (some ⟨pb, 0, none⟩)) (pr + 1) rest
  blk : Blk w' pb (ptCells (.map (some mb)) M.m (rdV pb) 0 0 .nilIface .nilIface) 117
  hdr : HDR w' w.heap.size mb HF
  kp : Kp (S ++ M.m :: R.own) w w'
  new : w.heap.size ≤ pb
def msOf (M : MS) (lf : Bool) : MS := if lf then M.lf else M
def nlOf (nl : Bytes) (lf : Bool) : Bytes := if lf then [10] else nl
def NRel (w0 : World) (E : Value) (R : RS) (M : MS) (b nl : Bytes) (cur : Value) (pr : Int) (S : List Nat) (out : Option (Bool × Bytes)) (w : World) (q : Nat) (v : Value) : Prop :=
  ∃ flag whole, v = .bool flag ∧ RD w E R M b nl cur pr whole ∧ NP b nl pr flag whole out ∧ whole.length = q ∧ Kp (S ++ M.m :: R.own) w0 w
structure LnPost (w w' : World) (E : Value) (R : RS) (M : MS) (b nl : Bytes) (cur : Value) (pr : Int) (l rest : Bytes) (a : Option Addr) (c : Nat) : Prop where
  rd : RD w' E R M b nl cur pr rest
  hb : HB w' a l
  lc : l.length ≤ c
  ll : l.length ≤ 281474976710656
  kp : Kp R.own w w'
  bl : ∀ x, a = some x → x.block = R.bb
theorem bbAt_block {R : RS} {r : Nat} : ∀ x, bbAt R r = some x → x.block = R.bb := by
  intro x hx
  unfold bbAt cutAt at hx
  split at hx
  · injection hx with hx; rw [← hx]
  · simp only [Option.map_some, Option.some.injEq] at hx
    rw [← hx]; unfold Addr.add; split <;> rfl
theorem rd_line (l rest : Bytes) (h : RD w E R M b nl cur pr (l ++ 10 :: rest)) (hl : (10 : UInt8) ∉ l) (hl2 : l.length + 1 ≤ 4096) :
    Calls Tryz.prog 87 #[.pointer (some ⟨R.rb, 0, none⟩), .int .u8 10] w fun e w' => ∃ a c, e = .returned (.tuple #[.slice a (l ++ [10]).length c, .nilIface]) ∧ LnPost w w' E R M b nl cur pr (l ++ [10]) rest a c := by
  obtain ⟨r, n, bs, src, lb, lr, hbr, he⟩ := h.br
  refine (readSlice_hit hbr l rest hl hl2 he).mono ?_
  rintro e w' ⟨r1, n1, bs1, src1, rfl, hS⟩
  have hfit := hS.br.fit
  have hlen : (l ++ [10]).length = l.length + 1 := by simp
  have hh := hS.br.hb_at r1 (l ++ [10]).length (by omega)
  rw [hS.line] at hh
  exact ⟨_, _, rfl, h.next hS.kp hS.br hS.rest, hh, by omega, by omega, hS.kp, bbAt_block⟩
theorem rd_eof (l : Bytes) (h : RD w E R M b nl cur pr l) (hl : (10 : UInt8) ∉ l) (hl2 : l.length < 4096) (hl3 : 0 < l.length) :
    Calls Tryz.prog 87 #[.pointer (some ⟨R.rb, 0, none⟩), .int .u8 10] w fun e w' => ∃ a c, e = .returned (.tuple #[.slice a l.length c, E]) ∧ LnPost w w' E R M b nl cur pr l [] a c := by
  obtain ⟨r, n, bs, src, lb, lr, hbr, he⟩ := h.br
  refine (readSlice_eof hbr l hl hl2 hl3 he).mono ?_
  rintro e w' ⟨r1, bs1, lb1, rfl, hS⟩
  have hfit := hS.br.fit
  have hh := hS.br.hb_at r1 l.length (by omega)
  rw [hS.line] at hh
  exact ⟨_, _, rfl, h.next hS.kp hS.br hS.rest, hh, by omega, by omega, hS.kp, bbAt_block⟩
def NextEnd (w : World) (E : Value) (R : RS) (M : MS) (b nl : Bytes) (pr : Int) (out : Option (Bool × Bytes)) (rest : Bytes) (HF : List (Bytes × List Bytes)) (S : List Nat) (e : Ending) (w' : World) : Prop :=
  match out with
  | none => e = .returned (.tuple #[.pointer none, E]) ∧ Kp (S ++ M.m :: R.own) w w'
  | some (lf, _) => ∃ pb mb, e = .returned (.tuple #[.pointer (some ⟨pb, 0, none⟩), .nilIface]) ∧ NextPost w w' E R (msOf M lf) b (nlOf nl lf) pr rest HF pb mb S
/-- What newPart does, for the part at the lines rest0. -/
def NewC (E : Value) (R : RS) (M : MS) (b nl : Bytes) (rp : Bool) (rest0 rest : Bytes) (HF : List (Bytes × List Bytes)) : Prop :=
  ∀ (w : World) (cur : Value) (pr : Int), RD w E R M b nl cur pr rest0 →
    Calls Tryz.prog 90 #[.pointer (some ⟨M.m, 0, none⟩), .bool rp, .int .i64 10485760, .int .i64 10000] w fun e w' => ∃ pb mb, e = .returned (.tuple #[.pointer (some ⟨pb, 0, none⟩), .nilIface]) ∧ NewPost w w' E R M b nl cur pr rest HF pb mb
def OutC (E : Value) (R : RS) (M : MS) (b nl : Bytes) (rp : Bool) (out : Option (Bool × Bytes)) (rest : Bytes) (HF : List (Bytes × List Bytes)) : Prop :=
  match out with
  | none => True
  | some (lf, rest0) => NewC E R (msOf M lf) b (nlOf nl lf) rp rest0 rest HF
theorem dashes (b : Bytes) (hb : b ≠ []) : (dlm b == [45, 45]) = false := by
  unfold dlm
  cases b with
  | nil => exact absurd rfl hb
  | cons x r => simp
theorem RD.eof (h : RD w E R M b nl cur pr whole) : w.cell? ⟨0, 0, none⟩ = some E := by obtain ⟨r, n, bs, src, lb, lr, hbr, he⟩ := h.br; exact hbr.eof
theorem RD.isE (h : RD w E R M b nl cur pr whole) : ∃ t v, E = .iface t v := by obtain ⟨r, n, bs, src, lb, lr, hbr, he⟩ := h.br; exact hbr.isE
theorem RD.drewN (h : RD w E R M b nl cur pr whole) (j : Nat) : RD (w.drewN j) E R M b nl cur pr whole := h.kp (S := []) (Kp.drewN [] w j) (by simp) (by simp) (by simp) (by simp) (by simp)
theorem RD.lf {w' : World} (h : RD w E R M b [13, 10] cur 0 whole) (k : Kp [M.m] w w') (hm : MRx w' M.lf b [10] cur 0) : RD w' E R M.lf b [10] cur 0 whole := by
  obtain ⟨r, n, bs, src, lb, lr, hbr, he⟩ := h.br
  have hS1 : ∀ x ∈ R.own, x ∉ [M.m] := fun x hx e => by simp at e; subst e; exact h.mo.1 hx
  have hm0 : 0 ∉ [M.m] := by simp; have := h.mo.2.2; omega
  exact ⟨⟨r, n, bs, src, lb, lr, hbr.kp k hS1 (by simp; exact fun e => h.mo.2.1 e.symm) hm0, he⟩, hm, h.gv.kp k (by simp; exact h.mo.2.2), h.rg, Nat.lt_of_lt_of_le h.dl k.size, h.rb, h.mo, h.bo.1, h.bo.2.1, h.bo.2.2.1, Nat.lt_of_lt_of_le h.bo.2.2.2 k.size⟩
set_option maxRecDepth 20000 in
set_option maxHeartbeats 4000000 in
theorem nextPart_first {out : Option (Bool × Bytes)} {rest : Bytes} {HF : List (Bytes × List Bytes)} (rp : Bool) (h : RD w E R M b nl (.pointer none) pr whole) (hE : EqE E) (hb0 : b ≠ []) (hpr : 0 ≤ pr ∧ pr ≤ 4611686018427387904) (hN : NP b nl pr false whole out) (hO : OutC E R M b nl rp out rest HF) :
    Calls Tryz.prog 73 #[.pointer (some ⟨M.m, 0, none⟩), .bool rp, .int .i64 10485760, .int .i64 10000] w fun e w' => NextEnd w E R M b nl pr out rest HF [] e w' := by
  obtain ⟨tE, vE, rfl⟩ := h.isE
  obtain ⟨hp1, hp2⟩ := hpr
  have hdd := dashes b hb0
  have hnn := nil_eq_iface tE vE
  have km := h.cellM
  have HML : Hid (M.m < w.heap.size) := h.mr.blk.lt
  have hsv := run_str w _ _ _ M.cb h.mr.hb rfl
  have HR0 : Hid (NRel w (.iface tE vE) R M b nl (.pointer none) pr [] out w whole.length (.bool false)) := ⟨false, whole, rfl, h, hN, rfl, Kp.refl _ _⟩
  have hEE : (binOp .eql 69 (.iface tE vE) (.iface tE vE)).run Tryz.prog = fun w => .ok (.bool true) w := funext hE
  clear h hN
  go_enter Tryz.func73, Tryz.ntmps73
  go_wp2
  go_loopg [10] whole.length (fun q v10 w' => NRel w (.iface tE vE) R M b nl (.pointer none) pr [] out w' q v10)
  case atStart => exact HR0.out
  case round =>
  clear HR0
  obtain ⟨flag, whole', rfl, hrd, hnp, hq, hK⟩ := hrel
  have km := hrd.cellM
  cases hnp with
  | skip l rest' _ hp0 hl hl2 hd t =>
    have HLF : Hid ((dlm b).isPrefixOf (l ++ [10]) = true → ¬ (pr = 0 ∧ behind (dlm b) (l ++ [10]) = [10])) := fun e => by rw [hd] at e; cases e
    have hd1 := delim_no (nl := nl) hd
    have hd2 := final_no (nl := nl) hd
    have HT := Lib.hid t
    have hz : (pr == 0) = true := by rw [hp0]; rfl
    clear hd t hp0
    have hcon := rd_line l rest' hrd hl hl2
    have HK := Lib.hid hK
    have HQ := Lib.hid hq
    have HRD := Lib.hid hrd
    clear hrd hK hq hl hl2
    go_wp2_with fail
    (with_reducible refine hcon.mono ?_)
    rintro e w1 ⟨a, c, rfl, hp⟩
    clear hcon km
    have hge := hp.rd.eof
    have km1 := hp.rd.cellM
    have hlen : (l ++ [10]).length = l.length + 1 := by simp
    have hdl := delimLine_same hp.rd.mr a c (l ++ [10]) hp.hb hp.lc hp.ll HLF.out
    have hfi := final_any hp.rd.mr a c (l ++ [10]) hp.hb hp.lc hp.ll
    rw [hd1, hlen] at hdl
    rw [hd2, hlen] at hfi
    have hrel2 : ∀ j, NRel w (.iface tE vE) R M b nl (.pointer none) pr [] out (w1.drewN j) rest'.length (.bool false) := fun j => ⟨false, rest', rfl, hp.rd.drewN j, HT.out, rfl, (HK.out.trans (hp.kp.mono (by intro x hx _; simp [hx]))).drewN' j⟩
    have hlt : rest'.length < gk := by have := HQ.out; simp at this; omega
    have HREL := Lib.hid hrel2
    have HLT := Lib.hid hlt
    clear hp hrel2 hlt hd1 hd2 hlen
    go_wp2_with fail
    (with_reducible refine hdl.mono ?_)
    rintro e w' ⟨rfl, rfl⟩
    clear hdl
    go_wp2_with fail
    (with_reducible refine hfi.mono ?_)
    rintro e w' ⟨rfl, rfl⟩
    clear hfi
    go_wp2
    go_roundg rest'.length
    case measure => exact HLT.out
    case rel => exact HREL.out 0
  | sep l rest' _ hp0 hl hl2 hnl hd t =>
    have HLF : Hid ((dlm b).isPrefixOf (l ++ [10]) = true → ¬ (pr = 0 ∧ behind (dlm b) (l ++ [10]) = [10])) := fun e => by rw [hd] at e; cases e
    have hd1 := delim_no (nl := nl) hd
    have hd2 := final_no (nl := nl) hd
    have HT := Lib.hid t
    have hz : (pr == 0) = false := by rw [beq_eq_false_iff_ne]; exact hp0
    have heqn : (l ++ [10] == nl) = true := by rw [hnl]; simp
    have HNL := Lib.hid hnl
    clear hd t hp0 hnl
    have hcon := rd_line l rest' hrd hl hl2
    have HK := Lib.hid hK
    have HQ := Lib.hid hq
    have HRD := Lib.hid hrd
    clear hrd hK hq hl hl2
    go_wp2_with fail
    (with_reducible refine hcon.mono ?_)
    rintro e w1 ⟨a, c, rfl, hp⟩
    clear hcon km
    have hge := hp.rd.eof
    have km1 := hp.rd.cellM
    have hlen : (l ++ [10]).length = l.length + 1 := by simp
    have hdl := delimLine_same hp.rd.mr a c (l ++ [10]) hp.hb hp.lc hp.ll HLF.out
    have hfi := final_any hp.rd.mr a c (l ++ [10]) hp.hb hp.lc hp.ll
    have heq := equal_any a M.an c M.cn (l ++ [10]) nl w1 hp.hb hp.rd.mr.hn
    rw [heqn, hlen] at heq
    rw [hd1, hlen] at hdl
    rw [hd2, hlen] at hfi
    have hrel2 : ∀ j, NRel w (.iface tE vE) R M b nl (.pointer none) pr [] out (w1.drewN j) rest'.length (.bool true) := fun j => ⟨true, rest', rfl, hp.rd.drewN j, HT.out, rfl, (HK.out.trans (hp.kp.mono (by intro x hx _; simp [hx]))).drewN' j⟩
    have hlt : rest'.length < gk := by have := HQ.out; simp at this; omega
    have HREL := Lib.hid hrel2
    have HLT := Lib.hid hlt
    clear hp hrel2 hlt hd1 hd2 hlen heqn
    go_wp2_with fail
    (with_reducible refine hdl.mono ?_)
    rintro e w' ⟨rfl, rfl⟩
    clear hdl
    go_wp2_with fail
    (with_reducible refine hfi.mono ?_)
    rintro e w' ⟨rfl, rfl⟩
    clear hfi
    go_wp2_with fail
    (with_reducible refine heq.mono ?_)
    rintro e w' ⟨rfl, rfl⟩
    clear heq
    go_wp2
    go_roundg rest'.length
    case measure => exact HLT.out
    case rel => exact HREL.out 0
  | delim flag' l rest' hl hl2 hd hlf =>
    have HLF : Hid ((dlm b).isPrefixOf (l ++ [10]) = true → ¬ (pr = 0 ∧ behind (dlm b) (l ++ [10]) = [10])) := fun _ => hlf
    have HO : Hid (NewC (.iface tE vE) R M b nl rp rest' rest HF) := hO
    clear hlf
    have hcon := rd_line l rest' hrd hl hl2
    have HK := Lib.hid hK
    have HQ := Lib.hid hq
    have HRD := Lib.hid hrd
    clear hrd hK hq hl hl2
    go_wp2_with fail
    (with_reducible refine hcon.mono ?_)
    rintro e w1 ⟨a, c, rfl, hp⟩
    clear hcon km
    have hge := hp.rd.eof
    have km1 := hp.rd.cellM
    have hlen : (l ++ [10]).length = l.length + 1 := by simp
    have hdl := delimLine_same hp.rd.mr a c (l ++ [10]) hp.hb hp.lc hp.ll HLF.out
    rw [hd, hlen] at hdl
    have HP := Lib.hid hp
    clear hp hd hlen
    go_wp2_with fail
    (with_reducible refine hdl.mono ?_)
    rintro e w3 ⟨rfl, rfl⟩
    clear hdl hge km1
    have hrd3 := HP.out.rd
    have hK3 : Kp ([] ++ M.m :: R.own) w w1 := HK.out.trans (HP.out.kp.mono (by intro x hx _; simp [hx]))
    have hblk3 : Blk w1 M.m #[.pointer (some ⟨M.rb, 0, none⟩), .string (str []), .pointer none, .int .i64 pr, .slice M.an nl.length M.cn, .slice M.ad (nl ++ dlm b).length M.cd, .slice M.ae (dlm b ++ [45, 45]).length M.ce, .slice M.ab (dlm b).length M.cb] 108 := hrd3.mr.blk
    have k3 := hblk3.cell
    have f3 := hblk3.free
    have hK4 : Kp [M.m] w1 (w1.setCell ⟨M.m, 3, none⟩ (.int .i64 (pr + 1))) := (Kp.refl _ _).setCell (.inl (by simp)) _
    have hrd4 := hrd3.turn (cur' := .pointer none) (pr' := pr + 1) hK4 (hblk3.set 3 (.int .i64 (pr + 1)))
    have hcon4 : Calls Tryz.prog 90 #[.pointer (some ⟨M.m, 0, none⟩), .bool rp, .int .i64 10485760, .int .i64 10000] _ _ := HO.out _ _ _ hrd4
    have HK34 : Hid (Kp ([] ++ M.m :: R.own) w (w1.setCell ⟨M.m, 3, none⟩ (.int .i64 (pr + 1)))) := hK3.trans (hK4.mono (by intro x hx _; simp at hx; simp [hx]))
    clear hrd4 hK4 hrd3 hK3 hblk3
    go_wp2_with fail
    (with_reducible refine hcon4.mono ?_)
    rintro e w5 ⟨pb', mb, rfl, hpo⟩
    clear hcon4 k3 f3
    have hblk5 : Blk w5 M.m #[.pointer (some ⟨M.rb, 0, none⟩), .string (str []), .pointer none, .int .i64 (pr + 1), .slice M.an nl.length M.cn, .slice M.ad (nl ++ dlm b).length M.cd, .slice M.ae (dlm b ++ [45, 45]).length M.ce, .slice M.ab (dlm b).length M.cb] 108 := hpo.rd.mr.blk
    have k5 := hblk5.cell
    have f5 := hblk5.free
    have hK6 : Kp [M.m] w5 (w5.setCell ⟨M.m, 2, none⟩ (.pointer (some ⟨pb', 0, none⟩))) := (Kp.refl _ _).setCell (.inl (by simp)) _
    have hsz34 : w.heap.size ≤ (w1.setCell ⟨M.m, 3, none⟩ (.int .i64 (pr + 1))).heap.size := HK34.out.size
    have hml := HML.out
    have hnew := Nat.le_trans hsz34 hpo.new
    have hne : pb' ≠ M.m := by omega
    have hend : NextPost w (w5.setCell ⟨M.m, 2, none⟩ (.pointer (some ⟨pb', 0, none⟩))) (.iface tE vE) R M b nl pr rest HF pb' mb [] :=
      ⟨hpo.rd.turn hK6 (hblk5.set 2 _), hpo.blk.kp hK6 (by simp; exact hne), (hpo.hdr.kp hK6 (by intro x hx; simp only [List.mem_singleton] at hx; subst hx; exact Nat.lt_of_lt_of_le hml hsz34)).base hsz34, (HK34.out.trans' hpo.kp (fun x hx => .inl (by simp [hx]))).trans (hK6.mono (by intro x hx _; simp at hx; simp [hx])), hnew⟩
    have HEND := Lib.hid hend
    clear hend hpo hblk5 hK6 hsz34 hml hnew hne
    go_wp2
    go_ret2
    exact ⟨pb', mb, rfl, HEND.out⟩
  | delimLF flag' l rest' hp0 hnl hl hl2 hpre hlf =>
    have HO : Hid (NewC (.iface tE vE) R M.lf b [10] rp rest' rest HF) := hO
    subst hp0
    subst hnl
    have hcon := rd_line l rest' hrd hl hl2
    have HK := Lib.hid hK
    have HQ := Lib.hid hq
    have HRD := Lib.hid hrd
    clear hrd hK hq hl hl2
    go_wp2_with fail
    (with_reducible refine hcon.mono ?_)
    rintro e w1 ⟨a, c, rfl, hp⟩
    clear hcon km
    have hge := hp.rd.eof
    have km1 := hp.rd.cellM
    have hlen : (l ++ [10]).length = l.length + 1 := by simp
    have hdl := delimLine_lf hp.rd.mr a c (l ++ [10]) hp.hb hp.lc hp.ll hpre hlf (fun x hx e => by have := hp.bl x hx; rw [e] at this; exact hp.rd.mo.1 (by rw [this]; simp [RS.own]))
    rw [hlen] at hdl
    have HP := Lib.hid hp
    clear hp hpre hlf hlen
    go_wp2_with fail
    (with_reducible refine hdl.mono ?_)
    rintro e w3 ⟨rfl, hmr3, hk3⟩
    clear hdl hge km1
    have hrd3 : RD w3 (.iface tE vE) R M.lf b [10] (.pointer none) 0 rest' := HP.out.rd.lf hk3 hmr3
    have hK3 : Kp ([] ++ M.m :: R.own) w w3 := (HK.out.trans (HP.out.kp.mono (by intro x hx _; simp [hx]))).trans (hk3.mono (by intro x hx _; simp at hx; simp [hx]))
    clear hmr3 hk3
    have hblk3 : Blk w3 M.m #[.pointer (some ⟨M.rb, 0, none⟩), .string (str []), .pointer none, .int .i64 0, .slice M.lf.an [10].length M.lf.cn, .slice M.lf.ad ([10] ++ dlm b).length M.lf.cd, .slice M.lf.ae (dlm b ++ [45, 45]).length M.lf.ce, .slice M.lf.ab (dlm b).length M.lf.cb] 108 := hrd3.mr.blk
    have k3 := hblk3.cell
    have f3 := hblk3.free
    have hK4 : Kp [M.m] w3 (w3.setCell ⟨M.m, 3, none⟩ (.int .i64 1)) := (Kp.refl _ _).setCell (.inl (by simp)) _
    have hrd4 := hrd3.turn (cur' := .pointer none) (pr' := 1) hK4 (hblk3.set 3 (.int .i64 1))
    have hcon4 : Calls Tryz.prog 90 #[.pointer (some ⟨M.m, 0, none⟩), .bool rp, .int .i64 10485760, .int .i64 10000] _ _ := HO.out _ _ _ hrd4
    have HK34 : Hid (Kp ([] ++ M.m :: R.own) w (w3.setCell ⟨M.m, 3, none⟩ (.int .i64 1))) := hK3.trans (hK4.mono (by intro x hx _; simp at hx; simp [hx]))
    clear hrd4 hK4 hrd3 hK3 hblk3
    go_wp2_with fail
    (with_reducible refine hcon4.mono ?_)
    rintro e w5 ⟨pb', mb, rfl, hpo⟩
    clear hcon4 k3 f3
    have hblk5 : Blk w5 M.m #[.pointer (some ⟨M.rb, 0, none⟩), .string (str []), .pointer none, .int .i64 1, .slice M.lf.an [10].length M.lf.cn, .slice M.lf.ad ([10] ++ dlm b).length M.lf.cd, .slice M.lf.ae (dlm b ++ [45, 45]).length M.lf.ce, .slice M.lf.ab (dlm b).length M.lf.cb] 108 := hpo.rd.mr.blk
    have k5 := hblk5.cell
    have f5 := hblk5.free
    have hK6 : Kp [M.m] w5 (w5.setCell ⟨M.m, 2, none⟩ (.pointer (some ⟨pb', 0, none⟩))) := (Kp.refl _ _).setCell (.inl (by simp)) _
    have hsz34 : w.heap.size ≤ (w3.setCell ⟨M.m, 3, none⟩ (.int .i64 1)).heap.size := HK34.out.size
    have hml := HML.out
    have hnew := Nat.le_trans hsz34 hpo.new
    have hne : pb' ≠ M.m := by omega
    have hend : NextPost w (w5.setCell ⟨M.m, 2, none⟩ (.pointer (some ⟨pb', 0, none⟩))) (.iface tE vE) R M.lf b [10] 0 rest HF pb' mb [] :=
      ⟨hpo.rd.turn hK6 (hblk5.set 2 _), hpo.blk.kp hK6 (by simp; exact hne), (hpo.hdr.kp hK6 (by intro x hx; simp only [List.mem_singleton] at hx; subst hx; exact Nat.lt_of_lt_of_le hml hsz34)).base hsz34, (HK34.out.trans' hpo.kp (fun x hx => .inl (by simp [hx]))).trans (hK6.mono (by intro x hx _; simp at hx; simp [hx])), hnew⟩
    have HEND := Lib.hid hend
    clear hend hpo hblk5 hK6 hsz34 hml hnew hne
    go_wp2
    go_ret2
    exact ⟨pb', mb, rfl, HEND.out⟩
  | final flag' l rest' hl hl2 hd hlf hf =>
    have HLF : Hid ((dlm b).isPrefixOf (l ++ [10]) = true → ¬ (pr = 0 ∧ behind (dlm b) (l ++ [10]) = [10])) := fun _ => hlf
    clear hlf
    have hcon := rd_line l rest' hrd hl hl2
    have HK := Lib.hid hK
    have HQ := Lib.hid hq
    have HRD := Lib.hid hrd
    clear hrd hK hq hl hl2
    go_wp2_with fail
    (with_reducible refine hcon.mono ?_)
    rintro e w1 ⟨a, c, rfl, hp⟩
    clear hcon km
    have hge := hp.rd.eof
    have km1 := hp.rd.cellM
    have hlen : (l ++ [10]).length = l.length + 1 := by simp
    have hdl := delimLine_same hp.rd.mr a c (l ++ [10]) hp.hb hp.lc hp.ll HLF.out
    have hfi := final_any hp.rd.mr a c (l ++ [10]) hp.hb hp.lc hp.ll
    rw [hd, hlen] at hdl
    rw [hf, hlen] at hfi
    have hk2 : ∀ j, Kp ([] ++ M.m :: R.own) w (w1.drewN j) := fun j => (HK.out.trans (hp.kp.mono (by intro x hx _; simp [hx]))).drewN' j
    have HK2 := Lib.hid hk2
    clear hp hk2 hd hf hlen
    go_wp2_with fail
    (with_reducible refine hdl.mono ?_)
    rintro e w' ⟨rfl, rfl⟩
    clear hdl
    go_wp2_with fail
    (with_reducible refine hfi.mono ?_)
    rintro e w' ⟨rfl, rfl⟩
    clear hfi
    go_wp2
    go_quiet (fail)
    go_wp2
    go_ret2
    exact ⟨rfl, HK2.out _⟩
  | finalE flag' l hl hl2 hl3 hf =>
    have hcon := rd_eof whole' hrd hl hl2 hl3
    have HK := Lib.hid hK
    clear hrd hK hq hl hl2 hl3
    go_wp2_with fail
    (with_reducible refine hcon.mono ?_)
    rintro e w1 ⟨a, c, rfl, hp⟩
    clear hcon km
    have hge := hp.rd.eof
    have hfi := final_any hp.rd.mr a c whole' hp.hb hp.lc hp.ll
    rw [hf] at hfi
    have hk2 : ∀ j, Kp ([] ++ M.m :: R.own) w (w1.drewN j) := fun j => (HK.out.trans (hp.kp.mono (by intro x hx _; simp [hx]))).drewN' j
    have HK2 := Lib.hid hk2
    clear hp hk2 hf
    go_wp2_with fail
    (with_reducible refine hfi.mono ?_)
    rintro e w' ⟨rfl, rfl⟩
    clear hfi
    go_wp2
    go_quiet (fail)
    go_wp2
    go_ret2
    exact ⟨rfl, HK2.out _⟩
end
end Go.Proofs.YtkbgnplknifmhaaGreatDoor
namespace Go.Proofs.YtkbgnplknifmhaaGreatDoor
open Go.RowKit
attribute [local go_sem ↓] Go.wp_at_zero Go.wp_at_succ
section
variable {w : World} {E : Value} {R : RS} {M : MS} {b nl : Bytes} {cur : Value} {pr : Int} {pb : Nat} {hd : Value} {body tail whole : Bytes} {n tot : Nat} {fin : Bool}
set_option maxRecDepth 20000 in
set_option maxHeartbeats 4000000 in
theorem nextPart_next {out : Option (Bool × Bytes)} {rest : Bytes} {HF : List (Bytes × List Bytes)} (rp : Bool) (h : PRd w E R M b nl (.pointer (some ⟨pb, 0, none⟩)) pr pb hd body tail n tot fin) (hE : EqE E) (hb0 : b ≠ []) (hpr : 0 ≤ pr ∧ pr ≤ 4611686018427387904) (hN : NP b nl pr false (nl ++ dlm b ++ tail) out) (hO : OutC E R M b nl rp out rest HF) :
    Calls Tryz.prog 73 #[.pointer (some ⟨M.m, 0, none⟩), .bool rp, .int .i64 10485760, .int .i64 10000] w fun e w' => NextEnd w E R M b nl pr out rest HF [pb] e w' := by
  obtain ⟨tE, vE, rfl⟩ := h.rd.isE
  obtain ⟨hp1, hp2⟩ := hpr
  have hdd := dashes b hb0
  have hnn := nil_eq_iface tE vE
  have km := h.rd.cellM
  have HML : Hid (M.m < w.heap.size) := h.rd.mr.blk.lt
  have hcl := close_any h h.rd.own_lt
  have HN := Lib.hid hN
  have hEE : (binOp .eql 69 (.iface tE vE) (.iface tE vE)).run Tryz.prog = fun w => .ok (.bool true) w := funext hE
  clear h hN
  go_enter Tryz.func73, Tryz.ntmps73
  go_wp2_with fail
  refine hcl.mono ?_
  rintro e w0 ⟨rfl, tot', hP0, hK0⟩
  clear hcl km
  have hrd0 : RD w0 (.iface tE vE) R M b nl (.pointer (some ⟨pb, 0, none⟩)) pr (nl ++ dlm b ++ tail) := hP0.rd
  have km := hrd0.cellM
  have hsv := run_str w0 _ _ _ M.cb hrd0.mr.hb rfl
  have HR0 : Hid (NRel w (.iface tE vE) R M b nl (.pointer (some ⟨pb, 0, none⟩)) pr [pb] out w0 (nl ++ dlm b ++ tail).length (.bool false)) := ⟨false, _, rfl, hrd0, HN.out, rfl, hK0.mono (by intro x hx _; simp at hx; rcases hx with rfl | hx <;> simp [*])⟩
  clear hP0 hrd0 hK0 HN
  go_wp2
  go_loopg [10] (nl ++ dlm b ++ tail).length (fun q v10 w' => NRel w (.iface tE vE) R M b nl (.pointer (some ⟨pb, 0, none⟩)) pr [pb] out w' q v10)
  case atStart => exact HR0.out
  case round =>
  clear HR0
  obtain ⟨flag, whole', rfl, hrd, hnp, hq, hK⟩ := hrel
  have km := hrd.cellM
  cases hnp with
  | skip l rest' _ hp0 hl hl2 hd t =>
    have HLF : Hid ((dlm b).isPrefixOf (l ++ [10]) = true → ¬ (pr = 0 ∧ behind (dlm b) (l ++ [10]) = [10])) := fun e => by rw [hd] at e; cases e
    have hd1 := delim_no (nl := nl) hd
    have hd2 := final_no (nl := nl) hd
    have HT := Lib.hid t
    have hz : (pr == 0) = true := by rw [hp0]; rfl
    clear hd t hp0
    have hcon := rd_line l rest' hrd hl hl2
    have HK := Lib.hid hK
    have HQ := Lib.hid hq
    have HRD := Lib.hid hrd
    clear hrd hK hq hl hl2
    go_wp2_with fail
    (with_reducible refine hcon.mono ?_)
    rintro e w1 ⟨a, c, rfl, hp⟩
    clear hcon km
    have hge := hp.rd.eof
    have km1 := hp.rd.cellM
    have hlen : (l ++ [10]).length = l.length + 1 := by simp
    have hdl := delimLine_same hp.rd.mr a c (l ++ [10]) hp.hb hp.lc hp.ll HLF.out
    have hfi := final_any hp.rd.mr a c (l ++ [10]) hp.hb hp.lc hp.ll
    rw [hd1, hlen] at hdl
    rw [hd2, hlen] at hfi
    have hrel2 : ∀ j, NRel w (.iface tE vE) R M b nl (.pointer (some ⟨pb, 0, none⟩)) pr [pb] out (w1.drewN j) rest'.length (.bool false) := fun j => ⟨false, rest', rfl, hp.rd.drewN j, HT.out, rfl, (HK.out.trans (hp.kp.mono (by intro x hx _; simp [hx]))).drewN' j⟩
    have hlt : rest'.length < gk := by have := HQ.out; simp at this; omega
    have HREL := Lib.hid hrel2
    have HLT := Lib.hid hlt
    clear hp hrel2 hlt hd1 hd2 hlen
    go_wp2_with fail
    (with_reducible refine hdl.mono ?_)
    rintro e w' ⟨rfl, rfl⟩
    clear hdl
    go_wp2_with fail
    (with_reducible refine hfi.mono ?_)
    rintro e w' ⟨rfl, rfl⟩
    clear hfi
    go_wp2
    go_roundg rest'.length
    case measure => exact HLT.out
    case rel => exact HREL.out 0
  | sep l rest' _ hp0 hl hl2 hnl hd t =>
    have HLF : Hid ((dlm b).isPrefixOf (l ++ [10]) = true → ¬ (pr = 0 ∧ behind (dlm b) (l ++ [10]) = [10])) := fun e => by rw [hd] at e; cases e
    have hd1 := delim_no (nl := nl) hd
    have hd2 := final_no (nl := nl) hd
    have HT := Lib.hid t
    have hz : (pr == 0) = false := by rw [beq_eq_false_iff_ne]; exact hp0
    have heqn : (l ++ [10] == nl) = true := by rw [hnl]; simp
    have HNL := Lib.hid hnl
    clear hd t hp0 hnl
    have hcon := rd_line l rest' hrd hl hl2
    have HK := Lib.hid hK
    have HQ := Lib.hid hq
    have HRD := Lib.hid hrd
    clear hrd hK hq hl hl2
    go_wp2_with fail
    (with_reducible refine hcon.mono ?_)
    rintro e w1 ⟨a, c, rfl, hp⟩
    clear hcon km
    have hge := hp.rd.eof
    have km1 := hp.rd.cellM
    have hlen : (l ++ [10]).length = l.length + 1 := by simp
    have hdl := delimLine_same hp.rd.mr a c (l ++ [10]) hp.hb hp.lc hp.ll HLF.out
    have hfi := final_any hp.rd.mr a c (l ++ [10]) hp.hb hp.lc hp.ll
    have heq := equal_any a M.an c M.cn (l ++ [10]) nl w1 hp.hb hp.rd.mr.hn
    rw [heqn, hlen] at heq
    rw [hd1, hlen] at hdl
    rw [hd2, hlen] at hfi
    have hrel2 : ∀ j, NRel w (.iface tE vE) R M b nl (.pointer (some ⟨pb, 0, none⟩)) pr [pb] out (w1.drewN j) rest'.length (.bool true) := fun j => ⟨true, rest', rfl, hp.rd.drewN j, HT.out, rfl, (HK.out.trans (hp.kp.mono (by intro x hx _; simp [hx]))).drewN' j⟩
    have hlt : rest'.length < gk := by have := HQ.out; simp at this; omega
    have HREL := Lib.hid hrel2
    have HLT := Lib.hid hlt
    clear hp hrel2 hlt hd1 hd2 hlen heqn
    go_wp2_with fail
    (with_reducible refine hdl.mono ?_)
    rintro e w' ⟨rfl, rfl⟩
    clear hdl
    go_wp2_with fail
    (with_reducible refine hfi.mono ?_)
    rintro e w' ⟨rfl, rfl⟩
    clear hfi
    go_wp2_with fail
    (with_reducible refine heq.mono ?_)
    rintro e w' ⟨rfl, rfl⟩
    clear heq
    go_wp2
    go_roundg rest'.length
    case measure => exact HLT.out
    case rel => exact HREL.out 0
  | delim flag' l rest' hl hl2 hd hlf =>
    have HLF : Hid ((dlm b).isPrefixOf (l ++ [10]) = true → ¬ (pr = 0 ∧ behind (dlm b) (l ++ [10]) = [10])) := fun _ => hlf
    have HO : Hid (NewC (.iface tE vE) R M b nl rp rest' rest HF) := hO
    clear hlf
    have hcon := rd_line l rest' hrd hl hl2
    have HK := Lib.hid hK
    have HQ := Lib.hid hq
    have HRD := Lib.hid hrd
    clear hrd hK hq hl hl2
    go_wp2_with fail
    (with_reducible refine hcon.mono ?_)
    rintro e w1 ⟨a, c, rfl, hp⟩
    clear hcon km
    have hge := hp.rd.eof
    have km1 := hp.rd.cellM
    have hlen : (l ++ [10]).length = l.length + 1 := by simp
    have hdl := delimLine_same hp.rd.mr a c (l ++ [10]) hp.hb hp.lc hp.ll HLF.out
    rw [hd, hlen] at hdl
    have HP := Lib.hid hp
    clear hp hd hlen
    go_wp2_with fail
    (with_reducible refine hdl.mono ?_)
    rintro e w3 ⟨rfl, rfl⟩
    clear hdl hge km1
    have hrd3 := HP.out.rd
    have hK3 : Kp ([pb] ++ M.m :: R.own) w w1 := HK.out.trans (HP.out.kp.mono (by intro x hx _; simp [hx]))
    have hblk3 : Blk w1 M.m #[.pointer (some ⟨M.rb, 0, none⟩), .string (str []), .pointer (some ⟨pb, 0, none⟩), .int .i64 pr, .slice M.an nl.length M.cn, .slice M.ad (nl ++ dlm b).length M.cd, .slice M.ae (dlm b ++ [45, 45]).length M.ce, .slice M.ab (dlm b).length M.cb] 108 := hrd3.mr.blk
    have k3 := hblk3.cell
    have f3 := hblk3.free
    have hK4 : Kp [M.m] w1 (w1.setCell ⟨M.m, 3, none⟩ (.int .i64 (pr + 1))) := (Kp.refl _ _).setCell (.inl (by simp)) _
    have hrd4 := hrd3.turn (cur' := .pointer (some ⟨pb, 0, none⟩)) (pr' := pr + 1) hK4 (hblk3.set 3 (.int .i64 (pr + 1)))
    have hcon4 : Calls Tryz.prog 90 #[.pointer (some ⟨M.m, 0, none⟩), .bool rp, .int .i64 10485760, .int .i64 10000] _ _ := HO.out _ _ _ hrd4
    have HK34 : Hid (Kp ([pb] ++ M.m :: R.own) w (w1.setCell ⟨M.m, 3, none⟩ (.int .i64 (pr + 1)))) := hK3.trans (hK4.mono (by intro x hx _; simp at hx; simp [hx]))
    clear hrd4 hK4 hrd3 hK3 hblk3
    go_wp2_with fail
    (with_reducible refine hcon4.mono ?_)
    rintro e w5 ⟨pb', mb, rfl, hpo⟩
    clear hcon4 k3 f3
    have hblk5 : Blk w5 M.m #[.pointer (some ⟨M.rb, 0, none⟩), .string (str []), .pointer (some ⟨pb, 0, none⟩), .int .i64 (pr + 1), .slice M.an nl.length M.cn, .slice M.ad (nl ++ dlm b).length M.cd, .slice M.ae (dlm b ++ [45, 45]).length M.ce, .slice M.ab (dlm b).length M.cb] 108 := hpo.rd.mr.blk
    have k5 := hblk5.cell
    have f5 := hblk5.free
    have hK6 : Kp [M.m] w5 (w5.setCell ⟨M.m, 2, none⟩ (.pointer (some ⟨pb', 0, none⟩))) := (Kp.refl _ _).setCell (.inl (by simp)) _
    have hsz34 : w.heap.size ≤ (w1.setCell ⟨M.m, 3, none⟩ (.int .i64 (pr + 1))).heap.size := HK34.out.size
    have hml := HML.out
    have hnew := Nat.le_trans hsz34 hpo.new
    have hne : pb' ≠ M.m := by omega
    have hend : NextPost w (w5.setCell ⟨M.m, 2, none⟩ (.pointer (some ⟨pb', 0, none⟩))) (.iface tE vE) R M b nl pr rest HF pb' mb [pb] :=
      ⟨hpo.rd.turn hK6 (hblk5.set 2 _), hpo.blk.kp hK6 (by simp; exact hne), (hpo.hdr.kp hK6 (by intro x hx; simp only [List.mem_singleton] at hx; subst hx; exact Nat.lt_of_lt_of_le hml hsz34)).base hsz34, (HK34.out.trans' hpo.kp (fun x hx => .inl (by simp [hx]))).trans (hK6.mono (by intro x hx _; simp at hx; simp [hx])), hnew⟩
    have HEND := Lib.hid hend
    clear hend hpo hblk5 hK6 hsz34 hml hnew hne
    go_wp2
    go_ret2
    exact ⟨pb', mb, rfl, HEND.out⟩
  | delimLF flag' l rest' hp0 hnl hl hl2 hpre hlf =>
    have HO : Hid (NewC (.iface tE vE) R M.lf b [10] rp rest' rest HF) := hO
    subst hp0
    subst hnl
    have hcon := rd_line l rest' hrd hl hl2
    have HK := Lib.hid hK
    have HQ := Lib.hid hq
    have HRD := Lib.hid hrd
    clear hrd hK hq hl hl2
    go_wp2_with fail
    (with_reducible refine hcon.mono ?_)
    rintro e w1 ⟨a, c, rfl, hp⟩
    clear hcon km
    have hge := hp.rd.eof
    have km1 := hp.rd.cellM
    have hlen : (l ++ [10]).length = l.length + 1 := by simp
    have hdl := delimLine_lf hp.rd.mr a c (l ++ [10]) hp.hb hp.lc hp.ll hpre hlf (fun x hx e => by have := hp.bl x hx; rw [e] at this; exact hp.rd.mo.1 (by rw [this]; simp [RS.own]))
    rw [hlen] at hdl
    have HP := Lib.hid hp
    clear hp hpre hlf hlen
    go_wp2_with fail
    (with_reducible refine hdl.mono ?_)
    rintro e w3 ⟨rfl, hmr3, hk3⟩
    clear hdl hge km1
    have hrd3 : RD w3 (.iface tE vE) R M.lf b [10] (.pointer (some ⟨pb, 0, none⟩)) 0 rest' := HP.out.rd.lf hk3 hmr3
    have hK3 : Kp ([pb] ++ M.m :: R.own) w w3 := (HK.out.trans (HP.out.kp.mono (by intro x hx _; simp [hx]))).trans (hk3.mono (by intro x hx _; simp at hx; simp [hx]))
    clear hmr3 hk3
    have hblk3 : Blk w3 M.m #[.pointer (some ⟨M.rb, 0, none⟩), .string (str []), .pointer (some ⟨pb, 0, none⟩), .int .i64 0, .slice M.lf.an [10].length M.lf.cn, .slice M.lf.ad ([10] ++ dlm b).length M.lf.cd, .slice M.lf.ae (dlm b ++ [45, 45]).length M.lf.ce, .slice M.lf.ab (dlm b).length M.lf.cb] 108 := hrd3.mr.blk
    have k3 := hblk3.cell
    have f3 := hblk3.free
    have hK4 : Kp [M.m] w3 (w3.setCell ⟨M.m, 3, none⟩ (.int .i64 1)) := (Kp.refl _ _).setCell (.inl (by simp)) _
    have hrd4 := hrd3.turn (cur' := .pointer (some ⟨pb, 0, none⟩)) (pr' := 1) hK4 (hblk3.set 3 (.int .i64 1))
    have hcon4 : Calls Tryz.prog 90 #[.pointer (some ⟨M.m, 0, none⟩), .bool rp, .int .i64 10485760, .int .i64 10000] _ _ := HO.out _ _ _ hrd4
    have HK34 : Hid (Kp ([pb] ++ M.m :: R.own) w (w3.setCell ⟨M.m, 3, none⟩ (.int .i64 1))) := hK3.trans (hK4.mono (by intro x hx _; simp at hx; simp [hx]))
    clear hrd4 hK4 hrd3 hK3 hblk3
    go_wp2_with fail
    (with_reducible refine hcon4.mono ?_)
    rintro e w5 ⟨pb', mb, rfl, hpo⟩
    clear hcon4 k3 f3
    have hblk5 : Blk w5 M.m #[.pointer (some ⟨M.rb, 0, none⟩), .string (str []), .pointer (some ⟨pb, 0, none⟩), .int .i64 1, .slice M.lf.an [10].length M.lf.cn, .slice M.lf.ad ([10] ++ dlm b).length M.lf.cd, .slice M.lf.ae (dlm b ++ [45, 45]).length M.lf.ce, .slice M.lf.ab (dlm b).length M.lf.cb] 108 := hpo.rd.mr.blk
    have k5 := hblk5.cell
    have f5 := hblk5.free
    have hK6 : Kp [M.m] w5 (w5.setCell ⟨M.m, 2, none⟩ (.pointer (some ⟨pb', 0, none⟩))) := (Kp.refl _ _).setCell (.inl (by simp)) _
    have hsz34 : w.heap.size ≤ (w3.setCell ⟨M.m, 3, none⟩ (.int .i64 1)).heap.size := HK34.out.size
    have hml := HML.out
    have hnew := Nat.le_trans hsz34 hpo.new
    have hne : pb' ≠ M.m := by omega
    have hend : NextPost w (w5.setCell ⟨M.m, 2, none⟩ (.pointer (some ⟨pb', 0, none⟩))) (.iface tE vE) R M.lf b [10] 0 rest HF pb' mb [pb] :=
      ⟨hpo.rd.turn hK6 (hblk5.set 2 _), hpo.blk.kp hK6 (by simp; exact hne), (hpo.hdr.kp hK6 (by intro x hx; simp only [List.mem_singleton] at hx; subst hx; exact Nat.lt_of_lt_of_le hml hsz34)).base hsz34, (HK34.out.trans' hpo.kp (fun x hx => .inl (by simp [hx]))).trans (hK6.mono (by intro x hx _; simp at hx; simp [hx])), hnew⟩
    have HEND := Lib.hid hend
    clear hend hpo hblk5 hK6 hsz34 hml hnew hne
    go_wp2
    go_ret2
    exact ⟨pb', mb, rfl, HEND.out⟩
  | final flag' l rest' hl hl2 hd hlf hf =>
    have HLF : Hid ((dlm b).isPrefixOf (l ++ [10]) = true → ¬ (pr = 0 ∧ behind (dlm b) (l ++ [10]) = [10])) := fun _ => hlf
    clear hlf
    have hcon := rd_line l rest' hrd hl hl2
    have HK := Lib.hid hK
    have HQ := Lib.hid hq
    have HRD := Lib.hid hrd
    clear hrd hK hq hl hl2
    go_wp2_with fail
    (with_reducible refine hcon.mono ?_)
    rintro e w1 ⟨a, c, rfl, hp⟩
    clear hcon km
    have hge := hp.rd.eof
    have km1 := hp.rd.cellM
    have hlen : (l ++ [10]).length = l.length + 1 := by simp
    have hdl := delimLine_same hp.rd.mr a c (l ++ [10]) hp.hb hp.lc hp.ll HLF.out
    have hfi := final_any hp.rd.mr a c (l ++ [10]) hp.hb hp.lc hp.ll
    rw [hd, hlen] at hdl
    rw [hf, hlen] at hfi
    have hk2 : ∀ j, Kp ([pb] ++ M.m :: R.own) w (w1.drewN j) := fun j => (HK.out.trans (hp.kp.mono (by intro x hx _; simp [hx]))).drewN' j
    have HK2 := Lib.hid hk2
    clear hp hk2 hd hf hlen
    go_wp2_with fail
    (with_reducible refine hdl.mono ?_)
    rintro e w' ⟨rfl, rfl⟩
    clear hdl
    go_wp2_with fail
    (with_reducible refine hfi.mono ?_)
    rintro e w' ⟨rfl, rfl⟩
    clear hfi
    go_wp2
    go_quiet (fail)
    go_wp2
    go_ret2
    exact ⟨rfl, HK2.out _⟩
  | finalE flag' l hl hl2 hl3 hf =>
    have hcon := rd_eof whole' hrd hl hl2 hl3
    have HK := Lib.hid hK
    clear hrd hK hq hl hl2 hl3
    go_wp2_with fail
    (with_reducible refine hcon.mono ?_)
    rintro e w1 ⟨a, c, rfl, hp⟩
    clear hcon km
    have hge := hp.rd.eof
    have hfi := final_any hp.rd.mr a c whole' hp.hb hp.lc hp.ll
    rw [hf] at hfi
    have hk2 : ∀ j, Kp ([pb] ++ M.m :: R.own) w (w1.drewN j) := fun j => (HK.out.trans (hp.kp.mono (by intro x hx _; simp [hx]))).drewN' j
    have HK2 := Lib.hid hk2
    clear hp hk2 hf
    go_wp2_with fail
    (with_reducible refine hfi.mono ?_)
    rintro e w' ⟨rfl, rfl⟩
    clear hfi
    go_wp2
    go_quiet (fail)
    go_wp2
    go_ret2
    exact ⟨rfl, HK2.out _⟩
end
end Go.Proofs.YtkbgnplknifmhaaGreatDoor
namespace Go.Proofs.YtkbgnplknifmhaaGreatDoor
open Go.RowKit
attribute [local go_sem ↓] Go.wp_at_zero Go.wp_at_succ
/-! ### bytes.NewReader (72), impl.source (45) -/
set_option maxHeartbeats 400000 in
theorem bytesReader_any (a : Option Addr) (n c : Nat) (w : World) :
    Calls Tryz.prog 72 #[.slice a n c] w fun e w' => e = .returned (.pointer (some ⟨w.heap.size, 0, none⟩)) ∧ w' = w.alloc (.cells #[.slice a n c, .int .i64 0, .int .i64 (-1)] 130) := by
  go_enter Tryz.func72, Tryz.ntmps72
  go_wp2
  go_ret
  exact ⟨rfl, rfl⟩
/-- A reader over a copy of the bytes. -/
structure SrcPost (w w' : World) (l : Bytes) (ur da : Nat) (a : Option Addr) (c : Nat) : Prop where
  blk : Blk w' ur #[.slice a l.length c, .int .i64 0, .int .i64 (-1)] 130
  hb : HB w' a l
  lc : l.length ≤ c
  nu : w.heap.size ≤ ur
  nd : w.heap.size ≤ da ∧ da ≠ ur ∧ da < w'.heap.size
  ha : ∀ x, a = some x → x.block = da
  kp : Kp [] w w'
set_option maxRecDepth 20000 in
set_option maxHeartbeats 400000 in
theorem source_any (a : Option Addr) (n c : Nat) (l : Bytes) (w : World) (h : HB w a l) (hn : n = l.length) (hnone : a = none → c = 0) (hl : l.length ≤ 140737488355328) :
    Calls Tryz.prog 45 #[.slice a n c] w fun e w' => ∃ ur da a' c', e = .returned (.iface 109 (.pointer (some ⟨ur, 0, none⟩))) ∧ SrcPost w w' l ur da a' c' := by
  subst hn
  have hK1 : Kp [] w (w.alloc (.cells (encB []) 5)) := (Kp.refl _ _).alloc _
  have hb1 := h.kp hK1 (by simp)
  have hown : OB (w.alloc (.cells #[] 5)) w.heap.size (.slice (some ⟨w.heap.size, 0, none⟩) 0 0) [] := OB.lit w w.heap.size [] (Nat.le_refl _) (by simp)
  have HB1 := Lib.hid hb1
  have HK1 := Lib.hid hK1
  have HOWN := Lib.hid hown
  clear h hb1 hK1 hown
  go_enter Tryz.func45, Tryz.ntmps45
  go_wp2_with (at_builtin; refine wpList_append_OB rfl (.tmp 3) (.tmp 4) rfl w.heap.size (.slice (some ⟨w.heap.size, 0, none⟩) 0 0) [] rfl HOWN.out a l.length c l rfl HB1.out rfl hnone (by simp; omega) (by simp) ?_; intro v' w1 hown1 hg1 hnw1)
  rw [List.nil_append] at hown1
  obtain ⟨a', c', rfl, hlc, ha, hb, hob⟩ := hown1.len
  have hsz : w.heap.size + 1 ≤ w1.heap.size := by have := hg1.size; simpa using this
  have hK2 : Kp [] w w1 := HK1.out.trans' ((Kp.refl [w.heap.size] _).grown hg1 (by intro k hk; injection hk with hk; subst hk; simp)) (by intro x hx; simp at hx; subst hx; exact .inr (Nat.le_refl _))
  refine (bytesReader_any a' l.length c' w1).mono ?_
  rintro e w2 ⟨rfl, rfl⟩
  have hK3 : Kp [] w1 (w1.alloc (.cells #[.slice a' l.length c', .int .i64 0, .int .i64 (-1)] 130)) := (Kp.refl _ _).alloc _
  have hfin : ∃ da, SrcPost w (w1.alloc (.cells #[.slice a' l.length c', .int .i64 0, .int .i64 (-1)] 130)) l w1.heap.size da a' c' := by
    cases a' with
    | none => exact ⟨w.heap.size, Blk.new _ _ _, hb.kp hK3 (by simp), hlc, by omega, ⟨Nat.le_refl _, by omega, by simp; omega⟩, by simp, hK2.trans hK3⟩
    | some x => exact ⟨x.block, Blk.new _ _ _, hb.kp hK3 (by simp), hlc, by omega, ⟨(ha x rfl).1, by have := (ha x rfl).2; omega, by have := (ha x rfl).2; simp; omega⟩, by intro y hy; injection hy with hy; rw [hy], hK2.trans hK3⟩
  obtain ⟨da, hfin⟩ := hfin
  have HFIN := Lib.hid hfin
  clear hfin hown1 hg1 hnw1 hb ha hob hK2 hK3 hlc hsz
  go_wp2
  go_ret
  exact ⟨_, da, a', c', rfl, HFIN.out⟩
/-! ### bufio.NewReaderSize (71), reset (84) -/
set_option maxRecDepth 20000 in
set_option maxHeartbeats 400000 in
theorem reset_any (rb bb st : Nat) (w : World) (h : Blk w rb #[.slice none 0 0, .nilIface, .int .i64 0, .int .i64 0, .nilIface, .int .i64 0, .int .i64 0] 127) :
    Calls Tryz.prog 84 #[.pointer (some ⟨rb, 0, none⟩), .slice (some ⟨bb, 0, none⟩) 4096 4096, .iface 104 (.pointer (some ⟨st, 0, none⟩))] w fun e w' => e = .returned (.tuple #[]) ∧ Blk w' rb #[.slice (some ⟨bb, 0, none⟩) 4096 4096, .iface 104 (.pointer (some ⟨st, 0, none⟩)), .int .i64 0, .int .i64 0, .nilIface, .int .i64 (-1), .int .i64 (-1)] 127 ∧ Kp [rb] w w' ∧ w'.heap.size = w.heap.size := by
  have k := h.cell
  have f := h.free
  go_enter Tryz.func84, Tryz.ntmps84
  go_wp2
  go_end0
  exact ⟨rfl, ((((((h.set 0 _).set 1 _).set 2 _).set 3 _).set 4 _).set 5 _).set 6 _, (((((((Kp.refl _ _).setCell (.inl (by simp)) _).setCell (.inl (by simp)) _).setCell (.inl (by simp)) _).setCell (.inl (by simp)) _).setCell (.inl (by simp)) _).setCell (.inl (by simp)) _).setCell (.inl (by simp)) _, by simp⟩
theorem made_one (v : Value) (k : Nat) : madeCells #[v] k = Array.replicate k v := by
  apply Array.ext
  · simp [madeCells]
  · intro i h1 h2
    simp [madeCells, Nat.mod_one]
theorem make22 (k : Nat) (hk : k ≤ 1000000) (w : World) : (Instr.makeSlice 22 (.int .i64 k) (.int .i64 k)).run Tryz.prog w = .ok (.slice (some ⟨w.heap.size, 0, none⟩) k k) (w.alloc (.cells (encB (List.replicate k 0)) 5)) := by
  obtain ⟨i, h1, h2, h3, h4⟩ := ti5
  have := run_make (P := Tryz.prog) w 22 5 i _ elem22 h1 h2 .i64 .i64 (k : Int) (k : Int) (by omega) (Int.le_refl _) (by rw [h4]; omega) (by omega)
  have hc : (Value.int .u8 0).cells = #[Value.int .u8 0] := rfl
  rw [this, h3, hc, Nat.mul_one, Int.toNat_natCast, made_one]
  unfold encB B8
  simp
set_option maxRecDepth 20000 in
set_option maxHeartbeats 400000 in
theorem readerSize_any (st : Nat) (w : World) :
    Calls Tryz.prog 71 #[.iface 104 (.pointer (some ⟨st, 0, none⟩)), .int .i64 4096] w fun e w' => e = .returned (.pointer (some ⟨w.heap.size, 0, none⟩)) ∧ Blk w' w.heap.size #[.slice (some ⟨w.heap.size + 1, 0, none⟩) 4096 4096, .iface 104 (.pointer (some ⟨st, 0, none⟩)), .int .i64 0, .int .i64 0, .nilIface, .int .i64 (-1), .int .i64 (-1)] 127 ∧ BufB w' (w.heap.size + 1) (List.replicate 4096 0) ∧ Kp [] w w' ∧ w'.heap.size = w.heap.size + 2 := by
  have hmk : ∀ w : World, (Instr.makeSlice 22 (.int .i64 (max 4096 16)) (.int .i64 (max 4096 16))).run Tryz.prog w = .ok (.slice (some ⟨w.heap.size, 0, none⟩) 4096 4096) (w.alloc (.cells (encB (List.replicate 4096 0)) 5)) := by
    rw [show (max (4096 : Int) 16) = 4096 from rfl]
    exact make22 4096 (by omega)
  have hta : ∀ w : World, (Instr.typeAssert (.iface 104 (.pointer (some ⟨st, 0, none⟩))) 74 102 true).run Tryz.prog w = .ok (.tuple #[.pointer none, .bool false]) w := fun w => by kernel_rfl
  unfold BufB
  generalize (encB (List.replicate 4096 0)) = Z at hmk ⊢
  have hblk : Blk ((w.alloc (.cells #[.slice none 0 0, .nilIface, .int .i64 0, .int .i64 0, .nilIface, .int .i64 0, .int .i64 0] 127)).alloc (.cells Z 5)) w.heap.size #[.slice none 0 0, .nilIface, .int .i64 0, .int .i64 0, .nilIface, .int .i64 0, .int .i64 0] 127 := (Blk.new _ _ _).alloc _
  have hbuf : Blk ((w.alloc (.cells #[.slice none 0 0, .nilIface, .int .i64 0, .int .i64 0, .nilIface, .int .i64 0, .int .i64 0] 127)).alloc (.cells Z 5)) (w.heap.size + 1) Z 5 := by
    have := Blk.new (w.alloc (.cells #[.slice none 0 0, .nilIface, .int .i64 0, .int .i64 0, .nilIface, .int .i64 0, .int .i64 0] 127)) Z 5
    simpa using this
  have hkk : Kp [] w ((w.alloc (.cells #[.slice none 0 0, .nilIface, .int .i64 0, .int .i64 0, .nilIface, .int .i64 0, .int .i64 0] 127)).alloc (.cells Z 5)) := ((Kp.refl _ _).alloc _).alloc _
  have hcon := reset_any w.heap.size (w.heap.size + 1) st _ hblk
  have HBUF := Lib.hid hbuf
  have HKK := Lib.hid hkk
  clear hblk hbuf hkk
  go_enter Tryz.func71, Tryz.ntmps71
  go_wp2_with fail
  refine hcon.mono ?_
  rintro e w1 ⟨rfl, hb, hk, hs⟩
  have hbuf1 := Blk.kp HBUF.out hk (by simp)
  have hk1 := HKK.out.trans' hk (by intro x hx; simp at hx; subst hx; exact .inr (Nat.le_refl _))
  have hsz : w1.heap.size = w.heap.size + 2 := by rw [hs]; simp
  have HH := Lib.hid (And.intro hb (And.intro hbuf1 (And.intro hk1 hsz)))
  clear hb hk hs hbuf1 hk1 hsz hcon
  go_wp2
  go_ret
  exact ⟨rfl, HH.out⟩
end Go.Proofs.YtkbgnplknifmhaaGreatDoor
