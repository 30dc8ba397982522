/-
  A part of the proof: The body of a part: partReader.Read. partReader.Read. The laying of the shelf at this program: bytes.growSlice; its contract at heap level.
  Conditions: each contract's own.
-/
import Derived.Shelf.Bytes.GrowSlice
import Derived.Test.YtfajmapajpfocaaGreatDoorF8
import Derived.Test.YtfajmapajpfocaaGreatDoorF9
set_option linter.all false
namespace Go.Cps
open Go Go.Proofs
structure Errs (B : Nat) (ea ua : Addr) (H : Heap) : Prop where
  eof : EOFat H (.iface 138 (.pointer (some ea)))
  uef : ∃ t f, H[16]? = some (.cells #[.iface 138 (.pointer (some ua))] t f)
  ne : ea ≠ ua
  be : ea.block < B ∧ ∃ cs t, H[ea.block]? = some (.cells cs t (0, 0))
  bu : ua.block < B ∧ ∃ cs t, H[ua.block]? = some (.cells cs t (0, 0))
  b16 : 16 < B
  full : ∃ tt v t f, H[4]? = some (.cells #[.iface tt v] t f)
theorem Errs.frm {B : Nat} {ea ua : Addr} {H H' : Heap} {X : List Nat} (h : Errs B ea ua H) (f : Frm X H H') (hx : ∀ x ∈ X, B ≤ x) : Errs B ea ua H' := by
  have hn : ∀ k, k < B → k ∉ X := fun k hk hm => by have := hx k hm; omega
  have h16 := h.b16
  obtain ⟨h1, cs1, t1, g1⟩ := h.be
  obtain ⟨h2, cs2, t2, g2⟩ := h.bu
  obtain ⟨t3, f3, g3⟩ := h.uef
  exact ⟨h.eof.frm f (hn 0 (by omega)), ⟨t3, f3, f.get g3 (hn 16 h16)⟩, h.ne, ⟨h1, cs1, t1, f.get g1 (hn _ h1)⟩, ⟨h2, cs2, t2, f.get g2 (hn _ h2)⟩, h16, by obtain ⟨tt, v, t, fz, hf⟩ := h.full; exact ⟨tt, v, t, fz, f.get hf (hn 4 (by omega))⟩⟩
theorem Errs.load16 {B : Nat} {ea ua : Addr} {H : Heap} (h : Errs B ea ua H) : cellH H ⟨16, 0, none⟩ = some (.iface 138 (.pointer (some ua))) := by
  obtain ⟨t, f, h⟩ := h.uef
  rw [cellH_of h]; rfl
structure PF where
  hdr : Value
  disp : Value
  params : Value
  r : Value
def ptCells (P : PF) (mr : Nat) (n total : Nat) (ev rv : Value) : Array Value := #[P.hdr, .pointer (some ⟨mr, 0, none⟩), P.disp, P.params, P.r, .int .i64 n, .int .i64 total, ev, rv]
structure REnv where
  S : Stk
  mr : Nat
  tb : Nat
  m : MRf
  bd : List UInt8
  pt : Nat
  P : PF
  TP : TypeId
  B : Nat
  ea : Addr
  ua : Addr
  mode : Option (List UInt8)
def REnv.tail (e : REnv) : List UInt8 := match e.mode with | some t => nldOf e.bd ++ t | none => []
def REnv.E (e : REnv) : Value := .iface 138 (.pointer (some e.ea))
def REnv.U (e : REnv) : Value := .iface 138 (.pointer (some e.ua))
def REnv.rv (e : REnv) (re : Bool) : Value := if re then .iface 138 (.pointer (some e.ua)) else .nilIface
structure RB (e : REnv) (b : List UInt8) (n total : Nat) (ev : Sk) (re : Bool) (s : St) (H : Heap) : Prop where
  rd : RdAt e.S s H
  ma : MRAt e.S e.mr e.tb e.m e.bd H
  hp : H[e.pt]? = some (.cells (ptCells e.P e.mr n total (skV e.E e.U ev) (e.rv re)) e.TP (0, 0))
  er : Errs e.B e.ea e.ua H
  bdr : BdR e.bd
  rest : s.rest e.S = b ++ e.tail
  nw : Nowhere b (nldOf e.bd)
  t0 : total = 0 → (dashOf e.bd).isPrefixOf (b ++ e.tail) = false
  nb : n ≤ b.length
  nk : n ≤ s.w - s.r
  full : ∀ t, e.mode = some t → FullT t ∧ re = false ∧ ev ≠ .re ∧ (ev = .eof → n = b.length)
  cut : e.mode = none → ev ≠ .eof ∧ (re = true → s.pos = e.S.l.length)
  tot : total + b.length < 2 ^ 38
  low : ∀ x ∈ e.pt :: e.mr :: e.tb :: e.S.ids, e.B ≤ x
  hpt : e.pt ∉ e.mr :: e.tb :: e.S.ids
  hpv : blk e.S.v ≠ some e.pt
  hE : e.S.Et = 138 ∧ e.S.Ev = .pointer (some e.ea)
theorem RB.frm {e : REnv} {b : List UInt8} {n total : Nat} {ev : Sk} {re : Bool} {s : St} {H H' : Heap} {X : List Nat} (h : RB e b n total ev re s H) (f : Frm X H H') (hx : ∀ x ∈ X, e.B ≤ x ∧ x ∉ e.pt :: e.mr :: e.tb :: e.S.ids ∧ blk e.S.v ≠ some x) : RB e b n total ev re s H' := by
  have hn : ∀ x ∈ e.pt :: e.mr :: e.tb :: e.S.ids, x ∉ X := fun x hm hX => (hx x hX).2.1 hm
  have h0 : 0 ∉ X := fun hX => by
    have := (hx 0 hX).1
    have := h.er.b16
    omega
  exact { h with rd := h.rd.frm f (fun x hm => hn x (by simp [hm])) (fun x hm hX => (hx x hX).2.2 hm) h0, ma := h.ma.frm f (hn _ (by simp)) (hn _ (by simp)), hp := f.get h.hp (hn _ (by simp)), er := h.er.frm f (fun x hX => (hx x hX).1) }
theorem RB.step {e : REnv} {b : List UInt8} {n total : Nat} {ev : Sk} {re : Bool} {s s' : St} {H H' : Heap} (h : RB e b n total ev re s H) (hrd : RdAt e.S s' H') (f : Frm e.S.ids H H') (hr : s'.rest e.S = s.rest e.S) (hk : s.w - s.r ≤ s'.w - s'.r) (hpos : s.pos = e.S.l.length → s'.pos = e.S.l.length) : RB e b n total ev re s' H' := by
  have hnp : e.pt ∉ e.S.ids := fun hm => h.hpt (by simp [hm])
  exact { h with rd := hrd, ma := h.ma.ids f, hp := f.get h.hp hnp, er := h.er.frm f (fun x hm => h.low x (by simp [hm])), rest := hr.trans h.rest, nk := by have := h.nk; omega, cut := fun hc => ⟨(h.cut hc).1, fun hre => hpos ((h.cut hc).2 hre)⟩ }
theorem RB.put {e : REnv} {b : List UInt8} {n total : Nat} {ev : Sk} {re : Bool} {s : St} {H : Heap} {o : Nat} {v : Value} {K : Heap → Prop} (h : RB e b n total ev re s H) (ho : o < 9) (hv : isOne v = true) {n' total' : Nat} {ev' : Sk} {re' : Bool}
    (hc : (ptCells e.P e.mr n total (skV e.E e.U ev) (e.rv re)).setIfInBounds o v = ptCells e.P e.mr n' total' (skV e.E e.U ev') (e.rv re'))
    (hk : ∀ H', H'[e.pt]? = some (.cells (ptCells e.P e.mr n' total' (skV e.E e.U ev') (e.rv re')) e.TP (0, 0)) → RdAt e.S s H' → MRAt e.S e.mr e.tb e.m e.bd H' → Errs e.B e.ea e.ua H' → Frm [e.pt] H H' → H'.size = H.size → K H') :
    Get (store1V (.pointer (some ⟨e.pt, o, none⟩)) v H) K := by
  refine Store_of h.hp (by simpa [ptCells] using ho) hv fun H1 hb1 f1 z1 => ?_
  rw [hc] at hb1
  have h1 : e.pt ∉ e.S.ids := fun hm => h.hpt (by simp [hm])
  have h2 : e.pt ≠ e.mr := fun hm => h.hpt (by simp [hm])
  have h3 : e.pt ≠ e.tb := fun hm => h.hpt (by simp [hm])
  have h4 : e.B ≤ e.pt := h.low _ (by simp)
  have := h.er.b16
  refine hk H1 hb1 (h.rd.frm f1 (fun x hm => ?_) (fun x hm => ?_) (by simp; omega)) (h.ma.frm f1 (by simpa using h2.symm) (by simpa using h3.symm)) (h.er.frm f1 (fun x hm => by simp at hm; omega)) f1 z1
  · rw [List.mem_singleton]; intro he; exact h1 (he ▸ hm)
  · rw [List.mem_singleton]; intro he; exact h.hpv (by rw [hm, he])
theorem keep_of {e : REnv} {s : St} {H H' : Heap} (rd : RdAt e.S s H) (ma : MRAt e.S e.mr e.tb e.m e.bd H) (er : Errs e.B e.ea e.ua H) (low : ∀ x ∈ e.pt :: e.mr :: e.tb :: e.S.ids, e.B ≤ x) (hpt : e.pt ∉ e.mr :: e.tb :: e.S.ids) (hpv : blk e.S.v ≠ some e.pt)
    (f1 : Frm [e.pt] H H') : RdAt e.S s H' ∧ MRAt e.S e.mr e.tb e.m e.bd H' ∧ Errs e.B e.ea e.ua H' := by
  have h1 : e.pt ∉ e.S.ids := fun hm => hpt (by simp [hm])
  have h2 : e.pt ≠ e.mr := fun hm => hpt (by simp [hm])
  have h3 : e.pt ≠ e.tb := fun hm => hpt (by simp [hm])
  have h4 : e.B ≤ e.pt := low _ (by simp)
  have := er.b16
  refine ⟨rd.frm f1 (fun x hm => ?_) (fun x hm => ?_) (by simp; omega), ma.frm f1 (by simpa using h2.symm) (by simpa using h3.symm), er.frm f1 (fun x hm => by simp at hm; omega)⟩
  · rw [List.mem_singleton]; intro he; exact h1 (he ▸ hm)
  · rw [List.mem_singleton]; intro he; exact hpv (by rw [hm, he])
theorem RB.keep {e : REnv} {b : List UInt8} {n total : Nat} {ev : Sk} {re : Bool} {s : St} {H H' : Heap} (h : RB e b n total ev re s H) (f1 : Frm [e.pt] H H') : RdAt e.S s H' ∧ MRAt e.S e.mr e.tb e.m e.bd H' ∧ Errs e.B e.ea e.ua H' :=
  keep_of h.rd h.ma h.er h.low h.hpt h.hpv f1
def Sk.norm (re : Bool) : Sk → Sk
  | .re => if re then .re else .go
  | x => x
theorem norm_V (e : REnv) (re : Bool) (s : Sk) : skV e.E (e.rv re) s = skV e.E e.U (s.norm re) := by
  cases s <;> cases re <;> rfl
theorem skV_one (e : REnv) (s : Sk) : isOne (skV e.E e.U s) = true := by cases s <;> rfl
def Sk.isGo : Sk → Bool
  | .go => true
  | _ => false
theorem Sk.isGo_iff (s : Sk) : s.isGo = true ↔ s = .go := by cases s <;> simp [Sk.isGo]
theorem skV_nil (e : REnv) (s : Sk) : nilV2 .eql .nilIface (skV e.E e.U s) = some (.bool s.isGo) := by cases s <;> rfl
theorem skV_neq (e : REnv) (s : Sk) : nilV2 .neq .nilIface (skV e.E e.U s) = some (.bool (!s.isGo)) := by cases s <;> rfl
theorem Nowhere.drop {b p : List UInt8} (h : Nowhere b p) (m : Nat) : Nowhere (b.drop m) p := by
  intro i hi hh
  rw [List.length_drop] at hi
  rw [List.drop_drop] at hh
  by_cases hm : m ≤ b.length
  · exact h (m + i) (by omega) hh
  · have : p.length = 0 := by omega
    have hp : p = [] := List.eq_nil_of_length_eq_zero this
    subst hp
    exact h 0 (by simp) (by simp)
end Go.Cps
namespace Go.Cps
open Go Go.Proofs
theorem RB.push {e : REnv} {b : List UInt8} {n total : Nat} {ev : Sk} {re : Bool} {s : St} {H : Heap} (h : RB e b n total ev re s H) (o : Obj) : RB e b n total ev re s (H.push o) :=
  h.frm (Frm.push [] _ _) (by simp)
theorem RB.klen {e : REnv} {b : List UInt8} {n total : Nat} {ev : Sk} {re : Bool} {s : St} {H : Heap} (h : RB e b n total ev re s H) : s.w - s.r ≤ (b ++ e.tail).length := by
  rw [← h.rest, h.rd.rest_len]; omega
theorem RB.scan {e : REnv} {b : List UInt8} {total k : Nat} {re : Bool} {s : St} {sk : Sk} {H : Heap} (h : RB e b 0 total .go re s H) (ho : ScanOut ((b ++ e.tail).take (s.w - s.r)) (dashOf e.bd) (nldOf e.bd) ((total : Int) == 0) re k sk) :
    k ≤ b.length ∧ k ≤ s.w - s.r ∧ (∀ t, e.mode = some t → sk.norm re ≠ .re ∧ (sk.norm re = .eof → k = b.length)) ∧ (e.mode = none → sk.norm re ≠ .eof) ∧
      (k = 0 → sk.norm re = .go → re = false ∧ s.w - s.r ≤ e.bd.length + 5 ∧ (∀ t, e.mode = some t → s.w - s.r < (b ++ e.tail).length)) := by
  have hk := h.klen
  cases hm : e.mode with
  | some t =>
    obtain ⟨ht, hre, _, _⟩ := h.full t hm
    subst hre
    have ht2 : e.tail = nldOf e.bd ++ t := by simp [REnv.tail, hm]
    rw [ht2, ← List.append_assoc] at ho hk
    obtain ⟨h1, h2, h3, h4⟩ := scan_full h.bdr h.nw ht hk ho
    refine ⟨h1, h2, fun t' _ => ⟨by cases sk <;> simp [Sk.norm], fun hh => h3 (by cases sk <;> simp [Sk.norm] at hh ⊢)⟩, (fun hh => by cases hh), fun hk0 hgo => ?_⟩
    obtain ⟨h5, h6⟩ := h4 (by intro hh; subst hh; simp [Sk.norm] at hgo) hk0
    refine ⟨rfl, h6, fun t' _ => ?_⟩
    rw [ht2, ← List.append_assoc]
    exact h5
  | none =>
    have ht2 : e.tail = [] := by simp [REnv.tail, hm]
    rw [ht2, List.append_nil] at ho hk
    obtain ⟨h1, h2, h3⟩ := scan_cut h.nw hk ho
    refine ⟨by omega, h1, (fun t' hh => by cases hh), fun _ => by cases sk <;> simp [Sk.norm] at h2 ⊢; cases re <;> simp, fun hk0 hgo => ?_⟩
    obtain ⟨rfl, h5⟩ := h3 hk0
    refine ⟨by cases re <;> simp [Sk.norm] at hgo ⊢, h5, (fun t' hh => by cases hh)⟩
theorem partReadAt_ok {e : REnv} {b : List UInt8} {n total : Nat} {ev : Sk} {re : Bool} {s : St} {H : Heap} {a0 : Value} {db o dn dc : Nat} {cs : Array Value} {t : TypeId}
    (ha : Value.cells a0 = #[.pointer (some ⟨e.pt, 0, none⟩)]) (h : RB e b n total ev re s H) (hd : H[db]? = some (.cells cs t (0, 0))) (hdn : o + dn ≤ cs.size) (hdc : dn ≤ dc) (h0 : 0 < dn) (hd38 : dn < 2 ^ 38)
    (hdb : db ∉ e.pt :: e.mr :: e.tb :: e.S.ids) (hdB : e.B ≤ db) (hdv : blk e.S.v ≠ some db) :
    CallsH Tryz.prog 225 #[a0, .slice (some ⟨db, o, none⟩) dn dc] H fun x H' => ∃ (k n' total' : Nat) (ev' : Sk) (re' : Bool) (s' : St), x = .tuple #[.int .i64 k, skV e.E e.U (if n' = 0 then ev' else .go)] ∧ k ≤ dn ∧ k ≤ b.length ∧ RB e (b.drop k) n' total' ev' re' s' H' ∧
      H'[db]? = some (.cells (putAt cs o ((b.take k).map byteV)) t (0, 0)) ∧ Frm (db :: e.pt :: e.S.ids) H H' ∧ (n' = 0 → ev' = .go → 0 < k) ∧ (k = 0 → n' = 0) := by
  have hdp : db ≠ e.pt := fun hh => hdb (by simp [hh])
  have hdi : db ∉ e.S.ids := fun hh => hdb (by simp [hh])
  have hd0 : db ≠ 0 := by have := h.er.b16; omega
  apply s225
  simp only [c225, New, Q0, Q1, Q2, Q3, Q4, Q5, Q6, Q7, Q8, Q9, Qa, Qb, Qc, Qd, Qe, Qf, Qg, Qh, Qi, Qj, ha]
  have hp0 := push_same H (.cells #[.pointer (some ⟨e.pt, 0, none⟩)] 189 (0, 0))
  have hB := h.push (.cells #[.pointer (some ⟨e.pt, 0, none⟩)] 189 (0, 0))
  have hd1 : (H.push (.cells #[.pointer (some ⟨e.pt, 0, none⟩)] 189 (0, 0)))[db]? = some (.cells cs t (0, 0)) := push_old hd
  have hf0 : Frm (db :: e.pt :: e.S.ids) H (H.push (.cells #[.pointer (some ⟨e.pt, 0, none⟩)] 189 (0, 0))) := Frm.push _ _ _
  generalize hH0 : H.push (.cells #[.pointer (some ⟨e.pt, 0, none⟩)] 189 (0, 0)) = H0 at *
  simp only [Q0, Q1, Q2, Q3, Q4, Q5, Q6, Q7, Q8, Q9, Qa, Qb, Qc, Qd, Qe, Qf, Qg, Qh, Qi, Qj, cellH_of hp0, cellH_of hB.hp, ptCells, cellH_of hB.ma.hm, MRf.cells, hB.ma.hbr]
  refine ⟨fun μ vs H1 => ∃ n ev re s, vs = [] ∧ μ = 2 * (((b ++ e.tail).length - (s.w - s.r)) + (if re then 0 else 1)) + (if (n == 0 && ev.isGo) then 1 else 0) ∧ RB e b n total ev re s H1 ∧ Frm (e.pt :: e.S.ids) H0 H1,
    ⟨_, n, ev, re, s, rfl, rfl, hB, Frm.refl _ _⟩, ?_⟩
  clear hB h
  rintro μ vs H1 ⟨n, ev, re, s, rfl, rfl, h1, f1⟩
  have hrl := h1.rd.rest_len
  rw [h1.rest] at hrl
  have hrw := h1.rd.rw
  have hw4 := h1.rd.w4
  have hd2 : H1[db]? = some (.cells cs t (0, 0)) := f1.get hd1 (by
    intro hh
    rcases List.mem_cons.1 hh with hh | hh
    · exact hdp hh
    · exact hdi hh)
  refine ⟨fun vs H' => H' = H1 ∧ vs = [.bool (n == 0 && ev.isGo)], ?_, ?_⟩
  · have z : (((n : Nat) : Int) == 0) = (n == 0) := by
      rw [Bool.eq_iff_iff, beq_iff_eq, beq_iff_eq]; omega
    simp only [Q0, Q1, Q2, Q3, Q4, Q5, Q6, Q7, Q8, Q9, Qa, Qb, Qc, Qd, Qe, Qf, Qg, Qh, Qi, Qj, Qk, Ql, Qm, Qn, Qo, Qp, Qq, Qr, Qs, cellH_of h1.hp, ptCells, z, skV_nil]
    refine Br_intro (fun hh => ?_) (fun hh => ?_) <;> simp only [Q0, Q1, Q2, Q3, Q4, Q5, Q6, Q7, Q8, Q9, Qa, Qb, Qc, Qd, Qe, Qf, Qg, Qh, Qi, Qj, hh, if_true, Bool.false_eq_true, if_false] <;> simp
  · rintro _ H1 ⟨rfl, rfl⟩
    simp only [Q0, Q1, Q2, Q3, Q4, Q5, Q6, Q7, Q8, Q9, Qa, Qb, Qc, Qd, Qe, Qf, Qg, Qh, Qi, Qj]
    refine Br_intro (fun hc => ?_) (fun hc => ?_)
    · -- nothing is known: scan
      simp only [Bool.and_eq_true, beq_iff_eq] at hc
      obtain ⟨rfl, hev⟩ := hc
      have hev' : ev = .go := ev.isGo_iff.1 hev
      subst hev'
      refine (buffered_ok h1.rd).mono ?_
      rintro x H2 ⟨rfl, rfl⟩
      refine (peek_ok h1.rd (n := s.w - s.r) (by omega)).mono ?_
      rintro x H3 ⟨u, s3, rfl, hpk⟩
      obtain ⟨eb, er, ew, ee, ep⟩ := hpk.same (Nat.le_refl _)
      have h3 : RB e b 0 total .go re s3 H3 := h1.step hpk.rd hpk.frm hpk.rest hpk.grown (fun hh => by rw [ep]; exact hh)
      have hwr : s3.w - s3.r = s.w - s.r := by rw [er, ew]
      have hub := hpk.bytes
      rw [h1.rest] at hub
      simp only [Q0, Q1, Q2, Q3, Q4, Q5, Q6, Q7, Q8, Q9, Qa, Qb, Qc, Qd, Qe, Qf, Qg, Qh, Qi, Qj, cellH_of h3.hp, ptCells, cellH_of h3.ma.hm, MRf.cells]
      have hdash := h3.ma.dash
      have hnld := h3.ma.nld
      have hul : ((b ++ e.tail).take (s.w - s.r)).length = s.w - s.r := by rw [List.length_take]; omega
      have hdl := dashOf_length e.bd
      have hnl := nldOf_length e.bd
      have hbl := h1.bdr.len
      have htot := h1.tot
      refine (scan_ok (t := 138) (x := .pointer (some e.ua)) (E := e.E) (re := re) hub hdash hnld (by cases re <;> rfl) h3.er.eof (fun ht => ?_) (by rw [hul]; omega) (by show (nldOf e.bd).length < _; omega) ⟨_, rfl⟩).mono ?_
      · have h5 := h1.t0 (by omega)
        rw [← Bool.not_eq_true, List.isPrefixOf_iff_prefix] at h5 ⊢
        exact fun hh => h5 (hh.trans (List.take_prefix _ _))
      rintro x H4 ⟨rfl, k, sk, rfl, hout⟩
      rw [← hwr] at hout
      obtain ⟨k1, k2, k3, k4, k5⟩ := h3.scan hout
      simp only [Q0, Q1, Q2, Q3, Q4, Q5, Q6, Q7, Q8, Q9, Qa, Qb, Qc, Qd, Qe, Qf, Qg, Qh, Qi, Qj]
      refine h3.put (n' := k) (total' := total) (ev' := .go) (re' := re) (by omega) rfl (by simp only [ptCells, Qt, Qu, Qv]) fun H5 hp5 rd5 ma5 er5 f5 z5 => ?_
      have h5 : RB e b k total .go re s3 H5 := { h3 with rd := rd5, ma := ma5, hp := hp5, er := er5, nb := k1, nk := k2, full := fun t ht => ⟨(h3.full t ht).1, (h3.full t ht).2.1, by simp, by simp⟩ }
      rw [norm_V e re sk]
      refine h5.put (n' := k) (total' := total) (ev' := sk.norm re) (re' := re) (by omega) (skV_one e _) (by simp only [ptCells, Qt, Qu, Qv]) fun H6 hp6 rd6 ma6 er6 f6 z6 => ?_
      have h6 : RB e b k total (sk.norm re) re s3 H6 := { h5 with rd := rd6, ma := ma6, hp := hp6, er := er6, full := fun t ht => ⟨(h3.full t ht).1, (h3.full t ht).2.1, (k3 t ht).1, (k3 t ht).2⟩, cut := fun hc => ⟨k4 hc, (h5.cut hc).2⟩ }
      have f36 : Frm (e.pt :: e.S.ids) H0 H6 := ((f1.trans (hpk.frm.mono (fun x hx => List.mem_cons_of_mem _ hx))).trans (f5.mono (by simp))).trans (f6.mono (by simp))
      refine ⟨fun vs H' => H' = H6 ∧ vs = [.bool (k == 0 && (sk.norm re).isGo)], ?_, ?_⟩
      · have z : (((k : Nat) : Int) == 0) = (k == 0) := by
          rw [Bool.eq_iff_iff, beq_iff_eq, beq_iff_eq]; omega
        simp only [Q0, Q1, Q2, Q3, Q4, Q5, Q6, Q7, Q8, Q9, Qa, Qb, Qc, Qd, Qe, Qf, Qg, Qh, Qi, Qj, Qk, Ql, Qm, Qn, Qo, Qp, Qq, Qr, Qs, cellH_of h6.hp, ptCells, z, skV_nil]
        refine Br_intro (fun hh => ?_) (fun hh => ?_) <;> simp only [Q0, Q1, Q2, Q3, Q4, Q5, Q6, Q7, Q8, Q9, Qa, Qb, Qc, Qd, Qe, Qf, Qg, Qh, Qi, Qj, hh, if_true, Bool.false_eq_true, if_false] <;> simp
      · rintro _ H6 ⟨rfl, rfl⟩
        simp only [Q0, Q1, Q2, Q3, Q4, Q5, Q6, Q7, Q8, Q9, Qa, Qb, Qc, Qd, Qe, Qf, Qg, Qh, Qi, Qj]
        refine Br_intro (fun hc => ?_) (fun hc => ?_)
        · simp only [Bool.and_eq_true, beq_iff_eq] at hc
          obtain ⟨rfl, hnn⟩ := hc
          have hgo : sk.norm re = .go := (Sk.isGo_iff _).1 hnn
          obtain ⟨hre, h100, hfull⟩ := k5 rfl hgo
          subst hre
          rw [hgo] at h6
          have hulen := hub.len
          rw [hul] at hulen
          have e1 : IntKind.i64.wrap (((s.w - s.r : Nat) : Int) + 1) = ((s.w - s.r + 1 : Nat) : Int) := by rw [wrap_i64 (by omega) (by omega)]; omega
          simp only [hulen, Q0, Q1, Q2, Q3, Q4, Q5, Q6, Q7, Q8, Q9, Qa, Qb, Qc, Qd, Qe, Qf, Qg, Qh, Qi, Qj, Qk, Ql, Qm, Qn, Qo, Qp, Qq, Qr, Qs, e1]
          refine (peek_ok h6.rd (n := s.w - s.r + 1) (by omega)).mono ?_
          rintro x H7 ⟨u7, s7, rfl, hp7⟩
          have hrl7 := hp7.rd.rest_len
          rw [hp7.rest, h6.rest] at hrl7
          have hgr := hp7.grown
          have hen := hp7.enough
          rw [h6.rest] at hen
          have h7 : RB e b 0 total .go false s7 H7 := h6.step hp7.rd hp7.frm hp7.rest hp7.grown (fun hh => by
            have := hp7.rd.pl
            have h8 := h6.rd.rest_len
            rw [h6.rest] at h8
            have := h6.rd.rw
            have := hp7.rd.rw
            omega)
          rw [h6.rest]
          simp only [Q0, Q1, Q2, Q3, Q4, Q5, Q6, Q7, Q8, Q9, Qa, Qb, Qc, Qd, Qe, Qf, Qg, Qh, Qi, Qj]
          by_cases hlt : (b ++ e.tail).length < s.w - s.r + 1
          · have hE2 : e.S.er (decide ((b ++ e.tail).length < s.w - s.r + 1)) = .iface 138 (.pointer (some e.ea)) := by
              rw [decide_eq_true hlt, er_true, h7.hE.1, h7.hE.2]
            rw [hE2]
            refine Store_of h7.hp (by simp [ptCells]) rfl fun H8 hb8 f8 z8 => ?_
            simp only [ptCells, Qt, Qu, Qv] at hb8
            obtain ⟨rd8, ma8, er8⟩ := h7.keep f8
            simp only [Q0, Q1, Q2, Q3, Q4, Q5, Q6, Q7, Q8, Q9, Qa, Qb, Qc, Qd, Qe, Qf, Qg, Qh, Qi, Qj, cellH_of hb8, er8.eof.load, eq_same, er8.load16]
            refine Store_of hb8 (by simp) rfl fun H9 hb9 f9 z9 => ?_
            simp only [Qt, Qu, Qv] at hb9
            obtain ⟨rd9, ma9, er9⟩ := h7.keep (f8.trans f9)
            have hnone : e.mode = none := by
              cases hm : e.mode with
              | none => rfl
              | some t => have := hfull t hm; omega
            have h9 : RB e b 0 total .go true s7 H9 := { h7 with rd := rd9, ma := ma9, hp := hb9, er := er9, full := (fun t ht => by rw [hnone] at ht; cases ht), cut := fun _ => ⟨by simp, fun _ => (hp7.ended (by rw [h6.rest]; exact hlt)).1⟩ }
            refine ⟨_, ?_, 0, .go, true, s7, trivial, rfl, h9, ((f36.trans (hp7.frm.mono (fun x hx => List.mem_cons_of_mem _ hx))).trans (f8.mono (by simp))).trans (f9.mono (by simp))⟩
            have := hp7.rd.rw
            simp [Sk.isGo]
            omega
          · have hE2 : e.S.er (decide ((b ++ e.tail).length < s.w - s.r + 1)) = .nilIface := by
              rw [decide_eq_false hlt, er_false]
            rw [hE2]
            refine h7.put (n' := 0) (total' := total) (ev' := .go) (re' := false) (by omega) rfl (by simp only [ptCells, Qt, Qu, Qv]; rfl) fun H8 hp8 rd8 ma8 er8 f8 z8 => ?_
            have h8 : RB e b 0 total .go false s7 H8 := { h7 with rd := rd8, ma := ma8, hp := hp8, er := er8 }
            have hrv : e.rv false = .nilIface := rfl
            simp only [Q0, Q1, Q2, Q3, Q4, Q5, Q6, Q7, Q8, Q9, Qa, Qb, Qc, Qd, Qe, Qf, Qg, Qh, Qi, Qj, cellH_of h8.hp, ptCells, hrv, er8.eof.load, eq_nil]
            refine ⟨_, ?_, 0, .go, false, s7, trivial, rfl, h8, (f36.trans (hp7.frm.mono (fun x hx => List.mem_cons_of_mem _ hx))).trans (f8.mono (by simp))⟩
            have := hp7.rd.rw
            have h4 : min (s.w - s.r + 1) (b ++ e.tail).length ≤ s7.w - s7.r := hen
            simp [Sk.isGo] at hlt ⊢
            rw [List.length_append] at h4
            omega
        · refine ⟨_, ?_, k, _, re, s3, trivial, rfl, h6, f36⟩
          rw [hc, hwr]
          simp [Sk.isGo]
    · have z : ∀ k : Nat, (((k : Nat) : Int) == 0) = (k == 0) := fun k => by
        rw [Bool.eq_iff_iff, beq_iff_eq, beq_iff_eq]; omega
      have f01 : Frm (db :: e.pt :: e.S.ids) H H1 := hf0.trans (f1.mono (fun x hx => List.mem_cons_of_mem _ hx))
      have htot := h1.tot
      simp only [Q0, Q1, Q2, Q3, Q4, Q5, Q6, Q7, Q8, Q9, Qa, Qb, Qc, Qd, Qe, Qf, Qg, Qh, Qi, Qj, Qk, Ql, Qm, Qn, Qo, Qp, Qq, Qr, Qs, cellH_of h1.hp, ptCells, z]
      refine Br_intro (fun hn0 => ?_) (fun hn0 => ?_)
      · have hn : n = 0 := by simpa using hn0
        subst hn
        have hev : ev ≠ .go := by
          rintro rfl
          simp [Sk.isGo] at hc
        exact ⟨0, 0, total, ev, re, s, rfl, Nat.zero_le _, Nat.zero_le _, h1, hd2, f01, fun _ hh => absurd hh hev, fun _ => rfl⟩
      · have hn : 0 < n := by
          rcases Nat.eq_zero_or_pos n with h | h
          · rw [h] at hn0; simp at hn0
          · exact h
        have hnb := h1.nb
        have hnk := h1.nk
        refine ⟨fun vs H' => vs = [.int .i64 ((min dn n : Nat) : Int)] ∧ H' = H1, ?_, ?_⟩
        · refine Br_intro (fun hh => ?_) (fun hh => ?_) <;> simp at hh ⊢ <;> omega
        · rintro _ H1 ⟨rfl, rfl⟩
          generalize hk : min dn n = k
          have hk0 : 0 < k := by omega
          have hkb : k ≤ b.length := by omega
          simp only [Q0, Q1, Q2, Q3, Q4, Q5, Q6, Q7, Q8, Q9, Qa, Qb, Qc, Qd, Qe, Qf, Qg, Qh, Qi, Qj]
          rw [sliceV_hi (by omega), Q6]
          refine (read_ok h1.rd hd2 hdi hdv hd0 (by omega) hk0 (by omega)).mono ?_
          rintro x H2 ⟨s2, rfl, rd2, hr2, he2, hp2, hw2, hrr2, hdb2, f2, z2⟩
          rw [h1.rest] at hr2 hdb2
          rw [List.take_append_of_le_length hkb] at hdb2
          rw [List.drop_append_of_le_length hkb] at hr2
          have hnx : ∀ x ∈ e.pt :: e.mr :: e.tb :: [], x ∉ db :: e.S.ids := by
            intro x hx hm
            rcases List.mem_cons.1 hm with rfl | hm
            · exact hdb (by simp at hx; simp; omega)
            · simp only [List.mem_cons, List.not_mem_nil, or_false] at hx
              rcases hx with rfl | rfl | rfl
              · exact h1.hpt (by simp [hm])
              · exact h1.ma.hmr hm
              · exact h1.ma.ht (by simp [hm])
          have hp2' := f2.get h1.hp (hnx _ (by simp))
          have ma2 := h1.ma.frm f2 (hnx _ (by simp)) (hnx _ (by simp))
          have er2 := h1.er.frm f2 (fun x hx => by
            rcases List.mem_cons.1 hx with rfl | hx
            · exact hdB
            · exact h1.low x (by simp [hx]))
          have e1 : IntKind.i64.wrap ((total : Int) + (k : Int)) = ((total + k : Nat) : Int) := by rw [wrap_i64 (by omega) (by omega)]; omega
          have e2 : IntKind.i64.wrap ((n : Int) - (k : Int)) = ((n - k : Nat) : Int) := by rw [wrap_i64 (by omega) (by omega)]; omega
          simp only [Q0, Q1, Q2, Q3, Q4, Q5, Q6, Q7, Q8, Q9, Qa, Qb, Qc, Qd, Qe, Qf, Qg, Qh, Qi, Qj, Qk, Ql, Qm, Qn, Qo, Qp, Qq, Qr, Qs, cellH_of hp2', ptCells, e1]
          refine Store_of hp2' (by simp [ptCells]) rfl fun H3 hp3 f3 z3 => ?_
          simp only [ptCells, Qt, Qu, Qv] at hp3
          simp only [Q0, Q1, Q2, Q3, Q4, Q5, Q6, Q7, Q8, Q9, Qa, Qb, Qc, Qd, Qe, Qf, Qg, Qh, Qi, Qj, Qk, Ql, Qm, Qn, Qo, Qp, Qq, Qr, Qs, cellH_of hp3, e2]
          refine Store_of hp3 (by simp) rfl fun H4 hp4 f4 z4 => ?_
          simp only [Qt, Qu, Qv] at hp4
          obtain ⟨rd4, ma4, er4⟩ := keep_of rd2 ma2 er2 h1.low h1.hpt h1.hpv (f3.trans f4)
          have hdb4 := (f3.trans f4).get hdb2 (by simpa using hdp)
          have f14 : Frm (db :: e.pt :: e.S.ids) H1 H4 := (f2.mono (fun x hx => by simp at hx ⊢; rcases hx with h | h <;> simp [h])).trans ((f3.trans f4).mono (by simp))
          have h4 : RB e (b.drop k) (n - k) (total + k) ev re s2 H4 :=
            { rd := rd4, ma := ma4, hp := hp4, er := er4, bdr := h1.bdr, rest := hr2, nw := h1.nw.drop k, t0 := fun h => by omega, nb := by rw [List.length_drop]; omega, nk := by omega
              full := fun t ht => ⟨(h1.full t ht).1, (h1.full t ht).2.1, (h1.full t ht).2.2.1, fun hh => by rw [List.length_drop, (h1.full t ht).2.2.2 hh]⟩
              cut := fun hc => ⟨(h1.cut hc).1, fun hh => by rw [hp2]; exact (h1.cut hc).2 hh⟩
              tot := by rw [List.length_drop]; omega
              low := h1.low, hpt := h1.hpt, hpv := h1.hpv, hE := h1.hE }
          simp only [Q0, Q1, Q2, Q3, Q4, Q5, Q6, Q7, Q8, Q9, Qa, Qb, Qc, Qd, Qe, Qf, Qg, Qh, Qi, Qj, Qk, Ql, Qm, Qn, Qo, Qp, Qq, Qr, Qs, cellH_of hp4, z]
          refine Br_intro (fun hh => ?_) (fun hh => ?_)
          · refine ⟨k, n - k, total + k, ev, re, s2, ?_, by omega, hkb, h4, hdb4, f01.trans f14, fun _ _ => hk0, fun hh => by omega⟩
            have : n - k = 0 := by simpa using hh
            rw [if_pos this]
          · refine ⟨k, n - k, total + k, ev, re, s2, ?_, by omega, hkb, h4, hdb4, f01.trans f14, fun _ _ => hk0, fun hh => by omega⟩
            have : n - k ≠ 0 := by simpa using hh
            rw [if_neg this]
            rfl
theorem partRead_ok {e : REnv} {b : List UInt8} {n total : Nat} {ev : Sk} {re : Bool} {s : St} {H : Heap} {a0 : Value} {db dn dc : Nat} {cs : Array Value} {t : TypeId}
    (ha : Value.cells a0 = #[.pointer (some ⟨e.pt, 0, none⟩)]) (h : RB e b n total ev re s H) (hd : H[db]? = some (.cells cs t (0, 0))) (hdn : dn ≤ cs.size) (hdc : dn ≤ dc) (h0 : 0 < dn) (hd38 : dn < 2 ^ 38)
    (hdb : db ∉ e.pt :: e.mr :: e.tb :: e.S.ids) (hdB : e.B ≤ db) (hdv : blk e.S.v ≠ some db) :
    CallsH Tryz.prog 225 #[a0, .slice (some ⟨db, 0, none⟩) dn dc] H fun x H' => ∃ (k n' total' : Nat) (ev' : Sk) (re' : Bool) (s' : St), x = .tuple #[.int .i64 k, skV e.E e.U (if n' = 0 then ev' else .go)] ∧ k ≤ dn ∧ k ≤ b.length ∧ RB e (b.drop k) n' total' ev' re' s' H' ∧
      H'[db]? = some (.cells (putAt cs 0 ((b.take k).map byteV)) t (0, 0)) ∧ Frm (db :: e.pt :: e.S.ids) H H' ∧ (n' = 0 → ev' = .go → 0 < k) ∧ (k = 0 → n' = 0) :=
  partReadAt_ok (o := 0) ha h hd (by omega) hdc h0 hd38 hdb hdB hdv
end Go.Cps
namespace Go.Cps
open Go Go.Proofs Go.Shelf
set_option maxRecDepth 100000
def lay290_ren : Ren := ⟨fun x => match x with | 290 => 103 | 324 => 122 | n => n, fun x => match x with | 37 => 23 | 3 => 3 | 0 => 0 | 4 => 4 | 20 => 20 | 75 => 60 | 5 => 5 | 80 => 217 | 9 => 9 | n => n, fun x => match x with | 14 => 1 | n => n⟩
theorem lay290 : LaysM.n290 Tryz.prog lay290_ren :=
  { mixed := by kernel_rfl,
    f290 := by kernel_rfl,
    f324 := by kernel_rfl,
    t0 := by kernel_rfl,
    a0 := fun _ => by kernel_rfl,
    z0 := fun _ => by kernel_rfl,
    v0 := fun _ => by kernel_rfl,
    t3 := by kernel_rfl,
    a3 := fun _ => by kernel_rfl,
    z3 := fun _ => by kernel_rfl,
    v3 := fun _ => by kernel_rfl,
    t4 := by kernel_rfl,
    a4 := fun _ => by kernel_rfl,
    z4 := fun _ => by kernel_rfl,
    v4 := fun _ => by kernel_rfl,
    t20 := by kernel_rfl,
    a20 := fun _ => by kernel_rfl,
    z20 := fun _ => by kernel_rfl,
    v20 := fun _ => by kernel_rfl,
    t37 := by kernel_rfl,
    a37 := fun _ => by kernel_rfl,
    z37 := fun _ => by kernel_rfl,
    v37 := fun _ => by kernel_rfl,
    t75 := by kernel_rfl,
    a75 := fun _ => by kernel_rfl,
    z75 := fun _ => by kernel_rfl,
    v75 := fun _ => by kernel_rfl,
    g14 := by kernel_rfl,
    t5 := by kernel_rfl,
    a5 := fun _ => by kernel_rfl,
    z5 := fun _ => by kernel_rfl,
    v5 := fun _ => by kernel_rfl,
    t9 := by kernel_rfl,
    a9 := fun _ => by kernel_rfl,
    z9 := fun _ => by kernel_rfl,
    v9 := fun _ => by kernel_rfl,
    t80 := by kernel_rfl,
    a80 := fun _ => by kernel_rfl,
    z80 := fun _ => by kernel_rfl,
    v80 := fun _ => by kernel_rfl,
    i0 := by kernel_rfl,
    i3 := by kernel_rfl,
    i4 := by kernel_rfl,
    i5 := by kernel_rfl,
    i9 := by kernel_rfl,
    i20 := by kernel_rfl,
    i37 := by kernel_rfl,
    i75 := by kernel_rfl,
    i80 := by kernel_rfl,
    m14 := by kernel_rfl }
theorem below_frm {w w' : World} {H : Heap} (hw : w.heap = H) (h : Go.RowKit.Below w.heap.size w w') : Same w w' ∧ Frm [] H w'.heap := by
  subst hw
  exact ⟨⟨h.os, h.tape, h.output⟩, h.size, fun k hk _ => h.block k hk⟩
theorem growSlice_ok {g l c n : Nat} {cur : Array Value} {H : Heap} (hg : H[g]? = some (.cells cur 5 (0, 0))) (hcs : cur.size = c) (hlc : l ≤ c) (hn : 1 ≤ n) (hlim : l + n ≤ 2 ^ 46) (hc2 : c ≤ 2 ^ 46) (h1 : ∀ v ∈ cur.toList.take l, v.oneCell' = true) :
    CallsH Tryz.prog 103 #[.slice (some ⟨g, 0, none⟩) l c, .int .i64 n] H fun x H' => ∃ cap2 cells, x = .slice (some ⟨H.size, 0, none⟩) l cap2 ∧ H'[H.size]? = some (.cells cells 5 (0, 0)) ∧ cells.size = cap2 ∧ cells.toList.take l = cur.toList.take l ∧ l + n ≤ cap2 ∧ cap2 ≤ maxLen ∧ Frm [] H H' := by
  intro w hw
  subst hw
  refine (Any.bytes_growSlice_row lay290 g l c n cur w hg hcs hlc hn (by omega) (by omega) h1).mono ?_
  rintro e w' ⟨cap2, cells, rfl, h2, h3, h4, h5, h6, hb⟩
  obtain ⟨hs, hf⟩ := below_frm rfl hb
  exact ⟨_, rfl, hs, cap2, cells, rfl, h2, h3, h4, h5, h6, hf⟩
theorem growNil_ok {n : Nat} {H : Heap} (hn : 1 ≤ n) (hlim : n ≤ 2 ^ 46) :
    CallsH Tryz.prog 103 #[.slice none 0 0, .int .i64 n] H fun x H' => ∃ cap2 cells, x = .slice (some ⟨H.size, 0, none⟩) 0 cap2 ∧ H'[H.size]? = some (.cells cells 5 (0, 0)) ∧ cells.size = cap2 ∧ n ≤ cap2 ∧ cap2 ≤ maxLen ∧ Frm [] H H' := by
  intro w hw
  subst hw
  refine (Any.bytes_growSlice_nil lay290 n w hn (by omega)).mono ?_
  rintro e w' ⟨cap2, cells, rfl, h2, h3, h4, h6, hb⟩
  obtain ⟨hs, hf⟩ := below_frm rfl hb
  exact ⟨_, rfl, hs, cap2, cells, rfl, h2, h3, h4, h6, hf⟩
end Go.Cps
