/-
  A part of the proof: The stack of readers under a multipart Reader: bufio.Reader over the sticky reader over bytes.Reader; its state; sticky Read; fill. bufio.Reader: fill, readErr, Buffered. bufio.Reader: ReadSlice by lines.
  Conditions: each contract's own.
-/
import Derived.Test.YteajpfckbnfdaaaGreatDoorH6
set_option linter.all false
namespace Go.Cps
open Go Go.Proofs
def spl (buf : List UInt8) (o : Nat) (m : List UInt8) : List UInt8 := buf.take o ++ m ++ buf.drop (o + m.length)
theorem spl_nil (buf : List UInt8) (o : Nat) : spl buf o [] = buf := by simp [spl]
theorem spl_length {buf : List UInt8} {o : Nat} {m : List UInt8} (h : o + m.length ≤ buf.length) : (spl buf o m).length = buf.length := by
  simp [spl]; omega
theorem spl_take {buf : List UInt8} {o : Nat} {m : List UInt8} (h : o + m.length ≤ buf.length) : (spl buf o m).take (o + m.length) = buf.take o ++ m := by
  rw [spl, List.take_left']
  simp; omega
theorem putAt_spl {buf : List UInt8} {o : Nat} {m : List UInt8} (h : o + m.length ≤ buf.length) : putAt (buf.map byteV).toArray o (m.map byteV) = ((spl buf o m).map byteV).toArray := by
  apply Array.ext_getElem?
  intro i
  rw [putAt_get _ _ _ _ (by simpa using h)]
  simp only [List.length_map, List.getElem?_toArray, List.getElem?_map, spl]
  have hl : (buf.take o).length = o := by simp; omega
  by_cases h1 : i < o
  · rw [if_neg (by omega), List.append_assoc, List.getElem?_append_left (by omega), List.getElem?_take, if_pos h1]
  · by_cases h2 : i < o + m.length
    · rw [if_pos ⟨by omega, h2⟩, List.append_assoc, List.getElem?_append_right (by omega), hl, List.getElem?_append_left (by omega)]
    · rw [if_neg (by omega), List.getElem?_append_right (by simp; omega), List.getElem?_drop]
      congr 2
      simp; omega
structure Stk where
  b : Nat
  bf : Nat
  st : Nat
  br : Nat
  tb : TypeId
  tbf : TypeId
  ts : TypeId
  tr : TypeId
  v : Value
  l : List UInt8
  Et : TypeId
  Ev : Value
structure St where
  buf : List UInt8
  r : Nat
  w : Nat
  pos : Nat
  err : Bool
  serr : Bool
  lb : Int
  lr : Int
  pv : Value
def Stk.er (S : Stk) (e : Bool) : Value := if e then .iface S.Et S.Ev else .nilIface
def Stk.ids (S : Stk) : List Nat := [S.b, S.bf, S.st, S.br]
def bufCells (S : Stk) (s : St) : Array Value := #[.slice (some ⟨S.bf, 0, none⟩) 4096 4096, .iface 72 (.pointer (some ⟨S.st, 0, none⟩)), .int .i64 s.r, .int .i64 s.w, S.er s.err, .int .i64 s.lb, .int .i64 s.lr]
structure RdAt (S : Stk) (s : St) (H : Heap) : Prop where
  hb : H[S.b]? = some (.cells (bufCells S s) S.tb (0, 0))
  hbf : H[S.bf]? = some (.cells (s.buf.map byteV).toArray S.tbf (0, 0))
  hst : H[S.st]? = some (.cells #[.iface 77 (.pointer (some ⟨S.br, 0, none⟩)), S.er s.serr] S.ts (0, 0))
  hbr : H[S.br]? = some (.cells #[S.v, .int .i64 s.pos, s.pv] S.tr (0, 0))
  hv : IsBytes H S.v S.l
  hE : EOFat H (.iface S.Et S.Ev)
  blen : s.buf.length = 4096
  rw : s.r ≤ s.w
  w4 : s.w ≤ 4096
  pl : s.pos ≤ S.l.length
  he : s.err = true → s.pos = S.l.length
  hs : s.serr = true → s.pos = S.l.length
  small : S.l.length < 2 ^ 62
  d0 : 0 ∉ S.ids
  d1 : S.ids.Nodup
  d2 : ∀ x, blk S.v = some x → x ∉ S.ids
def St.rest (S : Stk) (s : St) : List UInt8 := (s.buf.take s.w).drop s.r ++ S.l.drop s.pos
theorem RdAt.ne {S : Stk} {s : St} {H : Heap} (h : RdAt S s H) : S.b ≠ S.bf ∧ S.b ≠ S.st ∧ S.b ≠ S.br ∧ S.bf ≠ S.st ∧ S.bf ≠ S.br ∧ S.st ≠ S.br := by
  have := h.d1
  simp only [Stk.ids, List.nodup_cons, List.mem_cons, not_or, List.not_mem_nil, not_false_eq_true, and_true, List.nodup_nil] at this
  omega
theorem RdAt.frm {S : Stk} {s : St} {H H' : Heap} {X : List Nat} (h : RdAt S s H) (f : Frm X H H') (hx : ∀ x ∈ S.ids, x ∉ X) (hvx : ∀ x, blk S.v = some x → x ∉ X) (h0 : 0 ∉ X) : RdAt S s H' :=
  { h with hb := f.get h.hb (hx _ (by simp [Stk.ids])), hbf := f.get h.hbf (hx _ (by simp [Stk.ids])), hst := f.get h.hst (hx _ (by simp [Stk.ids])), hbr := f.get h.hbr (hx _ (by simp [Stk.ids])), hv := h.hv.frm f hvx, hE := h.hE.frm f h0 }
theorem RdAt.bytes {S : Stk} {s : St} {H : Heap} (h : RdAt S s H) : IsBytes H (.slice (some ⟨S.bf, 0, none⟩) 4096 4096) s.buf := by
  refine .inl ⟨S.bf, 0, 4096, by rw [h.blen], by rw [h.blen]; exact Nat.le_refl _, fun j hj => ?_⟩
  rw [cellH_of h.hbf]
  simp
theorem RdAt.part {S : Stk} {s : St} {H : Heap} (h : RdAt S s H) {i j : Nat} (h1 : i ≤ j) (h2 : j ≤ 4096) : ∃ u, (∀ k k', sliceV 1 (.slice (some ⟨S.bf, 0, none⟩) 4096 4096) (some (.int k i)) (some (.int k' j)) none = some u) ∧ IsBytes H u ((s.buf.take j).drop i) := by
  have e := h.bytes.sub (lo := i) (hi := j) h1 (by rw [h.blen]; exact h2)
  refine ⟨_, fun k k' => sliceV_of h1 h2 k k', ?_⟩
  simpa [apply_ite] using e
theorem invoke_of {P : Program} {name : String} {t : TypeId} {x : Value} {args : Array Value} {H : Heap} {K : Value → Heap → Prop} (f : FuncId) (h1 : methodRes P t name = some f) (h2 : hasBody P f = true) (h : CallsH P f (#[x] ++ args) H K) : Invoke P name (.iface t x) args H K :=
  ⟨t, x, f, rfl, h1, h2, h⟩
theorem meth128 : methodRes Tryz.prog 77 "Read" = some 231 := by kernel_rfl
theorem meth123 : methodRes Tryz.prog 72 "Read" = some 229 := by kernel_rfl
theorem body220 : hasBody Tryz.prog 231 = true := by kernel_rfl
theorem body218 : hasBody Tryz.prog 229 = true := by kernel_rfl
@[simp] theorem er_true (S : Stk) : S.er true = .iface S.Et S.Ev := rfl
@[simp] theorem er_false (S : Stk) : S.er false = .nilIface := rfl
theorem isOne_er (S : Stk) (e : Bool) : isOne (S.er e) = true := by cases e <;> rfl
theorem neq_er (S : Stk) (e : Bool) : nilV2 .neq .nilIface (S.er e) = some (.bool e) := by cases e <;> rfl
theorem sticky_ok {S : Stk} {s : St} {H : Heap} {dc : Nat} (h : RdAt S s H) (hw : s.w < 4096) :
    CallsH Tryz.prog 229 #[.pointer (some ⟨S.st, 0, none⟩), .slice (some ⟨S.bf, s.w, none⟩) (4096 - s.w) dc] H fun x H' => ∃ n pv, n = min (S.l.length - s.pos) (4096 - s.w) ∧
      x = .tuple #[.int .i64 n, S.er (decide (s.pos = S.l.length))] ∧
      RdAt S { s with buf := spl s.buf s.w ((S.l.drop s.pos).take n), pos := s.pos + n, serr := decide (s.pos = S.l.length), pv := pv } H' ∧ Frm S.ids H H' ∧ H'.size = H.size := by
  obtain ⟨n1, n2, n3, n4, n5, n6⟩ := h.ne
  apply s218
  simp only [c218, Q0, Q1, Q2, Q3, Q4, Q5, Q6, Q7, Q8, Q9, Qa, Qb, Qc, Qd, Qe, Qf, Qg, Qh, Qi, Qj, cellH_of h.hst, neq_er]
  refine Br_intro (fun hs => ?_) (fun hs => ?_)
  · have hp := h.hs hs
    refine ⟨0, s.pv, by omega, by simp [hs, hp], ?_, Frm.refl _ _, trivial⟩
    simp only [List.take_zero, spl_nil, Nat.add_zero, hp, decide_true]
    rw [← hp]
    rw [show ({ s with serr := true } : St) = s by rw [← hs]]
    exact h
  · by_cases hp : s.pos = S.l.length
    · refine invoke_of 231 meth128 body220 ?_
      refine (bread_end h.hbr h.hv (by omega) h.hE).mono ?_
      rintro x H' ⟨rfl, rfl⟩
      simp only [Q0, Q1, Q2, Q3, Q4, Q5, Q6, Q7, Q8, Q9, Qa, Qb, Qc, Qd, Qe, Qf, Qg, Qh, Qi, Qj]
      refine Store_of h.hst (by simp) (isOne_er S true) fun H1 hb1 f1 z1 => ?_
      simp only [Qt, Qu, Qv] at hb1
      simp only [Q0, Q1, Q2, Q3, Q4, Q5, Q6, Q7, Q8, Q9, Qa, Qb, Qc, Qd, Qe, Qf, Qg, Qh, Qi, Qj, cellH_of hb1]
      refine ⟨0, s.pv, by omega, by simp [hp], ?_, f1.mono (by simp [Stk.ids]), z1⟩
      simp only [List.take_zero, spl_nil, Nat.add_zero, hp, decide_true]
      rw [← hp]
      exact { h with hb := f1.get h.hb (by simpa using n2), hbf := f1.get h.hbf (by simpa using n4), hst := hb1, hbr := f1.get h.hbr (by simpa using n6.symm), hv := h.hv.frm f1 (fun x hx => by have := h.d2 x hx; simp [Stk.ids] at this ⊢; omega), hE := h.hE.frm f1 (by have := h.d0; simp [Stk.ids] at this ⊢; omega), hs := fun _ => hp }
    · have hlt : s.pos < S.l.length := by have := h.pl; omega
      refine invoke_of 231 meth128 body220 ?_
      refine (bread_some h.hbr h.hv hlt h.small h.hbf (by simp [h.blen]; omega) (fun e => n5 e.symm) (fun x hx => by have := h.d2 x hx; simp [Stk.ids] at this; omega)).mono ?_
      rintro x H' ⟨rfl, hbr', hbf', f, z⟩
      simp only [Q0, Q1, Q2, Q3, Q4, Q5, Q6, Q7, Q8, Q9, Qa, Qb, Qc, Qd, Qe, Qf, Qg, Qh, Qi, Qj]
      have hst' := f.get h.hst (by simp; omega)
      refine Store_of hst' (by simp) (isOne_er S false) fun H1 hb1 f1 z1 => ?_
      simp only [Qt, Qu, Qv] at hb1
      simp only [Q0, Q1, Q2, Q3, Q4, Q5, Q6, Q7, Q8, Q9, Qa, Qb, Qc, Qd, Qe, Qf, Qg, Qh, Qi, Qj, cellH_of hb1]
      have hm : ((S.l.drop s.pos).take (min (S.l.length - s.pos) (4096 - s.w))).length = min (S.l.length - s.pos) (4096 - s.w) := by simp
      have ff : Frm S.ids H H1 := (f.mono (by simp [Stk.ids])).trans (f1.mono (by simp [Stk.ids]))
      rw [putAt_spl (by rw [hm, h.blen]; omega)] at hbf'
      refine ⟨_, .int .i64 (-1), rfl, by simp [hp], ?_, ff, by omega⟩
      have hd : decide (s.pos = S.l.length) = false := by simpa using hp
      rw [hd]
      exact { h with hb := f1.get (f.get h.hb (by simp; omega)) (by simpa using n2), hbf := f1.get hbf' (by simpa using n4), hst := hb1, hbr := f1.get hbr' (by simpa using n6.symm), hv := h.hv.frm ff (fun x hx => h.d2 x hx), hE := h.hE.frm ff h.d0, blen := (spl_length (by rw [hm, h.blen]; omega)).trans h.blen, pl := by simp only []; omega, he := fun e => absurd (h.he e) hp, hs := fun e => by simp at e }
end Go.Cps
namespace Go.Cps
open Go Go.Proofs
theorem RdAt.setb {S : Stk} {s s' : St} {H H' : Heap} (h : RdAt S s H) (f : Frm [S.b] H H') (hb : H'[S.b]? = some (.cells (bufCells S s') S.tb (0, 0))) (e1 : s'.buf = s.buf) (e2 : s'.pos = s.pos) (e3 : s'.serr = s.serr) (e4 : s'.pv = s.pv)
    (rw : s'.r ≤ s'.w) (w4 : s'.w ≤ 4096) (he : s'.err = true → s.pos = S.l.length) : RdAt S s' H' := by
  obtain ⟨n1, n2, n3, n4, n5, n6⟩ := h.ne
  have ff : Frm S.ids H H' := f.mono (by simp [Stk.ids])
  exact { hb := hb, hbf := by rw [e1]; exact f.get h.hbf (by simpa using n1.symm), hst := by rw [e3]; exact f.get h.hst (by simpa using n2.symm), hbr := by rw [e2, e4]; exact f.get h.hbr (by simpa using n3.symm), hv := h.hv.frm ff h.d2, hE := h.hE.frm ff h.d0, blen := by rw [e1]; exact h.blen, rw := rw, w4 := w4, pl := by rw [e2]; exact h.pl, he := by rw [e2]; exact he, hs := by rw [e2, e3]; exact h.hs, small := h.small, d0 := h.d0, d1 := h.d1, d2 := h.d2 }
theorem RdAt.store {S : Stk} {s : St} {H : Heap} (h : RdAt S s H) {o : Nat} {v : Value} {K : Heap → Prop} (s' : St) (ho : o < 7) (hv : isOne v = true) (hc : (bufCells S s).setIfInBounds o v = bufCells S s') (e1 : s'.buf = s.buf) (e2 : s'.pos = s.pos) (e3 : s'.serr = s.serr) (e4 : s'.pv = s.pv)
    (rw : s'.r ≤ s'.w) (w4 : s'.w ≤ 4096) (he : s'.err = true → s.pos = S.l.length) (hk : ∀ H', RdAt S s' H' → Frm S.ids H H' → H'.size = H.size → K H') : Get (store1V (.pointer (some ⟨S.b, o, none⟩)) v H) K := by
  refine Store_of h.hb (by simpa [bufCells] using ho) hv fun H1 hb1 f1 z1 => ?_
  rw [hc] at hb1
  exact hk H1 (h.setb f1 hb1 e1 e2 e3 e4 rw w4 he) (f1.mono (by simp [Stk.ids])) z1
theorem readErr_ok {S : Stk} {s : St} {H : Heap} (h : RdAt S s H) : CallsH Tryz.prog 60 #[.pointer (some ⟨S.b, 0, none⟩)] H fun x H' => x = S.er s.err ∧ RdAt S { s with err := false } H' ∧ Frm S.ids H H' ∧ H'.size = H.size := by
  apply s110
  simp only [c110, Q0, Q1, Q2, Q3, Q4, Q5, Q6, Q7, Q8, Q9, Qa, Qb, Qc, Qd, Qe, Qf, Qg, Qh, Qi, Qj, cellH_of h.hb, bufCells]
  exact h.store { s with err := false } (by omega) rfl (by simp only [bufCells, Qt, Qu, Qv]; rfl) rfl rfl rfl rfl h.rw h.w4 (by simp) fun H' h' f z => ⟨trivial, h', f, z⟩
theorem buffered_ok {S : Stk} {s : St} {H : Heap} (h : RdAt S s H) : CallsH Tryz.prog 61 #[.pointer (some ⟨S.b, 0, none⟩)] H fun x H' => x = .int .i64 (s.w - s.r : Nat) ∧ H' = H := by
  apply s111
  have h1 := h.rw
  have h2 := h.w4
  have e : IntKind.i64.wrap ((s.w : Int) - (s.r : Int)) = ((s.w - s.r : Nat) : Int) := by rw [wrap_i64 (by omega) (by omega)]; omega
  simp only [c111, Q0, Q1, Q2, Q3, Q4, Q5, Q6, Q7, Q8, Q9, Qa, Qb, Qc, Qd, Qe, Qf, Qg, Qh, Qi, Qj, Qk, Ql, Qm, Qn, Qo, Qp, Qq, Qr, Qs, cellH_of h.hb, bufCells, e, and_self]
structure Filled (S : Stk) (s s' : St) : Prop where
  r0 : s'.r = 0
  rest : s'.rest S = s.rest S
  lb : s'.lb = s.lb
  lr : s'.lr = s.lr
  keep : (s'.buf.take (s.w - s.r)) = (s.buf.take s.w).drop s.r
  how : (s.pos < S.l.length ∧ s'.err = false ∧ s.w - s.r < s'.w) ∨ (s.pos = S.l.length ∧ s'.err = true ∧ s'.w = s.w - s.r)
theorem fill_ok {S : Stk} {s : St} {H : Heap} (h : RdAt S s H) (he : s.err = false) (hw : s.w - s.r < 4096) :
    CallsH Tryz.prog 62 #[.pointer (some ⟨S.b, 0, none⟩)] H fun x H' => ∃ s', RdAt S s' H' ∧ Filled S s s' ∧ Frm S.ids H H' ∧ H'.size = H.size := by
  obtain ⟨n1, n2, n3, n4, n5, n6⟩ := h.ne
  have hrw := h.rw
  have hw4 := h.w4
  have hpl := h.pl
  have hsm := h.small
  apply s112
  unfold c112
  refine ⟨fun _ H1 => ∃ s1, RdAt S s1 H1 ∧ s1.r = 0 ∧ s1.w = s.w - s.r ∧ s1.err = false ∧ s1.pos = s.pos ∧ s1.lb = s.lb ∧ s1.lr = s.lr ∧ s1.buf.take s1.w = (s.buf.take s.w).drop s.r ∧ Frm S.ids H H1 ∧ H1.size = H.size, ?_, ?_⟩
  · simp only [Q0, Q1, Q2, Q3, Q4, Q5, Q6, Q7, Q8, Q9, Qa, Qb, Qc, Qd, Qe, Qf, Qg, Qh, Qi, Qj, Qk, Ql, Qm, Qn, Qo, Qp, Qq, Qr, Qs, cellH_of h.hb, bufCells]
    refine Br_intro (fun h0 => ?_) (fun h0 => ?_)
    · have h0' : 0 < s.r := by simpa using h0
      obtain ⟨u, hu, hub⟩ := h.part hrw hw4
      simp only [hu, Q6]
      refine copy_of h.hbf hub (by simp [h.blen]) ?_
      have hl : ((s.buf.take s.w).drop s.r).length = s.w - s.r := by simp [h.blen]; omega
      have hm : min ((s.buf.take s.w).drop s.r).length 4096 = s.w - s.r := by rw [hl]; omega
      rw [hm, List.take_of_length_le (by rw [hl]; exact Nat.le_refl _), putAt_spl (by rw [hl, h.blen]; omega)]
      generalize hH1 : upd H S.bf _ = H1
      have f1 : Frm [S.bf] H H1 := by rw [← hH1]; exact Frm.upd _ (by simp)
      have z1 : H1.size = H.size := by rw [← hH1]; simp
      have hbf1 : H1[S.bf]? = some (.cells ((spl s.buf 0 ((s.buf.take s.w).drop s.r)).map byteV).toArray S.tbf (0, 0)) := by rw [← hH1]; exact upd_same (lt_of_some h.hbf)
      have ff : Frm S.ids H H1 := f1.mono (by simp [Stk.ids])
      have h1 : RdAt S { s with buf := spl s.buf 0 ((s.buf.take s.w).drop s.r) } H1 :=
        { h with hb := f1.get h.hb (by simpa using n1), hbf := hbf1, hst := f1.get h.hst (by simpa using n4.symm), hbr := f1.get h.hbr (by simpa using n5.symm), hv := h.hv.frm ff h.d2, hE := h.hE.frm ff h.d0, blen := (spl_length (by rw [hl, h.blen]; omega)).trans h.blen }
      have e : IntKind.i64.wrap ((s.w : Int) - (s.r : Int)) = ((s.w - s.r : Nat) : Int) := by rw [wrap_i64 (by omega) (by omega)]; omega
      simp only [Q0, Q1, Q2, Q3, Q4, Q5, Q6, Q7, Q8, Q9, Qa, Qb, Qc, Qd, Qe, Qf, Qg, Qh, Qi, Qj, Qk, Ql, Qm, Qn, Qo, Qp, Qq, Qr, Qs, cellH_of h1.hb, bufCells, e]
      refine Store_of h1.hb (by simp [bufCells]) rfl fun H2 hb2 f2 z2 => ?_
      simp only [bufCells, Qt, Qu, Qv] at hb2
      refine Store_of hb2 (by simp) rfl fun H3 hb3 f3 z3 => ?_
      simp only [Qt, Qu, Qv] at hb3
      have h3 : RdAt S { s with buf := spl s.buf 0 ((s.buf.take s.w).drop s.r), r := 0, w := s.w - s.r } H3 :=
        h1.setb (f2.trans f3) (by rw [hb3]; rfl) rfl rfl rfl rfl (Nat.zero_le _) (by simp only []; omega) h.he
      refine ⟨_, h3, rfl, rfl, he, rfl, rfl, rfl, ?_, ff.trans ((f2.trans f3).mono (by simp [Stk.ids])), by omega⟩
      have := spl_take (buf := s.buf) (o := 0) (m := (s.buf.take s.w).drop s.r) (by rw [hl, h.blen]; omega)
      rw [hl] at this
      simpa using this
    · have h0' : s.r = 0 := by simp at h0; omega
      exact ⟨s, h, h0', by omega, he, rfl, rfl, rfl, by rw [h0', List.drop_zero], Frm.refl _ _, trivial⟩
  · rintro _ H1 ⟨s1, h1, r1, w1, e1, p1, lb1, lr1, b1, ff, z1⟩
    refine Join_direct ?_
    have hw1 : s1.w < 4096 := by omega
    have hd : decide ((s1.w : Int) ≥ ((4096 : Nat) : Int)) = false := by simp; omega
    simp only [Q0, Q1, Q2, Q3, Q4, Q5, Q6, Q7, Q8, Q9, Qa, Qb, Qc, Qd, Qe, Qf, Qg, Qh, Qi, Qj, Qk, Ql, Qm, Qn, Qo, Qp, Qq, Qr, Qs, cellH_of h1.hb, bufCells, hd]
    refine ⟨fun _ vs H' => vs = [.int .i64 100] ∧ H' = H1, ⟨0, rfl, rfl⟩, ?_⟩
    rintro _ _ _ ⟨rfl, rfl⟩
    have h100 : decide ((100 : Int) > 0) = true := by decide
    have hu := sliceV_lo (a := some ⟨S.bf, 0, none⟩) (n := 4096) (c := 4096) (size := 1) (lo := s1.w) (by omega) .i64
    rw [if_neg (by omega)] at hu
    simp only [Option.map_some, Q1, Nat.zero_add, Nat.mul_one] at hu
    simp only [Q0, Q1, Q2, Q3, Q4, Q5, Q6, Q7, Q8, Q9, Qa, Qb, Qc, Qd, Qe, Qf, Qg, Qh, Qi, Qj, Qk, Ql, Qm, Qn, Qo, Qp, Qq, Qr, Qs, cellH_of h1.hb, bufCells, h100, hu, nilV_iface]
    refine invoke_of 229 meth123 body218 ?_
    refine (sticky_ok h1 hw1).mono ?_
    rintro x H2 ⟨n, pv, hn, rfl, h2, f2, z2⟩
    simp only [Q0, Q1, Q2, Q3, Q4, Q5, Q6, Q7, Q8, Q9, Qa, Qb, Qc, Qd, Qe, Qf, Qg, Qh, Qi, Qj, Qk, Ql, Qm, Qn, Qo, Qp, Qq, Qr, Qs]
    have hd2 : decide ((n : Int) < 0) = false := by simp
    have hd3 : IntKind.i64.wrap ((s1.w : Int) + (n : Int)) = ((s1.w + n : Nat) : Int) := by rw [wrap_i64 (by omega) (by omega)]; omega
    refine Join_direct ?_
    simp only [hd2, Q0, Q1, Q2, Q3, Q4, Q5, Q6, Q7, Q8, Q9, Qa, Qb, Qc, Qd, Qe, Qf, Qg, Qh, Qi, Qj, Qk, Ql, Qm, Qn, Qo, Qp, Qq, Qr, Qs, cellH_of h2.hb, bufCells, hd3]
    have hm : ((S.l.drop s1.pos).take n).length = n := by simp; omega
    have hbl := h1.blen
    have htk : (spl s1.buf s1.w ((S.l.drop s1.pos).take n)).take (s1.w + n) = s1.buf.take s1.w ++ (S.l.drop s1.pos).take n := by
      have := spl_take (buf := s1.buf) (o := s1.w) (m := (S.l.drop s1.pos).take n) (by rw [hm, hbl]; omega)
      rwa [hm] at this
    have hrest : ∀ e : Bool, ({ s1 with buf := spl s1.buf s1.w ((S.l.drop s1.pos).take n), w := s1.w + n, pos := s1.pos + n, err := e, serr := decide (s1.pos = S.l.length), pv := pv } : St).rest S = s.rest S := by
      intro e
      simp only [St.rest, r1, List.drop_zero]
      rw [htk, List.append_assoc, ← List.drop_drop, List.take_append_drop, b1, p1]
    have hkeep : (spl s1.buf s1.w ((S.l.drop s1.pos).take n)).take (s.w - s.r) = (s.buf.take s.w).drop s.r := by
      have : ((spl s1.buf s1.w ((S.l.drop s1.pos).take n)).take (s1.w + n)).take s1.w = s1.buf.take s1.w := by
        rw [htk, List.take_left']
        simp; omega
      rw [List.take_take, Nat.min_eq_left (by omega)] at this
      rw [← w1, this, b1]
    refine h2.store { s1 with buf := spl s1.buf s1.w ((S.l.drop s1.pos).take n), w := s1.w + n, pos := s1.pos + n, serr := decide (s1.pos = S.l.length), pv := pv } (by omega) rfl (by simp only [bufCells, Qt, Qu, Qv]) rfl rfl rfl rfl (by simp only []; omega) (by simp only []; omega) (by simp [e1]) fun H3 h3 f3 z3 => ?_
    simp only [neq_er, Q6]
    refine Br_intro (fun hp => ?_) (fun hp => ?_)
    · have hp' : s1.pos = S.l.length := by simpa using hp
      have hn0 : n = 0 := by omega
      refine h3.store { s1 with buf := spl s1.buf s1.w ((S.l.drop s1.pos).take n), w := s1.w + n, pos := s1.pos + n, err := true, serr := decide (s1.pos = S.l.length), pv := pv } (by omega) (isOne_er S _) (by simp only [bufCells, Qt, Qu, Qv, hp]) rfl rfl rfl rfl (by simp only []; omega) (by simp only []; omega) (fun _ => by simp only []; omega) fun H4 h4 f4 z4 => ?_
      exact ⟨_, h4, ⟨r1, hrest true, lb1, lr1, hkeep, .inr ⟨by omega, rfl, by simp only []; omega⟩⟩, ((ff.trans f2).trans f3).trans f4, by omega⟩
    · have hp' : s1.pos ≠ S.l.length := by simpa using hp
      have hd4 : decide ((n : Int) > 0) = true := by simp; omega
      simp only [hd4, Q7]
      exact ⟨_, h3, ⟨r1, hrest s1.err, lb1, lr1, hkeep, .inl ⟨by omega, e1, by simp only []; omega⟩⟩, (ff.trans f2).trans f3, by omega⟩
end Go.Cps
namespace Go.Cps
open Go Go.Proofs
def St.bufd (s : St) : List UInt8 := (s.buf.take s.w).drop s.r
theorem St.rest_eq (S : Stk) (s : St) : s.rest S = s.bufd ++ S.l.drop s.pos := rfl
theorem RdAt.bufd_len {S : Stk} {s : St} {H : Heap} (h : RdAt S s H) : s.bufd.length = s.w - s.r := by
  have := h.blen; have := h.w4
  simp [St.bufd]; omega
def nl? (l : List UInt8) : Option Nat := l.findIdx? (· == 10)
def lineLen (l : List UInt8) : Nat := match nl? l with | some j => j + 1 | none => l.length
theorem idx_eq (l : List UInt8) : idx l 10 = match nl? l with | some i => (i : Int) | none => -1 := rfl
theorem nl?_append_none {a b : List UInt8} (h : nl? a = none) : nl? (a ++ b) = (nl? b).map (· + a.length) := by
  unfold nl? at *
  rw [List.findIdx?_append, h]; simp
theorem nl?_append_some {a b : List UInt8} {i : Nat} (h : nl? a = some i) : nl? (a ++ b) = some i := by
  unfold nl? at *
  rw [List.findIdx?_append, h]; simp
theorem nl?_lt {a : List UInt8} {i : Nat} (h : nl? a = some i) : i < a.length := by
  unfold nl? at h
  exact (List.findIdx?_eq_some_iff_findIdx_eq.1 h).1
def Rng (u : Value) (b hi : Nat) : Prop := ∃ o n c, u = .slice (some ⟨b, o, none⟩) n c ∧ o + n ≤ hi
structure Line (S : Stk) (s s' : St) (u : Value) (H H' : Heap) : Prop where
  rd : RdAt S s' H'
  line : IsBytes H' u ((s.rest S).take (lineLen (s.rest S)))
  rest : s'.rest S = (s.rest S).drop (lineLen (s.rest S))
  blk : blk u = none ∨ Go.Cps.blk u = some S.bf
  rng : Rng u S.bf s'.r
  frm : Frm S.ids H H'
  size : H'.size = H.size
theorem blk_slice (a : Option Addr) (n c : Nat) : Go.Cps.blk (.slice a n c) = a.map (·.block) := by cases a <;> rfl
theorem RdAt.part' {S : Stk} {s : St} {H : Heap} (h : RdAt S s H) {i j : Nat} (h1 : i ≤ j) (h2 : j ≤ 4096) : ∃ u, (∀ k k', sliceV 1 (.slice (some ⟨S.bf, 0, none⟩) 4096 4096) (some (.int k i)) (some (.int k' j)) none = some u) ∧ IsBytes H u ((s.buf.take j).drop i) ∧ Go.Cps.blk u = some S.bf ∧ Rng u S.bf j := by
  have e := h.bytes.sub (lo := i) (hi := j) h1 (by rw [h.blen]; exact h2)
  refine ⟨_, fun k k' => sliceV_of h1 h2 k k', ?_, ?_⟩
  · simpa [apply_ite] using e
  · rw [blk_slice]
    refine ⟨by split <;> simp, ?_⟩
    split
    · exact ⟨0, j - i, 4096 - i, rfl, by omega⟩
    · exact ⟨0 + i * 1, j - i, 4096 - i, by simp, by omega⟩
theorem readSlice_ok {S : Stk} {s : St} {H : Heap} (h : RdAt S s H) (hn : nl? (s.rest S) = none → (s.rest S).length < 4096) (hs : ∀ j, nl? (s.rest S) = some j → j < 4096) :
    CallsH Tryz.prog 45 #[.pointer (some ⟨S.b, 0, none⟩), .int .u8 10] H fun x H' => ∃ u s', x = .tuple #[u, S.er (nl? (s.rest S)).isNone] ∧ Line S s s' u H H' := by
  apply s93
  unfold c93
  refine ⟨fun vs H1 => ∃ u s1, vs = [u, S.er (nl? (s.rest S)).isNone] ∧ Line S s s1 u H H1, ?_, ?_⟩
  · refine ⟨fun n vs H1 => ∃ s1 k, vs = [.nilIface, .int .i64 (k : Nat)] ∧ n = ((s.rest S).length - (s1.w - s1.r)) + (if s1.err then 0 else 1) ∧ RdAt S s1 H1 ∧ s1.rest S = s.rest S ∧ k ≤ s1.w - s1.r ∧ nl? (s1.bufd.take k) = none ∧ Frm S.ids H H1 ∧ H1.size = H.size,
      ⟨_, s, 0, rfl, rfl, h, rfl, Nat.zero_le _, rfl, Frm.refl _ _, rfl⟩, ?_⟩
    rintro n vs H1 ⟨s1, k, rfl, rfl, h1, hr, hk, hnk, f1, z1⟩
    have hrw := h1.rw
    have hw4 := h1.w4
    have hlen := h1.bufd_len
    have e0 : IntKind.i64.wrap ((s1.r : Int) + (k : Int)) = ((s1.r + k : Nat) : Int) := by rw [wrap_i64 (by omega) (by omega)]; omega
    obtain ⟨u, hu, hub, _, _⟩ := h1.part' (i := s1.r + k) (j := s1.w) (by omega) hw4
    have hdk : (s1.buf.take s1.w).drop (s1.r + k) = s1.bufd.drop k := by rw [St.bufd, List.drop_drop]
    rw [hdk] at hub
    simp only [Q0, Q1, Q2, Q3, Q4, Q5, Q6, Q7, Q8, Q9, Qa, Qb, Qc, Qd, Qe, Qf, Qg, Qh, Qi, Qj, Qk, Ql, Qm, Qn, Qo, Qp, Qq, Qr, Qs, cellH_of h1.hb, bufCells, e0, hu]
    refine (indexByte_ok hub 10).mono ?_
    rintro x H2 ⟨rfl, rfl⟩
    rw [idx_eq]
    have hsplit : s1.rest S = s1.bufd.take k ++ (s1.bufd.drop k ++ S.l.drop s1.pos) := by rw [← List.append_assoc, List.take_append_drop]; rfl
    have hkl : (s1.bufd.take k).length = k := by simp; omega
    cases hi : nl? (s1.bufd.drop k) with
    | some i =>
      have hi2 := nl?_lt hi
      rw [List.length_drop] at hi2
      have hnl : nl? (s1.rest S) = some (i + k) := by
        rw [hsplit, nl?_append_none hnk, nl?_append_some hi, hkl]; rfl
      have hd : decide ((i : Int) ≥ 0) = true := by simp
      have e1 : IntKind.i64.wrap ((i : Int) + (k : Int)) = ((i + k : Nat) : Int) := by rw [wrap_i64 (by omega) (by omega)]; omega
      have e2 : IntKind.i64.wrap ((s1.r : Int) + ((i + k : Nat) : Int)) = ((s1.r + (i + k) : Nat) : Int) := by rw [wrap_i64 (by omega) (by omega)]; omega
      have e3 : IntKind.i64.wrap (((s1.r + (i + k) : Nat) : Int) + 1) = ((s1.r + (i + k) + 1 : Nat) : Int) := by rw [wrap_i64 (by omega) (by omega)]; omega
      have e4 : IntKind.i64.wrap (((i + k : Nat) : Int) + 1) = ((i + k + 1 : Nat) : Int) := by rw [wrap_i64 (by omega) (by omega)]; omega
      have e5 : IntKind.i64.wrap ((s1.r : Int) + ((i + k + 1 : Nat) : Int)) = ((s1.r + (i + k + 1) : Nat) : Int) := by rw [wrap_i64 (by omega) (by omega)]; omega
      obtain ⟨y, hy, hyb, hyk, hyr⟩ := h1.part' (i := s1.r) (j := s1.r + (i + k) + 1) (by omega) (by omega)
      simp only [Q0, Q1, Q2, Q3, Q4, Q5, Q6, Q7, Q8, Q9, Qa, Qb, Qc, Qd, Qe, Qf, Qg, Qh, Qi, Qj, Qk, Ql, Qm, Qn, Qo, Qp, Qq, Qr, Qs, hd, e1, e2, e3, e4, e5, hy, cellH_of h1.hb, bufCells]
      refine h1.store { s1 with r := s1.r + (i + k + 1) } (by omega) rfl (by simp only [bufCells, Qt, Qu, Qv]) rfl rfl rfl rfl (by simp only []; omega) hw4 h1.he fun H3 h3 f3 z3 => ?_
      have hll : lineLen (s.rest S) = i + k + 1 := by rw [← hr, lineLen, hnl]
      have hline : (s1.buf.take (s1.r + (i + k) + 1)).drop s1.r = (s.rest S).take (i + k + 1) := by
        rw [← hr, St.rest_eq, List.take_append_of_le_length (by omega), St.bufd, List.drop_take, List.drop_take, List.take_take]
        congr 1
        omega
      rw [hline] at hyb
      refine ⟨y, _, by rw [← hr, hnl]; rfl, h3, ?_, ?_, .inr hyk, hyr, f1.trans f3, by omega⟩
      · rw [hll]
        have hb1 := h1.hbf
        exact hyb.cast fun b o c e => by
          have : b = S.bf := by rw [e] at hyk; simpa [blk_slice] using hyk
          subst this
          have e3 := h3.hbf
          simp only [] at e3
          rw [e3, hb1]
      · rw [hll, ← hr, St.rest_eq S s1, List.drop_append_of_le_length (by omega), St.rest]
        simp only []
        rw [St.bufd, List.drop_drop]
    | none =>
      have hd : decide ((-1 : Int) ≥ 0) = false := by decide
      have hbn : nl? s1.bufd = none := by
        rw [← List.take_append_drop k s1.bufd, nl?_append_none hnk, hi]; rfl
      simp only [Q0, Q1, Q2, Q3, Q4, Q5, Q6, Q7, Q8, Q9, Qa, Qb, Qc, Qd, Qe, Qf, Qg, Qh, Qi, Qj, Qk, Ql, Qm, Qn, Qo, Qp, Qq, Qr, Qs, hd, cellH_of h1.hb, bufCells, neq_er]
      refine Br_intro (fun he => ?_) (fun he => ?_)
      · have hp := h1.he he
        have hrb : s1.rest S = s1.bufd := by rw [St.rest_eq, hp, List.drop_length, List.append_nil]
        obtain ⟨y, hy, hyb, hyk, hyr⟩ := h1.part' (i := s1.r) (j := s1.w) hrw hw4
        simp only [hy, Q6]
        refine h1.store { s1 with r := s1.w } (by omega) rfl (by simp only [bufCells, Qt, Qu, Qv]) rfl rfl rfl rfl (by simp only []; omega) hw4 h1.he fun H3 h3 f3 z3 => ?_
        refine (readErr_ok h3).mono ?_
        rintro x H4 ⟨rfl, h4, f4, z4⟩
        have hnr : nl? (s.rest S) = none := by rw [← hr, hrb, hbn]
        have hll : lineLen (s.rest S) = (s.rest S).length := by rw [lineLen, hnr]
        refine ⟨y, _, by rw [hnr]; simp only [he]; rfl, h4, ?_, ?_, .inr hyk, hyr, (f1.trans f3).trans f4, by omega⟩
        · rw [hll, List.take_length, ← hr, hrb]
          exact hyb.cast fun b o c e => by
            have : b = S.bf := by rw [e] at hyk; simpa [blk_slice] using hyk
            subst this
            have e4 := h4.hbf
            simp only [] at e4
            rw [e4, h1.hbf]
        · rw [hll, List.drop_length, St.rest]
          simp only [hp, List.drop_length, List.append_nil]
          rw [List.drop_eq_nil_of_le]
          simp; omega
      · refine (buffered_ok h1).mono ?_
        rintro x H3 ⟨rfl, rfl⟩
        have hlt : s1.w - s1.r < 4096 := by
          cases hnr : nl? (s.rest S) with
          | none =>
            have := hn hnr
            rw [← hr, St.rest_eq, List.length_append] at this
            omega
          | some j =>
            have h2 := hs j hnr
            rw [← hr, St.rest_eq, nl?_append_none hbn] at hnr
            cases hq : nl? (S.l.drop s1.pos) with
            | none => rw [hq] at hnr; simp at hnr
            | some q =>
              rw [hq] at hnr
              simp only [Option.map_some, Option.some.injEq] at hnr
              omega
        have hd2 : decide (((s1.w - s1.r : Nat) : Int) ≥ ((4096 : Nat) : Int)) = false := by simp; omega
        have e6 : IntKind.i64.wrap ((s1.w : Int) - (s1.r : Int)) = ((s1.w - s1.r : Nat) : Int) := by rw [wrap_i64 (by omega) (by omega)]; omega
        refine ⟨⟨by rw [cellH_of h1.hb]; simp only [bufCells, Q0, Q1, Q2, Q3, Q4, Q5, Q6, Q7, Q8, Q9, Qa, Qb, Qc, Qd, Qe, Qf, Qg, Qh, Qi, Qj], trivial⟩, ?_⟩
        simp only [Q0, Q1, Q2, Q3, Q4, Q5, Q6, Q7, Q8, Q9, Qa, Qb, Qc, Qd, Qe, Qf, Qg, Qh, Qi, Qj, Qk, Ql, Qm, Qn, Qo, Qp, Qq, Qr, Qs, hd2, cellH_of h1.hb, bufCells, e6]
        refine (fill_ok h1 he hlt).mono ?_
        rintro _ H4 ⟨s2, h2, hf, f2, z2⟩
        have hr2 : s2.rest S = s.rest S := hf.rest.trans hr
        have hl2 := h2.bufd_len
        have hle : s2.w - s2.r ≤ (s.rest S).length := by rw [← hr2, St.rest_eq, List.length_append]; omega
        have hr0 := hf.r0
        refine ⟨_, ?_, s2, s1.w - s1.r, rfl, rfl, h2, hr2, ?_, ?_, f1.trans f2, by omega⟩
        · rcases hf.how with ⟨_, hh, hh2⟩ | ⟨_, hh, hh2⟩
          · simp only [hh, he, Bool.false_eq_true, if_false]; omega
          · simp only [hh, he, Bool.false_eq_true, if_false, if_true]; omega
        · rcases hf.how with ⟨_, hh, hh2⟩ | ⟨_, hh, hh2⟩ <;> omega
        · have hkeep := hf.keep
          have hw2 : s1.w - s1.r ≤ s2.w := by rcases hf.how with ⟨_, hh, hh2⟩ | ⟨_, hh, hh2⟩ <;> omega
          rw [St.bufd, hr0, List.drop_zero, List.take_take, Nat.min_eq_left hw2, hkeep]
          exact hbn
  · rintro _ H1 ⟨u, s1, rfl, hL⟩
    have hlen := hL.line.len
    simp only [Q0, Q1, Q2, Q3, Q4, Q5, Q6, Q7, Q8, Q9, Qa, Qb, Qc, Qd, Qe, Qf, Qg, Qh, Qi, Qj, Qk, Ql, Qm, Qn, Qo, Qp, Qq, Qr, Qs, hlen]
    generalize hm : ((s.rest S).take (lineLen (s.rest S))) = m at *
    have hm4 : m.length ≤ 4096 := by
      rw [← hm, List.length_take]
      unfold lineLen
      cases hnr : nl? (s.rest S) with
      | none => have := hn hnr; simp only []; omega
      | some j => have := hs j hnr; simp only []; omega
    have e1 : IntKind.i64.wrap ((m.length : Int) - 1) = (m.length : Int) - 1 := wrap_i64 (by omega) (by omega)
    rw [e1]
    refine ⟨fun _ H2 => ∃ s2, Line S s s2 u H H2, ?_, ?_⟩
    · refine Br_intro (fun h0 => ?_) (fun h0 => ⟨s1, hL⟩)
      have h0' : 0 < m.length := by simp at h0; omega
      rcases hL.line with ⟨bb, o, c, rfl, hc, hcell⟩ | ⟨_, _, he⟩
      · rw [hm] at hcell hc
        have hbk : bb = S.bf := by
          rcases hL.blk with hh | hh <;> simp [blk_slice] at hh
          exact hh
        have hcl := hcell (m.length - 1) (by omega)
        rw [List.getElem?_eq_getElem (by omega)] at hcl
        rw [hm, elemAddr_of (by omega) (by omega)]
        have e2 : ((m.length : Int) - 1).toNat * 1 = m.length - 1 := by omega
        simp only [Q0, Q1, Q2, Q3, Q4, Q5, Q6, Q7, Q8, Q9, Qa, Qb, Qc, Qd, Qe, Qf, Qg, Qh, Qi, Qj, Qk, Ql, Qm, Qn, Qo, Qp, Qq, Qr, Qs, e2, hcl, Option.map_some, byteV]
        refine hL.rd.store { s1 with lb := IntKind.i64.wrap (((m[m.length - 1]'(by omega)).toNat : Nat) : Int) } (by omega) rfl (by simp only [bufCells, Qt, Qu, Qv]) rfl rfl rfl rfl hL.rd.rw hL.rd.w4 hL.rd.he fun H3 h3 f3 z3 => ?_
        refine h3.store { s1 with lb := IntKind.i64.wrap (((m[m.length - 1]'(by omega)).toNat : Nat) : Int), lr := -1 } (by omega) rfl (by simp only [bufCells, Qt, Qu, Qv]) rfl rfl rfl rfl hL.rd.rw hL.rd.w4 hL.rd.he fun H4 h4 f4 z4 => ?_
        refine ⟨_, h4, ?_, ?_, hL.blk, by have hq := hL.rng; rw [hm] at hq; exact hq, (hL.frm.trans f3).trans f4, by have := hL.size; omega⟩
        · rw [hm]
          have hline := hL.line
          rw [hm] at hline
          exact hline.cast fun b o c e => by
            have : b = S.bf := by
              have e := congrArg Go.Cps.blk e
              simp only [blk_slice, Option.map_some, Option.some.injEq] at e
              omega
            subst this
            have e4 := h4.hbf
            simp only [] at e4
            rw [e4, hL.rd.hbf]
        · have := hL.rest
          exact this
      · rw [hm] at he
        rw [he] at h0'
        simp at h0'
    · rintro _ H2 ⟨s2, hL2⟩
      exact ⟨u, s2, rfl, hL2⟩
end Go.Cps
