/-
  bufio.Reader: fill, readErr, Buffered.
  Conditions: each contract's own.
-/
import Derived.Test.YtfajmapajpfocaaGreatDoorL5
set_option linter.all false
namespace Go.Cps
open Go Go.Proofs

/-- a new block for the reader, all else as it was -/
theorem RdAt.setb {S : Stk} {s s' : St} {H H' : Heap} (h : RdAt S s H) (f : Frm [S.b] H H') (hb : H'[S.b]? = some (.cells (bufCells S s') S.tb (0, 0))) (e1 : s'.buf = s.buf) (e2 : s'.pos = s.pos) (e3 : s'.serr = s.serr) (e4 : s'.pv = s.pv)
    (rw : s'.r ≤ s'.w) (w4 : s'.w ≤ 4096) (he : s'.err = true → s.pos = S.l.length) : RdAt S s' H' := by
  obtain ⟨n1, n2, n3, n4, n5, n6⟩ := h.ne
  have ff : Frm S.ids H H' := f.mono (by simp [Stk.ids])
  exact { hb := hb, hbf := by rw [e1]; exact f.get h.hbf (by simpa using n1.symm), hst := by rw [e3]; exact f.get h.hst (by simpa using n2.symm), hbr := by rw [e2, e4]; exact f.get h.hbr (by simpa using n3.symm), hv := h.hv.frm ff h.d2, hE := h.hE.frm ff h.d0, blen := by rw [e1]; exact h.blen, rw := rw, w4 := w4, pl := by rw [e2]; exact h.pl, he := by rw [e2]; exact he, hs := by rw [e2, e3]; exact h.hs, small := h.small, d0 := h.d0, d1 := h.d1, d2 := h.d2 }

theorem RdAt.store {S : Stk} {s : St} {H : Heap} (h : RdAt S s H) {o : Nat} {v : Value} {K : Heap → Prop} (s' : St) (ho : o < 7) (hv : isOne v = true) (hc : (bufCells S s).setIfInBounds o v = bufCells S s') (e1 : s'.buf = s.buf) (e2 : s'.pos = s.pos) (e3 : s'.serr = s.serr) (e4 : s'.pv = s.pv)
    (rw : s'.r ≤ s'.w) (w4 : s'.w ≤ 4096) (he : s'.err = true → s.pos = S.l.length) (hk : ∀ H', RdAt S s' H' → Frm S.ids H H' → H'.size = H.size → K H') : Get (store1V (.pointer (some ⟨S.b, o, none⟩)) v H) K := by
  refine Store_of h.hb (by simpa [bufCells] using ho) hv fun H1 hb1 f1 z1 => ?_
  rw [hc] at hb1
  exact hk H1 (h.setb f1 hb1 e1 e2 e3 e4 rw w4 he) (f1.mono (by simp [Stk.ids])) z1

theorem readErr_ok {S : Stk} {s : St} {H : Heap} (h : RdAt S s H) : CallsH Tryz.prog 110 #[.pointer (some ⟨S.b, 0, none⟩)] H fun x H' => x = S.er s.err ∧ RdAt S { s with err := false } H' ∧ Frm S.ids H H' ∧ H'.size = H.size := by
  apply s110
  simp only [c110, Fld_ptr, add_mk, Nat.zero_add, List.getElem?_toArray, List.getElem?_cons_succ, List.getElem?_cons_zero, Get_some, Br_true, Br_false, nth_zero, nth_one, nth_two, extractV_tuple, fieldAddrV_ptr, nilV_ptr, load1V_ptr, pickV_bool, unV_not, lenV_slice, capV_slice, cellH_of h.hb, bufCells]
  exact h.store { s with err := false } (by omega) rfl (by simp only [bufCells, List.setIfInBounds_toArray, List.set_cons_succ, List.set_cons_zero]; rfl) rfl rfl rfl rfl h.rw h.w4 (by simp) fun H' h' f z => ⟨trivial, h', f, z⟩

theorem buffered_ok {S : Stk} {s : St} {H : Heap} (h : RdAt S s H) : CallsH Tryz.prog 111 #[.pointer (some ⟨S.b, 0, none⟩)] H fun x H' => x = .int .i64 (s.w - s.r : Nat) ∧ H' = H := by
  apply s111
  have h1 := h.rw
  have h2 := h.w4
  have e : IntKind.i64.wrap ((s.w : Int) - (s.r : Int)) = ((s.w - s.r : Nat) : Int) := by rw [wrap_i64 (by omega) (by omega)]; omega
  simp only [c111, Fld_ptr, add_mk, Nat.zero_add, List.getElem?_toArray, List.getElem?_cons_succ, List.getElem?_cons_zero, Get_some, Br_true, Br_false, nth_zero, nth_one, nth_two, extractV_tuple, fieldAddrV_ptr, nilV_ptr, load1V_ptr, pickV_bool, unV_not, lenV_slice, capV_slice, arithV_add, arithV_sub, arithV_eql, arithV_neq, arithV_lss, arithV_leq, arithV_gtr, arithV_geq, intConvV_int, cellH_of h.hb, bufCells, e, and_self]

/-- what a fill comes to -/
structure Filled (S : Stk) (s s' : St) : Prop where
  r0 : s'.r = 0
  rest : s'.rest S = s.rest S
  lb : s'.lb = s.lb
  lr : s'.lr = s.lr
  keep : (s'.buf.take (s.w - s.r)) = (s.buf.take s.w).drop s.r
  how : (s.pos < S.l.length ∧ s'.err = false ∧ s.w - s.r < s'.w) ∨ (s.pos = S.l.length ∧ s'.err = true ∧ s'.w = s.w - s.r)

theorem fill_ok {S : Stk} {s : St} {H : Heap} (h : RdAt S s H) (he : s.err = false) (hw : s.w - s.r < 4096) :
    CallsH Tryz.prog 112 #[.pointer (some ⟨S.b, 0, none⟩)] H fun x H' => ∃ s', RdAt S s' H' ∧ Filled S s s' ∧ Frm S.ids H H' ∧ H'.size = H.size := by
  obtain ⟨n1, n2, n3, n4, n5, n6⟩ := h.ne
  have hrw := h.rw
  have hw4 := h.w4
  have hpl := h.pl
  have hsm := h.small
  apply s112
  unfold c112
  refine ⟨fun _ H1 => ∃ s1, RdAt S s1 H1 ∧ s1.r = 0 ∧ s1.w = s.w - s.r ∧ s1.err = false ∧ s1.pos = s.pos ∧ s1.lb = s.lb ∧ s1.lr = s.lr ∧ s1.buf.take s1.w = (s.buf.take s.w).drop s.r ∧ Frm S.ids H H1 ∧ H1.size = H.size, ?_, ?_⟩
  · simp only [Fld_ptr, add_mk, Nat.zero_add, List.getElem?_toArray, List.getElem?_cons_succ, List.getElem?_cons_zero, Get_some, Br_true, Br_false, nth_zero, nth_one, nth_two, extractV_tuple, fieldAddrV_ptr, nilV_ptr, load1V_ptr, pickV_bool, unV_not, lenV_slice, capV_slice, arithV_add, arithV_sub, arithV_eql, arithV_neq, arithV_lss, arithV_leq, arithV_gtr, arithV_geq, intConvV_int, cellH_of h.hb, bufCells]
    refine Br_intro (fun h0 => ?_) (fun h0 => ?_)
    · have h0' : 0 < s.r := by simpa using h0
      obtain ⟨u, hu, hub⟩ := h.part hrw hw4
      simp only [hu, Get_some]
      refine copy_of h.hbf hub (by simp [h.blen]) ?_
      have hl : ((s.buf.take s.w).drop s.r).length = s.w - s.r := by simp [h.blen]; omega
      have hm : min ((s.buf.take s.w).drop s.r).length 4096 = s.w - s.r := by rw [hl]; omega
      rw [hm, List.take_of_length_le (by rw [hl]; exact Nat.le_refl _), putAt_spl (by rw [hl, h.blen]; omega)]
      generalize hH1 : upd H S.bf _ = H1
      have f1 : Frm [S.bf] H H1 := by rw [← hH1]; exact Frm.upd _ (by simp)
      have z1 : H1.size = H.size := by rw [← hH1]; simp
      have hbf1 : H1[S.bf]? = some (.cells ((spl s.buf 0 ((s.buf.take s.w).drop s.r)).map byteV).toArray S.tbf (0, 0)) := by rw [← hH1]; exact upd_same (lt_of_some h.hbf)
      have ff : Frm S.ids H H1 := f1.mono (by simp [Stk.ids])
      have h1 : RdAt S { s with buf := spl s.buf 0 ((s.buf.take s.w).drop s.r) } H1 :=
        { h with hb := f1.get h.hb (by simpa using n1), hbf := hbf1, hst := f1.get h.hst (by simpa using n4.symm), hbr := f1.get h.hbr (by simpa using n5.symm), hv := h.hv.frm ff h.d2, hE := h.hE.frm ff h.d0, blen := (spl_length (by rw [hl, h.blen]; omega)).trans h.blen }
      have e : IntKind.i64.wrap ((s.w : Int) - (s.r : Int)) = ((s.w - s.r : Nat) : Int) := by rw [wrap_i64 (by omega) (by omega)]; omega
      simp only [Fld_ptr, add_mk, Nat.zero_add, List.getElem?_toArray, List.getElem?_cons_succ, List.getElem?_cons_zero, Get_some, Br_true, Br_false, nth_zero, nth_one, nth_two, extractV_tuple, fieldAddrV_ptr, nilV_ptr, load1V_ptr, pickV_bool, unV_not, lenV_slice, capV_slice, arithV_add, arithV_sub, arithV_eql, arithV_neq, arithV_lss, arithV_leq, arithV_gtr, arithV_geq, intConvV_int, cellH_of h1.hb, bufCells, e]
      refine Store_of h1.hb (by simp [bufCells]) rfl fun H2 hb2 f2 z2 => ?_
      simp only [bufCells, List.setIfInBounds_toArray, List.set_cons_succ, List.set_cons_zero] at hb2
      refine Store_of hb2 (by simp) rfl fun H3 hb3 f3 z3 => ?_
      simp only [List.setIfInBounds_toArray, List.set_cons_succ, List.set_cons_zero] at hb3
      have h3 : RdAt S { s with buf := spl s.buf 0 ((s.buf.take s.w).drop s.r), r := 0, w := s.w - s.r } H3 :=
        h1.setb (f2.trans f3) (by rw [hb3]; rfl) rfl rfl rfl rfl (Nat.zero_le _) (by simp only []; omega) h.he
      refine ⟨_, h3, rfl, rfl, he, rfl, rfl, rfl, ?_, ff.trans ((f2.trans f3).mono (by simp [Stk.ids])), by omega⟩
      have := spl_take (buf := s.buf) (o := 0) (m := (s.buf.take s.w).drop s.r) (by rw [hl, h.blen]; omega)
      rw [hl] at this
      simpa using this
    · have h0' : s.r = 0 := by simp at h0; omega
      exact ⟨s, h, h0', by omega, he, rfl, rfl, rfl, by rw [h0', List.drop_zero], Frm.refl _ _, trivial⟩
  · rintro _ H1 ⟨s1, h1, r1, w1, e1, p1, lb1, lr1, b1, ff, z1⟩
    refine Join_direct ?_
    have hw1 : s1.w < 4096 := by omega
    have hd : decide ((s1.w : Int) ≥ ((4096 : Nat) : Int)) = false := by simp; omega
    simp only [Fld_ptr, add_mk, Nat.zero_add, List.getElem?_toArray, List.getElem?_cons_succ, List.getElem?_cons_zero, Get_some, Br_true, Br_false, nth_zero, nth_one, nth_two, extractV_tuple, fieldAddrV_ptr, nilV_ptr, load1V_ptr, pickV_bool, unV_not, lenV_slice, capV_slice, arithV_add, arithV_sub, arithV_eql, arithV_neq, arithV_lss, arithV_leq, arithV_gtr, arithV_geq, intConvV_int, cellH_of h1.hb, bufCells, hd]
    refine ⟨fun _ vs H' => vs = [.int .i64 100] ∧ H' = H1, ⟨0, rfl, rfl⟩, ?_⟩
    rintro _ _ _ ⟨rfl, rfl⟩
    have h100 : decide ((100 : Int) > 0) = true := by decide
    have hu := sliceV_lo (a := some ⟨S.bf, 0, none⟩) (n := 4096) (c := 4096) (size := 1) (lo := s1.w) (by omega) .i64
    rw [if_neg (by omega)] at hu
    simp only [Option.map_some, add_mk, Nat.zero_add, Nat.mul_one] at hu
    simp only [Fld_ptr, add_mk, Nat.zero_add, List.getElem?_toArray, List.getElem?_cons_succ, List.getElem?_cons_zero, Get_some, Br_true, Br_false, nth_zero, nth_one, nth_two, extractV_tuple, fieldAddrV_ptr, nilV_ptr, load1V_ptr, pickV_bool, unV_not, lenV_slice, capV_slice, arithV_add, arithV_sub, arithV_eql, arithV_neq, arithV_lss, arithV_leq, arithV_gtr, arithV_geq, intConvV_int, cellH_of h1.hb, bufCells, h100, hu, nilV_iface]
    refine invoke_of 218 meth123 body218 ?_
    refine (sticky_ok h1 hw1).mono ?_
    rintro x H2 ⟨n, pv, hn, rfl, h2, f2, z2⟩
    simp only [Fld_ptr, add_mk, Nat.zero_add, List.getElem?_toArray, List.getElem?_cons_succ, List.getElem?_cons_zero, Get_some, Br_true, Br_false, nth_zero, nth_one, nth_two, extractV_tuple, fieldAddrV_ptr, nilV_ptr, load1V_ptr, pickV_bool, unV_not, lenV_slice, capV_slice, arithV_add, arithV_sub, arithV_eql, arithV_neq, arithV_lss, arithV_leq, arithV_gtr, arithV_geq, intConvV_int]
    have hd2 : decide ((n : Int) < 0) = false := by simp
    have hd3 : IntKind.i64.wrap ((s1.w : Int) + (n : Int)) = ((s1.w + n : Nat) : Int) := by rw [wrap_i64 (by omega) (by omega)]; omega
    refine Join_direct ?_
    simp only [hd2, Fld_ptr, add_mk, Nat.zero_add, List.getElem?_toArray, List.getElem?_cons_succ, List.getElem?_cons_zero, Get_some, Br_true, Br_false, nth_zero, nth_one, nth_two, extractV_tuple, fieldAddrV_ptr, nilV_ptr, load1V_ptr, pickV_bool, unV_not, lenV_slice, capV_slice, arithV_add, arithV_sub, arithV_eql, arithV_neq, arithV_lss, arithV_leq, arithV_gtr, arithV_geq, intConvV_int, cellH_of h2.hb, bufCells, hd3]
    have hm : ((S.l.drop s1.pos).take n).length = n := by simp; omega
    have hbl := h1.blen
    have htk : (spl s1.buf s1.w ((S.l.drop s1.pos).take n)).take (s1.w + n) = s1.buf.take s1.w ++ (S.l.drop s1.pos).take n := by
      have := spl_take (buf := s1.buf) (o := s1.w) (m := (S.l.drop s1.pos).take n) (by rw [hm, hbl]; omega)
      rwa [hm] at this
    have hrest : ∀ e : Bool, ({ s1 with buf := spl s1.buf s1.w ((S.l.drop s1.pos).take n), w := s1.w + n, pos := s1.pos + n, err := e, serr := decide (s1.pos = S.l.length), pv := pv } : St).rest S = s.rest S := by
      intro e
      simp only [St.rest, r1, List.drop_zero]
      rw [htk, List.append_assoc, ← List.drop_drop, List.take_append_drop, b1, p1]
    have hkeep : (spl s1.buf s1.w ((S.l.drop s1.pos).take n)).take (s.w - s.r) = (s.buf.take s.w).drop s.r := by
      have : ((spl s1.buf s1.w ((S.l.drop s1.pos).take n)).take (s1.w + n)).take s1.w = s1.buf.take s1.w := by
        rw [htk, List.take_left']
        simp; omega
      rw [List.take_take, Nat.min_eq_left (by omega)] at this
      rw [← w1, this, b1]
    refine h2.store { s1 with buf := spl s1.buf s1.w ((S.l.drop s1.pos).take n), w := s1.w + n, pos := s1.pos + n, serr := decide (s1.pos = S.l.length), pv := pv } (by omega) rfl (by simp only [bufCells, List.setIfInBounds_toArray, List.set_cons_succ, List.set_cons_zero]) rfl rfl rfl rfl (by simp only []; omega) (by simp only []; omega) (by simp [e1]) fun H3 h3 f3 z3 => ?_
    simp only [neq_er, Get_some]
    refine Br_intro (fun hp => ?_) (fun hp => ?_)
    · have hp' : s1.pos = S.l.length := by simpa using hp
      have hn0 : n = 0 := by omega
      refine h3.store { s1 with buf := spl s1.buf s1.w ((S.l.drop s1.pos).take n), w := s1.w + n, pos := s1.pos + n, err := true, serr := decide (s1.pos = S.l.length), pv := pv } (by omega) (isOne_er S _) (by simp only [bufCells, List.setIfInBounds_toArray, List.set_cons_succ, List.set_cons_zero, hp]) rfl rfl rfl rfl (by simp only []; omega) (by simp only []; omega) (fun _ => by simp only []; omega) fun H4 h4 f4 z4 => ?_
      exact ⟨_, h4, ⟨r1, hrest true, lb1, lr1, hkeep, .inr ⟨by omega, rfl, by simp only []; omega⟩⟩, ((ff.trans f2).trans f3).trans f4, by omega⟩
    · have hp' : s1.pos ≠ S.l.length := by simpa using hp
      have hd4 : decide ((n : Int) > 0) = true := by simp; omega
      simp only [hd4, Br_true]
      exact ⟨_, h3, ⟨r1, hrest s1.err, lb1, lr1, hkeep, .inl ⟨by omega, e1, by simp only []; omega⟩⟩, (ff.trans f2).trans f3, by omega⟩
end Go.Cps
