/-
  bufio.Reader: ReadSlice by lines.
  Conditions: a line (or the whole rest, if it has no line break) fits the buffer.
-/
import Derived.Test.YtfajmapajpfocaaGreatDoorL6
set_option linter.all false
namespace Go.Cps
open Go Go.Proofs

def St.bufd (s : St) : List UInt8 := (s.buf.take s.w).drop s.r
theorem St.rest_eq (S : Stk) (s : St) : s.rest S = s.bufd ++ S.l.drop s.pos := rfl
theorem RdAt.bufd_len {S : Stk} {s : St} {H : Heap} (h : RdAt S s H) : s.bufd.length = s.w - s.r := by
  have := h.blen; have := h.w4
  simp [St.bufd]; omega
def nl? (l : List UInt8) : Option Nat := l.findIdx? (· == 10)
def lineLen (l : List UInt8) : Nat := match nl? l with | some j => j + 1 | none => l.length

theorem idx_eq (l : List UInt8) : idx l 10 = match nl? l with | some i => (i : Int) | none => -1 := rfl
theorem nl?_append_none {a b : List UInt8} (h : nl? a = none) : nl? (a ++ b) = (nl? b).map (· + a.length) := by
  unfold nl? at *
  rw [List.findIdx?_append, h]; simp
theorem nl?_append_some {a b : List UInt8} {i : Nat} (h : nl? a = some i) : nl? (a ++ b) = some i := by
  unfold nl? at *
  rw [List.findIdx?_append, h]; simp
theorem nl?_lt {a : List UInt8} {i : Nat} (h : nl? a = some i) : i < a.length := by
  unfold nl? at h
  exact (List.findIdx?_eq_some_iff_findIdx_eq.1 h).1
theorem lineLen_le (l : List UInt8) : lineLen l ≤ l.length := by
  unfold lineLen
  cases h : nl? l with
  | none => exact Nat.le_refl _
  | some j => exact nl?_lt h

structure Line (S : Stk) (s s' : St) (u : Value) (H H' : Heap) : Prop where
  rd : RdAt S s' H'
  line : IsBytes H' u ((s.rest S).take (lineLen (s.rest S)))
  rest : s'.rest S = (s.rest S).drop (lineLen (s.rest S))
  blk : blk u = none ∨ Go.Cps.blk u = some S.bf
  frm : Frm S.ids H H'
  size : H'.size = H.size

theorem blk_slice (a : Option Addr) (n c : Nat) : Go.Cps.blk (.slice a n c) = a.map (·.block) := by cases a <;> rfl

theorem RdAt.part' {S : Stk} {s : St} {H : Heap} (h : RdAt S s H) {i j : Nat} (h1 : i ≤ j) (h2 : j ≤ 4096) : ∃ u, (∀ k k', sliceV 1 (.slice (some ⟨S.bf, 0, none⟩) 4096 4096) (some (.int k i)) (some (.int k' j)) none = some u) ∧ IsBytes H u ((s.buf.take j).drop i) ∧ Go.Cps.blk u = some S.bf := by
  have e := h.bytes.sub (lo := i) (hi := j) h1 (by rw [h.blen]; exact h2)
  refine ⟨_, fun k k' => sliceV_of h1 h2 k k', ?_, ?_⟩
  · simpa [apply_ite] using e
  · rw [blk_slice]; split <;> simp

theorem readSlice_ok {S : Stk} {s : St} {H : Heap} (h : RdAt S s H) (hn : nl? (s.rest S) = none → (s.rest S).length < 4096) (hs : ∀ j, nl? (s.rest S) = some j → j < 4096) :
    CallsH Tryz.prog 93 #[.pointer (some ⟨S.b, 0, none⟩), .int .u8 10] H fun x H' => ∃ u s', x = .tuple #[u, S.er (nl? (s.rest S)).isNone] ∧ Line S s s' u H H' := by
  apply s93
  unfold c93
  refine ⟨fun vs H1 => ∃ u s1, vs = [u, S.er (nl? (s.rest S)).isNone] ∧ Line S s s1 u H H1, ?_, ?_⟩
  · refine ⟨fun n vs H1 => ∃ s1 k, vs = [.nilIface, .int .i64 (k : Nat)] ∧ n = ((s.rest S).length - (s1.w - s1.r)) + (if s1.err then 0 else 1) ∧ RdAt S s1 H1 ∧ s1.rest S = s.rest S ∧ k ≤ s1.w - s1.r ∧ nl? (s1.bufd.take k) = none ∧ Frm S.ids H H1 ∧ H1.size = H.size,
      ⟨_, s, 0, rfl, rfl, h, rfl, Nat.zero_le _, rfl, Frm.refl _ _, rfl⟩, ?_⟩
    rintro n vs H1 ⟨s1, k, rfl, rfl, h1, hr, hk, hnk, f1, z1⟩
    have hrw := h1.rw
    have hw4 := h1.w4
    have hlen := h1.bufd_len
    have e0 : IntKind.i64.wrap ((s1.r : Int) + (k : Int)) = ((s1.r + k : Nat) : Int) := by rw [wrap_i64 (by omega) (by omega)]; omega
    obtain ⟨u, hu, hub, _⟩ := h1.part' (i := s1.r + k) (j := s1.w) (by omega) hw4
    have hdk : (s1.buf.take s1.w).drop (s1.r + k) = s1.bufd.drop k := by rw [St.bufd, List.drop_drop]
    rw [hdk] at hub
    simp only [Fld_ptr, add_mk, Nat.zero_add, List.getElem?_toArray, List.getElem?_cons_succ, List.getElem?_cons_zero, Get_some, Br_true, Br_false, nth_zero, nth_one, nth_two, extractV_tuple, fieldAddrV_ptr, nilV_ptr, load1V_ptr, pickV_bool, unV_not, lenV_slice, capV_slice, arithV_add, arithV_sub, arithV_eql, arithV_neq, arithV_lss, arithV_leq, arithV_gtr, arithV_geq, intConvV_int, cellH_of h1.hb, bufCells, e0, hu]
    refine (indexByte_ok hub 10).mono ?_
    rintro x H2 ⟨rfl, rfl⟩
    rw [idx_eq]
    have hsplit : s1.rest S = s1.bufd.take k ++ (s1.bufd.drop k ++ S.l.drop s1.pos) := by rw [← List.append_assoc, List.take_append_drop]; rfl
    have hkl : (s1.bufd.take k).length = k := by simp; omega
    cases hi : nl? (s1.bufd.drop k) with
    | some i =>
      have hi2 := nl?_lt hi
      rw [List.length_drop] at hi2
      have hnl : nl? (s1.rest S) = some (i + k) := by
        rw [hsplit, nl?_append_none hnk, nl?_append_some hi, hkl]; rfl
      have hd : decide ((i : Int) ≥ 0) = true := by simp
      have e1 : IntKind.i64.wrap ((i : Int) + (k : Int)) = ((i + k : Nat) : Int) := by rw [wrap_i64 (by omega) (by omega)]; omega
      have e2 : IntKind.i64.wrap ((s1.r : Int) + ((i + k : Nat) : Int)) = ((s1.r + (i + k) : Nat) : Int) := by rw [wrap_i64 (by omega) (by omega)]; omega
      have e3 : IntKind.i64.wrap (((s1.r + (i + k) : Nat) : Int) + 1) = ((s1.r + (i + k) + 1 : Nat) : Int) := by rw [wrap_i64 (by omega) (by omega)]; omega
      have e4 : IntKind.i64.wrap (((i + k : Nat) : Int) + 1) = ((i + k + 1 : Nat) : Int) := by rw [wrap_i64 (by omega) (by omega)]; omega
      have e5 : IntKind.i64.wrap ((s1.r : Int) + ((i + k + 1 : Nat) : Int)) = ((s1.r + (i + k + 1) : Nat) : Int) := by rw [wrap_i64 (by omega) (by omega)]; omega
      obtain ⟨y, hy, hyb, hyk⟩ := h1.part' (i := s1.r) (j := s1.r + (i + k) + 1) (by omega) (by omega)
      simp only [Fld_ptr, add_mk, Nat.zero_add, List.getElem?_toArray, List.getElem?_cons_succ, List.getElem?_cons_zero, Get_some, Br_true, Br_false, nth_zero, nth_one, nth_two, extractV_tuple, fieldAddrV_ptr, nilV_ptr, load1V_ptr, pickV_bool, unV_not, lenV_slice, capV_slice, arithV_add, arithV_sub, arithV_eql, arithV_neq, arithV_lss, arithV_leq, arithV_gtr, arithV_geq, intConvV_int, hd, e1, e2, e3, e4, e5, hy, cellH_of h1.hb, bufCells]
      refine h1.store { s1 with r := s1.r + (i + k + 1) } (by omega) rfl (by simp only [bufCells, List.setIfInBounds_toArray, List.set_cons_succ, List.set_cons_zero]) rfl rfl rfl rfl (by simp only []; omega) hw4 h1.he fun H3 h3 f3 z3 => ?_
      have hll : lineLen (s.rest S) = i + k + 1 := by rw [← hr, lineLen, hnl]
      have hline : (s1.buf.take (s1.r + (i + k) + 1)).drop s1.r = (s.rest S).take (i + k + 1) := by
        rw [← hr, St.rest_eq, List.take_append_of_le_length (by omega), St.bufd, List.drop_take, List.drop_take, List.take_take]
        congr 1
        omega
      rw [hline] at hyb
      refine ⟨y, _, by rw [← hr, hnl]; rfl, h3, ?_, ?_, .inr hyk, f1.trans f3, by omega⟩
      · rw [hll]
        have hb1 := h1.hbf
        exact hyb.cast fun b o c e => by
          have : b = S.bf := by rw [e] at hyk; simpa [blk_slice] using hyk
          subst this
          have e3 := h3.hbf
          simp only [] at e3
          rw [e3, hb1]
      · rw [hll, ← hr, St.rest_eq S s1, List.drop_append_of_le_length (by omega), St.rest]
        simp only []
        rw [St.bufd, List.drop_drop]
    | none =>
      have hd : decide ((-1 : Int) ≥ 0) = false := by decide
      have hbn : nl? s1.bufd = none := by
        rw [← List.take_append_drop k s1.bufd, nl?_append_none hnk, hi]; rfl
      simp only [Fld_ptr, add_mk, Nat.zero_add, List.getElem?_toArray, List.getElem?_cons_succ, List.getElem?_cons_zero, Get_some, Br_true, Br_false, nth_zero, nth_one, nth_two, extractV_tuple, fieldAddrV_ptr, nilV_ptr, load1V_ptr, pickV_bool, unV_not, lenV_slice, capV_slice, arithV_add, arithV_sub, arithV_eql, arithV_neq, arithV_lss, arithV_leq, arithV_gtr, arithV_geq, intConvV_int, hd, cellH_of h1.hb, bufCells, neq_er]
      refine Br_intro (fun he => ?_) (fun he => ?_)
      · have hp := h1.he he
        have hrb : s1.rest S = s1.bufd := by rw [St.rest_eq, hp, List.drop_length, List.append_nil]
        obtain ⟨y, hy, hyb, hyk⟩ := h1.part' (i := s1.r) (j := s1.w) hrw hw4
        simp only [hy, Get_some]
        refine h1.store { s1 with r := s1.w } (by omega) rfl (by simp only [bufCells, List.setIfInBounds_toArray, List.set_cons_succ, List.set_cons_zero]) rfl rfl rfl rfl (by simp only []; omega) hw4 h1.he fun H3 h3 f3 z3 => ?_
        refine (readErr_ok h3).mono ?_
        rintro x H4 ⟨rfl, h4, f4, z4⟩
        have hnr : nl? (s.rest S) = none := by rw [← hr, hrb, hbn]
        have hll : lineLen (s.rest S) = (s.rest S).length := by rw [lineLen, hnr]
        refine ⟨y, _, by rw [hnr]; simp only [he]; rfl, h4, ?_, ?_, .inr hyk, (f1.trans f3).trans f4, by omega⟩
        · rw [hll, List.take_length, ← hr, hrb]
          exact hyb.cast fun b o c e => by
            have : b = S.bf := by rw [e] at hyk; simpa [blk_slice] using hyk
            subst this
            have e4 := h4.hbf
            simp only [] at e4
            rw [e4, h1.hbf]
        · rw [hll, List.drop_length, St.rest]
          simp only [hp, List.drop_length, List.append_nil]
          rw [List.drop_eq_nil_of_le]
          simp; omega
      · refine (buffered_ok h1).mono ?_
        rintro x H3 ⟨rfl, rfl⟩
        have hlt : s1.w - s1.r < 4096 := by
          cases hnr : nl? (s.rest S) with
          | none =>
            have := hn hnr
            rw [← hr, St.rest_eq, List.length_append] at this
            omega
          | some j =>
            have h2 := hs j hnr
            rw [← hr, St.rest_eq, nl?_append_none hbn] at hnr
            cases hq : nl? (S.l.drop s1.pos) with
            | none => rw [hq] at hnr; simp at hnr
            | some q =>
              rw [hq] at hnr
              simp only [Option.map_some, Option.some.injEq] at hnr
              omega
        have hd2 : decide (((s1.w - s1.r : Nat) : Int) ≥ ((4096 : Nat) : Int)) = false := by simp; omega
        have e6 : IntKind.i64.wrap ((s1.w : Int) - (s1.r : Int)) = ((s1.w - s1.r : Nat) : Int) := by rw [wrap_i64 (by omega) (by omega)]; omega
        refine ⟨⟨by rw [cellH_of h1.hb]; simp only [bufCells, Fld_ptr, add_mk, Nat.zero_add, List.getElem?_toArray, List.getElem?_cons_succ, List.getElem?_cons_zero, Get_some, Br_true, Br_false, nth_zero, nth_one, nth_two, extractV_tuple, fieldAddrV_ptr, nilV_ptr, load1V_ptr, pickV_bool, unV_not, lenV_slice, capV_slice], trivial⟩, ?_⟩
        simp only [Fld_ptr, add_mk, Nat.zero_add, List.getElem?_toArray, List.getElem?_cons_succ, List.getElem?_cons_zero, Get_some, Br_true, Br_false, nth_zero, nth_one, nth_two, extractV_tuple, fieldAddrV_ptr, nilV_ptr, load1V_ptr, pickV_bool, unV_not, lenV_slice, capV_slice, arithV_add, arithV_sub, arithV_eql, arithV_neq, arithV_lss, arithV_leq, arithV_gtr, arithV_geq, intConvV_int, hd2, cellH_of h1.hb, bufCells, e6]
        refine (fill_ok h1 he hlt).mono ?_
        rintro _ H4 ⟨s2, h2, hf, f2, z2⟩
        have hr2 : s2.rest S = s.rest S := hf.rest.trans hr
        have hl2 := h2.bufd_len
        have hle : s2.w - s2.r ≤ (s.rest S).length := by rw [← hr2, St.rest_eq, List.length_append]; omega
        have hr0 := hf.r0
        refine ⟨_, ?_, s2, s1.w - s1.r, rfl, rfl, h2, hr2, ?_, ?_, f1.trans f2, by omega⟩
        · rcases hf.how with ⟨_, hh, hh2⟩ | ⟨_, hh, hh2⟩
          · simp only [hh, he, Bool.false_eq_true, if_false]; omega
          · simp only [hh, he, Bool.false_eq_true, if_false, if_true]; omega
        · rcases hf.how with ⟨_, hh, hh2⟩ | ⟨_, hh, hh2⟩ <;> omega
        · have hkeep := hf.keep
          have hw2 : s1.w - s1.r ≤ s2.w := by rcases hf.how with ⟨_, hh, hh2⟩ | ⟨_, hh, hh2⟩ <;> omega
          rw [St.bufd, hr0, List.drop_zero, List.take_take, Nat.min_eq_left hw2, hkeep]
          exact hbn
  · rintro _ H1 ⟨u, s1, rfl, hL⟩
    have hlen := hL.line.len
    simp only [Fld_ptr, add_mk, Nat.zero_add, List.getElem?_toArray, List.getElem?_cons_succ, List.getElem?_cons_zero, Get_some, Br_true, Br_false, nth_zero, nth_one, nth_two, extractV_tuple, fieldAddrV_ptr, nilV_ptr, load1V_ptr, pickV_bool, unV_not, lenV_slice, capV_slice, arithV_add, arithV_sub, arithV_eql, arithV_neq, arithV_lss, arithV_leq, arithV_gtr, arithV_geq, intConvV_int, hlen]
    generalize hm : ((s.rest S).take (lineLen (s.rest S))) = m at *
    have hm4 : m.length ≤ 4096 := by
      rw [← hm, List.length_take]
      unfold lineLen
      cases hnr : nl? (s.rest S) with
      | none => have := hn hnr; simp only []; omega
      | some j => have := hs j hnr; simp only []; omega
    have e1 : IntKind.i64.wrap ((m.length : Int) - 1) = (m.length : Int) - 1 := wrap_i64 (by omega) (by omega)
    rw [e1]
    refine ⟨fun _ H2 => ∃ s2, Line S s s2 u H H2, ?_, ?_⟩
    · refine Br_intro (fun h0 => ?_) (fun h0 => ⟨s1, hL⟩)
      have h0' : 0 < m.length := by simp at h0; omega
      rcases hL.line with ⟨bb, o, c, rfl, hc, hcell⟩ | ⟨_, he⟩
      · rw [hm] at hcell hc
        have hbk : bb = S.bf := by
          rcases hL.blk with hh | hh <;> simp [blk_slice] at hh
          exact hh
        have hcl := hcell (m.length - 1) (by omega)
        rw [List.getElem?_eq_getElem (by omega)] at hcl
        rw [hm, elemAddr_of (by omega) (by omega)]
        have e2 : ((m.length : Int) - 1).toNat * 1 = m.length - 1 := by omega
        simp only [Fld_ptr, add_mk, Nat.zero_add, List.getElem?_toArray, List.getElem?_cons_succ, List.getElem?_cons_zero, Get_some, Br_true, Br_false, nth_zero, nth_one, nth_two, extractV_tuple, fieldAddrV_ptr, nilV_ptr, load1V_ptr, pickV_bool, unV_not, lenV_slice, capV_slice, arithV_add, arithV_sub, arithV_eql, arithV_neq, arithV_lss, arithV_leq, arithV_gtr, arithV_geq, intConvV_int, e2, hcl, Option.map_some, byteV]
        refine hL.rd.store { s1 with lb := IntKind.i64.wrap (((m[m.length - 1]'(by omega)).toNat : Nat) : Int) } (by omega) rfl (by simp only [bufCells, List.setIfInBounds_toArray, List.set_cons_succ, List.set_cons_zero]) rfl rfl rfl rfl hL.rd.rw hL.rd.w4 hL.rd.he fun H3 h3 f3 z3 => ?_
        refine h3.store { s1 with lb := IntKind.i64.wrap (((m[m.length - 1]'(by omega)).toNat : Nat) : Int), lr := -1 } (by omega) rfl (by simp only [bufCells, List.setIfInBounds_toArray, List.set_cons_succ, List.set_cons_zero]) rfl rfl rfl rfl hL.rd.rw hL.rd.w4 hL.rd.he fun H4 h4 f4 z4 => ?_
        refine ⟨_, h4, ?_, ?_, hL.blk, (hL.frm.trans f3).trans f4, by have := hL.size; omega⟩
        · rw [hm]
          have hline := hL.line
          rw [hm] at hline
          exact hline.cast fun b o c e => by
            have : b = S.bf := by
              have e := congrArg Go.Cps.blk e
              simp only [blk_slice, Option.map_some, Option.some.injEq] at e
              omega
            subst this
            have e4 := h4.hbf
            simp only [] at e4
            rw [e4, hL.rd.hbf]
        · have := hL.rest
          exact this
      · rw [hm] at he
        rw [he] at h0'
        simp at h0'
    · rintro _ H2 ⟨s2, hL2⟩
      exact ⟨u, s2, rfl, hL2⟩
end Go.Cps
