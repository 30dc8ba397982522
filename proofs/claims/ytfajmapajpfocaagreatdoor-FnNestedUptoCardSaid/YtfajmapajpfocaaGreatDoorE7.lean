/-
  A part of the proof (its texts: L7, G2, L8): each text says below what it proves.
  Conditions: each contract's own.
-/
import Derived.LaidEqlPtr
import Derived.Test.YtfajmapajpfocaaGreatDoorE4
import Derived.Test.YtfajmapajpfocaaGreatDoorE6
set_option linter.all false
/-
  bufio.Reader: ReadSlice by lines.
  Conditions: a line (or the whole rest, if it has no line break) fits the buffer.
-/
namespace Go.Cps
open Go Go.Proofs

def St.bufd (s : St) : List UInt8 := (s.buf.take s.w).drop s.r
theorem St.rest_eq (S : Stk) (s : St) : s.rest S = s.bufd ++ S.l.drop s.pos := rfl
theorem RdAt.bufd_len {S : Stk} {s : St} {H : Heap} (h : RdAt S s H) : s.bufd.length = s.w - s.r := by
  have := h.blen; have := h.w4
  simp [St.bufd]; omega
def nl? (l : List UInt8) : Option Nat := l.findIdx? (· == 10)
def lineLen (l : List UInt8) : Nat := match nl? l with | some j => j + 1 | none => l.length

theorem idx_eq (l : List UInt8) : idx l 10 = match nl? l with | some i => (i : Int) | none => -1 := rfl
theorem nl?_append_none {a b : List UInt8} (h : nl? a = none) : nl? (a ++ b) = (nl? b).map (· + a.length) := by
  unfold nl? at *
  rw [List.findIdx?_append, h]; simp
theorem nl?_append_some {a b : List UInt8} {i : Nat} (h : nl? a = some i) : nl? (a ++ b) = some i := by
  unfold nl? at *
  rw [List.findIdx?_append, h]; simp
theorem nl?_lt {a : List UInt8} {i : Nat} (h : nl? a = some i) : i < a.length := by
  unfold nl? at h
  exact (List.findIdx?_eq_some_iff_findIdx_eq.1 h).1
/-- a slice in block b that ends at hi or ahead of it -/
def Rng (u : Value) (b hi : Nat) : Prop := ∃ o n c, u = .slice (some ⟨b, o, none⟩) n c ∧ o + n ≤ hi
structure Line (S : Stk) (s s' : St) (u : Value) (H H' : Heap) : Prop where
  rd : RdAt S s' H'
  line : IsBytes H' u ((s.rest S).take (lineLen (s.rest S)))
  rest : s'.rest S = (s.rest S).drop (lineLen (s.rest S))
  blk : blk u = none ∨ Go.Cps.blk u = some S.bf
  rng : Rng u S.bf s'.r
  frm : Frm S.ids H H'
  size : H'.size = H.size

theorem blk_slice (a : Option Addr) (n c : Nat) : Go.Cps.blk (.slice a n c) = a.map (·.block) := by cases a <;> rfl

theorem RdAt.part' {S : Stk} {s : St} {H : Heap} (h : RdAt S s H) {i j : Nat} (h1 : i ≤ j) (h2 : j ≤ 4096) : ∃ u, (∀ k k', sliceV 1 (.slice (some ⟨S.bf, 0, none⟩) 4096 4096) (some (.int k i)) (some (.int k' j)) none = some u) ∧ IsBytes H u ((s.buf.take j).drop i) ∧ Go.Cps.blk u = some S.bf ∧ Rng u S.bf j := by
  have e := h.bytes.sub (lo := i) (hi := j) h1 (by rw [h.blen]; exact h2)
  refine ⟨_, fun k k' => sliceV_of h1 h2 k k', ?_, ?_⟩
  · simpa [apply_ite] using e
  · rw [blk_slice]
    refine ⟨by split <;> simp, ?_⟩
    split
    · exact ⟨0, j - i, 4096 - i, rfl, by omega⟩
    · exact ⟨0 + i * 1, j - i, 4096 - i, by simp, by omega⟩

theorem readSlice_ok {S : Stk} {s : St} {H : Heap} (h : RdAt S s H) (hn : nl? (s.rest S) = none → (s.rest S).length < 4096) (hs : ∀ j, nl? (s.rest S) = some j → j < 4096) :
    CallsH Tryz.prog 93 #[.pointer (some ⟨S.b, 0, none⟩), .int .u8 10] H fun x H' => ∃ u s', x = .tuple #[u, S.er (nl? (s.rest S)).isNone] ∧ Line S s s' u H H' := by
  apply s93
  unfold c93
  refine ⟨fun vs H1 => ∃ u s1, vs = [u, S.er (nl? (s.rest S)).isNone] ∧ Line S s s1 u H H1, ?_, ?_⟩
  · refine ⟨fun n vs H1 => ∃ s1 k, vs = [.nilIface, .int .i64 (k : Nat)] ∧ n = ((s.rest S).length - (s1.w - s1.r)) + (if s1.err then 0 else 1) ∧ RdAt S s1 H1 ∧ s1.rest S = s.rest S ∧ k ≤ s1.w - s1.r ∧ nl? (s1.bufd.take k) = none ∧ Frm S.ids H H1 ∧ H1.size = H.size,
      ⟨_, s, 0, rfl, rfl, h, rfl, Nat.zero_le _, rfl, Frm.refl _ _, rfl⟩, ?_⟩
    rintro n vs H1 ⟨s1, k, rfl, rfl, h1, hr, hk, hnk, f1, z1⟩
    have hrw := h1.rw
    have hw4 := h1.w4
    have hlen := h1.bufd_len
    have e0 : IntKind.i64.wrap ((s1.r : Int) + (k : Int)) = ((s1.r + k : Nat) : Int) := by rw [wrap_i64 (by omega) (by omega)]; omega
    obtain ⟨u, hu, hub, _, _⟩ := h1.part' (i := s1.r + k) (j := s1.w) (by omega) hw4
    have hdk : (s1.buf.take s1.w).drop (s1.r + k) = s1.bufd.drop k := by rw [St.bufd, List.drop_drop]
    rw [hdk] at hub
    simp only [Fld_ptr, add_mk, Nat.zero_add, List.getElem?_toArray, List.getElem?_cons_succ, List.getElem?_cons_zero, Get_some, Br_true, Br_false, nth_zero, nth_one, nth_two, extractV_tuple, fieldAddrV_ptr, nilV_ptr, load1V_ptr, pickV_bool, unV_not, lenV_slice, capV_slice, arithV_add, arithV_sub, arithV_eql, arithV_neq, arithV_lss, arithV_leq, arithV_gtr, arithV_geq, intConvV_int, cellH_of h1.hb, bufCells, e0, hu]
    refine (indexByte_ok hub 10).mono ?_
    rintro x H2 ⟨rfl, rfl⟩
    rw [idx_eq]
    have hsplit : s1.rest S = s1.bufd.take k ++ (s1.bufd.drop k ++ S.l.drop s1.pos) := by rw [← List.append_assoc, List.take_append_drop]; rfl
    have hkl : (s1.bufd.take k).length = k := by simp; omega
    cases hi : nl? (s1.bufd.drop k) with
    | some i =>
      have hi2 := nl?_lt hi
      rw [List.length_drop] at hi2
      have hnl : nl? (s1.rest S) = some (i + k) := by
        rw [hsplit, nl?_append_none hnk, nl?_append_some hi, hkl]; rfl
      have hd : decide ((i : Int) ≥ 0) = true := by simp
      have e1 : IntKind.i64.wrap ((i : Int) + (k : Int)) = ((i + k : Nat) : Int) := by rw [wrap_i64 (by omega) (by omega)]; omega
      have e2 : IntKind.i64.wrap ((s1.r : Int) + ((i + k : Nat) : Int)) = ((s1.r + (i + k) : Nat) : Int) := by rw [wrap_i64 (by omega) (by omega)]; omega
      have e3 : IntKind.i64.wrap (((s1.r + (i + k) : Nat) : Int) + 1) = ((s1.r + (i + k) + 1 : Nat) : Int) := by rw [wrap_i64 (by omega) (by omega)]; omega
      have e4 : IntKind.i64.wrap (((i + k : Nat) : Int) + 1) = ((i + k + 1 : Nat) : Int) := by rw [wrap_i64 (by omega) (by omega)]; omega
      have e5 : IntKind.i64.wrap ((s1.r : Int) + ((i + k + 1 : Nat) : Int)) = ((s1.r + (i + k + 1) : Nat) : Int) := by rw [wrap_i64 (by omega) (by omega)]; omega
      obtain ⟨y, hy, hyb, hyk, hyr⟩ := h1.part' (i := s1.r) (j := s1.r + (i + k) + 1) (by omega) (by omega)
      simp only [Fld_ptr, add_mk, Nat.zero_add, List.getElem?_toArray, List.getElem?_cons_succ, List.getElem?_cons_zero, Get_some, Br_true, Br_false, nth_zero, nth_one, nth_two, extractV_tuple, fieldAddrV_ptr, nilV_ptr, load1V_ptr, pickV_bool, unV_not, lenV_slice, capV_slice, arithV_add, arithV_sub, arithV_eql, arithV_neq, arithV_lss, arithV_leq, arithV_gtr, arithV_geq, intConvV_int, hd, e1, e2, e3, e4, e5, hy, cellH_of h1.hb, bufCells]
      refine h1.store { s1 with r := s1.r + (i + k + 1) } (by omega) rfl (by simp only [bufCells, List.setIfInBounds_toArray, List.set_cons_succ, List.set_cons_zero]) rfl rfl rfl rfl (by simp only []; omega) hw4 h1.he fun H3 h3 f3 z3 => ?_
      have hll : lineLen (s.rest S) = i + k + 1 := by rw [← hr, lineLen, hnl]
      have hline : (s1.buf.take (s1.r + (i + k) + 1)).drop s1.r = (s.rest S).take (i + k + 1) := by
        rw [← hr, St.rest_eq, List.take_append_of_le_length (by omega), St.bufd, List.drop_take, List.drop_take, List.take_take]
        congr 1
        omega
      rw [hline] at hyb
      refine ⟨y, _, by rw [← hr, hnl]; rfl, h3, ?_, ?_, .inr hyk, hyr, f1.trans f3, by omega⟩
      · rw [hll]
        have hb1 := h1.hbf
        exact hyb.cast fun b o c e => by
          have : b = S.bf := by rw [e] at hyk; simpa [blk_slice] using hyk
          subst this
          have e3 := h3.hbf
          simp only [] at e3
          rw [e3, hb1]
      · rw [hll, ← hr, St.rest_eq S s1, List.drop_append_of_le_length (by omega), St.rest]
        simp only []
        rw [St.bufd, List.drop_drop]
    | none =>
      have hd : decide ((-1 : Int) ≥ 0) = false := by decide
      have hbn : nl? s1.bufd = none := by
        rw [← List.take_append_drop k s1.bufd, nl?_append_none hnk, hi]; rfl
      simp only [Fld_ptr, add_mk, Nat.zero_add, List.getElem?_toArray, List.getElem?_cons_succ, List.getElem?_cons_zero, Get_some, Br_true, Br_false, nth_zero, nth_one, nth_two, extractV_tuple, fieldAddrV_ptr, nilV_ptr, load1V_ptr, pickV_bool, unV_not, lenV_slice, capV_slice, arithV_add, arithV_sub, arithV_eql, arithV_neq, arithV_lss, arithV_leq, arithV_gtr, arithV_geq, intConvV_int, hd, cellH_of h1.hb, bufCells, neq_er]
      refine Br_intro (fun he => ?_) (fun he => ?_)
      · have hp := h1.he he
        have hrb : s1.rest S = s1.bufd := by rw [St.rest_eq, hp, List.drop_length, List.append_nil]
        obtain ⟨y, hy, hyb, hyk, hyr⟩ := h1.part' (i := s1.r) (j := s1.w) hrw hw4
        simp only [hy, Get_some]
        refine h1.store { s1 with r := s1.w } (by omega) rfl (by simp only [bufCells, List.setIfInBounds_toArray, List.set_cons_succ, List.set_cons_zero]) rfl rfl rfl rfl (by simp only []; omega) hw4 h1.he fun H3 h3 f3 z3 => ?_
        refine (readErr_ok h3).mono ?_
        rintro x H4 ⟨rfl, h4, f4, z4⟩
        have hnr : nl? (s.rest S) = none := by rw [← hr, hrb, hbn]
        have hll : lineLen (s.rest S) = (s.rest S).length := by rw [lineLen, hnr]
        refine ⟨y, _, by rw [hnr]; simp only [he]; rfl, h4, ?_, ?_, .inr hyk, hyr, (f1.trans f3).trans f4, by omega⟩
        · rw [hll, List.take_length, ← hr, hrb]
          exact hyb.cast fun b o c e => by
            have : b = S.bf := by rw [e] at hyk; simpa [blk_slice] using hyk
            subst this
            have e4 := h4.hbf
            simp only [] at e4
            rw [e4, h1.hbf]
        · rw [hll, List.drop_length, St.rest]
          simp only [hp, List.drop_length, List.append_nil]
          rw [List.drop_eq_nil_of_le]
          simp; omega
      · refine (buffered_ok h1).mono ?_
        rintro x H3 ⟨rfl, rfl⟩
        have hlt : s1.w - s1.r < 4096 := by
          cases hnr : nl? (s.rest S) with
          | none =>
            have := hn hnr
            rw [← hr, St.rest_eq, List.length_append] at this
            omega
          | some j =>
            have h2 := hs j hnr
            rw [← hr, St.rest_eq, nl?_append_none hbn] at hnr
            cases hq : nl? (S.l.drop s1.pos) with
            | none => rw [hq] at hnr; simp at hnr
            | some q =>
              rw [hq] at hnr
              simp only [Option.map_some, Option.some.injEq] at hnr
              omega
        have hd2 : decide (((s1.w - s1.r : Nat) : Int) ≥ ((4096 : Nat) : Int)) = false := by simp; omega
        have e6 : IntKind.i64.wrap ((s1.w : Int) - (s1.r : Int)) = ((s1.w - s1.r : Nat) : Int) := by rw [wrap_i64 (by omega) (by omega)]; omega
        refine ⟨⟨by rw [cellH_of h1.hb]; simp only [bufCells, Fld_ptr, add_mk, Nat.zero_add, List.getElem?_toArray, List.getElem?_cons_succ, List.getElem?_cons_zero, Get_some, Br_true, Br_false, nth_zero, nth_one, nth_two, extractV_tuple, fieldAddrV_ptr, nilV_ptr, load1V_ptr, pickV_bool, unV_not, lenV_slice, capV_slice], trivial⟩, ?_⟩
        simp only [Fld_ptr, add_mk, Nat.zero_add, List.getElem?_toArray, List.getElem?_cons_succ, List.getElem?_cons_zero, Get_some, Br_true, Br_false, nth_zero, nth_one, nth_two, extractV_tuple, fieldAddrV_ptr, nilV_ptr, load1V_ptr, pickV_bool, unV_not, lenV_slice, capV_slice, arithV_add, arithV_sub, arithV_eql, arithV_neq, arithV_lss, arithV_leq, arithV_gtr, arithV_geq, intConvV_int, hd2, cellH_of h1.hb, bufCells, e6]
        refine (fill_ok h1 he hlt).mono ?_
        rintro _ H4 ⟨s2, h2, hf, f2, z2⟩
        have hr2 : s2.rest S = s.rest S := hf.rest.trans hr
        have hl2 := h2.bufd_len
        have hle : s2.w - s2.r ≤ (s.rest S).length := by rw [← hr2, St.rest_eq, List.length_append]; omega
        have hr0 := hf.r0
        refine ⟨_, ?_, s2, s1.w - s1.r, rfl, rfl, h2, hr2, ?_, ?_, f1.trans f2, by omega⟩
        · rcases hf.how with ⟨_, hh, hh2⟩ | ⟨_, hh, hh2⟩
          · simp only [hh, he, Bool.false_eq_true, if_false]; omega
          · simp only [hh, he, Bool.false_eq_true, if_false, if_true]; omega
        · rcases hf.how with ⟨_, hh, hh2⟩ | ⟨_, hh, hh2⟩ <;> omega
        · have hkeep := hf.keep
          have hw2 : s1.w - s1.r ≤ s2.w := by rcases hf.how with ⟨_, hh, hh2⟩ | ⟨_, hh, hh2⟩ <;> omega
          rw [St.bufd, hr0, List.drop_zero, List.take_take, Nat.min_eq_left hw2, hkeep]
          exact hbn
  · rintro _ H1 ⟨u, s1, rfl, hL⟩
    have hlen := hL.line.len
    simp only [Fld_ptr, add_mk, Nat.zero_add, List.getElem?_toArray, List.getElem?_cons_succ, List.getElem?_cons_zero, Get_some, Br_true, Br_false, nth_zero, nth_one, nth_two, extractV_tuple, fieldAddrV_ptr, nilV_ptr, load1V_ptr, pickV_bool, unV_not, lenV_slice, capV_slice, arithV_add, arithV_sub, arithV_eql, arithV_neq, arithV_lss, arithV_leq, arithV_gtr, arithV_geq, intConvV_int, hlen]
    generalize hm : ((s.rest S).take (lineLen (s.rest S))) = m at *
    have hm4 : m.length ≤ 4096 := by
      rw [← hm, List.length_take]
      unfold lineLen
      cases hnr : nl? (s.rest S) with
      | none => have := hn hnr; simp only []; omega
      | some j => have := hs j hnr; simp only []; omega
    have e1 : IntKind.i64.wrap ((m.length : Int) - 1) = (m.length : Int) - 1 := wrap_i64 (by omega) (by omega)
    rw [e1]
    refine ⟨fun _ H2 => ∃ s2, Line S s s2 u H H2, ?_, ?_⟩
    · refine Br_intro (fun h0 => ?_) (fun h0 => ⟨s1, hL⟩)
      have h0' : 0 < m.length := by simp at h0; omega
      rcases hL.line with ⟨bb, o, c, rfl, hc, hcell⟩ | ⟨_, _, he⟩
      · rw [hm] at hcell hc
        have hbk : bb = S.bf := by
          rcases hL.blk with hh | hh <;> simp [blk_slice] at hh
          exact hh
        have hcl := hcell (m.length - 1) (by omega)
        rw [List.getElem?_eq_getElem (by omega)] at hcl
        rw [hm, elemAddr_of (by omega) (by omega)]
        have e2 : ((m.length : Int) - 1).toNat * 1 = m.length - 1 := by omega
        simp only [Fld_ptr, add_mk, Nat.zero_add, List.getElem?_toArray, List.getElem?_cons_succ, List.getElem?_cons_zero, Get_some, Br_true, Br_false, nth_zero, nth_one, nth_two, extractV_tuple, fieldAddrV_ptr, nilV_ptr, load1V_ptr, pickV_bool, unV_not, lenV_slice, capV_slice, arithV_add, arithV_sub, arithV_eql, arithV_neq, arithV_lss, arithV_leq, arithV_gtr, arithV_geq, intConvV_int, e2, hcl, Option.map_some, byteV]
        refine hL.rd.store { s1 with lb := IntKind.i64.wrap (((m[m.length - 1]'(by omega)).toNat : Nat) : Int) } (by omega) rfl (by simp only [bufCells, List.setIfInBounds_toArray, List.set_cons_succ, List.set_cons_zero]) rfl rfl rfl rfl hL.rd.rw hL.rd.w4 hL.rd.he fun H3 h3 f3 z3 => ?_
        refine h3.store { s1 with lb := IntKind.i64.wrap (((m[m.length - 1]'(by omega)).toNat : Nat) : Int), lr := -1 } (by omega) rfl (by simp only [bufCells, List.setIfInBounds_toArray, List.set_cons_succ, List.set_cons_zero]) rfl rfl rfl rfl hL.rd.rw hL.rd.w4 hL.rd.he fun H4 h4 f4 z4 => ?_
        refine ⟨_, h4, ?_, ?_, hL.blk, by have hq := hL.rng; rw [hm] at hq; exact hq, (hL.frm.trans f3).trans f4, by have := hL.size; omega⟩
        · rw [hm]
          have hline := hL.line
          rw [hm] at hline
          exact hline.cast fun b o c e => by
            have : b = S.bf := by
              have e := congrArg Go.Cps.blk e
              simp only [blk_slice, Option.map_some, Option.some.injEq] at e
              omega
            subst this
            have e4 := h4.hbf
            simp only [] at e4
            rw [e4, hL.rd.hbf]
        · have := hL.rest
          exact this
      · rw [hm] at he
        rw [he] at h0'
        simp at h0'
    · rintro _ H2 ⟨s2, hL2⟩
      exact ⟨u, s2, rfl, hL2⟩
end Go.Cps

/-
  What the bodies of some functions of the program come to, at heap level, each proved of the program itself.
  Conditions: none. Written by gen.py.
-/
namespace Go.Cps
open Go Go.Proofs
set_option maxRecDepth 100000

/-- pub/multipart.NewReader -/
def c37 (a0 a1 : Value) (H : Heap) (R : Value → Heap → Prop) : Prop :=
  Get (strV .add (.string ⟨#[13, 10, 45, 45]⟩) a1) fun x7 =>
  Get (strV .add x7 (.string ⟨#[45, 45]⟩)) fun x8 =>
  ToBytes 5 x8 H fun x9 H =>
  Get ((fillV #[(0, 1), (1, 1)] #[.nilIface, .nilIface] [(0, a0)]).map .agg) fun x11 =>
  New (.cells (Value.cells x11) 125 (0, 0)) H fun x12 H =>
  Get (some (Value.iface 123 x12)) fun x13 =>
  CallsH Tryz.prog 69 #[x13, (.int .i64 4096)] H fun x14 H =>
  Get (sliceV 1 x9 none (some (.int .i64 2)) none) fun x16 =>
  Get (lenV x9) fun x19 =>
  Get (arithV .sub .i64 x19 (.int .i64 2)) fun x20 =>
  Get (sliceV 1 x9 none (some x20) none) fun x21 =>
  Get (sliceV 1 x9 (some (.int .i64 2)) none none) fun x23 =>
  Get (lenV x9) fun x26 =>
  Get (arithV .sub .i64 x26 (.int .i64 2)) fun x27 =>
  Get (sliceV 1 x9 (some (.int .i64 2)) (some x27) none) fun x28 =>
  Get ((fillV #[(0, 1), (1, 1), (2, 1), (3, 1), (4, 1), (5, 1), (6, 1), (7, 1)] #[(.pointer none), (.string ⟨#[]⟩), (.pointer none), (.int .i64 0), (.slice none 0 0), (.slice none 0 0), (.slice none 0 0), (.slice none 0 0)] [(0, x14), (4, x16), (5, x21), (6, x23), (7, x28)]).map .agg) fun x29 =>
  New (.cells (Value.cells x29) 127 (0, 0)) H fun x30 H =>
  R x30 H
def p37 : Plan := .seq (.leaf []) (.seq (.leaf []) (.seq (.leaf [0, 1, 2, 3, 4, 5, 6, 7, 8, 9, 10, 11, 12, 13, 14, 15, 16, 17, 18, 19, 20, 21]) (.leaf [])))
theorem s37 {a0 a1 : Value} {H : Heap} {R : Value → Heap → Prop} (h : c37 a0 a1 H R) : CallsH Tryz.prog 37 #[a0, a1] H R :=
  callsH_of_eq p37 (fn := Tryz.f37) (c := Tryz.f37.body.getD .skip) (args := [a0, a1]) Tryz.func37 (by kernel_rfl) mixed (by kernel_rfl) (by kernel_rfl) (by kernel_rfl) h

/-- bufio.NewReaderSize -/
def c69 (a0 a1 : Value) (H : Heap) (R : Value → Heap → Prop) : Prop :=
  ExecV Tryz.prog (Instr.typeAssert a0 77 121 true) H fun x10 H =>
  Get (extractV x10 0) fun x11 =>
  Get (extractV x10 1) fun x12 =>
  Join (fun K1 =>
  Br x12 (
  Fld 0 x11 H fun x18 =>
  Get (lenV x18) fun x19 =>
  Get (arithV .geq .i64 x19 a1) fun x21 =>
  Get (pickV (.bool true) x21 (.bool false)) fun x22 =>
  K1 [x22] H) (
  Get (pickV (.bool false) undef (.bool false)) fun x22_1 =>
  K1 [x22_1] H)) fun vs2 H =>
  Br (nth vs2 0) (
  R x11 H) (
  New (.cells #[(.slice none 0 0), .nilIface, (.int .i64 0), (.int .i64 0), .nilIface, (.int .i64 0), (.int .i64 0)] 153 (0, 0)) H fun x24 H =>
  Get (maxV a1 (.int .i64 16)) fun x27 =>
  MakeSlice 5 1 1 #[(.int .u8 0)] x27 x27 H fun x28 H =>
  CallsH Tryz.prog 91 #[x24, x28, a0] H fun _ H =>
  R x24 H)
def p69 : Plan := .seq (.leaf []) (.seq (.leaf []) (.seq (.join [22] (.leaf []) (.cond (.seq (.leaf []) (.leaf [])) (.leaf []))) (.seq (.leaf []) (.seq (.leaf []) (.seq (.leaf []) (.leaf []))))))
theorem s69 {a0 a1 : Value} {H : Heap} {R : Value → Heap → Prop} (h : c69 a0 a1 H R) : CallsH Tryz.prog 69 #[a0, a1] H R :=
  callsH_of_eq p69 (fn := Tryz.f69) (c := Tryz.f69.body.getD .skip) (args := [a0, a1]) Tryz.func69 (by kernel_rfl) mixed (by kernel_rfl) (by kernel_rfl) (by kernel_rfl) h

/-- bytes.NewReader -/
def c70 (a0 : Value) (H : Heap) (R : Value → Heap → Prop) : Prop :=
  Get ((fillV #[(0, 1), (1, 1), (2, 1)] #[(.slice none 0 0), (.int .i64 0), (.int .i64 0)] [(0, a0), (1, (.int .i64 0)), (2, (.int .i64 (-1)))]).map .agg) fun x4 =>
  New (.cells (Value.cells x4) 156 (0, 0)) H fun x5 H =>
  R x5 H
def p70 : Plan := .seq (.leaf []) (.seq (.leaf []) (.leaf []))
theorem s70 {a0 : Value} {H : Heap} {R : Value → Heap → Prop} (h : c70 a0 H R) : CallsH Tryz.prog 70 #[a0] H R :=
  callsH_of_eq p70 (fn := Tryz.f70) (c := Tryz.f70.body.getD .skip) (args := [a0]) Tryz.func70 (by kernel_rfl) mixed (by kernel_rfl) (by kernel_rfl) (by kernel_rfl) h

/-- impl.source -/
def c38 (a0 : Value) (H : Heap) (R : Value → Heap → Prop) : Prop :=
  Get (Instr.fill (fun j => some (j * 1, 1)) ((Array.range (0 * 1)).map ((#[(.int .u8 0)] : Array Value)[· % 1]!)) []) fun cs => NewSl cs 5 0 H fun x3 H =>
  Append 5 1 1 #[(.int .u8 0)] x3 a0 H fun x5 H =>
  CallsH Tryz.prog 70 #[x5] H fun x6 H =>
  Get (some (Value.iface 128 x6)) fun x7 =>
  R x7 H
def p38 : Plan := .seq (.leaf []) (.seq (.leaf []) (.leaf []))
theorem s38 {a0 : Value} {H : Heap} {R : Value → Heap → Prop} (h : c38 a0 H R) : CallsH Tryz.prog 38 #[a0] H R :=
  callsH_of_eq p38 (fn := Tryz.f38) (c := Tryz.f38.body.getD .skip) (args := [a0]) Tryz.func38 (by kernel_rfl) mixed (by kernel_rfl) (by kernel_rfl) (by kernel_rfl) h

/-- (*bufio.Reader).reset -/
def c91 (a0 a1 a2 : Value) (H : Heap) (R : Value → Heap → Prop) : Prop :=
  Get ((fillV #[(0, 1), (1, 1), (2, 1), (3, 1), (4, 1), (5, 1), (6, 1)] #[(.slice none 0 0), .nilIface, (.int .i64 0), (.int .i64 0), .nilIface, (.int .i64 0), (.int .i64 0)] [(0, a1), (1, a2), (5, (.int .i64 (-1))), (6, (.int .i64 (-1)))]).map .agg) fun x9 =>
  Get (nilV a0) fun x10 =>
  Get (storeNV 7 x10 x9 H) fun H =>
  R (.tuple #[]) H
def p91 : Plan := .leaf []
theorem s91 {a0 a1 a2 : Value} {H : Heap} {R : Value → Heap → Prop} (h : c91 a0 a1 a2 H R) : CallsH Tryz.prog 91 #[a0, a1, a2] H R :=
  callsH_of_eq p91 (fn := Tryz.f91) (c := Tryz.f91.body.getD .skip) (args := [a0, a1, a2]) Tryz.func91 (by kernel_rfl) mixed (by kernel_rfl) (by kernel_rfl) (by kernel_rfl) h

/-- impl.parts -/
def c36 (a0 : Value) (H : Heap) (R : Value → Heap → Prop) : Prop :=
  Loop [(.slice none 0 0)] H fun K1 vs2 H =>
  CallV Tryz.prog a0 #[] H fun x12 H =>
  Get (extractV x12 0) fun x13 =>
  Get (extractV x12 1) fun x14 =>
  Get (nilV2 .neq .nilIface x14) fun x16 =>
  Br x16 (
  CallsH Tryz.prog 66 #[x14] H fun x19 H =>
  R (.tuple #[(nth vs2 0), x19]) H) (
  CallsH Tryz.prog 67 #[x13] H fun x21 H =>
  Get (some (Value.iface 116 x13)) fun x24 =>
  CallsH Tryz.prog 68 #[x24] H fun x25 H =>
  Get (extractV x25 0) fun x26 =>
  Get (extractV x25 1) fun x27 =>
  Get ((fillV #[(0, 1), (1, 1)] #[(.slice none 0 0), (.slice none 0 0)] [(0, x21), (1, x26)]).map .agg) fun x31 =>
  Get (Instr.fill (fun j => some (j * 2, 2)) ((Array.range (1 * 2)).map ((#[(.slice none 0 0), (.slice none 0 0)] : Array Value)[· % 2]!)) [(0, x31)]) fun cs => NewSl cs 39 1 H fun x32 H =>
  Append 39 2 48 #[(.slice none 0 0), (.slice none 0 0)] (nth vs2 0) x32 H fun x33 H =>
  Get (unV .not x27) fun x35 =>
  Br x35 (
  R (.tuple #[x33, (.int .i64 2)]) H) (
  K1 [x33] H))
def p36 : Plan := .seq (.leaf []) (.seq (.leaf []) (.block (.loop [4] (.block (.seq (.leaf []) (.seq (.seq (.leaf []) (.cond (.seq (.leaf []) (.leaf [])) (.leaf []))) (.seq (.leaf []) (.seq (.leaf []) (.seq (.leaf []) (.seq (.leaf []) (.cond (.seq (.leaf []) (.leaf [])) (.leaf []))))))))))))
theorem s36 {a0 : Value} {H : Heap} {R : Value → Heap → Prop} (h : c36 a0 H R) : CallsH Tryz.prog 36 #[a0] H R :=
  callsH_of_eq p36 (fn := Tryz.f36) (c := Tryz.f36.body.getD .skip) (args := [a0]) Tryz.func36 (by kernel_rfl) mixed (by kernel_rfl) (by kernel_rfl) (by kernel_rfl) h

/-- impl.Parts -/
def c11 (a0 a1 : Value) (H : Heap) (R : Value → Heap → Prop) : Prop :=
  CallsH Tryz.prog 38 #[a0] H fun x7 H =>
  CallsH Tryz.prog 37 #[x7, a1] H fun x9 H =>
  CallsH Tryz.prog 36 #[(.func (.func 39) #[x9] #[])] H fun x11 H =>
  Get (extractV x11 0) fun x12 =>
  Get (extractV x11 1) fun x13 =>
  R (.tuple #[x12, x13]) H
def p11 : Plan := .seq (.leaf []) (.seq (.leaf []) (.leaf []))
theorem s11 {a0 a1 : Value} {H : Heap} {R : Value → Heap → Prop} (h : c11 a0 a1 H R) : CallsH Tryz.prog 11 #[a0, a1] H R :=
  callsH_of_eq p11 (fn := Tryz.f11) (c := Tryz.f11.body.getD .skip) (args := [a0, a1]) Tryz.func11 (by kernel_rfl) mixed (by kernel_rfl) (by kernel_rfl) (by kernel_rfl) h

/-- (*pub/multipart.Reader).NextRawPart -/
def c39 (a0 : Value) (H : Heap) (R : Value → Heap → Prop) : Prop :=
  CallsH Tryz.prog 72 #[] H fun x5 H =>
  CallsH Tryz.prog 71 #[a0, (.bool true), (.int .i64 10485760), x5] H fun x6 H =>
  Get (extractV x6 0) fun x7 =>
  Get (extractV x6 1) fun x8 =>
  R (.tuple #[x7, x8]) H
def p39 : Plan := .seq (.leaf []) (.seq (.leaf []) (.leaf []))
theorem s39 {a0 : Value} {H : Heap} {R : Value → Heap → Prop} (h : c39 a0 H R) : CallsH Tryz.prog 39 #[a0] H R :=
  callsH_of_eq p39 (fn := Tryz.f39) (c := Tryz.f39.body.getD .skip) (args := [a0]) Tryz.func39 (by kernel_rfl) mixed (by kernel_rfl) (by kernel_rfl) (by kernel_rfl) h

/-- (*pub/multipart.Reader).nextPart -/
def c71 (a0 a1 a2 a3 : Value) (H : Heap) (R : Value → Heap → Prop) : Prop :=
  Join (fun K1 =>
  Fld 2 a0 H fun x18 =>
  Get (nilV2 .neq (.pointer none) x18) fun x19 =>
  Br x19 (
  Fld 2 a0 H fun x23 =>
  CallsH Tryz.prog 92 #[x23] H fun _ H =>
  K1 [] H) (
  K1 [] H)) fun _ H =>
  Fld 7 a0 H fun x28 =>
  Get (bytesV x28 H) fun x29 =>
  Get (strV .eql x29 (.string ⟨#[45, 45]⟩)) fun x30 =>
  Br x30 (
  CallsH Tryz.prog 60 #[(.string ⟨#[109, 117, 108, 116, 105, 112, 97, 114, 116, 58, 32, 98, 111, 117, 110, 100, 97, 114, 121, 32, 105, 115, 32, 101, 109, 112, 116, 121]⟩)] H fun x31 H =>
  R (.tuple #[(.pointer none), x31]) H) (
  Loop [(.bool false)] H fun K3 vs4 H =>
  Fld 0 a0 H fun x36 =>
  CallsH Tryz.prog 93 #[x36, (.int .u8 10)] H fun x37 H =>
  Get (extractV x37 0) fun x38 =>
  Get (extractV x37 1) fun x39 =>
  Join (fun K5 =>
  Get (load1V (.pointer (some ⟨0, 0, none⟩)) H) fun x41 =>
  ExecV Tryz.prog (do eqGuard .eql 60 (.tmp 40) (.tmp 41) x39 x41; binOp .eql 60 x39 x41) H fun x42 H =>
  Br x42 (
  CallsH Tryz.prog 94 #[a0, x38] H fun x46 H =>
  Get (pickV (.bool true) x46 (.bool false)) fun x47 =>
  K5 [x47] H) (
  Get (pickV (.bool false) undef (.bool false)) fun x47_1 =>
  K5 [x47_1] H)) fun vs6 H =>
  Br (nth vs6 0) (
  Get (load1V (.pointer (some ⟨0, 0, none⟩)) H) fun x48 =>
  R (.tuple #[(.pointer none), x48]) H) (
  Get (nilV2 .neq .nilIface x39) fun x50 =>
  Br x50 (
  Get ((fillV #[(0, 1), (1, 1)] #[(.string ⟨#[]⟩), .nilIface] [(0, (.string ⟨#[109, 117, 108, 116, 105, 112, 97, 114, 116, 58, 32, 78, 101, 120, 116, 80, 97, 114, 116, 58, 32]⟩)), (1, x39)]).map .agg) fun x52 =>
  New (.cells (Value.cells x52) 162 (0, 0)) H fun x53 H =>
  Get (some (Value.iface 160 x53)) fun x54 =>
  R (.tuple #[(.pointer none), x54]) H) (
  CallsH Tryz.prog 95 #[a0, x38] H fun x57 H =>
  Br x57 (
  Fld 3 a0 H fun x61 =>
  Get (arithV .add .i64 x61 (.int .i64 1)) fun x62 =>
  Get (nilV a0) fun x63 =>
  Get (fieldAddrV 3 x63) fun x64 =>
  Get (store1V x64 x62 H) fun H =>
  CallsH Tryz.prog 96 #[a0, a1, a2, a3] H fun x70 H =>
  Get (extractV x70 0) fun x71 =>
  Get (extractV x70 1) fun x72 =>
  Get (nilV2 .neq .nilIface x72) fun x74 =>
  Br x74 (
  R (.tuple #[(.pointer none), x72]) H) (
  Get (nilV a0) fun x78 =>
  Get (fieldAddrV 2 x78) fun x79 =>
  Get (store1V x79 x71 H) fun H =>
  R (.tuple #[x71, .nilIface]) H)) (
  CallsH Tryz.prog 94 #[a0, x38] H fun x83 H =>
  Br x83 (
  Get (load1V (.pointer (some ⟨0, 0, none⟩)) H) fun x84 =>
  R (.tuple #[(.pointer none), x84]) H) (
  Br (nth vs4 0) (
  CallsH Tryz.prog 60 #[(.string ⟨#[109, 117, 108, 116, 105, 112, 97, 114, 116, 58, 32, 101, 120, 112, 101, 99, 116, 105, 110, 103, 32, 97, 32, 110, 101, 119, 32, 80, 97, 114, 116]⟩)] H fun x86 H =>
  R (.tuple #[(.pointer none), x86]) H) (
  Fld 3 a0 H fun x90 =>
  Get (arithV .eql .i64 x90 (.int .i64 0)) fun x91 =>
  Br x91 (
  K3 [(nth vs4 0)] H) (
  Fld 4 a0 H fun x96 =>
  CallsH Tryz.prog 82 #[x38, x96] H fun x97 H =>
  Br x97 (
  K3 [(.bool true)] H) (
  CallsH Tryz.prog 60 #[(.string ⟨#[109, 117, 108, 116, 105, 112, 97, 114, 116, 58, 32, 117, 110, 101, 120, 112, 101, 99, 116, 101, 100, 32, 108, 105, 110, 101, 32, 105, 110, 32, 78, 101, 120, 116, 40, 41]⟩)] H fun x98 H =>
  R (.tuple #[(.pointer none), x98]) H))))))))
def p71 : Plan := .seq (.leaf []) (.join [] (.seq (.leaf []) (.cond (.leaf []) (.leaf []))) (.seq (.seq (.leaf []) (.cond (.seq (.leaf []) (.leaf [])) (.leaf []))) (.seq (.leaf []) (.block (.loop [10] (.block (.seq (.leaf []) (.seq (.join [47] (.leaf []) (.cond (.seq (.leaf [0, 1, 2]) (.leaf [])) (.leaf []))) (.seq (.seq (.leaf []) (.cond (.seq (.leaf []) (.leaf [])) (.leaf []))) (.seq (.seq (.leaf []) (.cond (.seq (.leaf []) (.seq (.leaf []) (.seq (.seq (.leaf []) (.cond (.seq (.leaf []) (.leaf [])) (.leaf []))) (.seq (.leaf []) (.seq (.leaf []) (.leaf [])))))) (.leaf []))) (.seq (.seq (.leaf []) (.cond (.seq (.leaf [0, 1, 2]) (.leaf [])) (.leaf []))) (.seq (.seq (.leaf []) (.cond (.seq (.leaf []) (.leaf [])) (.leaf []))) (.seq (.seq (.leaf []) (.cond (.leaf []) (.leaf []))) (.seq (.seq (.leaf []) (.cond (.seq (.leaf []) (.leaf [])) (.leaf []))) (.seq (.leaf []) (.leaf []))))))))))))))))
theorem s71 {a0 a1 a2 a3 : Value} {H : Heap} {R : Value → Heap → Prop} (h : c71 a0 a1 a2 a3 H R) : CallsH Tryz.prog 71 #[a0, a1, a2, a3] H R :=
  callsH_of_eq p71 (fn := Tryz.f71) (c := Tryz.f71.body.getD .skip) (args := [a0, a1, a2, a3]) Tryz.func71 (by kernel_rfl) mixed (by kernel_rfl) (by kernel_rfl) (by kernel_rfl) h

/-- pub/multipart.maxMIMEHeaders -/
def c72 (H : Heap) (R : Value → Heap → Prop) : Prop :=
  R (.int .i64 10000) H
def p72 : Plan := .seq (.leaf []) (.seq (.leaf []) (.leaf []))
theorem s72 {H : Heap} {R : Value → Heap → Prop} (h : c72  H R) : CallsH Tryz.prog 72 #[] H R :=
  callsH_of_eq p72 (fn := Tryz.f72) (c := Tryz.f72.body.getD .skip) (args := []) Tryz.func72 (by kernel_rfl) mixed (by kernel_rfl) (by kernel_rfl) (by kernel_rfl) h

/-- impl.state -/
def c66 (a0 : Value) (H : Heap) (R : Value → Heap → Prop) : Prop :=
  Get (load1V (.pointer (some ⟨0, 0, none⟩)) H) fun x4 =>
  ExecV Tryz.prog (do eqGuard .eql 60 (.tmp 3) (.tmp 4) a0 x4; binOp .eql 60 a0 x4) H fun x5 H =>
  Br x5 (
  R (.int .i64 1) H) (
  R (.int .i64 2) H)
def p66 : Plan := .seq (.leaf []) (.seq (.seq (.leaf []) (.cond (.seq (.leaf []) (.leaf [])) (.leaf []))) (.seq (.leaf []) (.leaf [])))
theorem s66 {a0 : Value} {H : Heap} {R : Value → Heap → Prop} (h : c66 a0 H R) : CallsH Tryz.prog 66 #[a0] H R :=
  callsH_of_eq p66 (fn := Tryz.f66) (c := Tryz.f66.body.getD .skip) (args := [a0]) Tryz.func66 (by kernel_rfl) mixed (by kernel_rfl) (by kernel_rfl) (by kernel_rfl) h

/-- errors.New -/
def c60 (a0 : Value) (H : Heap) (R : Value → Heap → Prop) : Prop :=
  Get ((fillV #[(0, 1)] #[(.string ⟨#[]⟩)] [(0, a0)]).map .agg) fun x4 =>
  New (.cells (Value.cells x4) 140 (0, 0)) H fun x5 H =>
  Get (some (Value.iface 138 x5)) fun x6 =>
  R x6 H
def p60 : Plan := .seq (.leaf []) (.seq (.leaf []) (.leaf []))
theorem s60 {a0 : Value} {H : Heap} {R : Value → Heap → Prop} (h : c60 a0 H R) : CallsH Tryz.prog 60 #[a0] H R :=
  callsH_of_eq p60 (fn := Tryz.f60) (c := Tryz.f60.body.getD .skip) (args := [a0]) Tryz.func60 (by kernel_rfl) mixed (by kernel_rfl) (by kernel_rfl) (by kernel_rfl) h

/-- laws.FnNone -/
def c3 (a0 : Value) (H : Heap) (R : Value → Heap → Prop) : Prop :=
  Get (lenStrV a0) fun x8 =>
  Get (arithV .gtr .i64 x8 (.int .i64 2147483647)) fun x9 =>
  Br x9 (
  R (.bool true) H) (
  Get (lenStrV a0) fun x11 =>
  Get (arithV .gtr .i64 x11 (.int .i64 16777216)) fun x12 =>
  Br x12 (
  R (.bool true) H) (
  CallsH Tryz.prog 9 #[a0] H fun x14 H =>
  Get (unV .not x14) fun x15 =>
  Br x15 (
  R (.bool true) H) (
  CallsH Tryz.prog 10 #[a0, (.slice none 0 0)] H fun x18 H =>
  Get (extractV x18 0) fun x19 =>
  Get (extractV x18 1) fun x20 =>
  CallsH Tryz.prog 11 #[x19, a0] H fun x24 H =>
  Get (extractV x24 0) fun x25 =>
  Get (extractV x24 1) fun x26 =>
  Join (fun K1 =>
  Br x20 (
  Get (lenV x25) fun x30 =>
  Get (arithV .eql .i64 x30 (.int .i64 0)) fun x31 =>
  Get (pickV (.bool true) x31 (.bool false)) fun x32 =>
  Br x32 (
  Get (arithV .eql .i64 x26 (.int .i64 1)) fun x35 =>
  Get (pickV (.bool true) x35 (.bool false)) fun x36 =>
  K1 [x36] H) (
  Get (pickV (.bool false) undef (.bool false)) fun x36_1 =>
  K1 [x36_1] H)) (
  Get (pickV (.bool false) undef (.bool false)) fun x32_1 =>
  Br x32_1 (
  Get (arithV .eql .i64 x26 (.int .i64 1)) fun x35_1 =>
  Get (pickV (.bool true) x35_1 (.bool false)) fun x36_2 =>
  K1 [x36_2] H) (
  Get (pickV (.bool false) undef (.bool false)) fun x36_3 =>
  K1 [x36_3] H))) fun vs2 H =>
  R (nth vs2 0) H)))
def p3 : Plan := .seq (.leaf []) (.seq (.seq (.leaf []) (.cond (.seq (.leaf []) (.leaf [])) (.leaf []))) (.seq (.seq (.leaf []) (.cond (.seq (.leaf []) (.leaf [])) (.leaf []))) (.seq (.seq (.leaf []) (.cond (.seq (.leaf []) (.leaf [])) (.leaf []))) (.seq (.leaf []) (.seq (.leaf []) (.join [2] (.leaf []) (.leaf [])))))))
theorem s3 {a0 : Value} {H : Heap} {R : Value → Heap → Prop} (h : c3 a0 H R) : CallsH Tryz.prog 3 #[a0] H R :=
  callsH_of_eq p3 (fn := Tryz.f3) (c := Tryz.f3.body.getD .skip) (args := [a0]) Tryz.func3 (by kernel_rfl) mixed (by kernel_rfl) (by kernel_rfl) (by kernel_rfl) h

/-- spec.Boundary -/
def c9 (a0 : Value) (H : Heap) (R : Value → Heap → Prop) : Prop :=
  Loop [(.int .i64 0)] H fun K1 vs2 H =>
  Get (lenStrV a0) fun x6 =>
  Get (arithV .lss .i64 (nth vs2 0) x6) fun x7 =>
  Br x7 (
  Join (fun K3 =>
  Get (strIndexV a0 (nth vs2 0)) fun x12 =>
  CallsH Tryz.prog 28 #[x12] H fun x13 H =>
  Get (unV .not x13) fun x14 =>
  Br x14 (
  Get (strIndexV a0 (nth vs2 0)) fun x18 =>
  CallsH Tryz.prog 29 #[(.string ⟨#[39, 40, 41, 43, 95, 44, 45, 46, 47, 58, 61, 63, 32]⟩), x18] H fun x19 H =>
  Get (unV .not x19) fun x20 =>
  Get (pickV (.bool true) x20 (.bool false)) fun x21 =>
  K3 [x21] H) (
  Get (pickV (.bool false) undef (.bool false)) fun x21_1 =>
  K3 [x21_1] H)) fun vs4 H =>
  Br (nth vs4 0) (
  R (.bool false) H) (
  Get (arithV .add .i64 (nth vs2 0) (.int .i64 1)) fun x9 =>
  K1 [x9] H)) (
  Join (fun K5 =>
  Get (lenStrV a0) fun x23 =>
  Get (arithV .gtr .i64 x23 (.int .i64 0)) fun x24 =>
  Br x24 (
  Get (lenStrV a0) fun x27 =>
  Get (arithV .leq .i64 x27 (.int .i64 70)) fun x28 =>
  Get (pickV (.bool true) x28 (.bool false)) fun x29 =>
  Br x29 (
  Get (lenStrV a0) fun x33 =>
  Get (arithV .sub .i64 x33 (.int .i64 1)) fun x34 =>
  Get (strIndexV a0 x34) fun x35 =>
  Get (arithV .neq .u8 x35 (.int .u8 32)) fun x36 =>
  Get (pickV (.bool true) x36 (.bool false)) fun x37 =>
  K5 [x37] H) (
  Get (pickV (.bool false) undef (.bool false)) fun x37_1 =>
  K5 [x37_1] H)) (
  Get (pickV (.bool false) undef (.bool false)) fun x29_1 =>
  Br x29_1 (
  Get (lenStrV a0) fun x33_1 =>
  Get (arithV .sub .i64 x33_1 (.int .i64 1)) fun x34_1 =>
  Get (strIndexV a0 x34_1) fun x35_1 =>
  Get (arithV .neq .u8 x35_1 (.int .u8 32)) fun x36_1 =>
  Get (pickV (.bool true) x36_1 (.bool false)) fun x37_2 =>
  K5 [x37_2] H) (
  Get (pickV (.bool false) undef (.bool false)) fun x37_3 =>
  K5 [x37_3] H))) fun vs6 H =>
  R (nth vs6 0) H)
def p9 : Plan := .seq (.leaf []) (.seq (.seq (.leaf []) (.block (.loop [3] (.seq (.seq (.leaf []) (.cond (.leaf []) (.leaf []))) (.seq (.block (.join [21] (.leaf []) (.cond (.seq (.leaf []) (.leaf [])) (.leaf [])))) (.leaf [])))))) (.join [2] (.leaf []) (.leaf [])))
theorem s9 {a0 : Value} {H : Heap} {R : Value → Heap → Prop} (h : c9 a0 H R) : CallsH Tryz.prog 9 #[a0] H R :=
  callsH_of_eq p9 (fn := Tryz.f9) (c := Tryz.f9.body.getD .skip) (args := [a0]) Tryz.func9 (by kernel_rfl) mixed (by kernel_rfl) (by kernel_rfl) (by kernel_rfl) h

/-- spec.letter -/
def c28 (a0 : Value) (H : Heap) (R : Value → Heap → Prop) : Prop :=
  Join (fun K1 =>
  Get (arithV .geq .u8 a0 (.int .u8 97)) fun x4 =>
  Br x4 (
  Get (arithV .leq .u8 a0 (.int .u8 122)) fun x7 =>
  Get (pickV (.bool true) x7 (.bool false)) fun x8 =>
  Br x8 (
  Get (pickV (.bool true) (.bool true) undef) fun x16 =>
  Br x16 (
  Get (pickV (.bool true) (.bool true) undef) fun x24 =>
  K1 [x24] H) (
  Get (arithV .geq .u8 a0 (.int .u8 48)) fun x19 =>
  Br x19 (
  Get (arithV .leq .u8 a0 (.int .u8 57)) fun x22 =>
  Get (pickV (.bool true) x22 (.bool false)) fun x23 =>
  Get (pickV (.bool false) (.bool true) x23) fun x24_1 =>
  K1 [x24_1] H) (
  Get (pickV (.bool false) undef (.bool false)) fun x23_1 =>
  Get (pickV (.bool false) (.bool true) x23_1) fun x24_2 =>
  K1 [x24_2] H))) (
  Get (arithV .geq .u8 a0 (.int .u8 65)) fun x11 =>
  Br x11 (
  Get (arithV .leq .u8 a0 (.int .u8 90)) fun x14 =>
  Get (pickV (.bool true) x14 (.bool false)) fun x15 =>
  Get (pickV (.bool false) (.bool true) x15) fun x16_1 =>
  Br x16_1 (
  Get (pickV (.bool true) (.bool true) undef) fun x24_3 =>
  K1 [x24_3] H) (
  Get (arithV .geq .u8 a0 (.int .u8 48)) fun x19_1 =>
  Br x19_1 (
  Get (arithV .leq .u8 a0 (.int .u8 57)) fun x22_1 =>
  Get (pickV (.bool true) x22_1 (.bool false)) fun x23_2 =>
  Get (pickV (.bool false) (.bool true) x23_2) fun x24_4 =>
  K1 [x24_4] H) (
  Get (pickV (.bool false) undef (.bool false)) fun x23_3 =>
  Get (pickV (.bool false) (.bool true) x23_3) fun x24_5 =>
  K1 [x24_5] H))) (
  Get (pickV (.bool false) undef (.bool false)) fun x15_1 =>
  Get (pickV (.bool false) (.bool true) x15_1) fun x16_2 =>
  Br x16_2 (
  Get (pickV (.bool true) (.bool true) undef) fun x24_6 =>
  K1 [x24_6] H) (
  Get (arithV .geq .u8 a0 (.int .u8 48)) fun x19_2 =>
  Br x19_2 (
  Get (arithV .leq .u8 a0 (.int .u8 57)) fun x22_2 =>
  Get (pickV (.bool true) x22_2 (.bool false)) fun x23_4 =>
  Get (pickV (.bool false) (.bool true) x23_4) fun x24_7 =>
  K1 [x24_7] H) (
  Get (pickV (.bool false) undef (.bool false)) fun x23_5 =>
  Get (pickV (.bool false) (.bool true) x23_5) fun x24_8 =>
  K1 [x24_8] H))))) (
  Get (pickV (.bool false) undef (.bool false)) fun x8_1 =>
  Br x8_1 (
  Get (pickV (.bool true) (.bool true) undef) fun x16_3 =>
  Br x16_3 (
  Get (pickV (.bool true) (.bool true) undef) fun x24_9 =>
  K1 [x24_9] H) (
  Get (arithV .geq .u8 a0 (.int .u8 48)) fun x19_3 =>
  Br x19_3 (
  Get (arithV .leq .u8 a0 (.int .u8 57)) fun x22_3 =>
  Get (pickV (.bool true) x22_3 (.bool false)) fun x23_6 =>
  Get (pickV (.bool false) (.bool true) x23_6) fun x24_10 =>
  K1 [x24_10] H) (
  Get (pickV (.bool false) undef (.bool false)) fun x23_7 =>
  Get (pickV (.bool false) (.bool true) x23_7) fun x24_11 =>
  K1 [x24_11] H))) (
  Get (arithV .geq .u8 a0 (.int .u8 65)) fun x11_1 =>
  Br x11_1 (
  Get (arithV .leq .u8 a0 (.int .u8 90)) fun x14_1 =>
  Get (pickV (.bool true) x14_1 (.bool false)) fun x15_2 =>
  Get (pickV (.bool false) (.bool true) x15_2) fun x16_4 =>
  Br x16_4 (
  Get (pickV (.bool true) (.bool true) undef) fun x24_12 =>
  K1 [x24_12] H) (
  Get (arithV .geq .u8 a0 (.int .u8 48)) fun x19_4 =>
  Br x19_4 (
  Get (arithV .leq .u8 a0 (.int .u8 57)) fun x22_4 =>
  Get (pickV (.bool true) x22_4 (.bool false)) fun x23_8 =>
  Get (pickV (.bool false) (.bool true) x23_8) fun x24_13 =>
  K1 [x24_13] H) (
  Get (pickV (.bool false) undef (.bool false)) fun x23_9 =>
  Get (pickV (.bool false) (.bool true) x23_9) fun x24_14 =>
  K1 [x24_14] H))) (
  Get (pickV (.bool false) undef (.bool false)) fun x15_3 =>
  Get (pickV (.bool false) (.bool true) x15_3) fun x16_5 =>
  Br x16_5 (
  Get (pickV (.bool true) (.bool true) undef) fun x24_15 =>
  K1 [x24_15] H) (
  Get (arithV .geq .u8 a0 (.int .u8 48)) fun x19_5 =>
  Br x19_5 (
  Get (arithV .leq .u8 a0 (.int .u8 57)) fun x22_5 =>
  Get (pickV (.bool true) x22_5 (.bool false)) fun x23_10 =>
  Get (pickV (.bool false) (.bool true) x23_10) fun x24_16 =>
  K1 [x24_16] H) (
  Get (pickV (.bool false) undef (.bool false)) fun x23_11 =>
  Get (pickV (.bool false) (.bool true) x23_11) fun x24_17 =>
  K1 [x24_17] H)))))) fun vs2 H =>
  R (nth vs2 0) H
def p28 : Plan := .seq (.leaf []) (.join [2] (.leaf []) (.leaf []))
theorem s28 {a0 : Value} {H : Heap} {R : Value → Heap → Prop} (h : c28 a0 H R) : CallsH Tryz.prog 28 #[a0] H R :=
  callsH_of_eq p28 (fn := Tryz.f28) (c := Tryz.f28.body.getD .skip) (args := [a0]) Tryz.func28 (by kernel_rfl) mixed (by kernel_rfl) (by kernel_rfl) (by kernel_rfl) h

/-- spec.within -/
def c29 (a0 a1 : Value) (H : Heap) (R : Value → Heap → Prop) : Prop :=
  Loop [(.int .i64 0)] H fun K1 vs2 H =>
  Get (lenStrV a0) fun x8 =>
  Get (arithV .lss .i64 (nth vs2 0) x8) fun x9 =>
  Br x9 (
  Get (strIndexV a0 (nth vs2 0)) fun x14 =>
  Get (arithV .eql .u8 x14 a1) fun x16 =>
  Br x16 (
  R (.bool true) H) (
  Get (arithV .add .i64 (nth vs2 0) (.int .i64 1)) fun x11 =>
  K1 [x11] H)) (
  R (.bool false) H)
def p29 : Plan := .seq (.leaf []) (.seq (.seq (.leaf []) (.block (.loop [5] (.seq (.seq (.leaf []) (.cond (.leaf []) (.leaf []))) (.seq (.block (.seq (.leaf []) (.cond (.seq (.leaf []) (.leaf [])) (.leaf [])))) (.leaf [])))))) (.seq (.leaf []) (.leaf [])))
theorem s29 {a0 a1 : Value} {H : Heap} {R : Value → Heap → Prop} (h : c29 a0 a1 H R) : CallsH Tryz.prog 29 #[a0, a1] H R :=
  callsH_of_eq p29 (fn := Tryz.f29) (c := Tryz.f29.body.getD .skip) (args := [a0, a1]) Tryz.func29 (by kernel_rfl) mixed (by kernel_rfl) (by kernel_rfl) (by kernel_rfl) h

end Go.Cps

/-
  Interface values compared; type assertions that fail.
  Conditions: each its own.
-/
namespace Go.Cps
open Go Go.Proofs

theorem eqRun_nil (t : TypeId) (v : Value) (i j : Nat) (w : World) : (do eqGuard .eql 60 (.tmp i) (.tmp j) .nilIface (.iface t v); binOp .eql 60 .nilIface (.iface t v) : Sem Value).run Tryz.prog w = .ok (.bool false) w := by kernel_rfl
theorem und60 : ∃ ms, Tryz.prog.underlying 60 = some (.interface ms) := by
  have h : (match Tryz.prog.underlying 60 with | some (.interface _) => true | _ => false) = true := by kernel_rfl
  split at h
  · rename_i ms hm; exact ⟨ms, hm⟩
  · contradiction
theorem info138 : ∃ i, Tryz.prog.info? 138 = some i ∧ i.comparable = true := by
  have h : (Tryz.prog.info? 138).map (·.comparable) = some true := by kernel_rfl
  cases hi : Tryz.prog.info? 138 with
  | none => rw [hi] at h; simp at h
  | some i => rw [hi] at h; exact ⟨i, rfl, by simpa using h⟩
theorem und138 : Tryz.prog.underlying 138 = some (.pointer 140) := by kernel_rfl
theorem info140 : ∃ i, Tryz.prog.info? 140 = some i ∧ i.size ≠ 0 := by
  have h : (Tryz.prog.info? 140).map (·.size == 0) = some false := by kernel_rfl
  cases hi : Tryz.prog.info? 140 with
  | none => rw [hi] at h; simp at h
  | some i => rw [hi] at h; exact ⟨i, rfl, by simpa using h⟩

theorem eqRun_same (a : Addr) (i j : Nat) (w : World) : (do eqGuard .eql 60 (.tmp i) (.tmp j) (.iface 138 (.pointer (some a))) (.iface 138 (.pointer (some a))); binOp .eql 60 (.iface 138 (.pointer (some a))) (.iface 138 (.pointer (some a))) : Sem Value).run Tryz.prog w = .ok (.bool true) w := by
  obtain ⟨ms, h60⟩ := und60
  obtain ⟨i1, h138, hc⟩ := info138
  obtain ⟨i2, h140, hz⟩ := info140
  have h1 : ∀ d : Nat, (Op.equalIn (d + 1) 138 (.pointer (some a)) (.pointer (some a))).run Tryz.prog w = .ok true w := fun d => by
    simp [Op.equalIn, run_underlying und138, sizeOf, typeInfo, h140, run_sameAddr_same]
  have h2 : ∀ d : Nat, (Op.equalIn (d + 2) 60 (.iface 138 (.pointer (some a))) (.iface 138 (.pointer (some a)))).run Tryz.prog w = .ok true w := fun d => by
    rw [Op.equalIn]
    simp [run_underlying h60, typeInfo, h138, hc, h1 d]
  simp only [binOp, eqGuard]
  simp [Op.equal, Op.maxDepth, h2 9998]
theorem eqRun_other {a b : Addr} {ca cb : Array Value} {ta tb : TypeId} (hne : a ≠ b) (i j : Nat) (w : World) (ha : w.heap[a.block]? = some (.cells ca ta (0, 0))) (hb : w.heap[b.block]? = some (.cells cb tb (0, 0))) : (do eqGuard .eql 60 (.tmp i) (.tmp j) (.iface 138 (.pointer (some a))) (.iface 138 (.pointer (some b))); binOp .eql 60 (.iface 138 (.pointer (some a))) (.iface 138 (.pointer (some b))) : Sem Value).run Tryz.prog w = .ok (.bool false) w := by
  obtain ⟨ms, h60⟩ := und60
  obtain ⟨i1, h138, hc⟩ := info138
  obtain ⟨i2, h140, hz⟩ := info140
  have h1 : ∀ d : Nat, (Op.equalIn (d + 1) 138 (.pointer (some a)) (.pointer (some b))).run Tryz.prog w = .ok false w := fun d => by
    simp [Op.equalIn, run_underlying und138, sizeOf, typeInfo, h140, hz, run_sameAddr_other w hne ha hb]
  have h2 : ∀ d : Nat, (Op.equalIn (d + 2) 60 (.iface 138 (.pointer (some a))) (.iface 138 (.pointer (some b)))).run Tryz.prog w = .ok false w := fun d => by
    rw [Op.equalIn]
    simp [run_underlying h60, typeInfo, h138, hc, h1 d]
  simp only [binOp, eqGuard]
  simp [Op.equal, Op.maxDepth, h2 9998]
theorem assertRun (v : Value) (w : World) : (Instr.typeAssert (.iface 123 v) 77 121 true).run Tryz.prog w = .ok (.tuple #[.pointer none, .bool false]) w := by kernel_rfl

theorem ExecV.eq {P : Program} {s : Sem Value} {H : Heap} {K : Value → Heap → Prop} {v : Value} (h : ∀ w, w.heap = H → s.run P w = .ok v w) : ExecV P s H K = K v H := by
  apply propext
  unfold ExecV
  constructor
  · intro hh
    have h1 := hh (at_ H) rfl
    have h2 := h (at_ H) rfl
    generalize s.run P (at_ H) = q at *
    subst h2
    exact h1.2
  · intro hk w hw
    have h2 := h w hw
    generalize s.run P w = q at *
    subst h2
    exact ⟨Same.refl w, by rw [hw]; exact hk⟩
section
attribute [local irreducible] Sem.run
theorem tassert {r : Value} {H : Heap} {K : Value → Heap → Prop} : ExecV Tryz.prog (Instr.typeAssert (.iface 123 r) 77 121 true) H K = K (.tuple #[.pointer none, .bool false]) H := ExecV.eq fun w _ => assertRun r w
theorem eq_nil {t : TypeId} {v : Value} {i j : Nat} {H : Heap} {K : Value → Heap → Prop} : ExecV Tryz.prog (do eqGuard .eql 60 (.tmp i) (.tmp j) .nilIface (.iface t v); binOp .eql 60 .nilIface (.iface t v)) H K = K (.bool false) H :=
  ExecV.eq fun w _ => eqRun_nil t v i j w
theorem eq_same {a : Addr} {i j : Nat} {H : Heap} {K : Value → Heap → Prop} : ExecV Tryz.prog (do eqGuard .eql 60 (.tmp i) (.tmp j) (.iface 138 (.pointer (some a))) (.iface 138 (.pointer (some a))); binOp .eql 60 (.iface 138 (.pointer (some a))) (.iface 138 (.pointer (some a)))) H K = K (.bool true) H :=
  ExecV.eq fun w _ => eqRun_same a i j w
theorem eq_other {a b : Addr} {ca cb : Array Value} {ta tb : TypeId} {i j : Nat} {H : Heap} {K : Value → Heap → Prop} (hne : a ≠ b) (ha : H[a.block]? = some (.cells ca ta (0, 0))) (hb : H[b.block]? = some (.cells cb tb (0, 0))) : ExecV Tryz.prog (do eqGuard .eql 60 (.tmp i) (.tmp j) (.iface 138 (.pointer (some a))) (.iface 138 (.pointer (some b))); binOp .eql 60 (.iface 138 (.pointer (some a))) (.iface 138 (.pointer (some b)))) H K = K (.bool false) H :=
  ExecV.eq fun w hw => by subst hw; exact eqRun_other hne i j w ha hb
end
theorem bodyd39 : hasBody Tryz.prog 39 = true := by kernel_rfl
end Go.Cps
