/-
  A part of the proof (its texts: L34, L35, L50, L36, L37): each text says below what it proves.
  Conditions: each contract's own.
-/
import Derived.Test.YtfajmapajpfocaaGreatDoorE17
set_option linter.all false
/-
  upcomingHeaderKeys: some small number; the reader's rest is as it was.
  Conditions: each contract's own.
-/
namespace Go.Cps
open Go Go.Proofs

theorem lit1 {c : UInt8} {H : Heap} {K : Value → Heap → Prop} (h : ∀ H', IsBytes H' (.slice (some ⟨H.size, 0, none⟩) 1 1) [c] → Frm [] H H' → H'.size = H.size + 1 → K (.slice (some ⟨H.size, 0, none⟩) 1 1) H') :
    Get (Instr.fill (fun j => some (j * 1, 1)) ((Array.range (1 * 1)).map ((#[(.int .u8 0)] : Array Value)[· % 1]!)) [(0, byteV c)]) fun cs => NewSl cs 5 1 H fun x H => MarkS x H K := by
  have e0 : ((Array.range (1 * 1)).map ((#[(.int .u8 0)] : Array Value)[· % 1]!)) = #[.int .u8 0] := by kernel_rfl
  have e : Instr.fill (fun j => some (j * 1, 1)) ((Array.range (1 * 1)).map ((#[(.int .u8 0)] : Array Value)[· % 1]!)) [(0, byteV c)] = some #[byteV c] := by
    rw [e0, fill_cons (off := 0) rfl rfl (by simp)]
    rfl
  rw [e, Get_some, NewSl]
  refine ⟨_, _, _, #[byteV c], 5, rfl, push_same _ _, ?_⟩
  have key : ∀ H', H' = (H.push (.cells #[byteV c] 5 (0, 0))).setIfInBounds H.size (.cells #[byteV c] 5 (1, 2)) → K (.slice (some ⟨H.size, 0, none⟩) 1 1) H' := by
    intro H' hH'
    have hb : H'[H.size]? = some (.cells #[byteV c] 5 (1, 2)) := by
      rw [hH', Array.getElem?_setIfInBounds, if_pos rfl, if_pos (by simp)]
    refine h _ (.inl ⟨H.size, 0, 1, rfl, by simp, fun j hj => ?_⟩) ⟨by rw [hH']; simp, fun k hk _ => ?_⟩ (by rw [hH']; simp)
    · rw [cellH_of hb]
      simp only [List.length_singleton] at hj
      have : j = 0 := by omega
      subst this
      rfl
    · rw [hH', Array.getElem?_setIfInBounds_ne (by omega), Array.getElem?_push, if_neg (by omega)]
  exact key _ rfl

/-- bytesCut by one byte, found or not -/
theorem bytesCut1_ok {v u : Value} {l : List UInt8} {c : UInt8} {H : Heap} (hv : IsBytes H v l) (hu : IsBytes H u [c]) (hl : l.length < 2 ^ 39) :
    CallsH Tryz.prog 170 #[v, u] H fun x H' => H' = H ∧ ∃ y z b m r, x = .tuple #[y, z, .bool b] ∧ IsBytes H y m ∧ m.length ≤ l.length ∧ IsBytes H z r ∧ r.length < l.length + 1 ∧ (l ≠ [] → r.length < l.length) := by
  apply s170
  unfold c170
  refine (bytesIndexT_ok hv hu (by omega) (by simp)).mono ?_
  rintro x H1 ⟨rfl, ⟨rfl, hno⟩ | ⟨i, rfl, hi⟩⟩
  · have d0 : decide ((-1 : Int) ≥ 0) = false := by decide
    simp only [arithV_add, arithV_sub, arithV_eql, arithV_neq, arithV_lss, arithV_leq, arithV_gtr, arithV_geq, intConvV_int, Fld_ptr, add_mk, Nat.zero_add, List.getElem?_toArray, List.getElem?_cons_succ, List.getElem?_cons_zero, Get_some, Br_true, Br_false, nth_zero, nth_one, nth_two, extractV_tuple, fieldAddrV_ptr, nilV_ptr, load1V_ptr, pickV_bool, unV_not, lenV_slice, capV_slice, d0]
    refine ⟨trivial, v, _, false, l, [], rfl, hv, Nat.le_refl _, .inr ⟨_, rfl, rfl⟩, by simp, fun h => List.length_pos_iff.2 h⟩
  · have h1 := hi.1
    simp only [List.length_singleton] at h1
    have d0 : decide ((i : Int) ≥ 0) = true := by simp
    have e1 : IntKind.i64.wrap ((i : Int) + ((1 : Nat) : Int)) = ((i + 1 : Nat) : Int) := by rw [wrap_i64 (by omega) (by omega)]; omega
    obtain ⟨y, hy, hyb, hyk⟩ := hv.upto (j := i) (by omega) .i64
    obtain ⟨z, hz, hzb, hzk⟩ := hv.from2 (i := i + 1) (by omega) .i64
    simp only [arithV_add, arithV_sub, arithV_eql, arithV_neq, arithV_lss, arithV_leq, arithV_gtr, arithV_geq, intConvV_int, Fld_ptr, add_mk, Nat.zero_add, List.getElem?_toArray, List.getElem?_cons_succ, List.getElem?_cons_zero, Get_some, Br_true, Br_false, nth_zero, nth_one, nth_two, extractV_tuple, fieldAddrV_ptr, nilV_ptr, load1V_ptr, pickV_bool, unV_not, lenV_slice, capV_slice, d0, hy, hu.len, List.length_singleton, e1, hz]
    exact ⟨trivial, y, z, true, _, _, rfl, hyb, by simp; omega, hzb, by simp; omega, fun _ => by simp; omega⟩

theorem upcoming_ok {S : Stk} {s : St} {H : Heap} {tr : Nat} {tbuf : Value} (ht : TR S tr tbuf H) (htr : tr ∉ S.ids) (h : RdAt S s H) :
    CallsH Tryz.prog 165 #[.pointer (some ⟨tr, 0, none⟩)] H fun x H' => ∃ (n : Nat) (s' : St), x = .int .i64 n ∧ n ≤ 1000 ∧ RdAt S s' H' ∧ s'.rest S = s.rest S ∧ Frm S.ids H H' := by
  apply s165
  simp only [c165, Fld_ptr, add_mk, Nat.zero_add, List.getElem?_toArray, List.getElem?_cons_succ, List.getElem?_cons_zero, Get_some, Br_true, Br_false, nth_zero, nth_one, nth_two, extractV_tuple, fieldAddrV_ptr, nilV_ptr, load1V_ptr, pickV_bool, unV_not, lenV_slice, capV_slice, cellH_of ht]
  refine (peek_ok h (n := 1) (by omega)).mono ?_
  rintro x H1 ⟨u1, s1, rfl, hp1⟩
  have h1 := hp1.rd
  have ht1 : TR S tr tbuf H1 := hp1.frm.get ht htr
  simp only [Fld_ptr, add_mk, Nat.zero_add, List.getElem?_toArray, List.getElem?_cons_succ, List.getElem?_cons_zero, Get_some, Br_true, Br_false, nth_zero, nth_one, nth_two, extractV_tuple, fieldAddrV_ptr, nilV_ptr, load1V_ptr, pickV_bool, unV_not, lenV_slice, capV_slice, cellH_of ht1]
  refine (buffered_ok h1).mono ?_
  rintro x H1 ⟨rfl, rfl⟩
  simp only [arithV_add, arithV_sub, arithV_eql, arithV_neq, arithV_lss, arithV_leq, arithV_gtr, arithV_geq, intConvV_int, Fld_ptr, add_mk, Nat.zero_add, List.getElem?_toArray, List.getElem?_cons_succ, List.getElem?_cons_zero, Get_some, Br_true, Br_false, nth_zero, nth_one, nth_two, extractV_tuple, fieldAddrV_ptr, nilV_ptr, load1V_ptr, pickV_bool, unV_not, lenV_slice, capV_slice]
  refine Br_intro (fun h0 => ⟨0, s1, rfl, by omega, h1, hp1.rest, hp1.frm⟩) (fun h0 => ?_)
  have hw4 := h1.w4
  simp only [Fld_ptr, add_mk, Nat.zero_add, List.getElem?_toArray, List.getElem?_cons_succ, List.getElem?_cons_zero, Get_some, Br_true, Br_false, nth_zero, nth_one, nth_two, extractV_tuple, fieldAddrV_ptr, nilV_ptr, load1V_ptr, pickV_bool, unV_not, lenV_slice, capV_slice, cellH_of ht1]
  refine (peek_ok h1 (n := s1.w - s1.r) (by omega)).mono ?_
  rintro x H2 ⟨u2, s2, rfl, hp2⟩
  have h2 := hp2.rd
  have ht2 : TR S tr tbuf H2 := hp2.frm.get ht1 htr
  have hub := hp2.bytes
  simp only [Fld_ptr, add_mk, Nat.zero_add, List.getElem?_toArray, List.getElem?_cons_succ, List.getElem?_cons_zero, Get_some, Br_true, Br_false, nth_zero, nth_one, nth_two, extractV_tuple, fieldAddrV_ptr, nilV_ptr, load1V_ptr, pickV_bool, unV_not, lenV_slice, capV_slice]
  have f02 : Frm S.ids H H2 := hp1.frm.trans hp2.frm
  have fin : ∀ H' (n : Nat), n ≤ 1000 → Frm [] H2 H' → ∃ (n' : Nat) (s' : St), (Value.int .i64 n : Value) = .int .i64 n' ∧ n' ≤ 1000 ∧ RdAt S s' H' ∧ s'.rest S = s.rest S ∧ Frm S.ids H H' := fun H' n hn f =>
    ⟨n, s2, rfl, hn, h2.frm f (by simp) (by simp) (by simp), hp2.rest.trans hp1.rest, f02.trans (f.mono (by simp))⟩
  refine ⟨fun vs H' => ∃ n : Nat, vs = [.int .i64 n] ∧ n ≤ 1000 ∧ Frm [] H2 H', ?_, ?_⟩
  · refine ⟨fun μ vs H' => ∃ (n : Nat) (y : Value) (m : List UInt8), vs = [.int .i64 n, y] ∧ μ = m.length ∧ n ≤ 1000 ∧ IsBytes H' y m ∧ m.length ≤ 4096 ∧ Frm [] H2 H', ⟨_, 0, u2, _, rfl, rfl, by omega, hub, by rw [List.length_take]; omega, Frm.refl _ _⟩, ?_⟩
    rintro μ vs H3 ⟨n, y, m, rfl, rfl, hn, hy, hm, f3⟩
    have dd : ∀ a b : Nat, decide ((a : Int) < (b : Int)) = decide (a < b) := fun a b => by simp
    refine ⟨fun vs H' => H' = H3 ∧ vs = [.bool (decide (0 < m.length) && decide (n < 1000))], ?_, ?_⟩
    · have d1 : decide ((m.length : Int) > 0) = decide (0 < m.length) := by simp
      have d2 : decide ((n : Int) < 1000) = decide (n < 1000) := by simp; omega
      simp only [Fld_ptr, add_mk, Nat.zero_add, List.getElem?_toArray, List.getElem?_cons_succ, List.getElem?_cons_zero, Get_some, Br_true, Br_false, nth_zero, nth_one, nth_two, extractV_tuple, fieldAddrV_ptr, nilV_ptr, load1V_ptr, pickV_bool, unV_not, lenV_slice, capV_slice, arithV_add, arithV_sub, arithV_eql, arithV_neq, arithV_lss, arithV_leq, arithV_gtr, arithV_geq, intConvV_int, hy.len, d1, d2]
      refine Br_intro (fun hh => ?_) (fun hh => ?_) <;> simp only [Fld_ptr, add_mk, Nat.zero_add, List.getElem?_toArray, List.getElem?_cons_succ, List.getElem?_cons_zero, Get_some, Br_true, Br_false, nth_zero, nth_one, nth_two, extractV_tuple, fieldAddrV_ptr, nilV_ptr, load1V_ptr, pickV_bool, unV_not, lenV_slice, capV_slice, hh, if_true, Bool.false_eq_true, if_false, Bool.true_and, Bool.false_and, and_self]
    · rintro _ H3 ⟨rfl, rfl⟩
      simp only [Fld_ptr, add_mk, Nat.zero_add, List.getElem?_toArray, List.getElem?_cons_succ, List.getElem?_cons_zero, Get_some, Br_true, Br_false, nth_zero, nth_one, nth_two, extractV_tuple, fieldAddrV_ptr, nilV_ptr, load1V_ptr, pickV_bool, unV_not, lenV_slice, capV_slice]
      refine Br_intro (fun hc => ?_) (fun hc => ⟨n, rfl, hn, f3⟩)
      simp only [Bool.and_eq_true, decide_eq_true_eq] at hc
      refine lit1 (c := 10) fun H4 hl4 f4 z4 => ?_
      have hy4 := hy.frm f4 (by simp)
      refine (bytesCut1_ok hy4 hl4 (by omega)).mono ?_
      rintro x H4 ⟨rfl, y1, z1, b1, m1, r1, rfl, hy1, hm1l, hz1, hr1, hr2⟩
      have hrl := hr2 (List.length_pos_iff.1 hc.1)
      have f24 := f3.trans f4
      simp only [Fld_ptr, add_mk, Nat.zero_add, List.getElem?_toArray, List.getElem?_cons_succ, List.getElem?_cons_zero, Get_some, Br_true, Br_false, nth_zero, nth_one, nth_two, extractV_tuple, fieldAddrV_ptr, nilV_ptr, load1V_ptr, pickV_bool, unV_not, lenV_slice, capV_slice]
      by_cases hm1 : m1 = []
      · subst hm1
        refine Join_direct ?_
        simp only [hy1.len, Fld_ptr, add_mk, Nat.zero_add, List.getElem?_toArray, List.getElem?_cons_succ, List.getElem?_cons_zero, Get_some, Br_true, Br_false, nth_zero, nth_one, nth_two, extractV_tuple, fieldAddrV_ptr, nilV_ptr, load1V_ptr, pickV_bool, unV_not, lenV_slice, capV_slice, arithV_add, arithV_sub, arithV_eql, arithV_neq, arithV_lss, arithV_leq, arithV_gtr, arithV_geq, intConvV_int, List.length_nil, show ((((0 : Nat)) : Int) == 0) = true from rfl, if_true]
        exact ⟨n, rfl, hn, f24⟩
      · have hpos : 0 < m1.length := List.length_pos_iff.2 hm1
        have hne : (((m1.length : Nat) : Int) == 0) = false := by rw [beq_eq_false_iff_ne]; omega
        have hml : m1.length < 2 ^ 40 := by omega
        obtain ⟨a, ha, hca⟩ := elem_at hy1 hpos hml
        rw [show ((0 : Nat) : Int) = 0 from rfl] at ha
        generalize m1[0] = b0 at hca
        refine ⟨fun vs H' => (∃ b, vs = [.bool b]) ∧ H' = H4, ?_, ?_⟩
        · simp only [hy1.len, Fld_ptr, add_mk, Nat.zero_add, List.getElem?_toArray, List.getElem?_cons_succ, List.getElem?_cons_zero, Get_some, Br_true, Br_false, nth_zero, nth_one, nth_two, extractV_tuple, fieldAddrV_ptr, nilV_ptr, load1V_ptr, pickV_bool, unV_not, lenV_slice, capV_slice, arithV_add, arithV_sub, arithV_eql, arithV_neq, arithV_lss, arithV_leq, arithV_gtr, arithV_geq, intConvV_int, hne]
          refine Br_intro (fun hh => ?_) (fun hh => ?_)
          · simp only [ha, hca, byteV, Fld_ptr, add_mk, Nat.zero_add, List.getElem?_toArray, List.getElem?_cons_succ, List.getElem?_cons_zero, Get_some, Br_true, Br_false, nth_zero, nth_one, nth_two, extractV_tuple, fieldAddrV_ptr, nilV_ptr, load1V_ptr, pickV_bool, unV_not, lenV_slice, capV_slice, arithV_add, arithV_sub, arithV_eql, arithV_neq, arithV_lss, arithV_leq, arithV_gtr, arithV_geq, intConvV_int, if_true, Bool.false_eq_true, if_false]
            exact ⟨⟨_, rfl⟩, trivial⟩
          · simp only [Fld_ptr, add_mk, Nat.zero_add, List.getElem?_toArray, List.getElem?_cons_succ, List.getElem?_cons_zero, Get_some, Br_true, Br_false, nth_zero, nth_one, nth_two, extractV_tuple, fieldAddrV_ptr, nilV_ptr, load1V_ptr, pickV_bool, unV_not, lenV_slice, capV_slice, Bool.false_eq_true, if_false]
            exact ⟨⟨_, rfl⟩, trivial⟩
        · rintro _ H4 ⟨⟨b, rfl⟩, rfl⟩
          simp only [Fld_ptr, add_mk, Nat.zero_add, List.getElem?_toArray, List.getElem?_cons_succ, List.getElem?_cons_zero, Get_some, Br_true, Br_false, nth_zero, nth_one, nth_two, extractV_tuple, fieldAddrV_ptr, nilV_ptr, load1V_ptr, pickV_bool, unV_not, lenV_slice, capV_slice]
          refine Br_intro (fun hh => ⟨n, rfl, hn, f24⟩) (fun hh => ?_)
          refine ⟨fun vs H' => (∃ b, vs = [.bool b]) ∧ H' = H4, ?_, ?_⟩
          · simp only [ha, hca, byteV, Fld_ptr, add_mk, Nat.zero_add, List.getElem?_toArray, List.getElem?_cons_succ, List.getElem?_cons_zero, Get_some, Br_true, Br_false, nth_zero, nth_one, nth_two, extractV_tuple, fieldAddrV_ptr, nilV_ptr, load1V_ptr, pickV_bool, unV_not, lenV_slice, capV_slice, arithV_add, arithV_sub, arithV_eql, arithV_neq, arithV_lss, arithV_leq, arithV_gtr, arithV_geq, intConvV_int]
            refine Br_intro (fun hh => ?_) (fun hh => ?_)
            · simp only [Fld_ptr, add_mk, Nat.zero_add, List.getElem?_toArray, List.getElem?_cons_succ, List.getElem?_cons_zero, Get_some, Br_true, Br_false, nth_zero, nth_one, nth_two, extractV_tuple, fieldAddrV_ptr, nilV_ptr, load1V_ptr, pickV_bool, unV_not, lenV_slice, capV_slice, if_true]
              exact ⟨⟨_, rfl⟩, trivial⟩
            · simp only [Fld_ptr, add_mk, Nat.zero_add, List.getElem?_toArray, List.getElem?_cons_succ, List.getElem?_cons_zero, Get_some, Br_true, Br_false, nth_zero, nth_one, nth_two, extractV_tuple, fieldAddrV_ptr, nilV_ptr, load1V_ptr, pickV_bool, unV_not, lenV_slice, capV_slice, Bool.false_eq_true, if_false]
              exact ⟨⟨_, rfl⟩, trivial⟩
          · rintro _ H4 ⟨⟨b, rfl⟩, rfl⟩
            have e1 : IntKind.i64.wrap ((n : Int) + 1) = ((n + 1 : Nat) : Int) := by rw [wrap_i64 (by omega) (by omega)]; omega
            simp only [Fld_ptr, add_mk, Nat.zero_add, List.getElem?_toArray, List.getElem?_cons_succ, List.getElem?_cons_zero, Get_some, Br_true, Br_false, nth_zero, nth_one, nth_two, extractV_tuple, fieldAddrV_ptr, nilV_ptr, load1V_ptr, pickV_bool, unV_not, lenV_slice, capV_slice, arithV_add, arithV_sub, arithV_eql, arithV_neq, arithV_lss, arithV_leq, arithV_gtr, arithV_geq, intConvV_int, e1]
            refine Br_intro (fun hh => ?_) (fun hh => ?_)
            · exact ⟨_, hrl, n, z1, r1, rfl, rfl, hn, hz1, by omega, f24⟩
            · exact ⟨_, hrl, n + 1, z1, r1, rfl, rfl, by omega, hz1, by omega, f24⟩
  · rintro _ H' ⟨n, rfl, hn, f⟩
    exact fin H' n hn f
end Go.Cps

/-
  Slices of strings in rows: windows, one string appended.
  Conditions: each contract's own.
-/
namespace Go.Cps
open Go Go.Proofs

/-- from o on, for c cells, the row b is theirs; its first cells are these strings -/
def StrsAt (H : Heap) (b o c : Nat) (l : List (List UInt8)) : Prop := ∃ cells : Array Value, H[b]? = some (.cells cells 9 (0, 0)) ∧ l.length ≤ c ∧ o + c ≤ cells.size ∧ ∀ j, j < l.length → cells[o + j]? = (l[j]?).map strVal
theorem StrsAt.frm {H H' : Heap} {b o c : Nat} {l : List (List UInt8)} {X : List Nat} (h : StrsAt H b o c l) (f : Frm X H H') (hb : b ∉ X) : StrsAt H' b o c l := by
  obtain ⟨cells, h1, h2⟩ := h
  exact ⟨cells, f.get h1 hb, h2⟩
/-- a store into row b at p leaves windows alone that p is not in -/
theorem StrsAt.keep {H H' : Heap} {b o c p : Nat} {v : Value} {l : List (List UInt8)} {b2 : Nat} {cells : Array Value} (h : StrsAt H b2 o c l) (hb : H[b]? = some (.cells cells 9 (0, 0))) (h1 : H'[b]? = some (.cells (cells.setIfInBounds p v) 9 (0, 0))) (f : Frm [b] H H') (hp : b2 ≠ b ∨ p < o ∨ o + c ≤ p) : StrsAt H' b2 o c l := by
  by_cases he : b2 = b
  · subst he
    obtain ⟨cs, g1, g2, g3, g4⟩ := h
    rw [hb] at g1
    cases g1
    refine ⟨_, h1, g2, by simpa using g3, fun j hj => ?_⟩
    rw [Array.getElem?_setIfInBounds, if_neg (by omega)]
    exact g4 j hj
  · exact h.frm f (by simpa using he)

theorem StrsAt.elems {H : Heap} {b o c : Nat} {l : List (List UInt8)} (h : StrsAt H b o c l) : cellsH H ⟨b, o, none⟩ 0 l.length = some (l.map strVal) := by
  obtain ⟨cells, g1, g2, g3, g4⟩ := h
  refine (cellsH_getElem _ _ _).2 ⟨by simp, fun j hj => ?_⟩
  rw [cellH_of g1, Nat.zero_add, g4 j hj]
  simp

/-- one string more -/
theorem append_str {H : Heap} {b o c xb xc : Nat} {l : List (List UInt8)} {v : List UInt8} {K : Value → Heap → Prop} (h : StrsAt H b o c l) (hx : cellH H ⟨xb, 0, none⟩ = some (strVal v)) (hl : l.length < 2 ^ 40)
    (hin : ∀ H' cells, H[b]? = some (.cells cells 9 (0, 0)) → H'[b]? = some (.cells (cells.setIfInBounds (o + l.length) (strVal v)) 9 (0, 0)) → Frm [b] H H' → H'.size = H.size → l.length < c → StrsAt H' b o c (l ++ [v]) → K (.slice (some ⟨b, o, none⟩) (l.length + 1) c) H')
    (hout : ∀ H' c', Frm [] H H' → StrsAt H' H.size 0 c' (l ++ [v]) → H'.size = H.size + 1 → K (.slice (some ⟨H.size, 0, none⟩) (l.length + 1) c') H') :
    Append 9 1 16 #[.string ⟨#[]⟩] (.slice (some ⟨b, o, none⟩) l.length c) (.slice (some ⟨xb, 0, none⟩) 1 xc) H K := by
  have he := h.elems
  have hxe : elemsV 1 1 (.slice (some ⟨xb, 0, none⟩) 1 xc) H = some [strVal v] := by
    simp only [elemsV, Nat.mul_one]
    refine (cellsH_getElem _ _ _).2 ⟨rfl, fun j hj => ?_⟩
    have : j = 0 := by omega
    subst this
    simpa using hx
  have hsz : ((l ++ [v]).map strVal).length = l.length + 1 := by simp
  obtain ⟨cells, g1, g2, g3, g4⟩ := h
  refine ⟨_, _, _, 1, _, rfl, rfl, hxe, ?_⟩
  by_cases hroom : l.length + 1 ≤ c
  · left
    refine ⟨hroom, ?_⟩
    have hst := stores_upd [strVal v] H b (o + l.length) 0 cells 9 g1 (by simp; omega) (fun u hu => by simp at hu; subst hu; rfl)
    simp only [storeRow, Nat.mul_one, add_mk, hst, Get_some, Nat.add_zero, putAt]
    refine hin _ cells g1 (upd_same (lt_of_some g1)) (Frm.upd _ (by simp)) (by simp) (by omega) ⟨_, upd_same (lt_of_some g1), by simp; omega, by simpa using g3, fun j hj => ?_⟩
    simp only [List.length_append, List.length_singleton] at hj
    rw [Array.getElem?_setIfInBounds]
    by_cases hjl : j = l.length
    · subst hjl
      rw [if_pos rfl, if_pos (by omega)]
      simp
    · rw [if_neg (by omega), g4 j (by omega), List.getElem?_append_left (by omega)]
  · right
    have hlt : c < l.length + 1 := by omega
    have hcap := nextslicecap_le hlt
    refine ⟨hlt, by omega, by omega, l.map strVal, ?_, fun c' hc' => ?_⟩
    · simp only [elemsV, Nat.mul_one]; exact he
    · refine hout _ c' (Frm.push _ _ _) ⟨_, push_same _ _, by simp; omega, ?_, fun j hj => ?_⟩ (by simp)
      · simp [zeros, Builtin.zeroCells]; omega
      · rw [List.length_append, List.length_singleton] at hj
        rw [Nat.zero_add, Array.getElem?_append_left (by simp; omega)]
        by_cases hjl : j < l.length
        · rw [Array.getElem?_append_left (by simpa using hjl), List.getElem?_append_left hjl]
          simp
        · have : j = l.length := by omega
          subst this
          rw [Array.getElem?_append_right (by simp)]
          simp

/-- the first string of a nil slice -/
theorem append_str_nil {H : Heap} {xb xc : Nat} {v : List UInt8} {K : Value → Heap → Prop} (hx : cellH H ⟨xb, 0, none⟩ = some (strVal v))
    (hout : ∀ H' c', Frm [] H H' → StrsAt H' H.size 0 c' [v] → H'.size = H.size + 1 → K (.slice (some ⟨H.size, 0, none⟩) 1 c') H') :
    Append 9 1 16 #[.string ⟨#[]⟩] (.slice none 0 0) (.slice (some ⟨xb, 0, none⟩) 1 xc) H K := by
  have hxe : elemsV 1 1 (.slice (some ⟨xb, 0, none⟩) 1 xc) H = some [strVal v] := by
    simp only [elemsV, Nat.mul_one]
    refine (cellsH_getElem _ _ _).2 ⟨rfl, fun j hj => ?_⟩
    have : j = 0 := by omega
    subst this
    simpa using hx
  refine ⟨_, _, _, 1, _, rfl, rfl, hxe, .inr ⟨by omega, by omega, by rw [nextcap0]; omega, [], rfl, fun c' hc' => ?_⟩⟩
  refine hout _ c' (Frm.push _ _ _) ⟨_, push_same _ _, by simp; omega, ?_, fun j hj => ?_⟩ (by simp)
  · simp [zeros, Builtin.zeroCells]; omega
  · simp only [List.length_singleton] at hj
    have : j = 0 := by omega
    subst this
    simp only [Nat.add_zero, List.append_nil, List.getElem?_cons_zero, Option.map_some]
    rw [show (([] : List Value).toArray ++ [strVal v].toArray ++ zeros #[Value.string ⟨#[]⟩] (c' - (0 + 1))) = #[strVal v] ++ zeros #[Value.string ⟨#[]⟩] (c' - (0 + 1)) by simp, Array.getElem?_append_left (by simp)]
    rfl
end Go.Cps

/-
  Slices of structs and of strings, as they read: each element's cells; owned ones, and one element more.
  Conditions: each contract's own.
-/
namespace Go.Cps
open Go Go.Proofs

/-- a slice whose elements (w cells each) read as R tells, apart from the blocks of D -/
def SlV {α : Type} (w : Nat) (R : List Nat → Heap → α → List Value → Prop) (D : List Nat) (H : Heap) (v : Value) (l : List α) : Prop :=
  (∃ b o c, v = .slice (some ⟨b, o, none⟩) l.length c ∧ l.length ≤ c ∧ b ∉ D ∧ b < H.size ∧ ∀ j (hj : j < l.length), ∃ vs : List Value, vs.length = w ∧ R D H l[j] vs ∧ ∀ i, i < w → cellH H ⟨b, o + (j * w + i), none⟩ = vs[i]?) ∨ (∃ a, v = .slice a 0 0 ∧ l = [])

structure RelOk {α : Type} (R : List Nat → Heap → α → List Value → Prop) : Prop where
  frm : ∀ {D X H H' a vs}, R D H a vs → Frm X H H' → (∀ x ∈ X, x ∈ D ∨ H.size ≤ x) → R D H' a vs
  new : ∀ {D H a vs g}, R D H a vs → H.size ≤ g → R (g :: D) H a vs
  sub : ∀ {D D' H a vs}, (∀ x ∈ D', x ∈ D) → R D H a vs → R D' H a vs
  one : ∀ {D H a vs}, R D H a vs → ∀ v ∈ vs, isOne v = true

section
variable {α : Type} {w : Nat} {R : List Nat → Heap → α → List Value → Prop} {D : List Nat} {H : Heap} {v : Value} {l : List α}

theorem SlV.len (h : SlV w R D H v l) : lenV v = some (.int .i64 l.length) := by
  rcases h with ⟨b, o, c, rfl, _⟩ | ⟨a', rfl, rfl⟩ <;> rfl
theorem SlV.isOne (h : SlV w R D H v l) : isOne v = true := by
  rcases h with ⟨b, o, c, rfl, _⟩ | ⟨a', rfl, rfl⟩ <;> rfl

theorem SlV.frm (hR : RelOk R) {H' : Heap} {X : List Nat} (h : SlV w R D H v l) (f : Frm X H H') (hX : ∀ x ∈ X, x ∈ D ∨ H.size ≤ x) : SlV w R D H' v l := by
  rcases h with ⟨b, o, c, rfl, h1, h2, h3, h4⟩ | h
  · refine .inl ⟨b, o, c, rfl, h1, h2, Nat.lt_of_lt_of_le h3 f.size, fun j hj => ?_⟩
    obtain ⟨vs, g1, g2, g3⟩ := h4 j hj
    refine ⟨vs, g1, hR.frm g2 f hX, fun i hi => ?_⟩
    rw [← g3 i hi]
    have : H'[b]? = H[b]? := f.same b h3 (fun hm => by
      rcases hX b hm with h | h
      · exact h2 h
      · omega)
    simp only [cellH, this]
  · exact .inr h
theorem SlV.new (hR : RelOk R) {g : Nat} (h : SlV w R D H v l) (hg : H.size ≤ g) : SlV w R (g :: D) H v l := by
  rcases h with ⟨b, o, c, rfl, h1, h2, h3, h4⟩ | h
  · refine .inl ⟨b, o, c, rfl, h1, ?_, h3, fun j hj => ?_⟩
    · intro hm
      rcases List.mem_cons.1 hm with rfl | hm
      · omega
      · exact h2 hm
    · obtain ⟨vs, g1, g2, g3⟩ := h4 j hj
      exact ⟨vs, g1, hR.new g2 hg, g3⟩
  · exact .inr h
theorem SlV.sub (hR : RelOk R) {D' : List Nat} (hD : ∀ x ∈ D', x ∈ D) (h : SlV w R D H v l) : SlV w R D' H v l := by
  rcases h with ⟨b, o, c, rfl, h1, h2, h3, h4⟩ | h
  · refine .inl ⟨b, o, c, rfl, h1, fun hm => h2 (hD b hm), h3, fun j hj => ?_⟩
    obtain ⟨vs, g1, g2, g3⟩ := h4 j hj
    exact ⟨vs, g1, hR.sub hD g2, g3⟩
  · exact .inr h

theorem cellsH_of {b o : Nat} {vs : List Value} (h : ∀ i, i < vs.length → cellH H ⟨b, o + i, none⟩ = vs[i]?) : cellsH H ⟨b, o, none⟩ 0 vs.length = some vs :=
  (cellsH_getElem _ _ _).2 ⟨rfl, fun j hj => by rw [Nat.zero_add]; exact h j hj⟩

theorem SlV.elem (h : SlV w R D H v l) {j : Nat} (hj : j < l.length) : ∃ a vs, (∀ k : IntKind, elemAddrV w v (.int k j) = some (.pointer (some a))) ∧ loadNV w (.pointer (some a)) H = some (.agg vs.toArray) ∧ vs.length = w ∧ R D H l[j] vs ∧ (∀ i, i < w → cellH H (a.add i) = vs[i]?) := by
  rcases h with ⟨b, o, c, rfl, h1, h2, h3, h4⟩ | ⟨_, _, rfl⟩
  · obtain ⟨vs, g1, g2, g3⟩ := h4 j hj
    have e : ∀ i, i < w → cellH H ⟨b, o + j * w + i, none⟩ = vs[i]? := fun i hi => by rw [Nat.add_assoc]; exact g3 i hi
    refine ⟨⟨b, o + j * w, none⟩, vs, fun k => ?_, ?_, g1, g2, fun i hi => ?_⟩
    · have := elemAddr_of (b := b) (o := o) (n := l.length) (c := c) (size := w) (k := k) (i := (j : Int)) (by omega) (by omega)
      simpa using this
    · have hc := cellsH_of (H := H) (b := b) (o := o + j * w) (vs := vs) (fun i hi => e i (by omega))
      rw [g1] at hc
      simp only [loadNV, hc, Option.map_some]
    · rw [add_mk]; exact e i hi
  · simp at hj

theorem SlV.at_ (hR : ∀ D H a vs, R D H a vs → vs.length = w) (h : SlV w R D H v l) {j : Nat} (hj : j < l.length) : ∃ vs, R D H l[j] vs := by
  rcases h with ⟨b, o, c, rfl, h1, h2, h3, h4⟩ | ⟨_, _, rfl⟩
  · obtain ⟨vs, g1, g2, g3⟩ := h4 j hj
    exact ⟨vs, g2⟩
  · simp at hj
end

/-- an owned slice of structs -/
def OwnS {α : Type} (w T : Nat) (R : List Nat → Heap → α → List Value → Prop) (D : List Nat) (H : Heap) (k : Option Nat) (v : Value) (l : List α) : Prop := match k with
  | none => v = .slice none 0 0 ∧ l = []
  | some g => ∃ (cells : Array Value) (c : Nat), v = .slice (some ⟨g, 0, none⟩) l.length c ∧ H[g]? = some (.cells cells T (0, 0)) ∧ cells.size = c * w ∧ l.length ≤ c ∧ g ∉ D ∧ ∀ j (hj : j < l.length), ∃ vs : List Value, vs.length = w ∧ R (g :: D) H l[j] vs ∧ ∀ i, i < w → cells[j * w + i]? = vs[i]?

section
variable {α : Type} {w T : Nat} {R : List Nat → Heap → α → List Value → Prop} {D : List Nat} {H : Heap} {v : Value} {l : List α} {k : Option Nat}

theorem OwnS.slV (hR : RelOk R) (h : OwnS w T R D H k v l) : SlV w R D H v l := by
  cases k with
  | none => exact .inr ⟨none, h⟩
  | some g =>
    obtain ⟨cells, c, rfl, hg, hc, hl, hD, he⟩ := h
    refine .inl ⟨g, 0, c, rfl, hl, hD, lt_of_some hg, fun j hj => ?_⟩
    obtain ⟨vs, g1, g2, g3⟩ := he j hj
    refine ⟨vs, g1, hR.sub (fun x hx => by simp [hx]) g2, fun i hi => ?_⟩
    rw [cellH_of hg, Nat.zero_add]
    exact g3 i hi
theorem OwnS.frm (hR : RelOk R) {H' : Heap} {X : List Nat} (h : OwnS w T R D H k v l) (f : Frm X H H') (hX : ∀ x ∈ X, (x ∈ D ∨ H.size ≤ x) ∧ k ≠ some x) : OwnS w T R D H' k v l := by
  cases k with
  | none => exact h
  | some g =>
    obtain ⟨cells, c, rfl, hg, hc, hl, hD, he⟩ := h
    refine ⟨cells, c, rfl, f.get hg (fun hm => (hX g hm).2 rfl), hc, hl, hD, fun j hj => ?_⟩
    obtain ⟨vs, g1, g2, g3⟩ := he j hj
    exact ⟨vs, g1, hR.frm g2 f (fun x hx => by
      rcases (hX x hx).1 with h | h
      · exact .inl (by simp [h])
      · exact .inr h), g3⟩
theorem OwnS.sub (hR : RelOk R) {D' : List Nat} (hD : ∀ x ∈ D', x ∈ D) (h : OwnS w T R D H k v l) : OwnS w T R D' H k v l := by
  cases k with
  | none => exact h
  | some g =>
    obtain ⟨cells, c, rfl, hg, hc, hl, hgD, he⟩ := h
    refine ⟨cells, c, rfl, hg, hc, hl, fun hm => hgD (hD g hm), fun j hj => ?_⟩
    obtain ⟨vs, g1, g2, g3⟩ := he j hj
    exact ⟨vs, g1, hR.sub (fun x hx => by
      rcases List.mem_cons.1 hx with rfl | hx
      · simp
      · simp [hD x hx]) g2, g3⟩
theorem OwnS.lt (h : OwnS w T R D H k v l) : ∀ g, k = some g → g < H.size ∧ g ∉ D := by
  rintro g rfl
  obtain ⟨cells, c, rfl, hg, hc, hl, hD, he⟩ := h
  exact ⟨lt_of_some hg, hD⟩
theorem OwnS.len (h : OwnS w T R D H k v l) : lenV v = some (.int .i64 l.length) := by
  cases k with
  | none => obtain ⟨rfl, rfl⟩ := h; rfl
  | some g => obtain ⟨cells, c, rfl, _⟩ := h; rfl
theorem OwnS.isOne (h : OwnS w T R D H k v l) : isOne v = true := by
  cases k with
  | none => obtain ⟨rfl, rfl⟩ := h; rfl
  | some g => obtain ⟨cells, c, rfl, _⟩ := h; rfl

theorem putAt_old (cs : Array Value) (o : Nat) (vs : List Value) (i : Nat) (hi : i < o) (hle : o + vs.length ≤ cs.size) : (putAt cs o vs)[i]? = cs[i]? := by
  rw [putAt_get _ _ _ _ hle, if_neg (by omega)]
theorem putAt_new (cs : Array Value) (o : Nat) (vs : List Value) (i : Nat) (hi : i < vs.length) (hle : o + vs.length ≤ cs.size) : (putAt cs o vs)[o + i]? = vs[i]? := by
  rw [putAt_get _ _ _ _ hle, if_pos (by omega)]
  congr 1
  omega

/-- one element more -/
theorem append_one (hR : RelOk R) {bytes : Nat} {zero : Array Value} {xb xc : Nat} {xs : List Value} {a : α} {K : Value → Heap → Prop} (h : OwnS w T R D H k v l) (hx : ∀ i, i < w → cellH H ⟨xb, i, none⟩ = xs[i]?) (hxl : xs.length = w) (ha : R (k.toList ++ D) H a xs)
    (hz : zero.size = w) (hl : l.length < 2 ^ 36) (hb : bytes ≤ 64) (hD : ∀ x ∈ D, x < H.size) (hw : 0 < w ∧ w ≤ 64)
    (hK : ∀ k' v' H', OwnS w T R D H' k' v' (l ++ [a]) → Frm k.toList H H' → (k' = k ∨ ∃ g, k' = some g ∧ H.size ≤ g) → K v' H') :
    Append T w bytes zero v (.slice (some ⟨xb, 0, none⟩) 1 xc) H K := by
  have hxe : elemsV w 1 (.slice (some ⟨xb, 0, none⟩) 1 xc) H = some xs := by
    simp only [elemsV, Nat.one_mul]
    have := cellsH_of (H := H) (b := xb) (o := 0) (vs := xs) (fun i hi => by rw [Nat.zero_add]; exact hx i (by omega))
    rw [hxl] at this
    exact this
  cases k with
  | none =>
    obtain ⟨rfl, rfl⟩ := h
    refine ⟨_, _, _, 1, _, rfl, rfl, hxe, .inr ⟨by omega, by omega, by rw [nextcap0]; omega, [], rfl, fun c hc => ?_⟩⟩
    have f1 : Frm [] H (H.push (.cells (([] : List Value).toArray ++ xs.toArray ++ zeros zero (c - (0 + 1))) T (0, 0))) := Frm.push _ _ _
    have hp := push_same H (.cells (([] : List Value).toArray ++ xs.toArray ++ zeros zero (c - (0 + 1))) T (0, 0))
    refine hK (some H.size) _ _ ⟨_, c, rfl, hp, ?_, by simpa using hc, fun hm => by have := hD _ hm; omega, fun j hj => ?_⟩ f1 (.inr ⟨_, rfl, Nat.le_refl _⟩)
    · simp only [Array.size_append, List.size_toArray, List.length_nil, hxl, zeros, Builtin.zeroCells]
      have : (c - 1) * w + w = c * w := by
        rw [Nat.sub_mul, Nat.one_mul]
        have : w ≤ c * w := Nat.le_mul_of_pos_left w (by omega)
        omega
      simp [hz]; omega
    · simp at hj
      subst hj
      refine ⟨xs, hxl, hR.frm (hR.new (by simpa using ha) (Nat.le_refl _)) f1 (by simp), fun i hi => ?_⟩
      rw [Array.append_assoc, Array.getElem?_append_right (by simp), Array.getElem?_append_left (by simp; omega)]
      simp
  | some g =>
    obtain ⟨cells, c, rfl, hg, hc, hle, hgD, he⟩ := h
    refine ⟨_, _, _, 1, _, rfl, rfl, hxe, ?_⟩
    by_cases hroom : l.length + 1 ≤ c
    · left
      have hsz : l.length * w + xs.length ≤ cells.size := by
        rw [hc, hxl]
        have := Nat.mul_le_mul_right w hroom
        rw [Nat.add_mul, Nat.one_mul] at this
        exact this
      refine ⟨hroom, ?_⟩
      have hst := stores_upd xs H g (l.length * w) 0 cells T hg (by simpa using hsz) (hR.one ha)
      simp only [storeRow, add_mk, Nat.zero_add, hst, Get_some, Nat.add_zero]
      have f1 : Frm [g] H (upd H g (.cells (putAt cells (l.length * w) xs) T (0, 0))) := Frm.upd _ (by simp)
      have hfr : ∀ {b ys}, R (g :: D) H b ys → R (g :: D) (upd H g (.cells (putAt cells (l.length * w) xs) T (0, 0))) b ys := fun hb => hR.frm hb f1 (fun x hx => by rw [List.mem_singleton] at hx; exact .inl (by simp [hx]))
      refine hK (some g) _ _ ⟨putAt cells (l.length * w) xs, c, by simp, upd_same (lt_of_some hg), by rw [putAt_size, hc], by simpa using hroom, hgD, fun j hj => ?_⟩ f1 (.inl rfl)
      simp only [List.length_append, List.length_singleton] at hj
      by_cases hjl : j < l.length
      · obtain ⟨vs, g1, g2, g3⟩ := he j hjl
        refine ⟨vs, g1, ?_, fun i hi => ?_⟩
        · rw [List.getElem_append_left hjl]; exact hfr g2
        · rw [putAt_old _ _ _ _ ?_ hsz]
          · exact g3 i hi
          · have : (j + 1) * w ≤ l.length * w := Nat.mul_le_mul_right w hjl
            rw [Nat.add_mul, Nat.one_mul] at this
            omega
      · have hj' : j = l.length := by omega
        subst hj'
        refine ⟨xs, hxl, ?_, fun i hi => ?_⟩
        · rw [List.getElem_append_right (Nat.le_refl _)]; simpa using hfr (by simpa using ha)
        · exact putAt_new _ _ _ _ (by omega) hsz
    · right
      have hlt : c < l.length + 1 := by omega
      have hcap := nextslicecap_le hlt
      have hsz0 : cells.size = l.length * w := by rw [hc]; congr 1; omega
      refine ⟨hlt, by omega, ?_, cells.toList, ?_, fun c' hc' => ?_⟩
      · have h1 : Builtin.nextslicecap (l.length + 1) c * bytes ≤ Builtin.nextslicecap (l.length + 1) c * 64 := Nat.mul_le_mul_left _ hb
        omega
      · simp only [elemsV]
        rw [← hsz0]
        exact cellsH_all hg
      · have f1 : Frm [] H (H.push (.cells (cells.toList.toArray ++ xs.toArray ++ zeros zero (c' - (l.length + 1))) T (0, 0))) := Frm.push _ _ _
        have hp := push_same H (.cells (cells.toList.toArray ++ xs.toArray ++ zeros zero (c' - (l.length + 1))) T (0, 0))
        have hnew : ∀ {b ys}, R (g :: D) H b ys → R (H.size :: D) (H.push (.cells (cells.toList.toArray ++ xs.toArray ++ zeros zero (c' - (l.length + 1))) T (0, 0))) b ys := fun hb => hR.frm (hR.new (hR.sub (fun x hx => by simp [hx]) hb) (Nat.le_refl _)) f1 (by simp)
        refine hK (some H.size) _ _ ⟨_, c', by simp, hp, ?_, by simpa using hc', fun hm => by have := hD _ hm; omega, fun j hj => ?_⟩ (f1.mono (by simp)) (.inr ⟨_, rfl, Nat.le_refl _⟩)
        · simp only [Array.size_append, List.size_toArray, Array.length_toList, hxl, zeros, Builtin.zeroCells, hsz0]
          have h1 : (c' - (l.length + 1)) * w + (l.length + 1) * w = c' * w := by
            rw [← Nat.add_mul]; congr 1; omega
          have h2 : (l.length + 1) * w = l.length * w + w := by rw [Nat.add_mul, Nat.one_mul]
          simp [hz]; omega
        · simp only [List.length_append, List.length_singleton] at hj
          by_cases hjl : j < l.length
          · obtain ⟨vs, g1, g2, g3⟩ := he j hjl
            refine ⟨vs, g1, ?_, fun i hi => ?_⟩
            · rw [List.getElem_append_left hjl]; exact hnew g2
            · have hlt2 : j * w + i < cells.size := by
                have : (j + 1) * w ≤ l.length * w := Nat.mul_le_mul_right w hjl
                rw [Nat.add_mul, Nat.one_mul] at this
                omega
              rw [Array.append_assoc, Array.getElem?_append_left (by simpa using hlt2), ← g3 i hi]
          · have hj' : j = l.length := by omega
            subst hj'
            refine ⟨xs, hxl, ?_, fun i hi => ?_⟩
            · rw [List.getElem_append_right (Nat.le_refl _)]; simpa using hnew (by simpa using ha)
            · rw [Array.append_assoc, Array.getElem?_append_right (by simp; omega), Array.getElem?_append_left (by simp; omega)]
              simp [hsz0]
end
end Go.Cps

/-
  A header's line cut at its colon, its key made canonical in place: in the buffer below r, or in a row of its own.
  Conditions: each contract's own.
-/
namespace Go.Cps
open Go Go.Proofs

theorem bytesCut_at {u : Value} {b o n c : Nat} {p q : List UInt8} {ch : UInt8} {H : Heap} (hv : IsBytes H (.slice (some ⟨b, o, none⟩) n c) (p ++ ch :: q)) (hu : IsBytes H u [ch]) (hp : ch ∉ p) (hl : (p ++ ch :: q).length < 2 ^ 40) :
    CallsH Tryz.prog 170 #[.slice (some ⟨b, o, none⟩) n c, u] H fun x H' => H' = H ∧ ∃ oz cz, x = .tuple #[.slice (some ⟨b, o, none⟩) p.length c, .slice (some ⟨b, oz, none⟩) q.length cz, .bool true] ∧ IsBytes H (.slice (some ⟨b, oz, none⟩) q.length cz) q ∧ (q ≠ [] → oz = o + p.length + 1) := by
  have hn : n = (p ++ ch :: q).length ∧ n ≤ c := by
    rcases hv with ⟨b', o', c', he, hc, _⟩ | ⟨_, _, hnil⟩
    · cases he; exact ⟨rfl, hc⟩
    · simp at hnil
  obtain ⟨hn1, hn2⟩ := hn
  have hn3 : n = p.length + 1 + q.length := by rw [hn1]; simp; omega
  apply s170
  unfold c170
  have hl2 : p.length + q.length + 1 < 2 ^ 40 := by simp at hl; omega
  refine (bytesIndexT_ok hv hu hl (by simp)).mono ?_
  rintro x H1 ⟨rfl, ⟨rfl, hno⟩ | ⟨i, rfl, hi⟩⟩
  · exfalso
    refine hno p.length (by simp) ?_
    simp
  · have hi2 : i = p.length := by
      obtain ⟨h1, h2, h3⟩ := hi
      rcases Nat.lt_trichotomy i p.length with h | h | h
      · exfalso
        have := at_of_take h2 (j := 0) (by simp)
        rw [Nat.add_zero, List.getElem?_append_left h] at this
        exact hp (List.mem_of_getElem? (by simpa using this))
      · exact h
      · exfalso
        refine h3 p.length h ?_
        simp
    subst hi2
    have d0 : decide ((p.length : Int) ≥ 0) = true := by simp
    have e1 : IntKind.i64.wrap ((p.length : Int) + ((1 : Nat) : Int)) = ((p.length + 1 : Nat) : Int) := by rw [wrap_i64 (by omega) (by omega)]; omega
    have hy := sliceV_hi (a := some ⟨b, o, none⟩) (n := n) (c := c) (size := 1) (hi := p.length) (by omega) .i64
    have hz := sliceV_lo (a := some ⟨b, o, none⟩) (n := n) (c := c) (size := 1) (lo := p.length + 1) (by omega) .i64
    have hzb := hv.sub (lo := p.length + 1) (hi := n) (by omega) (by omega)
    rw [List.take_of_length_le (by omega), show p ++ ch :: q = (p ++ [ch]) ++ q by simp, List.drop_left' (by simp)] at hzb
    simp only [arithV_add, arithV_sub, arithV_eql, arithV_neq, arithV_lss, arithV_leq, arithV_gtr, arithV_geq, intConvV_int, Fld_ptr, add_mk, Nat.zero_add, List.getElem?_toArray, List.getElem?_cons_succ, List.getElem?_cons_zero, Get_some, Br_true, Br_false, nth_zero, nth_one, nth_two, extractV_tuple, fieldAddrV_ptr, nilV_ptr, load1V_ptr, pickV_bool, unV_not, lenV_slice, capV_slice, d0, hy, hu.len, List.length_singleton, e1, hz]
    have hq : n - (p.length + 1) = q.length := by omega
    rw [hq] at hzb ⊢
    by_cases hcl : c = p.length + 1
    · rw [if_pos hcl] at hzb ⊢
      exact ⟨trivial, o, _, rfl, hzb, fun hq0 => absurd (List.eq_nil_of_length_eq_zero (by omega)) hq0⟩
    · rw [if_neg hcl] at hzb ⊢
      refine ⟨trivial, o + (p.length + 1), c - (p.length + 1), by simp, hzb, fun _ => by omega⟩

/-- a slice behind a stretch of its row that is laid anew reads as before -/
theorem IsBytes.behind {H H' : Heap} {b o oz n cz : Nat} {cs : Array Value} {t : TypeId} {vs : List Value} {q : List UInt8} (h : IsBytes H (.slice (some ⟨b, oz, none⟩) n cz) q) (hb : H[b]? = some (.cells cs t (0, 0))) (hb' : H'[b]? = some (.cells (putAt cs o vs) t (0, 0))) (hle : o + vs.length ≤ cs.size) (hoz : q ≠ [] → o + vs.length ≤ oz) : IsBytes H' (.slice (some ⟨b, oz, none⟩) n cz) q := by
  rcases h with ⟨b', o', c', he, hc, hcell⟩ | ⟨_, he, hnil⟩
  · cases he
    refine .inl ⟨b, oz, cz, rfl, hc, fun j hj => ?_⟩
    have hq : q ≠ [] := by rintro rfl; simp at hj
    have := hoz hq
    rw [cellH_of hb', putAt_get _ _ _ _ hle, if_neg (by omega), ← cellH_of hb, hcell j hj]
  · cases he
    exact .inr ⟨_, rfl, hnil⟩

/-- a canonical key laid into the buffer below r -/
theorem RdAt.turn {S : Stk} {s : St} {H H' : Heap} {o : Nat} {m : List UInt8} (h : RdAt S s H) (f : Frm [S.bf] H H') (ho : o + m.length ≤ s.r) (hb : H'[S.bf]? = some (.cells (putAt (s.buf.map byteV).toArray o (m.map byteV)) S.tbf (0, 0))) :
    RdAt S { s with buf := spl s.buf o m } H' ∧ ({ s with buf := spl s.buf o m } : St).rest S = s.rest S := by
  obtain ⟨n1, n2, n3, n4, n5, n6⟩ := h.ne
  have hrw := h.rw
  have hw4 := h.w4
  have hbl := h.blen
  have ff : Frm S.ids H H' := f.mono (by simp [Stk.ids])
  rw [putAt_spl (by omega)] at hb
  refine ⟨{ h with hb := f.get h.hb (by simpa using n1), hbf := hb, hst := f.get h.hst (by simpa using n4.symm), hbr := f.get h.hbr (by simpa using n5.symm), hv := h.hv.frm ff h.d2, hE := h.hE.frm ff h.d0, blen := (spl_length (by omega)).trans h.blen }, ?_⟩
  show ((spl s.buf o m).take s.w).drop s.r ++ _ = (s.buf.take s.w).drop s.r ++ _
  have e : ((spl s.buf o m).take s.w).drop s.r = (s.buf.take s.w).drop s.r := by
    apply List.ext_getElem?
    intro i
    rw [List.getElem?_drop, List.getElem?_drop, List.getElem?_take, List.getElem?_take]
    split
    · have h1 : (spl s.buf o m).drop (o + m.length) = s.buf.drop (o + m.length) := by
        unfold spl
        rw [List.drop_left' (by simp; omega)]
      have h2 : ((spl s.buf o m).drop (o + m.length))[s.r + i - (o + m.length)]? = (s.buf.drop (o + m.length))[s.r + i - (o + m.length)]? := by rw [h1]
      rw [List.getElem?_drop, List.getElem?_drop, show o + m.length + (s.r + i - (o + m.length)) = s.r + i by omega] at h2
      exact h2
    · rfl
  rw [e]
end Go.Cps

/-
  A header's line cut at its colon: the key made canonical in place, the value behind it.
  Conditions: each contract's own.
-/
namespace Go.Cps
open Go Go.Proofs

/-- cut and canonical key, in one -/
theorem keyCut_ok {S : Stk} {tr : Nat} {key v q : List UInt8} {u : Value} {s' : St} {k' : Option Nat} {H : Heap} (hc : Cont S tr (key ++ 58 :: v) q u s' k' H) (htr : tr ∉ S.ids) (hk' : ∀ g, k' = some g → g ∉ tr :: S.ids ∧ blk S.v ≠ some g ∧ g ≠ 0)
    (hkey : key ≠ []) (htok : ∀ b ∈ key, tok b.toNat = true) (hl : key.length + v.length < 5000) (hct : S.tbf = 5) {R : Value → Value → Heap → Prop}
    (hR : ∀ z s'' H', RdAt S s'' H' → s''.rest S = q → IsBytes H' z v → (∃ tbuf', TR S tr tbuf' H' ∧ OwnE H' k' tbuf') → (blk z = some S.bf ∨ blk z = k') → Frm (k'.toList ++ S.ids) H H' → R (strVal (canonG true key)) z H') {R2 R3 : Heap → Prop} :
    Get (Instr.fill (fun j => some (j * 1, 1)) ((Array.range (1 * 1)).map ((#[(.int .u8 0)] : Array Value)[· % 1]!)) [(0, (.int .u8 58))]) fun cs => NewSl cs 5 1 H fun x84 H =>
    MarkS x84 H fun x85 H =>
    CallsH Tryz.prog 170 #[u, x85] H fun x86 H =>
    Get (extractV x86 0) fun x87 =>
    Get (extractV x86 1) fun x88 =>
    Get (extractV x86 2) fun x89 =>
    Get (unV .not x89) fun x91 =>
    Br x91 (R2 H) (
    CallsH Tryz.prog 120 #[x87] H fun x96 H =>
    Get (extractV x96 0) fun x97 =>
    Get (extractV x96 1) fun x98 =>
    Get (unV .not x98) fun x100 =>
    Br x100 (R3 H) (R x97 x88 H)) := by
  have h58 : (58 : UInt8) ∉ key := by
    intro hm
    have := htok 58 hm
    simp [tok, alnum] at this
  -- where the line lies
  have hloc : ∃ b o n c cs, u = .slice (some ⟨b, o, none⟩) n c ∧ H[b]? = some (.cells cs 5 (0, 0)) ∧ n = (key ++ 58 :: v).length ∧ n ≤ c ∧ o + n ≤ cs.size ∧ (∀ j, j < n → cs[o + j]? = ((key ++ 58 :: v)[j]?).map byteV) ∧ ((b = S.bf ∧ cs = (s'.buf.map byteV).toArray ∧ o + n ≤ s'.r) ∨ (k' = some b)) := by
    have hb := hc.bytes
    rcases hc.where_ with ⟨o, n, c, rfl, hle⟩ | hown
    · rcases hb with ⟨b', o', c', he, hcc, hcell⟩ | ⟨_, _, hnil⟩
      · cases he
        have hbf := hc.rd.hbf
        rw [hct] at hbf
        refine ⟨S.bf, o, _, c, _, rfl, hbf, rfl, hcc, ?_, fun j hj => ?_, .inl ⟨rfl, rfl, hle⟩⟩
        · have h1 := hc.rd.rw; have h2 := hc.rd.w4; have h3 := hc.rd.blen; rw [List.size_toArray, List.length_map, h3]; omega
        · rw [← hcell j hj, cellH_of hbf]
      · simp at hnil
    · cases k' with
      | none => have := hown.2; simp at this
      | some g =>
        obtain ⟨cells, rfl, hg, ht, hle⟩ := hown
        refine ⟨g, 0, _, _, cells, rfl, hg, rfl, hle, by omega, fun j hj => ?_, .inr rfl⟩
        have : (cells.toList.take (key ++ 58 :: v).length)[j]? = ((key ++ 58 :: v).map byteV)[j]? := by rw [ht]
        rw [List.getElem?_take, if_pos hj, List.getElem?_map] at this
        simpa using this
  obtain ⟨b, o, n, c, cs, rfl, hcs, hn, hnc, hsz, hcell, hwh⟩ := hloc
  have hlen : n = key.length + 1 + v.length := by rw [hn]; simp; omega
  refine lit1 (c := 58) fun H1 hl1 f1 z1 => ?_
  have hbl := hc.bytes.frm f1 (by simp)
  have hcs1 := f1.get hcs (by simp)
  refine (bytesCut_at hbl hl1 h58 (by simp; omega)).mono ?_
  rintro x H1 ⟨rfl, oz, cz, rfl, hz, hoz⟩
  simp only [Fld_ptr, add_mk, Nat.zero_add, List.getElem?_toArray, List.getElem?_cons_succ, List.getElem?_cons_zero, Get_some, Br_true, Br_false, nth_zero, nth_one, nth_two, extractV_tuple, fieldAddrV_ptr, nilV_ptr, load1V_ptr, pickV_bool, unV_not, lenV_slice, capV_slice, Bool.not_true]
  refine (canonKey_ok hcs1 (fun j hj => ?_) (by omega) (by omega) hkey htok (by omega)).mono ?_
  · rw [hcell j (by omega), List.getElem?_append_left hj]
  rintro x H2 ⟨rfl, hg2, f2, z2⟩
  simp only [Fld_ptr, add_mk, Nat.zero_add, List.getElem?_toArray, List.getElem?_cons_succ, List.getElem?_cons_zero, Get_some, Br_true, Br_false, nth_zero, nth_one, nth_two, extractV_tuple, fieldAddrV_ptr, nilV_ptr, load1V_ptr, pickV_bool, unV_not, lenV_slice, capV_slice, Bool.not_true]
  have hcl := canonG_length true key
  have hz2 := hz.behind hcs1 hg2 (by rw [List.length_map, hcl]; omega) (fun hv => by rw [hoz hv, List.length_map, hcl]; omega)
  obtain ⟨tbuf, ht, ho⟩ := hc.tr_
  have ht1 : TR S tr tbuf H1 := f1.get ht (by simp)
  have ho1 := ho.frm f1 (by simp)
  have hrd1 : RdAt S s' H1 := hc.rd.frm f1 (by simp) (by simp) (by simp)
  rcases hwh with ⟨rfl, hbuf, hor⟩ | hkb
  · have hb2 : H2[S.bf]? = some (.cells (putAt (s'.buf.map byteV).toArray o ((canonG true key).map byteV)) S.tbf (0, 0)) := by rw [hct, ← hbuf]; exact hg2
    obtain ⟨h3, h4⟩ := hrd1.turn f2 (by rw [hcl]; omega) hb2
    refine hR _ _ _ h3 (h4.trans hc.rest) hz2 ⟨tbuf, f2.get ht1 (fun hm => htr (by rw [List.mem_singleton] at hm; rw [hm]; simp [Stk.ids])), ho1.frm f2 (fun g hg hm => ?_)⟩ (.inl rfl) ((f1.mono (by simp)).trans (f2.mono (by simp [Stk.ids])))
    rw [List.mem_singleton] at hm
    exact (hk' g hg).1 (by rw [hm]; simp [Stk.ids])
  · obtain ⟨hb1, hb2, hb3⟩ := hk' b hkb
    simp only [List.mem_cons, not_or] at hb1
    have h3 : RdAt S s' H2 := hrd1.frm f2 (fun x hx hm => hb1.2 (by rw [List.mem_singleton] at hm; rw [← hm]; exact hx)) (fun x hx hm => hb2 (by rw [List.mem_singleton] at hm; rw [← hm]; exact hx)) (fun hm => hb3 (by rw [List.mem_singleton] at hm; exact hm.symm))
    refine hR _ _ _ h3 hc.rest hz2 ⟨tbuf, f2.get ht1 (fun hm => hb1.1 (by rw [List.mem_singleton] at hm; exact hm.symm)), ?_⟩ (.inr hkb.symm) ((f1.mono (by simp)).trans (f2.mono (by simp [hkb])))
    subst hkb
    exact ho1.put hcs1 hg2
end Go.Cps
