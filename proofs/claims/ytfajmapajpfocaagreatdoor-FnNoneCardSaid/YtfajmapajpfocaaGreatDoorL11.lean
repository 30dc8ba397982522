/-
  nextPart over a body without parts; how a body's end is told; Parts of it.
  Conditions: the boundary is no empty text and has no line break.
-/
import Derived.Test.YtfajmapajpfocaaGreatDoorL10
set_option linter.all false
namespace Go.Cps
open Go Go.Proofs

theorem nl?_line {p q : List UInt8} (hp : 10 ∉ p) : nl? (p ++ 10 :: q) = some p.length := by
  have h : nl? p = none := by
    unfold nl?
    rw [List.findIdx?_eq_none_iff]
    intro x hx
    rw [beq_eq_false_iff_ne]
    rintro rfl
    exact hp hx
  rw [nl?_append_none h]
  have : nl? (10 :: q) = some 0 := by unfold nl?; rw [List.findIdx?_cons]; rfl
  rw [this]; simp

theorem line_ok {S : Stk} {s : St} {H : Heap} {p q : List UInt8} (h : RdAt S s H) (hr : s.rest S = p ++ 10 :: q) (hp : 10 ∉ p) (hl : p.length < 4096) :
    CallsH Tryz.prog 93 #[.pointer (some ⟨S.b, 0, none⟩), .int .u8 10] H fun x H' => ∃ u s', x = .tuple #[u, .nilIface] ∧ RdAt S s' H' ∧ IsBytes H' u (p ++ [10]) ∧ s'.rest S = q ∧ (blk u = none ∨ blk u = some S.bf) ∧ Frm S.ids H H' ∧ H'.size = H.size := by
  have hn := nl?_line (q := q) hp
  rw [← hr] at hn
  refine (readSlice_ok h (fun e => by rw [hn] at e; cases e) (fun j e => by rw [hn] at e; cases e; exact hl)).mono ?_
  rintro x H' ⟨u, s', rfl, hL⟩
  have hll : lineLen (s.rest S) = p.length + 1 := by rw [lineLen, hn]
  have h1 := hL.line
  have h2 := hL.rest
  rw [hll, hr] at h1 h2
  have e1 : (p ++ 10 :: q).take (p.length + 1) = p ++ [10] := by
    rw [show p ++ 10 :: q = (p ++ [10]) ++ q by simp, List.take_left' (by simp)]
  have e2 : (p ++ 10 :: q).drop (p.length + 1) = q := by
    rw [show p ++ 10 :: q = (p ++ [10]) ++ q by simp, List.drop_left' (by simp)]
  rw [e1] at h1
  rw [e2] at h2
  exact ⟨u, s', by rw [hn]; rfl, hL.rd, h1, h2, hL.blk, hL.frm, hL.size⟩

theorem dash_ne {bd : List UInt8} (h : bd ≠ []) : (([45, 45] ++ bd) == [45, 45]) = false := by
  rw [beq_eq_false_iff_ne]
  intro e
  apply h
  have := congrArg List.length e
  simp at this
  exact this

structure GoodBd (bd : List UInt8) : Prop where
  ne : bd ≠ []
  nl : 10 ∉ bd
  len : bd.length < 100

theorem delim_blank {bd : List UInt8} : delimLine [13, 10] ([45, 45] ++ bd) [13, 10] = false := by
  simp [delimLine, List.isPrefixOf]
theorem final_blank {bd : List UInt8} : finalLine [13, 10] ([45, 45] ++ bd ++ [45, 45]) [13, 10] = false := by
  simp [finalLine, List.isPrefixOf]
theorem prefix_self (a b : List UInt8) : a.isPrefixOf (a ++ b) = true := by
  rw [List.isPrefixOf_iff_prefix]; exact List.prefix_append a b
theorem delim_end {bd : List UInt8} : delimLine ([45, 45] ++ bd ++ [45, 45, 13, 10]) ([45, 45] ++ bd) [13, 10] = false := by
  simp only [delimLine, prefix_self, List.drop_left, Bool.true_and]
  decide
theorem final_end {bd : List UInt8} : finalLine ([45, 45] ++ bd ++ [45, 45, 13, 10]) ([45, 45] ++ bd ++ [45, 45]) [13, 10] = true := by
  have e : [45, 45] ++ bd ++ [45, 45, 13, 10] = ([45, 45] ++ bd ++ [45, 45]) ++ [13, 10] := by simp
  rw [e]
  simp only [finalLine, prefix_self, List.drop_left, Bool.true_and]
  decide

theorem next_none {S : Stk} {s : St} {mr tb : Nat} {e : Addr} {m : MRf} {bd : List UInt8} {H : Heap} {a2 a3 : Value} (h : RdAt S s H) (hm : MRAt S mr tb m bd H) (hr : s.rest S = [13, 10] ++ ([45, 45] ++ bd ++ [45, 45, 13, 10])) (hp : m.parts = 0) (hc : m.cur = .pointer none)
    (hb : GoodBd bd) (hEt : S.Et = 138) (hEv : S.Ev = .pointer (some e)) :
    CallsH Tryz.prog 71 #[.pointer (some ⟨mr, 0, none⟩), .bool true, a2, a3] H fun x H' => x = .tuple #[.pointer none, .iface 138 (.pointer (some e))] ∧ Frm S.ids H H' := by
  apply s71
  unfold c71
  refine Join_direct ?_
  simp only [Fld_ptr, add_mk, Nat.zero_add, List.getElem?_toArray, List.getElem?_cons_succ, List.getElem?_cons_zero, Get_some, Br_true, Br_false, nth_zero, nth_one, nth_two, extractV_tuple, fieldAddrV_ptr, nilV_ptr, load1V_ptr, pickV_bool, unV_not, lenV_slice, capV_slice, cellH_of hm.hm, MRf.cells, hc, nilV2_neq_ptr, Option.isNone_none, Bool.not_true]
  have hE : ∀ H1 s1, RdAt S s1 H1 → cellH H1 ⟨0, 0, none⟩ = some (.iface 138 (.pointer (some e))) := fun H1 s1 h1 => by rw [← hEt, ← hEv]; exact h1.hE.load
  have hstr : strV .eql (.string ⟨([45, 45] ++ bd).toArray⟩) (.string ⟨#[45, 45]⟩) = some (.bool false) := by
    rw [strV_eql, toList_mk, show (⟨#[45, 45]⟩ : ByteArray).toList = [45, 45] from toList_mk [45, 45], dash_ne hb.ne]
  simp only [hm.dash.str, Get_some, hstr, Br_false]
  refine ⟨fun n vs H1 => ∃ s1, vs = [.bool false] ∧ RdAt S s1 H1 ∧ MRAt S mr tb m bd H1 ∧ Frm S.ids H H1 ∧ ((n = 1 ∧ s1.rest S = [13, 10] ++ ([45, 45] ++ bd ++ [45, 45, 13, 10])) ∨ (n = 0 ∧ s1.rest S = [45, 45] ++ bd ++ [45, 45, 13, 10])),
    ⟨1, s, rfl, h, hm, Frm.refl _ _, .inl ⟨rfl, hr⟩⟩, ?_⟩
  rintro n vs H1 ⟨s1, rfl, h1, m1, f1, hcase⟩
  simp only [Fld_ptr, add_mk, Nat.zero_add, List.getElem?_toArray, List.getElem?_cons_succ, List.getElem?_cons_zero, Get_some, Br_true, Br_false, nth_zero, nth_one, nth_two, extractV_tuple, fieldAddrV_ptr, nilV_ptr, load1V_ptr, pickV_bool, unV_not, lenV_slice, capV_slice, cellH_of m1.hm, MRf.cells, hm.hbr]
  rcases hcase with ⟨rfl, hr1⟩ | ⟨rfl, hr1⟩
  · refine (line_ok (p := [13]) (q := [45, 45] ++ bd ++ [45, 45, 13, 10]) h1 (by rw [hr1]; simp) (by decide) (by decide)).mono ?_
    rintro x H2 ⟨u, s2, rfl, h2, hu, hr2, hub, f2, z2⟩
    have m2 := m1.ids f2
    have e2 := hE H2 s2 h2
    simp only [Fld_ptr, add_mk, Nat.zero_add, List.getElem?_toArray, List.getElem?_cons_succ, List.getElem?_cons_zero, Get_some, Br_true, Br_false, nth_zero, nth_one, nth_two, extractV_tuple, fieldAddrV_ptr, nilV_ptr, load1V_ptr, pickV_bool, unV_not, lenV_slice, capV_slice]
    refine Join_direct ?_
    simp only [e2, Get_some, eq_nil, Fld_ptr, add_mk, Nat.zero_add, List.getElem?_toArray, List.getElem?_cons_succ, List.getElem?_cons_zero, Get_some, Br_true, Br_false, nth_zero, nth_one, nth_two, extractV_tuple, fieldAddrV_ptr, nilV_ptr, load1V_ptr, pickV_bool, unV_not, lenV_slice, capV_slice, Bool.false_eq_true, if_false, nilV2_neq_nil]
    refine (isDelim_ok m2.hm hu m2.dash m2.nl (by
      rw [List.drop_eq_nil_of_le (by simp)]; simp)).mono ?_
    rintro x H3 ⟨rfl, rfl⟩
    have d1 : delimLine ([13] ++ [10]) ([45, 45] ++ bd) [13, 10] = false := delim_blank
    rw [d1, Br_false]
    refine (isFinal_ok m2.hm hu m2.dd m2.nl).mono ?_
    rintro x H4 ⟨rfl, rfl⟩
    have d2 : finalLine ([13] ++ [10]) ([45, 45] ++ bd ++ [45, 45]) [13, 10] = false := final_blank
    rw [d2]
    simp only [Fld_ptr, add_mk, Nat.zero_add, List.getElem?_toArray, List.getElem?_cons_succ, List.getElem?_cons_zero, Get_some, Br_true, Br_false, nth_zero, nth_one, nth_two, extractV_tuple, fieldAddrV_ptr, nilV_ptr, load1V_ptr, pickV_bool, unV_not, lenV_slice, capV_slice, arithV_add, arithV_sub, arithV_eql, arithV_neq, arithV_lss, arithV_leq, arithV_gtr, arithV_geq, intConvV_int, cellH_of m2.hm, MRf.cells, hp, beq_self_eq_true]
    exact ⟨0, by omega, s2, trivial, h2, m2, f1.trans f2, .inr ⟨rfl, hr2⟩⟩
  · refine (line_ok (p := [45, 45] ++ bd ++ [45, 45, 13]) (q := []) h1 (by rw [hr1]; simp) (by have := hb.nl; simp; exact this) (by have := hb.len; simp; omega)).mono ?_
    rintro x H2 ⟨u, s2, rfl, h2, hu, hr2, hub, f2, z2⟩
    have m2 := m1.ids f2
    have e2 := hE H2 s2 h2
    have eu : [45, 45] ++ bd ++ [45, 45, 13] ++ [10] = [45, 45] ++ bd ++ [45, 45, 13, 10] := by simp
    rw [eu] at hu
    simp only [Fld_ptr, add_mk, Nat.zero_add, List.getElem?_toArray, List.getElem?_cons_succ, List.getElem?_cons_zero, Get_some, Br_true, Br_false, nth_zero, nth_one, nth_two, extractV_tuple, fieldAddrV_ptr, nilV_ptr, load1V_ptr, pickV_bool, unV_not, lenV_slice, capV_slice]
    refine Join_direct ?_
    simp only [e2, Get_some, eq_nil, Fld_ptr, add_mk, Nat.zero_add, List.getElem?_toArray, List.getElem?_cons_succ, List.getElem?_cons_zero, Get_some, Br_true, Br_false, nth_zero, nth_one, nth_two, extractV_tuple, fieldAddrV_ptr, nilV_ptr, load1V_ptr, pickV_bool, unV_not, lenV_slice, capV_slice, Bool.false_eq_true, if_false, nilV2_neq_nil]
    refine (isDelim_ok m2.hm hu m2.dash m2.nl (by
      rw [List.drop_left]; decide)).mono ?_
    rintro x H3 ⟨rfl, rfl⟩
    rw [delim_end, Br_false]
    refine (isFinal_ok m2.hm hu m2.dd m2.nl).mono ?_
    rintro x H4 ⟨rfl, rfl⟩
    rw [final_end]
    simp only [Fld_ptr, add_mk, Nat.zero_add, List.getElem?_toArray, List.getElem?_cons_succ, List.getElem?_cons_zero, Get_some, Br_true, Br_false, nth_zero, nth_one, nth_two, extractV_tuple, fieldAddrV_ptr, nilV_ptr, load1V_ptr, pickV_bool, unV_not, lenV_slice, capV_slice, e2]
    exact ⟨trivial, f1.trans f2⟩

theorem state_end {e : Addr} {H : Heap} (hE : EOFat H (.iface 138 (.pointer (some e)))) : CallsH Tryz.prog 66 #[.iface 138 (.pointer (some e))] H fun x H' => x = .int .i64 1 ∧ H' = H := by
  apply s66
  simp only [c66, load1V_ptr, hE.load, Get_some, eq_same, Br_true, and_self]

theorem parts_none {bd : List UInt8} {v : Value} {e : Addr} {H : Heap} (hv : IsBytes H v ([13, 10] ++ ([45, 45] ++ bd ++ [45, 45, 13, 10]))) (hb : GoodBd bd) (hE : EOFat H (.iface 138 (.pointer (some e)))) :
    CallsH Tryz.prog 11 #[v, strVal bd] H fun x H' => x = .tuple #[.slice none 0 0, .int .i64 1] ∧ Frm [] H H' := by
  have hlen := hb.len
  apply s11
  unfold c11
  refine (source_ok hv (by simp; omega)).mono ?_
  rintro x H1 ⟨br, u, rfl, hbr, hu, f1, hge, hvb, hbs⟩
  have h0 : 0 < H.size := by obtain ⟨t, f, h⟩ := hE; exact lt_of_some h
  refine (newReader_ok hbr hu (fun x hx => ⟨(hvb x hx).2.1, (hvb x hx).2.2⟩) (hE.frm f1 (by simp)) (by omega) (by simp; omega) (by omega)).mono ?_
  rintro x H2 ⟨S, s, mr, tb, m, rfl, hrd, hmr, hrest, herr, hparts, hcur, hEt, hEv, f2, hge2, rfl, rfl⟩
  apply CallsH.mono (K := fun x H' => x = .tuple #[.slice none 0 0, .int .i64 1] ∧ Frm [] H H')
  · apply s36
    unfold c36
    refine ⟨fun n vs H' => vs = [.slice none 0 0] ∧ H' = H2, ⟨0, rfl, rfl⟩, ?_⟩
    rintro n vs H' ⟨rfl, rfl⟩
    refine ⟨39, #[.pointer (some ⟨mr, 0, none⟩)], #[], rfl, bodyd39, ?_⟩
    apply s39
    unfold c39
    apply s72
    unfold c72
    refine (next_none hrd hmr hrest hparts hcur hb hEt hEv).mono ?_
    rintro x H3 ⟨rfl, f3⟩
    have hE3 : EOFat H3 (.iface 138 (.pointer (some e))) := by
      have := hrd.hE.frm f3 hrd.d0
      rw [hEt, hEv] at this
      exact this
    simp only [Fld_ptr, add_mk, Nat.zero_add, List.getElem?_toArray, List.getElem?_cons_succ, List.getElem?_cons_zero, Get_some, Br_true, Br_false, nth_zero, nth_one, nth_two, extractV_tuple, fieldAddrV_ptr, nilV_ptr, load1V_ptr, pickV_bool, unV_not, lenV_slice, capV_slice, nilV2_neq_iface]
    refine (state_end hE3).mono ?_
    rintro x H4 ⟨rfl, rfl⟩
    refine ⟨rfl, ?_⟩
    refine ⟨Nat.le_trans (Nat.le_trans f1.size f2.size) f3.size, fun k hk _ => ?_⟩
    rw [f3.same k (Nat.lt_of_lt_of_le hk (Nat.le_trans f1.size f2.size)) (fun hx => ?_), (f1.trans f2).same k hk (by simp)]
    by_cases hkb : k = S.br
    · omega
    · have := hge2 k (by simp [hx]) hkb
      have := f1.size
      omega
  · rintro x H' ⟨rfl, f⟩
    simp only [Fld_ptr, add_mk, Nat.zero_add, List.getElem?_toArray, List.getElem?_cons_succ, List.getElem?_cons_zero, Get_some, Br_true, Br_false, nth_zero, nth_one, nth_two, extractV_tuple, fieldAddrV_ptr, nilV_ptr, load1V_ptr, pickV_bool, unV_not, lenV_slice, capV_slice]
    exact ⟨trivial, f⟩
end Go.Cps
