/-
  A part of the proof: nextPart in general: the current part is closed, lines are read up to a delimiter. impl.headers: the entries of a header's map, each with a copy of its values, sorted by their keys. What the bodies of some functions of the program come to, at heap level, each proved of the program itself. impl.header: a list of headers made a map. spec.Same and what it calls: two lists of parts compared. spec.Printable, spec.find, spec.Free.
  Conditions: each contract's own.
-/
import Derived.Test.YteajpfckbnfdaaaGreatDoorH4
import Derived.Test.YteajpfckbnfdaaaGreatDoorH5
import Derived.Test.YteajpfckbnfdaaaGreatDoorH9
import Derived.Test.YteajpfckbnfdaaaGreatDoorH10
import Derived.Test.YteajpfckbnfdaaaGreatDoorH12
import Derived.Test.YteajpfckbnfdaaaGreatDoorH18
import Derived.Test.YteajpfckbnfdaaaGreatDoorH19
set_option linter.all false
namespace Go.Cps
open Go Go.Proofs
def Closes (S : Stk) (mr tb : Nat) (m : MRf) (bd : List UInt8) (B : Nat) (ea ua : Addr) (r : List UInt8) (X : List Nat) (H : Heap) : Prop :=
  (m.cur = .pointer none ∧ ∃ s, PR S mr tb m bd B ea ua s H ∧ s.rest S = r) ∨
  ∃ p, m.cur = .pointer (some p) ∧ H[mr]? = some (.cells m.cells 76 (0, 0)) ∧ CallsH Tryz.prog 44 #[.pointer (some p)] H fun _ H' => ∃ s, PR S mr tb m bd B ea ua s H' ∧ s.rest S = r ∧ Frm (X ++ S.ids) H H'
theorem delim_line {bd : List UInt8} : delimLine ([45, 45] ++ bd ++ [13, 10]) ([45, 45] ++ bd) [13, 10] = true := by
  simp only [delimLine, prefix_self, List.drop_left, Bool.true_and]
  decide
theorem PR.parts {S : Stk} {mr tb : Nat} {m : MRf} {bd : List UInt8} {B : Nat} {ea ua : Addr} {s : St} {H H' : Heap} {v : Int} (h : PR S mr tb m bd B ea ua s H) (hm : H'[mr]? = some (.cells { m with parts := v }.cells 76 (0, 0))) (f : Frm [mr] H H') (hz : H'.size = H.size) : PR S mr tb { m with parts := v } bd B ea ua s H' := by
  have hne : ∀ x ∈ S.ids, x ∉ [mr] := fun x hx => by rw [List.mem_singleton]; rintro rfl; exact h.ma.hmr hx
  have htb : tb ∉ [mr] := by rw [List.mem_singleton]; intro e; exact h.ma.ht (by simp [e])
  have ma := h.ma
  refine ⟨h.rd.frm f hne (fun x hx => by rw [List.mem_singleton]; rintro rfl; exact ma.hv hx) (by rw [List.mem_singleton]; exact fun e => ma.h0 e.symm), ?_, h.er.frm f (fun x hx => h.low x (by simp at hx; simp [hx])), h.bdr, h.low, h.hE, h.tbf, fun x hx => by have := h.vlt x hx; omega, by have := h.tbl; omega, by have := h.base; omega⟩
  exact { hm := hm, hbr := ma.hbr, nl := ma.nl.frm f (fun x hx => by rw [ma.bl.1] at hx; cases hx; exact htb), nld := ma.nld.frm f (fun x hx => by rw [ma.bl.2.1] at hx; cases hx; exact htb), dd := ma.dd.frm f (fun x hx => by rw [ma.bl.2.2.1] at hx; cases hx; exact htb), dash := ma.dash.frm f (fun x hx => by rw [ma.bl.2.2.2] at hx; cases hx; exact htb), bl := ma.bl, ht := ma.ht, hmr := ma.hmr, hv := ma.hv, h0 := ma.h0 }
theorem next_ok {S : Stk} {mr tb : Nat} {m : MRf} {bd : List UInt8} {B : Nat} {ea ua : Addr} {H : Heap} {X : List Nat} {raw a2 a3 : Value} {pre r : List UInt8} {R : Value → Heap → Prop} (hcl : Closes S mr tb m bd B ea ua (pre ++ ([45, 45] ++ bd ++ [13, 10] ++ r)) X H) (hb : GoodBd bd)
    (hpre : (m.parts = 0 ∧ pre = []) ∨ (0 < m.parts ∧ m.parts < 2 ^ 40 ∧ pre = [13, 10]))
    (hnew : ∀ H1 s1, PR S mr tb { m with parts := m.parts + 1 } bd B ea ua s1 H1 → s1.rest S = r → Frm (mr :: X ++ S.ids) H H1 → CallsH Tryz.prog 48 #[.pointer (some ⟨mr, 0, none⟩), raw, a2, a3] H1 fun x H2 => ∃ p, x = .tuple #[.pointer (some p), .nilIface] ∧ H2[mr]? = some (.cells { m with parts := m.parts + 1 }.cells 76 (0, 0)) ∧
      ∀ H3, H3[mr]? = some (.cells { m with parts := m.parts + 1, cur := .pointer (some p) }.cells 76 (0, 0)) → Frm [mr] H2 H3 → H3.size = H2.size → R (.tuple #[.pointer (some p), .nilIface]) H3) :
    CallsH Tryz.prog 33 #[.pointer (some ⟨mr, 0, none⟩), raw, a2, a3] H R := by
  apply s71
  unfold c71
  refine ⟨fun _ H1 => ∃ s, PR S mr tb m bd B ea ua s H1 ∧ s.rest S = pre ++ ([45, 45] ++ bd ++ [13, 10] ++ r) ∧ Frm (X ++ S.ids) H H1, ?_, ?_⟩
  · rcases hcl with ⟨hc, s, hPR, hr⟩ | ⟨p, hc, hmr, hclose⟩
    · simp only [Q0, Q1, Q2, Q3, Q4, Q5, Q6, Q7, Q8, Q9, Qa, Qb, Qc, Qd, Qe, Qf, Qg, Qh, Qi, Qj, cellH_of hPR.ma.hm, MRf.cells, hc, nilV2_neq_ptr, Option.isNone_none, Bool.not_true]
      exact ⟨s, hPR, hr, Frm.refl _ _⟩
    · simp only [Q0, Q1, Q2, Q3, Q4, Q5, Q6, Q7, Q8, Q9, Qa, Qb, Qc, Qd, Qe, Qf, Qg, Qh, Qi, Qj, cellH_of hmr, MRf.cells, hc, nilV2_neq_ptr, Option.isNone_some, Bool.not_false]
      exact hclose
  rintro _ H1 ⟨s, h1, hr1, f1⟩
  have hstr : strV .eql (.string ⟨([45, 45] ++ bd).toArray⟩) (.string ⟨#[45, 45]⟩) = some (.bool false) := by
    rw [strV_eql, toList_mk, show (⟨#[45, 45]⟩ : ByteArray).toList = [45, 45] from toList_mk [45, 45], dash_ne hb.ne]
  simp only [Q0, Q1, Q2, Q3, Q4, Q5, Q6, Q7, Q8, Q9, Qa, Qb, Qc, Qd, Qe, Qf, Qg, Qh, Qi, Qj, cellH_of h1.ma.hm, MRf.cells, h1.ma.dash.str, hstr]
  refine ⟨fun n vs H2 => ∃ s2 f, vs = [.bool f] ∧ PR S mr tb m bd B ea ua s2 H2 ∧ Frm (X ++ S.ids) H H2 ∧ ((n = 1 ∧ f = false ∧ 0 < m.parts ∧ s2.rest S = [13, 10] ++ ([45, 45] ++ bd ++ [13, 10] ++ r)) ∨ (n = 0 ∧ s2.rest S = [45, 45] ++ bd ++ [13, 10] ++ r)), ?_, ?_⟩
  · rcases hpre with ⟨h0, rfl⟩ | ⟨h0, _, rfl⟩
    · exact ⟨0, s, false, rfl, h1, f1, .inr ⟨rfl, by simpa using hr1⟩⟩
    · exact ⟨1, s, false, rfl, h1, f1, .inl ⟨rfl, rfl, h0, hr1⟩⟩
  clear h1 hr1 f1
  rintro n vs H1 ⟨s1, f, rfl, h1, f1, hcase⟩
  have hE : ∀ {H2 s2}, RdAt S s2 H2 → cellH H2 ⟨0, 0, none⟩ = some (.iface 109 (.pointer (some ea))) := fun {H2 s2} h2 => by rw [← h1.hE.1, ← h1.hE.2]; exact h2.hE.load
  have hbr := h1.ma.hbr
  simp only [Q0, Q1, Q2, Q3, Q4, Q5, Q6, Q7, Q8, Q9, Qa, Qb, Qc, Qd, Qe, Qf, Qg, Qh, Qi, Qj, cellH_of h1.ma.hm, MRf.cells, hbr]
  rcases hcase with ⟨rfl, rfl, hpos, hr1⟩ | ⟨rfl, hr1⟩
  · refine (line_ok (p := [13]) (q := [45, 45] ++ bd ++ [13, 10] ++ r) h1.rd (by rw [hr1]; simp) (by decide) (by decide)).mono ?_
    rintro x H2 ⟨u, s2, rfl, h2, hu, hr2, hub, f2, z2⟩
    have m2 := h1.ma.ids f2
    have e2 := hE h2
    simp only [Q0, Q1, Q2, Q3, Q4, Q5, Q6, Q7, Q8, Q9, Qa, Qb, Qc, Qd, Qe, Qf, Qg, Qh, Qi, Qj]
    refine Join_direct ?_
    simp only [e2, Q6, eq_nil, Q0, Q1, Q2, Q3, Q4, Q5, Q6, Q7, Q8, Q9, Qa, Qb, Qc, Qd, Qe, Qf, Qg, Qh, Qi, Qj, Bool.false_eq_true, if_false, nilV2_neq_nil]
    refine (isDelim_ok m2.hm hu m2.dash m2.nl (by
      rw [List.drop_eq_nil_of_le (by simp)]; simp)).mono ?_
    rintro x H3 ⟨rfl, rfl⟩
    have d1 : delimLine ([13] ++ [10]) ([45, 45] ++ bd) [13, 10] = false := delim_blank
    rw [d1, Q8]
    refine (isFinal_ok m2.hm hu m2.dd m2.nl).mono ?_
    rintro x H4 ⟨rfl, rfl⟩
    have d2 : finalLine ([13] ++ [10]) ([45, 45] ++ bd ++ [45, 45]) [13, 10] = false := final_blank
    have d3 : (m.parts == 0) = false := by rw [beq_eq_false_iff_ne]; omega
    rw [d2]
    simp only [Q0, Q1, Q2, Q3, Q4, Q5, Q6, Q7, Q8, Q9, Qa, Qb, Qc, Qd, Qe, Qf, Qg, Qh, Qi, Qj, Qk, Ql, Qm, Qn, Qo, Qp, Qq, Qr, Qs, cellH_of m2.hm, MRf.cells, d3]
    refine (equal_ok hu m2.nl).mono ?_
    rintro x H5 ⟨rfl, rfl⟩
    have d4 : (([13] ++ [10] : List UInt8) == [13, 10]) = true := by decide
    simp only [d4, Q0, Q1, Q2, Q3, Q4, Q5, Q6, Q7, Q8, Q9, Qa, Qb, Qc, Qd, Qe, Qf, Qg, Qh, Qi, Qj]
    exact ⟨0, by omega, s2, true, rfl, h1.ids h2 f2, f1.trans (f2.mono (fun x hx => by simp [hx])), .inr ⟨rfl, hr2⟩⟩
  · refine (line_ok (p := [45, 45] ++ bd ++ [13]) (q := r) h1.rd (by rw [hr1]; simp) (by have := hb.nl; simp; exact this) (by have := hb.len; simp; omega)).mono ?_
    rintro x H2 ⟨u, s2, rfl, h2, hu, hr2, hub, f2, z2⟩
    have m2 := h1.ma.ids f2
    have e2 := hE h2
    have eu : [45, 45] ++ bd ++ [13] ++ [10] = [45, 45] ++ bd ++ [13, 10] := by simp
    rw [eu] at hu
    simp only [Q0, Q1, Q2, Q3, Q4, Q5, Q6, Q7, Q8, Q9, Qa, Qb, Qc, Qd, Qe, Qf, Qg, Qh, Qi, Qj]
    refine Join_direct ?_
    simp only [e2, Q6, eq_nil, Q0, Q1, Q2, Q3, Q4, Q5, Q6, Q7, Q8, Q9, Qa, Qb, Qc, Qd, Qe, Qf, Qg, Qh, Qi, Qj, Bool.false_eq_true, if_false, nilV2_neq_nil]
    refine (isDelim_ok m2.hm hu m2.dash m2.nl (by
      rw [List.drop_left]; decide)).mono ?_
    rintro x H3 ⟨rfl, rfl⟩
    rw [delim_line, Q7]
    have hparts : 0 ≤ m.parts ∧ m.parts < 2 ^ 40 := by rcases hpre with ⟨h, _⟩ | ⟨h, h', _⟩ <;> omega
    have ew : IntKind.i64.wrap (m.parts + 1) = m.parts + 1 := wrap_i64 (by omega) (by omega)
    simp only [Q0, Q1, Q2, Q3, Q4, Q5, Q6, Q7, Q8, Q9, Qa, Qb, Qc, Qd, Qe, Qf, Qg, Qh, Qi, Qj, Qk, Ql, Qm, Qn, Qo, Qp, Qq, Qr, Qs, cellH_of m2.hm, MRf.cells, ew]
    have hm2 := m2.hm
    refine Store_of hm2 (by simp [MRf.cells]) rfl fun H4 hm4 f4 z4 => ?_
    have hm4' : H4[mr]? = some (.cells { m with parts := m.parts + 1 }.cells 76 (0, 0)) := by simpa [MRf.cells] using hm4
    have h4 : PR S mr tb { m with parts := m.parts + 1 } bd B ea ua s2 H4 := (h1.ids h2 f2).parts hm4' f4 z4
    have f14 : Frm (mr :: X ++ S.ids) H H4 := ((f1.mono (fun x hx => by simp at hx; simp; exact .inr hx)).trans (f2.mono (fun x hx => by simp [hx]))).trans (f4.mono (by simp))
    refine (hnew H4 s2 h4 hr2 f14).mono ?_
    rintro x H5 ⟨p, rfl, hm5, hR⟩
    simp only [Q0, Q1, Q2, Q3, Q4, Q5, Q6, Q7, Q8, Q9, Qa, Qb, Qc, Qd, Qe, Qf, Qg, Qh, Qi, Qj, nilV2_neq_nil]
    refine Store_of hm5 (by simp [MRf.cells]) rfl fun H6 hm6 f6 z6 => ?_
    exact hR H6 (by simpa [MRf.cells] using hm6) f6 z6
theorem nextPart_end {S : Stk} {mr tb : Nat} {m : MRf} {bd : List UInt8} {B : Nat} {ea ua : Addr} {H : Heap} {X : List Nat} {raw a2 a3 : Value} (hcl : Closes S mr tb m bd B ea ua ([13, 10] ++ ([45, 45] ++ bd ++ [45, 45, 13, 10])) X H) (hb : GoodBd bd) :
    CallsH Tryz.prog 33 #[.pointer (some ⟨mr, 0, none⟩), raw, a2, a3] H fun x H' => x = .tuple #[.pointer none, .iface 109 (.pointer (some ea))] ∧ Frm (X ++ S.ids) H H' ∧ ∃ s, PR S mr tb m bd B ea ua s H' := by
  apply s71
  unfold c71
  refine ⟨fun _ H1 => ∃ s, PR S mr tb m bd B ea ua s H1 ∧ s.rest S = [13, 10] ++ ([45, 45] ++ bd ++ [45, 45, 13, 10]) ∧ Frm (X ++ S.ids) H H1, ?_, ?_⟩
  · rcases hcl with ⟨hc, s, hPR, hr⟩ | ⟨p, hc, hmr, hclose⟩
    · simp only [Q0, Q1, Q2, Q3, Q4, Q5, Q6, Q7, Q8, Q9, Qa, Qb, Qc, Qd, Qe, Qf, Qg, Qh, Qi, Qj, cellH_of hPR.ma.hm, MRf.cells, hc, nilV2_neq_ptr, Option.isNone_none, Bool.not_true]
      exact ⟨s, hPR, hr, Frm.refl _ _⟩
    · simp only [Q0, Q1, Q2, Q3, Q4, Q5, Q6, Q7, Q8, Q9, Qa, Qb, Qc, Qd, Qe, Qf, Qg, Qh, Qi, Qj, cellH_of hmr, MRf.cells, hc, nilV2_neq_ptr, Option.isNone_some, Bool.not_false]
      exact hclose
  rintro _ H1 ⟨s, h1, hr1, f1⟩
  have hstr : strV .eql (.string ⟨([45, 45] ++ bd).toArray⟩) (.string ⟨#[45, 45]⟩) = some (.bool false) := by
    rw [strV_eql, toList_mk, show (⟨#[45, 45]⟩ : ByteArray).toList = [45, 45] from toList_mk [45, 45], dash_ne hb.ne]
  simp only [Q0, Q1, Q2, Q3, Q4, Q5, Q6, Q7, Q8, Q9, Qa, Qb, Qc, Qd, Qe, Qf, Qg, Qh, Qi, Qj, cellH_of h1.ma.hm, MRf.cells, h1.ma.dash.str, hstr]
  refine ⟨fun n vs H2 => ∃ s2 f, vs = [.bool f] ∧ PR S mr tb m bd B ea ua s2 H2 ∧ Frm (X ++ S.ids) H H2 ∧ ((n = 1 ∧ f = false ∧ s2.rest S = [13, 10] ++ ([45, 45] ++ bd ++ [45, 45, 13, 10])) ∨ (n = 0 ∧ s2.rest S = [45, 45] ++ bd ++ [45, 45, 13, 10])), ⟨1, s, false, rfl, h1, f1, .inl ⟨rfl, rfl, hr1⟩⟩, ?_⟩
  clear h1 hr1 f1
  rintro n vs H1 ⟨s1, f, rfl, h1, f1, hcase⟩
  have hE : ∀ {H2 s2}, RdAt S s2 H2 → cellH H2 ⟨0, 0, none⟩ = some (.iface 109 (.pointer (some ea))) := fun {H2 s2} h2 => by rw [← h1.hE.1, ← h1.hE.2]; exact h2.hE.load
  have hbr := h1.ma.hbr
  simp only [Q0, Q1, Q2, Q3, Q4, Q5, Q6, Q7, Q8, Q9, Qa, Qb, Qc, Qd, Qe, Qf, Qg, Qh, Qi, Qj, cellH_of h1.ma.hm, MRf.cells, hbr]
  rcases hcase with ⟨rfl, rfl, hr1⟩ | ⟨rfl, hr1⟩
  · refine (line_ok (p := [13]) (q := [45, 45] ++ bd ++ [45, 45, 13, 10]) h1.rd (by rw [hr1]; simp) (by decide) (by decide)).mono ?_
    rintro x H2 ⟨u, s2, rfl, h2, hu, hr2, hub, f2, z2⟩
    have m2 := h1.ma.ids f2
    have e2 := hE h2
    simp only [Q0, Q1, Q2, Q3, Q4, Q5, Q6, Q7, Q8, Q9, Qa, Qb, Qc, Qd, Qe, Qf, Qg, Qh, Qi, Qj]
    refine Join_direct ?_
    simp only [e2, Q6, eq_nil, Q0, Q1, Q2, Q3, Q4, Q5, Q6, Q7, Q8, Q9, Qa, Qb, Qc, Qd, Qe, Qf, Qg, Qh, Qi, Qj, Bool.false_eq_true, if_false, nilV2_neq_nil]
    refine (isDelim_ok m2.hm hu m2.dash m2.nl (by
      rw [List.drop_eq_nil_of_le (by simp)]; simp)).mono ?_
    rintro x H3 ⟨rfl, rfl⟩
    have d1 : delimLine ([13] ++ [10]) ([45, 45] ++ bd) [13, 10] = false := delim_blank
    rw [d1, Q8]
    refine (isFinal_ok m2.hm hu m2.dd m2.nl).mono ?_
    rintro x H4 ⟨rfl, rfl⟩
    have d2 : finalLine ([13] ++ [10]) ([45, 45] ++ bd ++ [45, 45]) [13, 10] = false := final_blank
    rw [d2]
    simp only [Q0, Q1, Q2, Q3, Q4, Q5, Q6, Q7, Q8, Q9, Qa, Qb, Qc, Qd, Qe, Qf, Qg, Qh, Qi, Qj, Qk, Ql, Qm, Qn, Qo, Qp, Qq, Qr, Qs, cellH_of m2.hm, MRf.cells]
    have hf12 : Frm (X ++ S.ids) H H4 := f1.trans (f2.mono (fun x hx => by simp [hx]))
    refine Br_intro (fun _ => ⟨0, by omega, s2, false, rfl, h1.ids h2 f2, hf12, .inr ⟨rfl, hr2⟩⟩) (fun _ => ?_)
    refine (equal_ok hu m2.nl).mono ?_
    rintro x H5 ⟨rfl, rfl⟩
    have d4 : (([13] ++ [10] : List UInt8) == [13, 10]) = true := by decide
    simp only [d4, Q0, Q1, Q2, Q3, Q4, Q5, Q6, Q7, Q8, Q9, Qa, Qb, Qc, Qd, Qe, Qf, Qg, Qh, Qi, Qj]
    exact ⟨0, by omega, s2, true, rfl, h1.ids h2 f2, hf12, .inr ⟨rfl, hr2⟩⟩
  · refine (line_ok (p := [45, 45] ++ bd ++ [45, 45, 13]) (q := []) h1.rd (by rw [hr1]; simp) (by have := hb.nl; simp; exact this) (by have := hb.len; simp; omega)).mono ?_
    rintro x H2 ⟨u, s2, rfl, h2, hu, hr2, hub, f2, z2⟩
    have m2 := h1.ma.ids f2
    have e2 := hE h2
    have eu : [45, 45] ++ bd ++ [45, 45, 13] ++ [10] = [45, 45] ++ bd ++ [45, 45, 13, 10] := by simp
    rw [eu] at hu
    simp only [Q0, Q1, Q2, Q3, Q4, Q5, Q6, Q7, Q8, Q9, Qa, Qb, Qc, Qd, Qe, Qf, Qg, Qh, Qi, Qj]
    refine Join_direct ?_
    simp only [e2, Q6, eq_nil, Q0, Q1, Q2, Q3, Q4, Q5, Q6, Q7, Q8, Q9, Qa, Qb, Qc, Qd, Qe, Qf, Qg, Qh, Qi, Qj, Bool.false_eq_true, if_false, nilV2_neq_nil]
    refine (isDelim_ok m2.hm hu m2.dash m2.nl (by
      rw [List.drop_left]; decide)).mono ?_
    rintro x H3 ⟨rfl, rfl⟩
    rw [delim_end, Q8]
    refine (isFinal_ok m2.hm hu m2.dd m2.nl).mono ?_
    rintro x H4 ⟨rfl, rfl⟩
    rw [final_end]
    simp only [Q0, Q1, Q2, Q3, Q4, Q5, Q6, Q7, Q8, Q9, Qa, Qb, Qc, Qd, Qe, Qf, Qg, Qh, Qi, Qj, e2]
    exact ⟨trivial, f1.trans (f2.mono (fun x hx => by simp [hx])), s2, h1.ids h2 f2⟩
end Go.Cps
namespace Go.Cps
open Go Go.Proofs
theorem fill0 {z : Value} : Instr.fill (fun j => some (j * 1, 1)) ((Array.range (0 * 1)).map ((#[z] : Array Value)[· % 1]!)) [] = some #[] := by
  have e0 : (Array.range (0 * 1)) = #[] := by decide
  rw [e0]
  simp [Instr.fill]
end Go.Cps
namespace Go.Cps
open Go Go.Proofs
set_option maxRecDepth 100000
def c32 (a0 a1 : Value) (H : Heap) (R : Value → Heap → Prop) : Prop :=
  Join (fun K1 =>
  Fld 2 a0 H fun x18 =>
  Get (nilV2 .neq (.pointer none) x18) fun x19 =>
  Br x19 (
  Fld 2 a0 H fun x23 =>
  CallsH Tryz.prog 42 #[x23] H fun x24 H =>
  Get (nilV2 .neq .nilIface x24) fun x26 =>
  Br x26 (
  R (.tuple #[.nilIface, x24]) H) (
  K1 [] H)) (
  K1 [] H)) fun _ H =>
  New (.cells #[(.slice none 0 0), (.int .i64 0), (.int .i8 0)] 53 (0, 0)) H fun x7 H =>
  Join (fun K3 =>
  Fld 2 a0 H fun x31 =>
  Get (nilV2 .neq (.pointer none) x31) fun x32 =>
  Br x32 (
  Fld 1 a0 H fun x36 =>
  Get (strV .add (.string ⟨#[13, 10, 45, 45]⟩) x36) fun x37 =>
  Get (strV .add x37 (.string ⟨#[13, 10]⟩)) fun x38 =>
  CallsH Tryz.prog 54 #[x7, x38] H fun _ H =>
  K3 [] H) (
  Fld 1 a0 H fun x43 =>
  Get (strV .add (.string ⟨#[45, 45]⟩) x43) fun x44 =>
  Get (strV .add x44 (.string ⟨#[13, 10]⟩)) fun x45 =>
  CallsH Tryz.prog 54 #[x7, x45] H fun _ H =>
  K3 [] H)) fun _ H =>
  CallsH Tryz.prog 56 #[a1] H fun x48 H =>
  CallsH Tryz.prog 55 #[x48] H fun x49 H =>
  Get (lenV x49) fun x50 =>
  Loop [(.int .i64 0)] H fun K5 vs6 H =>
  Get (arithV .lss .i64 (nth vs6 0) x50) fun x52 =>
  Br x52 (
  Get (elemAddrV 1 x49 (nth vs6 0)) fun x53 =>
  Get (load1V x53 H) fun x54 =>
  ExecV Tryz.prog (Instr.lookup 82 a1 x54 false) H fun x57 H =>
  Get (lenV x57) fun x58 =>
  Loop [(.int .i64 0)] H fun K7 vs8 H =>
  Get (arithV .lss .i64 (nth vs8 0) x58) fun x60 =>
  Br x60 (
  Get (elemAddrV 1 x57 (nth vs8 0)) fun x61 =>
  Get (load1V x61 H) fun x62 =>
  Get (strV .add x54 (.string ⟨#[58, 32]⟩)) fun x64 =>
  Get (strV .add x64 x62) fun x66 =>
  Get (strV .add x66 (.string ⟨#[13, 10]⟩)) fun x67 =>
  CallsH Tryz.prog 54 #[x7, x67] H fun _ H =>
  Get (arithV .add .i64 (nth vs8 0) (.int .i64 1)) fun x69 =>
  K7 [x69] H) (
  Get (arithV .add .i64 (nth vs6 0) (.int .i64 1)) fun x70 =>
  K5 [x70] H)) (
  CallsH Tryz.prog 54 #[x7, (.string ⟨#[13, 10]⟩)] H fun _ H =>
  Fld 0 a0 H fun x76 =>
  Get (some (Value.iface 56 x7)) fun x77 =>
  CallsH Tryz.prog 57 #[x76, x77] H fun x78 H =>
  Get (extractV x78 0) fun _ =>
  Get (extractV x78 1) fun x80 =>
  Get (nilV2 .neq .nilIface x80) fun x82 =>
  Br x82 (
  R (.tuple #[.nilIface, x80]) H) (
  Get ((fillV #[(0, 1), (1, 1), (2, 1)] #[(.pointer none), (.bool false), .nilIface] [(0, a0)]).map .agg) fun x85 =>
  New (.cells (Value.cells x85) 121 (0, 0)) H fun x86 H =>
  Get (nilV a0) fun x89 =>
  Get (fieldAddrV 2 x89) fun x90 =>
  Get (store1V x90 x86 H) fun H =>
  Get (some (Value.iface 87 x86)) fun x92 =>
  R (.tuple #[x92, .nilIface]) H))
def p32 : Plan := .seq (.leaf []) (.join [] (.seq (.leaf []) (.cond (.seq (.leaf []) (.seq (.leaf []) (.cond (.seq (.leaf []) (.leaf [])) (.leaf [])))) (.leaf []))) (.seq (.leaf []) (.join [] (.seq (.leaf []) (.cond (.leaf []) (.leaf []))) (.seq (.seq (.leaf []) (.block (.loop [51] (.seq (.leaf []) (.seq (.cond (.leaf []) (.leaf [])) (.seq (.block (.seq (.leaf []) (.seq (.leaf []) (.block (.loop [59] (.seq (.leaf []) (.seq (.cond (.leaf []) (.leaf [])) (.seq (.block (.seq (.leaf []) (.leaf []))) (.leaf []))))))))) (.leaf []))))))) (.seq (.leaf []) (.seq (.leaf []) (.seq (.seq (.leaf []) (.cond (.seq (.leaf []) (.leaf [])) (.leaf []))) (.seq (.leaf []) (.seq (.leaf []) (.seq (.leaf []) (.leaf [])))))))))))
theorem s32 {a0 a1 : Value} {H : Heap} {R : Value → Heap → Prop} (h : c32 a0 a1 H R) : CallsH Tryz.prog 41 #[a0, a1] H R :=
  callsH_of_eq p32 (fn := Tryz.f41) (c := Tryz.f41.body.getD .skip) (args := [a0, a1]) Tryz.func41 (by kernel_rfl) mixed (by kernel_rfl) (by kernel_rfl) (by kernel_rfl) h
def c43 (a0 a1 a2 : Value) (H : Heap) (R : Value → Heap → Prop) : Prop :=
  CallsH Tryz.prog 38 #[a0, a1] H fun x12 H =>
  Get (extractV x12 0) fun x13 =>
  Get (extractV x12 1) fun x14 =>
  Get (nilV2 .neq .nilIface x14) fun x16 =>
  Br x16 (
  R x14 H) (
  ToBytes 5 a2 H fun x21 H =>
  Invoke Tryz.prog "Write" x13 #[x21] H fun x22 H =>
  Get (extractV x22 0) fun _ =>
  Get (extractV x22 1) fun x24 =>
  R x24 H)
def p43 : Plan := .seq (.leaf []) (.seq (.leaf []) (.seq (.seq (.leaf []) (.cond (.seq (.leaf []) (.leaf [])) (.leaf []))) (.seq (.leaf []) (.seq (.leaf []) (.leaf [])))))
theorem s43 {a0 a1 a2 : Value} {H : Heap} {R : Value → Heap → Prop} (h : c43 a0 a1 a2 H R) : CallsH Tryz.prog 23 #[a0, a1, a2] H R :=
  callsH_of_eq p43 (fn := Tryz.f23) (c := Tryz.f23.body.getD .skip) (args := [a0, a1, a2]) Tryz.func23 (by kernel_rfl) mixed (by kernel_rfl) (by kernel_rfl) (by kernel_rfl) h
def c44 (a0 a1 a2 : Value) (H : Heap) (R : Value → Heap → Prop) : Prop :=
  NewMap H fun x9 H =>
  CallsH Tryz.prog 40 #[a1, a2] H fun x13 H =>
  CallsH Tryz.prog 39 #[x9, (.string ⟨#[67, 111, 110, 116, 101, 110, 116, 45, 68, 105, 115, 112, 111, 115, 105, 116, 105, 111, 110]⟩), x13] H fun _ H =>
  CallsH Tryz.prog 39 #[x9, (.string ⟨#[67, 111, 110, 116, 101, 110, 116, 45, 84, 121, 112, 101]⟩), (.string ⟨#[97, 112, 112, 108, 105, 99, 97, 116, 105, 111, 110, 47, 111, 99, 116, 101, 116, 45, 115, 116, 114, 101, 97, 109]⟩)] H fun _ H =>
  CallsH Tryz.prog 41 #[a0, x9] H fun x19 H =>
  Get (extractV x19 0) fun x20 =>
  Get (extractV x19 1) fun x21 =>
  R (.tuple #[x20, x21]) H
def p44 : Plan := .seq (.leaf []) (.seq (.leaf []) (.seq (.leaf []) (.seq (.leaf []) (.seq (.leaf []) (.leaf [])))))
theorem s44 {a0 a1 a2 : Value} {H : Heap} {R : Value → Heap → Prop} (h : c44 a0 a1 a2 H R) : CallsH Tryz.prog 24 #[a0, a1, a2] H R :=
  callsH_of_eq p44 (fn := Tryz.f24) (c := Tryz.f24.body.getD .skip) (args := [a0, a1, a2]) Tryz.func24 (by kernel_rfl) mixed (by kernel_rfl) (by kernel_rfl) (by kernel_rfl) h
def c73 (a0 a1 : Value) (H : Heap) (R : Value → Heap → Prop) : Prop :=
  NewMap H fun x7 H =>
  CallsH Tryz.prog 52 #[a1] H fun x10 H =>
  Get (strV .add (.string ⟨#[102, 111, 114, 109, 45, 100, 97, 116, 97, 59, 32, 110, 97, 109, 101, 61, 34]⟩) x10) fun x11 =>
  Get (strV .add x11 (.string ⟨#[34]⟩)) fun x12 =>
  CallsH Tryz.prog 39 #[x7, (.string ⟨#[67, 111, 110, 116, 101, 110, 116, 45, 68, 105, 115, 112, 111, 115, 105, 116, 105, 111, 110]⟩), x12] H fun _ H =>
  CallsH Tryz.prog 41 #[a0, x7] H fun x16 H =>
  Get (extractV x16 0) fun x17 =>
  Get (extractV x16 1) fun x18 =>
  R (.tuple #[x17, x18]) H
def p73 : Plan := .seq (.leaf []) (.seq (.leaf []) (.seq (.leaf []) (.seq (.leaf []) (.leaf []))))
theorem s73 {a0 a1 : Value} {H : Heap} {R : Value → Heap → Prop} (h : c73 a0 a1 H R) : CallsH Tryz.prog 38 #[a0, a1] H R :=
  callsH_of_eq p73 (fn := Tryz.f38) (c := Tryz.f38.body.getD .skip) (args := [a0, a1]) Tryz.func38 (by kernel_rfl) mixed (by kernel_rfl) (by kernel_rfl) (by kernel_rfl) h
def c74 (a0 a1 a2 : Value) (H : Heap) (R : Value → Heap → Prop) : Prop :=
  CallsH Tryz.prog 53 #[a1] H fun x8 H =>
  Get (Instr.fill (fun j => some (j * 1, 1)) ((Array.range (1 * 1)).map ((#[(.string ⟨#[]⟩)] : Array Value)[· % 1]!)) [(0, a2)]) fun cs => NewSl cs 9 1 H fun x10 H =>
  ExecV Tryz.prog (do Instr.mapUpdate 82 a0 x8 x10; pure undef) H fun u H =>
  R (.tuple #[]) H
def p74 : Plan := .leaf []
theorem s74 {a0 a1 a2 : Value} {H : Heap} {R : Value → Heap → Prop} (h : c74 a0 a1 a2 H R) : CallsH Tryz.prog 39 #[a0, a1, a2] H R :=
  callsH_of_eq p74 (fn := Tryz.f39) (c := Tryz.f39.body.getD .skip) (args := [a0, a1, a2]) Tryz.func39 (by kernel_rfl) mixed (by kernel_rfl) (by kernel_rfl) (by kernel_rfl) h
def c75 (a0 a1 : Value) (H : Heap) (R : Value → Heap → Prop) : Prop :=
  CallsH Tryz.prog 52 #[a0] H fun x6 H =>
  Get (strV .add (.string ⟨#[102, 111, 114, 109, 45, 100, 97, 116, 97, 59, 32, 110, 97, 109, 101, 61, 34]⟩) x6) fun x7 =>
  Get (strV .add x7 (.string ⟨#[34, 59, 32, 102, 105, 108, 101, 110, 97, 109, 101, 61, 34]⟩)) fun x8 =>
  CallsH Tryz.prog 52 #[a1] H fun x10 H =>
  Get (strV .add x8 x10) fun x11 =>
  Get (strV .add x11 (.string ⟨#[34]⟩)) fun x12 =>
  R x12 H
def p75 : Plan := .seq (.leaf []) (.seq (.leaf []) (.leaf []))
theorem s75 {a0 a1 : Value} {H : Heap} {R : Value → Heap → Prop} (h : c75 a0 a1 H R) : CallsH Tryz.prog 40 #[a0, a1] H R :=
  callsH_of_eq p75 (fn := Tryz.f40) (c := Tryz.f40.body.getD .skip) (args := [a0, a1]) Tryz.func40 (by kernel_rfl) mixed (by kernel_rfl) (by kernel_rfl) (by kernel_rfl) h
def c97 (a0 : Value) (H : Heap) (R : Value → Heap → Prop) : Prop :=
  Loop [(.slice none 0 0), (.int .i64 0)] H fun K1 vs2 H =>
  Get (lenStrV a0) fun x7 =>
  Get (arithV .lss .i64 (nth vs2 1) x7) fun x8 =>
  Br x8 (
  Join (fun K3 =>
  Get (strIndexV a0 (nth vs2 1)) fun x13 =>
  Join (fun K4 =>
  Get (arithV .eql .u8 x13 (.int .u8 92)) fun x21 =>
  Br x21 (
  K4 [x21] H) (
  Get (arithV .eql .u8 x13 (.int .u8 34)) fun x22 =>
  K4 [x22] H)) fun vs5 H =>
  Br (nth vs5 0) (
  Get (strIndexV a0 (nth vs2 1)) fun x26 =>
  Get (Instr.fill (fun j => some (j * 1, 1)) ((Array.range (2 * 1)).map ((#[(.int .u8 0)] : Array Value)[· % 1]!)) [(0, (.int .u8 92)), (1, x26)]) fun cs => NewSl cs 5 2 H fun x27 H =>
  Append 5 1 1 #[(.int .u8 0)] (nth vs2 0) x27 H fun x28 H =>
  K3 [x28] H) (
  Get (arithV .eql .u8 x13 (.int .u8 13)) fun x30 =>
  Br x30 (
  Append 5 1 1 #[(.int .u8 0)] (nth vs2 0) (.string ⟨#[37, 48, 68]⟩) H fun x32 H =>
  K3 [x32] H) (
  Get (arithV .eql .u8 x13 (.int .u8 10)) fun x34 =>
  Br x34 (
  Append 5 1 1 #[(.int .u8 0)] (nth vs2 0) (.string ⟨#[37, 48, 65]⟩) H fun x36 H =>
  K3 [x36] H) (
  Get (strIndexV a0 (nth vs2 1)) fun x17 =>
  Get (Instr.fill (fun j => some (j * 1, 1)) ((Array.range (1 * 1)).map ((#[(.int .u8 0)] : Array Value)[· % 1]!)) [(0, x17)]) fun cs => NewSl cs 5 1 H fun x18 H =>
  Append 5 1 1 #[(.int .u8 0)] (nth vs2 0) x18 H fun x19 H =>
  K3 [x19] H)))) fun vs6 H =>
  Get (arithV .add .i64 (nth vs2 1) (.int .i64 1)) fun x10 =>
  K1 [(nth vs6 0), x10] H) (
  Get (bytesV (nth vs2 0) H) fun x38 =>
  R x38 H)
def p97 : Plan := .seq (.leaf []) (.seq (.leaf []) (.seq (.seq (.leaf []) (.block (.loop [3, 4] (.seq (.seq (.leaf []) (.cond (.leaf []) (.leaf []))) (.join [3] (.block (.seq (.leaf []) (.block (.join [20] (.seq (.leaf []) (.cond (.leaf []) (.leaf []))) (.cond (.leaf []) (.seq (.leaf []) (.cond (.leaf []) (.seq (.leaf []) (.cond (.leaf []) (.leaf [])))))))))) (.leaf [])))))) (.seq (.leaf []) (.leaf []))))
theorem s97 {a0 : Value} {H : Heap} {R : Value → Heap → Prop} (h : c97 a0 H R) : CallsH Tryz.prog 52 #[a0] H R :=
  callsH_of_eq p97 (fn := Tryz.f52) (c := Tryz.f52.body.getD .skip) (args := [a0]) Tryz.func52 (by kernel_rfl) mixed (by kernel_rfl) (by kernel_rfl) (by kernel_rfl) h
def c98 (a0 : Value) (H : Heap) (R : Value → Heap → Prop) : Prop :=
  Loop [a0, (.bool true), (.int .i64 0)] H fun K1 vs2 H =>
  Get (lenStrV (nth vs2 0)) fun x8 =>
  Get (arithV .lss .i64 (nth vs2 2) x8) fun x9 =>
  Br x9 (
  Get (strIndexV (nth vs2 0) (nth vs2 2)) fun x14 =>
  CallsH Tryz.prog 83 #[x14] H fun x16 H =>
  Get (unV .not x16) fun x17 =>
  Br x17 (
  R (nth vs2 0) H) (
  Join (fun K3 =>
  Br (nth vs2 1) (
  Get (arithV .leq .u8 (.int .u8 97) x14) fun x22 =>
  Get (pickV (.bool true) x22 (.bool false)) fun x23 =>
  Br x23 (
  Get (arithV .leq .u8 x14 (.int .u8 122)) fun x26 =>
  Get (pickV (.bool true) x26 (.bool false)) fun x27 =>
  K3 [x27] H) (
  Get (pickV (.bool false) undef (.bool false)) fun x27_1 =>
  K3 [x27_1] H)) (
  Get (pickV (.bool false) undef (.bool false)) fun x23_1 =>
  Br x23_1 (
  Get (arithV .leq .u8 x14 (.int .u8 122)) fun x26_1 =>
  Get (pickV (.bool true) x26_1 (.bool false)) fun x27_2 =>
  K3 [x27_2] H) (
  Get (pickV (.bool false) undef (.bool false)) fun x27_3 =>
  K3 [x27_3] H))) fun vs4 H =>
  Br (nth vs4 0) (
  ToBytes 5 (nth vs2 0) H fun x30 H =>
  CallsH Tryz.prog 84 #[x30] H fun x31 H =>
  Get (extractV x31 0) fun x32 =>
  Get (extractV x31 1) fun _ =>
  R x32 H) (
  Join (fun K5 =>
  Get (unV .not (nth vs2 1)) fun x36 =>
  Br x36 (
  Get (arithV .leq .u8 (.int .u8 65) x14) fun x39 =>
  Get (pickV (.bool true) x39 (.bool false)) fun x40 =>
  Br x40 (
  Get (arithV .leq .u8 x14 (.int .u8 90)) fun x43 =>
  Get (pickV (.bool true) x43 (.bool false)) fun x44 =>
  K5 [x44] H) (
  Get (pickV (.bool false) undef (.bool false)) fun x44_1 =>
  K5 [x44_1] H)) (
  Get (pickV (.bool false) undef (.bool false)) fun x40_1 =>
  Br x40_1 (
  Get (arithV .leq .u8 x14 (.int .u8 90)) fun x43_1 =>
  Get (pickV (.bool true) x43_1 (.bool false)) fun x44_2 =>
  K5 [x44_2] H) (
  Get (pickV (.bool false) undef (.bool false)) fun x44_3 =>
  K5 [x44_3] H))) fun vs6 H =>
  Br (nth vs6 0) (
  ToBytes 5 (nth vs2 0) H fun x47 H =>
  CallsH Tryz.prog 84 #[x47] H fun x48 H =>
  Get (extractV x48 0) fun x49 =>
  Get (extractV x48 1) fun _ =>
  R x49 H) (
  Get (arithV .eql .u8 x14 (.int .u8 45)) fun x53 =>
  Get (arithV .add .i64 (nth vs2 2) (.int .i64 1)) fun x11 =>
  K1 [(nth vs2 0), x53, x11] H)))) (
  R (nth vs2 0) H)
def p98 : Plan := .seq (.leaf []) (.seq (.leaf []) (.seq (.seq (.leaf []) (.block (.loop [0, 3, 4] (.seq (.seq (.leaf []) (.cond (.leaf []) (.leaf []))) (.seq (.block (.seq (.leaf []) (.seq (.seq (.leaf []) (.cond (.seq (.leaf []) (.leaf [])) (.leaf []))) (.seq (.join [27] (.leaf []) (.cond (.seq (.leaf []) (.seq (.leaf []) (.leaf []))) (.leaf []))) (.seq (.join [44] (.leaf []) (.cond (.seq (.leaf []) (.seq (.leaf []) (.leaf []))) (.leaf []))) (.leaf [])))))) (.leaf [])))))) (.seq (.leaf []) (.leaf []))))
theorem s98 {a0 : Value} {H : Heap} {R : Value → Heap → Prop} (h : c98 a0 H R) : CallsH Tryz.prog 53 #[a0] H R :=
  callsH_of_eq p98 (fn := Tryz.f53) (c := Tryz.f53.body.getD .skip) (args := [a0]) Tryz.func53 (by kernel_rfl) mixed (by kernel_rfl) (by kernel_rfl) (by kernel_rfl) h
def c14 (a0 a1 : Value) (H : Heap) (R : Value → Heap → Prop) : Prop :=
  New (.cells #[(.slice none 0 0), (.int .i64 0), (.int .i8 0)] 53 (0, 0)) H fun x5 H =>
  Get (some (Value.iface 56 x5)) fun x11 =>
  CallsH Tryz.prog 21 #[x11] H fun x12 H =>
  CallsH Tryz.prog 22 #[x12, a0] H fun x15 H =>
  Get (nilV2 .neq .nilIface x15) fun x16 =>
  Br x16 (
  R (.slice none 0 0) H) (
  Get (lenV a1) fun x18 =>
  Loop [(.int .i64 0)] H fun K1 vs2 H =>
  Get (arithV .lss .i64 (nth vs2 0) x18) fun x20 =>
  Br x20 (
  Join (fun K3 =>
  Get (elemAddrV 3 a1 (nth vs2 0)) fun x21 =>
  Get (loadNV 3 x21 H) fun x22 =>
  New (.cells #[(.string ⟨#[]⟩), (.string ⟨#[]⟩), (.slice none 0 0)] 31 (0, 0)) H fun x8 H =>
  Get (storeNV 3 x8 x22 H) fun H =>
  Get (fieldAddrV 1 x8) fun x23 =>
  Get (load1V x23 H) fun x24 =>
  Get (strV .eql x24 (.string ⟨#[]⟩)) fun x25 =>
  Br x25 (
  Get (fieldAddrV 0 x8) fun x27 =>
  Get (load1V x27 H) fun x28 =>
  Get (fieldAddrV 2 x8) fun x29 =>
  Get (load1V x29 H) fun x30 =>
  Get (bytesV x30 H) fun x31 =>
  CallsH Tryz.prog 23 #[x12, x28, x31] H fun _ H =>
  K3 [] H) (
  Get (fieldAddrV 0 x8) fun x35 =>
  Get (load1V x35 H) fun x36 =>
  Get (fieldAddrV 1 x8) fun x37 =>
  Get (load1V x37 H) fun x38 =>
  CallsH Tryz.prog 24 #[x12, x36, x38] H fun x39 H =>
  Get (extractV x39 0) fun x40 =>
  Get (extractV x39 1) fun x41 =>
  Get (nilV2 .eql .nilIface x41) fun x43 =>
  Br x43 (
  Get (fieldAddrV 2 x8) fun x46 =>
  Get (load1V x46 H) fun x47 =>
  Get (Instr.fill (fun j => some (j * 1, 1)) ((Array.range (0 * 1)).map ((#[(.int .u8 0)] : Array Value)[· % 1]!)) []) fun cs => NewSl cs 5 0 H fun x45 H =>
  (load1V x46 H = some x47 ∧ True) ∧
  Append 5 1 1 #[(.int .u8 0)] x45 x47 H fun x48 H =>
  Get (nilV (.func (.method "Write") #[x40] #[])) fun _ =>
  Invoke Tryz.prog "Write" x40 #[x48] H fun _ H =>
  K3 [] H) (
  K3 [] H))) fun _ H =>
  Get (arithV .add .i64 (nth vs2 0) (.int .i64 1)) fun x53 =>
  K1 [x53] H) (
  CallsH Tryz.prog 25 #[x12] H fun _ H =>
  CallsH Tryz.prog 26 #[x5] H fun x56 H =>
  R x56 H))
def p14 : Plan := .seq (.leaf []) (.seq (.leaf []) (.seq (.leaf []) (.seq (.seq (.leaf []) (.cond (.seq (.leaf []) (.leaf [])) (.leaf []))) (.seq (.seq (.leaf []) (.block (.loop [19] (.seq (.leaf []) (.seq (.cond (.leaf []) (.leaf [])) (.join [] (.block (.seq (.leaf []) (.seq (.seq (.leaf []) (.cond (.seq (.leaf []) (.leaf [])) (.leaf []))) (.seq (.leaf []) (.seq (.leaf []) (.cond (.leaf [0, 2, 3, 1, 4, 5, 6, 7, 8]) (.leaf []))))))) (.leaf []))))))) (.seq (.leaf []) (.seq (.leaf []) (.leaf [])))))))
theorem s14 {a0 a1 : Value} {H : Heap} {R : Value → Heap → Prop} (h : c14 a0 a1 H R) : CallsH Tryz.prog 7 #[a0, a1] H R :=
  callsH_of_eq p14 (fn := Tryz.f7) (c := Tryz.f7.body.getD .skip) (args := [a0, a1]) Tryz.func7 (by kernel_rfl) mixed (by kernel_rfl) (by kernel_rfl) (by kernel_rfl) h
end Go.Cps
namespace Go.Cps
open Go Go.Proofs
theorem putNew_ok {T : TypeId} (hT : Tryz.prog.underlying T = some (.map 9 112)) {H : Heap} {m N g c : Nat} {E : List Ent} {k : List UInt8} {vs : List (List UInt8)} (hE : Ents H m N E) (hg : getE k (E.map Ent.pair) = none) (hs : StrsAt H g 0 c vs) (hgE : ∀ e ∈ E, e.b ≠ g) (hN : vs.length ≤ N) :
    ∃ H', Ents H' m N (E ++ [⟨k, g, 0, c, vs⟩]) ∧ Frm [m] H H' ∧ H'.size = H.size ∧ ∀ K : Value → Heap → Prop, ExecV Tryz.prog (do Instr.mapUpdate T (.map (some m)) (strVal k) (.slice (some ⟨g, 0, none⟩) vs.length c); pure undef) H K = K undef H' := by
  obtain ⟨H2, hm2, f2, z2, hex⟩ := update_of hT (k := k) (v := .slice (some ⟨g, 0, none⟩) vs.length c) hE.map
  obtain ⟨_, hs2⟩ := getE_none hg
  have hne : ∀ {b o c' l}, StrsAt H b o c' l → b ≠ m := fun {b o c' l} hst hh => by
    obtain ⟨cs, hcs, _⟩ := hst
    obtain ⟨es, c, hm0, _⟩ := hE.map
    rw [hh, hm0] at hcs
    cases hcs
  refine ⟨H2, ⟨?_, fun e he => ?_, ?_, ?_⟩, f2, z2, hex⟩
  · rw [hs2] at hm2; simpa [Ent.pair] using hm2
  · rcases List.mem_append.1 he with he | he
    · exact (hE.strs e he).frm f2 (by simpa using hne (hE.strs e he))
    · rw [List.mem_singleton] at he
      subst he
      exact hs.frm f2 (by simpa using hne hs)
  · rw [List.pairwise_append]
    refine ⟨hE.apart, by simp, fun e he e' he' => ?_⟩
    rw [List.mem_singleton] at he'
    subst he'
    exact .inl (hgE e he)
  · intro e he
    rcases List.mem_append.1 he with he | he
    · exact hE.few e he
    · rw [List.mem_singleton] at he; subst he; exact hN
theorem getE_absent {k : List UInt8} : ∀ {E : List Ent}, (∀ e ∈ E, e.key ≠ k) → getE k (E.map Ent.pair) = none
  | [], _ => rfl
  | e :: r, h => by
    simp only [List.map_cons, getE]
    rw [if_neg (by exact h e (by simp)), getE_absent fun e' he' => h e' (by simp [he'])]
end Go.Cps
namespace Go.Cps
open Go Go.Proofs
theorem dec_lt (a b : Nat) : decide ((a : Int) < (b : Int)) = decide (a < b) := by simp
theorem inc_i64 {i : Nat} (h : i < 2 ^ 62) : IntKind.i64.wrap ((i : Int) + 1) = ((i + 1 : Nat) : Int) := by rw [wrap_i64 (by omega) (by omega)]; omega
theorem strV_eql' (a b : List UInt8) : strV .eql (strVal a) (strVal b) = some (.bool (decide (a = b))) := by
  rw [strVal, strVal, strV_eql, toList_mk, toList_mk]
  congr 2
  rw [Bool.eq_iff_iff]
  simp
theorem strV_neq' (a b : List UInt8) : strV .neq (strVal a) (strVal b) = some (.bool (decide (a ≠ b))) := by
  show some (Value.bool !((⟨a.toArray⟩ : ByteArray).toList == (⟨b.toArray⟩ : ByteArray).toList)) = _
  rw [toList_mk, toList_mk]
  congr 2
  rw [Bool.eq_iff_iff]
  simp
end Go.Cps
namespace Go.Cps
open Go Go.Proofs
def prB (b : UInt8) : Bool := decide (32 ≤ b.toNat) && decide (b.toNat ≤ 126)
theorem take_all_succ {p : UInt8 → Bool} {l : List UInt8} {i : Nat} (h : i < l.length) (ht : (l.take i).all p = true) : (l.take (i + 1)).all p = p l[i] := by
  rw [List.take_succ_eq_append_getElem h, List.all_append, ht]; simp
theorem all_false {p : UInt8 → Bool} {l : List UInt8} {i : Nat} (h : i < l.length) (hp : p l[i] = false) : l.all p = false := by
  rw [← Bool.not_eq_true, List.all_eq_true]
  intro ha
  rw [ha _ (List.getElem_mem h)] at hp
  cases hp
theorem printable_ok {l : List UInt8} {H : Heap} (hl : l.length < 2 ^ 40) : CallsH Tryz.prog 10 #[strVal l] H fun x H' => x = .bool (l.all prB) ∧ H' = H := by
  apply s41
  unfold c41
  refine ⟨fun μ vs H' => ∃ i : Nat, vs = [.int .i64 i] ∧ μ = l.length - i ∧ i ≤ l.length ∧ H' = H ∧ (l.take i).all prB = true, ⟨_, 0, rfl, rfl, Nat.zero_le _, rfl, by simp⟩, ?_⟩
  rintro μ vs H ⟨i, rfl, rfl, hi, rfl, ht⟩
  simp only [lenStr_of, Q0, Q1, Q2, Q3, Q4, Q5, Q6, Q7, Q8, Q9, Qa, Qb, Qc, Qd, Qe, Qf, Qg, Qh, Qi, Qj, Qk, Ql, Qm, Qn, Qo, Qp, Qq, Qr, Qs, dec_lt]
  refine Br_intro (fun hlt => ?_) (fun hlt => ?_)
  · have hlt' : i < l.length := by simpa using hlt
    have hp : prB l[i] = (!(decide (((l[i].toNat : Nat) : Int) < 32) || decide (((l[i].toNat : Nat) : Int) > 126))) := by
      unfold prB
      rw [Bool.eq_iff_iff]
      simp only [Bool.and_eq_true, decide_eq_true_eq, Bool.not_eq_true', Bool.or_eq_false_iff, decide_eq_false_iff_not]
      omega
    refine ⟨fun vs H' => vs = [.bool (!prB l[i])] ∧ H' = H, ?_, ?_⟩
    · simp only [strIndex_of hlt', Q0, Q1, Q2, Q3, Q4, Q5, Q6, Q7, Q8, Q9, Qa, Qb, Qc, Qd, Qe, Qf, Qg, Qh, Qi, Qj, byteV, Qk, Ql, Qm, Qn, Qo, Qp, Qq, Qr, Qs]
      refine Br_intro (fun h1 => ?_) (fun h1 => ?_)
      · simp only [Q0, Q1, Q2, Q3, Q4, Q5, Q6, Q7, Q8, Q9, Qa, Qb, Qc, Qd, Qe, Qf, Qg, Qh, Qi, Qj, if_true, and_true]
        rw [hp, h1]; rfl
      · simp only [strIndex_of hlt', Q0, Q1, Q2, Q3, Q4, Q5, Q6, Q7, Q8, Q9, Qa, Qb, Qc, Qd, Qe, Qf, Qg, Qh, Qi, Qj, byteV, Qk, Ql, Qm, Qn, Qo, Qp, Qq, Qr, Qs, Bool.false_eq_true, if_false, and_true]
        rw [hp, h1]; simp
    · rintro _ H ⟨rfl, rfl⟩
      simp only [Q0, Q1, Q2, Q3, Q4, Q5, Q6, Q7, Q8, Q9, Qa, Qb, Qc, Qd, Qe, Qf, Qg, Qh, Qi, Qj]
      refine Br_intro (fun h1 => ?_) (fun h1 => ?_)
      · rw [all_false hlt' (by simpa using h1)]
        exact ⟨rfl, trivial⟩
      · simp only [inc_i64 (show i < 2 ^ 62 by omega)]
        exact ⟨_, by omega, i + 1, rfl, rfl, hlt', trivial, by rw [take_all_succ hlt' ht]; simpa using h1⟩
  · have : i = l.length := by simp at hlt; omega
    subst this
    rw [List.take_length] at ht
    rw [ht]
    exact ⟨rfl, trivial⟩
theorem find_ok {v u : Value} {buf pat : List UInt8} {H : Heap} (hv : IsBytes H v buf) (hu : IsBytes H u pat) (hl : buf.length < 2 ^ 40) (hp : pat.length < 2 ^ 40) :
    CallsH Tryz.prog 11 #[v, u] H fun x H' => H' = H ∧ ((x = .int .i64 (-1) ∧ Nowhere buf pat) ∨ ∃ i : Nat, x = .int .i64 i ∧ First buf pat i) := by
  apply s42
  unfold c42
  refine ⟨fun μ vs H' => ∃ i : Nat, vs = [.int .i64 i] ∧ μ = buf.length + 1 - i ∧ i ≤ buf.length + 1 ∧ H' = H ∧ ∀ j, j < i → (buf.drop j).take pat.length ≠ pat, ⟨_, 0, rfl, rfl, Nat.zero_le _, rfl, by simp⟩, ?_⟩
  rintro μ vs H ⟨i, rfl, rfl, hi, rfl, hno⟩
  have e1 : IntKind.i64.wrap ((i : Int) + (pat.length : Int)) = ((i + pat.length : Nat) : Int) := by rw [wrap_i64 (by omega) (by omega)]; omega
  simp only [hv.len, hu.len, Q0, Q1, Q2, Q3, Q4, Q5, Q6, Q7, Q8, Q9, Qa, Qb, Qc, Qd, Qe, Qf, Qg, Qh, Qi, Qj, Qk, Ql, Qm, Qn, Qo, Qp, Qq, Qr, Qs, e1]
  refine Br_intro (fun hle => ?_) (fun hle => ?_)
  · have hle' : i + pat.length ≤ buf.length := by simp at hle; omega
    obtain ⟨y, hy, hyb⟩ := hv.from' (lo := i) (by omega) .i64
    simp only [hy, Q6]
    refine (hasPrefix_ok hyb hu).mono ?_
    rintro x H1 ⟨rfl, rfl⟩
    have hiff : pat.isPrefixOf (buf.drop i) = decide ((buf.drop i).take pat.length = pat) := by
      rw [Bool.eq_iff_iff, List.isPrefixOf_iff_prefix, decide_eq_true_eq, List.prefix_iff_eq_take]
      exact eq_comm
    rw [hiff]
    refine Br_intro (fun h1 => ?_) (fun h1 => ?_)
    · exact ⟨rfl, .inr ⟨i, rfl, hle', by simpa using h1, hno⟩⟩
    · simp only [inc_i64 (show i < 2 ^ 62 by omega), Q0, Q1, Q2, Q3, Q4, Q5, Q6, Q7, Q8, Q9, Qa, Qb, Qc, Qd, Qe, Qf, Qg, Qh, Qi, Qj]
      refine ⟨_, by omega, i + 1, rfl, rfl, by omega, trivial, fun j hj => ?_⟩
      by_cases hji : j = i
      · subst hji; simpa using h1
      · exact hno j (by omega)
  · refine ⟨trivial, .inl ⟨trivial, fun j hj => ?_⟩⟩
    have : ¬ i + pat.length ≤ buf.length := by simp at hle; omega
    exact hno j (by omega)
def FreeP (body bd : List UInt8) : Prop := (dashOf bd).isPrefixOf body = false ∧ Nowhere body (10 :: dashOf bd)
theorem first_not_nowhere {buf pat : List UInt8} {i : Nat} (h : First buf pat i) : ¬ Nowhere buf pat := fun hn => hn i h.1 h.2.1
theorem free_ok {v : Value} {body bd : List UInt8} {H : Heap} (hv : IsBytes H v body) (hvb : body ≠ [] → ∀ x, blk v = some x → x < H.size) (hl : body.length < 2 ^ 39) (hb : bd.length < 2 ^ 39) :
    CallsH Tryz.prog 12 #[v, strVal bd] H fun x H' => ∃ r : Bool, x = .bool r ∧ (r = true ↔ FreeP body bd) ∧ Frm [] H H' := by
  apply s25
  have e1 : strV .add (.string ⟨#[45, 45]⟩) (strVal bd) = some (strVal (dashOf bd)) := strV_add (a := [45, 45]) (b := bd) (by simp; omega)
  have hdl := dashOf_length bd
  simp only [c25, e1, Q6]
  refine toBytes_of fun c H1 hc hr1 f1 z1 => ?_
  have hx1 : IsBytes H1 (.slice (some ⟨H.size, 0, none⟩) (dashOf bd).length c) (dashOf bd) := by
    have := hr1.bytes (o := 0) (c := c) (n := (dashOf bd).length) (by simp) hc
    rwa [List.drop_zero, List.take_length] at this
  have hv1 := hv.frm f1 (by simp)
  refine Join_direct ?_
  refine (hasPrefix_ok hv1 hx1).mono ?_
  rintro x H1 ⟨rfl, rfl⟩
  simp only [Q0, Q1, Q2, Q3, Q4, Q5, Q6, Q7, Q8, Q9, Qa, Qb, Qc, Qd, Qe, Qf, Qg, Qh, Qi, Qj]
  refine Br_intro (fun h1 => ?_) (fun h1 => ?_)
  · have h1' : (dashOf bd).isPrefixOf body = false := by simpa using h1
    rw [show (Value.int IntKind.u8 10) = byteV 10 from rfl, fill1 (v := byteV 10) rfl, Q6, NewSl]
    have f2 : Frm [] H1 (H1.push (.cells #[byteV 10] 5 (0, 0))) := Frm.push _ _ _
    have hb2 := push_same H1 (.cells #[byteV 10] 5 (0, 0))
    have z2 : (H1.push (.cells #[byteV 10] 5 (0, 0))).size = H1.size + 1 := by simp
    generalize H1.push (.cells #[byteV 10] 5 (0, 0)) = H2 at *
    have hown : OwnB H2 (some H1.size) (.slice (some ⟨H1.size, 0, none⟩) 1 1) [10] := ⟨#[byteV 10], rfl, hb2, rfl, by simp⟩
    refine append_own hown (hx1.frm f2 (by simp)) (by simp; omega) fun k' sl H3 hown3 f3 hk3 => ?_
    have hv3 : IsBytes H3 v body := (hv1.frm f2 (by simp)).frm' f3 (fun h0 y hy hm => by
      have := hvb h0 y hy
      have : y = H1.size := by simpa using hm
      omega)
    refine (find_ok hv3 hown3.bytes (by omega) (by simp; omega)).mono ?_
    have f13 : Frm [] H H3 := (f1.trans f2).up f3 (fun x hx => by
      have : x = H1.size := by simpa using hx
      exact .inr (by omega))
    rintro x H3 ⟨rfl, ⟨rfl, hno⟩ | ⟨i, rfl, hf⟩⟩
    · have d1 : decide ((-1 : Int) < 0) = true := by decide
      simp only [Qk, Ql, Qm, Qn, Qo, Qp, Qq, Qr, Qs, Q0, Q1, Q2, Q3, Q4, Q5, Q6, Q7, Q8, Q9, Qa, Qb, Qc, Qd, Qe, Qf, Qg, Qh, Qi, Qj, d1, if_true]
      exact ⟨true, rfl, ⟨fun _ => ⟨h1', hno⟩, fun _ => rfl⟩, f13⟩
    · have d1 : decide ((i : Int) < 0) = false := by simp
      simp only [Qk, Ql, Qm, Qn, Qo, Qp, Qq, Qr, Qs, Q0, Q1, Q2, Q3, Q4, Q5, Q6, Q7, Q8, Q9, Qa, Qb, Qc, Qd, Qe, Qf, Qg, Qh, Qi, Qj, d1, if_true]
      exact ⟨false, rfl, ⟨fun h => (by cases h), fun h => absurd h.2 (first_not_nowhere hf)⟩, f13⟩
  · simp only [Q0, Q1, Q2, Q3, Q4, Q5, Q6, Q7, Q8, Q9, Qa, Qb, Qc, Qd, Qe, Qf, Qg, Qh, Qi, Qj, Bool.false_eq_true, if_false]
    refine ⟨false, rfl, ⟨fun h => (by cases h), fun h => ?_⟩, f1⟩
    rw [h.1] at h1
    cases h1
end Go.Cps
