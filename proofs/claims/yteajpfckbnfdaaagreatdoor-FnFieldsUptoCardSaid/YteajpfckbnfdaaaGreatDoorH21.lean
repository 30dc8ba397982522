/-
  A part of the proof: zzFits of fields; spec.Fields. spec.Quote, escapeQuotes. spec.FieldParts. A multipart Writer over a bytes.Buffer: its state; a part's Write; Close; io.Copy out of a buffer. The laying of the shelf at this program: slices.Sorted(maps.Keys(m)); what it does at heap level.
  Conditions: each contract's own.
-/
import Derived.Shelf.SlIter.Sorted
import Derived.Shelf.SortM.Plain
import Derived.Shelf.SortM.SortNone
import Derived.Test.YteajpfckbnfdaaaGreatDoorH11
import Derived.Test.YteajpfckbnfdaaaGreatDoorH18
import Derived.Test.YteajpfckbnfdaaaGreatDoorH19
import Derived.Test.YteajpfckbnfdaaaGreatDoorH20
set_option linter.all false
namespace Go.Cps
open Go Go.Proofs
def isBool (x : Value) : Prop := ∃ r : Bool, x = .bool r
theorem field_shape {D : List Nat} {H : Heap} {f : FieldL} {vs : List Value} (h : FieldR D H f vs) : ∃ z, vs = [strVal f.name, strVal f.file, z] ∧ BytV D H z f.value := h
theorem local3 {T : TypeId} {z1 z2 z3 a b c : Value} {H : Heap} {K : Value → Heap → Prop} (h1 : isOne a = true) (h2 : isOne b = true) (h3 : isOne c = true)
    (hK : ∀ H', H'[H.size]? = some (.cells #[a, b, c] T (0, 0)) → Frm [] H H' → H'.size = H.size + 1 → K (.pointer (some ⟨H.size, 0, none⟩)) H') :
    New (.cells #[z1, z2, z3] T (0, 0)) H fun x5 H => Get (storeNV 3 x5 (.agg #[a, b, c]) H) fun H => K x5 H := by
  have hp := push_same H (.cells #[z1, z2, z3] T (0, 0))
  have f0 : Frm [] H (H.push (.cells #[z1, z2, z3] T (0, 0))) := Frm.push _ _ _
  have z0 : (H.push (.cells #[z1, z2, z3] T (0, 0))).size = H.size + 1 := by simp
  simp only [New]
  generalize H.push (.cells #[z1, z2, z3] T (0, 0)) = H0 at *
  rw [storeNV_of (vs := #[a, b, c]) (n := 3) hp rfl rfl (by simp [h1, h2, h3]), Q6]
  refine hK _ (upd_same (lt_of_some hp)) ⟨by simp; omega, fun k hk _ => ?_⟩ (by simpa using z0)
  rw [upd_ne (by omega)]
  exact f0.same k hk (by simp)
theorem fits8_ok {D : List Nat} {H : Heap} {f : FieldL} {vs : List Value} (h : FieldR D H f vs) : CallsH Tryz.prog 9 #[.agg vs.toArray] H fun x H' => isBool x ∧ Frm [] H H' := by
  obtain ⟨z, rfl, hz⟩ := h
  apply s40
  simp only [c40, New, Value.cells]
  have f1 : Frm [] H (H.push (.cells #[strVal f.name, strVal f.file, z] 31 (0, 0))) := Frm.push _ _ _
  have hb1 := push_same H (.cells #[strVal f.name, strVal f.file, z] 31 (0, 0))
  generalize H.push (.cells #[strVal f.name, strVal f.file, z] 31 (0, 0)) = H1 at *
  simp only [Q0, Q1, Q2, Q3, Q4, Q5, Q6, Q7, Q8, Q9, Qa, Qb, Qc, Qd, Qe, Qf, Qg, Qh, Qi, Qj, Qk, Ql, Qm, Qn, Qo, Qp, Qq, Qr, Qs, cellH_of hb1, lenStr_of, hz.1.len]
  refine Br_intro (fun _ => ⟨⟨_, rfl⟩, f1⟩) (fun _ => ?_)
  refine Br_intro (fun _ => ⟨⟨_, rfl⟩, f1⟩) (fun _ => ?_)
  refine Br_intro (fun _ => ⟨⟨_, rfl⟩, f1⟩) (fun _ => ⟨⟨_, rfl⟩, f1⟩)
theorem fits7_ok {D : List Nat} {H : Heap} {v : Value} {l : List FieldL} (hv : FieldsV D H v l) (hl : l.length < 2 ^ 40) : CallsH Tryz.prog 4 #[v] H fun x H' => isBool x ∧ Frm [] H H' := by
  apply s12
  simp only [c12, hv.len, Q0, Q1, Q2, Q3, Q4, Q5, Q6, Q7, Q8, Q9, Qa, Qb, Qc, Qd, Qe, Qf, Qg, Qh, Qi, Qj, Qk, Ql, Qm, Qn, Qo, Qp, Qq, Qr, Qs]
  refine Br_intro (fun _ => ⟨⟨_, rfl⟩, Frm.refl _ _⟩) (fun _ => ?_)
  refine ⟨fun μ vs H' => ∃ i : Nat, vs = [.int .i64 i] ∧ μ = l.length - i ∧ i ≤ l.length ∧ Frm [] H H', ⟨_, 0, rfl, rfl, Nat.zero_le _, Frm.refl _ _⟩, ?_⟩
  rintro μ vs H1 ⟨i, rfl, rfl, hi, f1⟩
  simp only [Q0, Q1, Q2, Q3, Q4, Q5, Q6, Q7, Q8, Q9, Qa, Qb, Qc, Qd, Qe, Qf, Qg, Qh, Qi, Qj, Qk, Ql, Qm, Qn, Qo, Qp, Qq, Qr, Qs, dec_lt]
  refine Br_intro (fun hlt => ?_) (fun hlt => ⟨⟨_, rfl⟩, f1⟩)
  have hlt' : i < l.length := by simpa using hlt
  obtain ⟨a, vs, ha, hlo, _, hR, _⟩ := (hv.frm fieldR_ok f1 (by simp)).elem hlt'
  obtain ⟨z, rfl, hz⟩ := field_shape hR
  simp only [ha, Q6, hlo]
  refine local3 (K := fun x5 H => _) rfl rfl hz.isOne fun H2 hb2 f2 z2 => ?_
  simp only [loadNV_of (n := 3) hb2 rfl, Q6]
  refine (fits8_ok (fieldR_ok.frm (D := D) ⟨z, rfl, hz⟩ f2 (by simp))).mono ?_
  rintro x H3 ⟨⟨r, rfl⟩, f3⟩
  have f13 := (f1.trans f2).trans f3
  simp only [Q0, Q1, Q2, Q3, Q4, Q5, Q6, Q7, Q8, Q9, Qa, Qb, Qc, Qd, Qe, Qf, Qg, Qh, Qi, Qj]
  refine Br_intro (fun _ => ⟨⟨_, rfl⟩, f13⟩) (fun _ => ?_)
  simp only [inc_i64 (show i < 2 ^ 62 by omega)]
  exact ⟨_, by omega, i + 1, rfl, rfl, hlt', f13⟩
structure GoodField (bd : List UInt8) (f : FieldL) : Prop where
  name : f.name.length ≤ 200
  file : f.file.length ≤ 200
  pname : f.name.all prB = true
  pfile : f.file.all prB = true
  slash : 47 ∉ f.file
  free : FreeP f.value bd
theorem nowhere_single {l : List UInt8} {c : UInt8} (h : Nowhere l [c]) : c ∉ l := by
  intro hm
  obtain ⟨i, hi, he⟩ := List.getElem_of_mem hm
  refine h i (by simp; omega) ?_
  rw [List.drop_eq_getElem_cons hi, List.length_singleton, List.take_succ_cons, he]
  simp
theorem fields_ok {D : List Nat} {H : Heap} {v : Value} {l : List FieldL} {bd : List UInt8} (hv : FieldsV D H v l) (hl : l.length < 2 ^ 40) (hbl : bd.length < 2 ^ 38) (hlf : ∀ f ∈ l, f.name.length < 2 ^ 38 ∧ f.file.length < 2 ^ 38 ∧ f.value.length < 2 ^ 38) :
    CallsH Tryz.prog 5 #[v, strVal bd] H fun x H' => ∃ r : Bool, x = .bool r ∧ (r = true → (∀ f ∈ l, GoodField bd f) ∧ okBd bd = true) ∧ Frm [] H H' := by
  apply s13
  simp only [c13, hv.len, Q0, Q1, Q2, Q3, Q4, Q5, Q6, Q7, Q8, Q9, Qa, Qb, Qc, Qd, Qe, Qf, Qg, Qh, Qi, Qj]
  refine ⟨fun μ vs H' => ∃ i : Nat, vs = [.int .i64 i] ∧ μ = l.length - i ∧ i ≤ l.length ∧ Frm [] H H' ∧ ∀ j (hj : j < i) (hjl : j < l.length), GoodField bd l[j], ⟨_, 0, rfl, rfl, Nat.zero_le _, Frm.refl _ _, fun j hj => by omega⟩, ?_⟩
  rintro μ vs H1 ⟨i, rfl, rfl, hi, f1, hgood⟩
  simp only [Q0, Q1, Q2, Q3, Q4, Q5, Q6, Q7, Q8, Q9, Qa, Qb, Qc, Qd, Qe, Qf, Qg, Qh, Qi, Qj, Qk, Ql, Qm, Qn, Qo, Qp, Qq, Qr, Qs, dec_lt]
  refine Br_intro (fun hlt => ?_) (fun hlt => ?_)
  · have hlt' : i < l.length := by simpa using hlt
    obtain ⟨a, vs, ha, hlo, _, hR, _⟩ := (hv.frm fieldR_ok f1 (by simp)).elem hlt'
    obtain ⟨z, rfl, hz⟩ := field_shape hR
    obtain ⟨hl1, hl2, hl3⟩ := hlf l[i] (List.getElem_mem hlt')
    generalize hfe : l[i] = f at *
    simp only [ha, Q6, hlo]
    refine local3 (K := fun x5 H => _) rfl rfl hz.isOne fun H2 hb2 f2 z2 => ?_
    have hz2 := hz.frm f2 (by simp)
    have f12 := f1.trans f2
    refine ⟨fun vs H3 => ∃ b : Bool, vs = [.bool b] ∧ (b = false → GoodField bd f) ∧ Frm [] H H3, ?_, ?_⟩
    · have d1 : ∀ n : Nat, decide (((n : Nat) : Int) > 200) = decide (200 < n) := fun n => by
        rw [Bool.eq_iff_iff]; simp; omega
      simp only [Q0, Q1, Q2, Q3, Q4, Q5, Q6, Q7, Q8, Q9, Qa, Qb, Qc, Qd, Qe, Qf, Qg, Qh, Qi, Qj, Qk, Ql, Qm, Qn, Qo, Qp, Qq, Qr, Qs, cellH_of hb2, lenStr_of, d1]
      by_cases h1 : 200 < f.name.length
      · simp only [decide_eq_true h1, Q0, Q1, Q2, Q3, Q4, Q5, Q6, Q7, Q8, Q9, Qa, Qb, Qc, Qd, Qe, Qf, Qg, Qh, Qi, Qj, if_true]
        exact ⟨true, rfl, fun h => (by cases h), f12⟩
      simp only [decide_eq_false h1, Q0, Q1, Q2, Q3, Q4, Q5, Q6, Q7, Q8, Q9, Qa, Qb, Qc, Qd, Qe, Qf, Qg, Qh, Qi, Qj, if_true, Bool.false_eq_true, if_false]
      by_cases h2 : 200 < f.file.length
      · simp only [decide_eq_true h2, Q0, Q1, Q2, Q3, Q4, Q5, Q6, Q7, Q8, Q9, Qa, Qb, Qc, Qd, Qe, Qf, Qg, Qh, Qi, Qj, if_true]
        exact ⟨true, rfl, fun h => (by cases h), f12⟩
      simp only [decide_eq_false h2, Q0, Q1, Q2, Q3, Q4, Q5, Q6, Q7, Q8, Q9, Qa, Qb, Qc, Qd, Qe, Qf, Qg, Qh, Qi, Qj, if_true, Bool.false_eq_true, if_false]
      refine (printable_ok (by omega)).mono ?_
      rintro x H2 ⟨rfl, rfl⟩
      simp only [Q0, Q1, Q2, Q3, Q4, Q5, Q6, Q7, Q8, Q9, Qa, Qb, Qc, Qd, Qe, Qf, Qg, Qh, Qi, Qj]
      cases h3 : f.name.all prB with
      | false =>
        simp only [Q0, Q1, Q2, Q3, Q4, Q5, Q6, Q7, Q8, Q9, Qa, Qb, Qc, Qd, Qe, Qf, Qg, Qh, Qi, Qj, Bool.not_false, if_true]
        exact ⟨true, rfl, fun h => (by cases h), f12⟩
      | true =>
      simp only [Q0, Q1, Q2, Q3, Q4, Q5, Q6, Q7, Q8, Q9, Qa, Qb, Qc, Qd, Qe, Qf, Qg, Qh, Qi, Qj, Bool.not_true, if_true, Bool.false_eq_true, if_false, cellH_of hb2]
      refine (printable_ok (by omega)).mono ?_
      rintro x H2 ⟨rfl, rfl⟩
      simp only [Q0, Q1, Q2, Q3, Q4, Q5, Q6, Q7, Q8, Q9, Qa, Qb, Qc, Qd, Qe, Qf, Qg, Qh, Qi, Qj]
      cases h4 : f.file.all prB with
      | false =>
        simp only [Q0, Q1, Q2, Q3, Q4, Q5, Q6, Q7, Q8, Q9, Qa, Qb, Qc, Qd, Qe, Qf, Qg, Qh, Qi, Qj, Bool.not_false, if_true]
        exact ⟨true, rfl, fun h => (by cases h), f12⟩
      | true =>
      simp only [Q0, Q1, Q2, Q3, Q4, Q5, Q6, Q7, Q8, Q9, Qa, Qb, Qc, Qd, Qe, Qf, Qg, Qh, Qi, Qj, Bool.not_true, if_true, Bool.false_eq_true, if_false, cellH_of hb2]
      refine toBytes_of fun c H3 hc hr3 f3 z3 => ?_
      have hx3 : IsBytes H3 (.slice (some ⟨H2.size, 0, none⟩) f.file.length c) f.file := by
        have := hr3.bytes (o := 0) (c := c) (n := f.file.length) (by simp) hc
        rwa [List.drop_zero, List.take_length] at this
      have hb3 := f3.get hb2 (by simp)
      refine lit1 (c := 47) fun H4 hl4 f4 z4 => ?_
      refine (find_ok (hx3.frm f4 (by simp)) hl4 (by omega) (by simp)).mono ?_
      have f14 := (f12.trans f3).trans f4
      have hb4 := f4.get hb3 (by simp)
      have hz4 := (hz2.frm f3 (by simp)).frm f4 (by simp)
      rintro x H4 ⟨rfl, ⟨rfl, hno⟩ | ⟨j, rfl, hf⟩⟩
      · have d2 : decide ((-1 : Int) ≥ 0) = false := by decide
        simp only [Q0, Q1, Q2, Q3, Q4, Q5, Q6, Q7, Q8, Q9, Qa, Qb, Qc, Qd, Qe, Qf, Qg, Qh, Qi, Qj, Qk, Ql, Qm, Qn, Qo, Qp, Qq, Qr, Qs, d2, if_true, Bool.false_eq_true, if_false, cellH_of hb4]
        refine (free_ok hz4.1 (fun h0 x hx => (hz4.2 h0 x hx).2) (by omega) (by omega)).mono ?_
        rintro x H5 ⟨r, rfl, hr, f5⟩
        simp only [Q0, Q1, Q2, Q3, Q4, Q5, Q6, Q7, Q8, Q9, Qa, Qb, Qc, Qd, Qe, Qf, Qg, Qh, Qi, Qj, if_true]
        refine ⟨!r, rfl, fun h => ?_, f14.trans f5⟩
        have hrt : r = true := by simpa using h
        exact ⟨by omega, by omega, h3, h4, nowhere_single hno, hr.1 hrt⟩
      · have d2 : decide ((j : Int) ≥ 0) = true := by simp
        simp only [Q0, Q1, Q2, Q3, Q4, Q5, Q6, Q7, Q8, Q9, Qa, Qb, Qc, Qd, Qe, Qf, Qg, Qh, Qi, Qj, Qk, Ql, Qm, Qn, Qo, Qp, Qq, Qr, Qs, d2, if_true, Bool.false_eq_true, if_false]
        exact ⟨true, rfl, fun h => (by cases h), f14⟩
    · rintro _ H3 ⟨b, rfl, hb, f3⟩
      simp only [Q0, Q1, Q2, Q3, Q4, Q5, Q6, Q7, Q8, Q9, Qa, Qb, Qc, Qd, Qe, Qf, Qg, Qh, Qi, Qj]
      refine Br_intro (fun _ => ⟨false, rfl, fun h => (by cases h), f3⟩) (fun hb0 => ?_)
      simp only [Qk, Ql, Qm, Qn, Qo, Qp, Qq, Qr, Qs, inc_i64 (show i < 2 ^ 62 by omega), Q0, Q1, Q2, Q3, Q4, Q5, Q6, Q7, Q8, Q9, Qa, Qb, Qc, Qd, Qe, Qf, Qg, Qh, Qi, Qj]
      refine ⟨_, by omega, i + 1, rfl, rfl, hlt', f3, fun j hj hjl => ?_⟩
      by_cases hji : j = i
      · subst hji; rw [hfe]; exact hb hb0
      · exact hgood j (by omega) hjl
  · refine (boundary_ok (by omega)).mono ?_
    rintro x H2 ⟨rfl, rfl⟩
    refine ⟨_, rfl, fun h => ⟨fun f hf => ?_, h⟩, f1⟩
    obtain ⟨j, hj, rfl⟩ := List.getElem_of_mem hf
    exact hgood j (by simp at hlt; omega) hj
end Go.Cps
namespace Go.Cps
open Go Go.Proofs
def quote1 (b : UInt8) : List UInt8 := if b = 92 ∨ b = 34 then [92, b] else [b]
def quoteB (l : List UInt8) : List UInt8 := l.flatMap quote1
theorem quoteB_len (l : List UInt8) : (quoteB l).length ≤ 2 * l.length := by
  induction l with
  | nil => simp [quoteB]
  | cons b r ih =>
    have : (quote1 b).length ≤ 2 := by unfold quote1; split <;> simp
    simp only [quoteB, List.flatMap_cons, List.length_append, List.length_cons] at ih ⊢
    omega
theorem quoteB_succ {l : List UInt8} {i : Nat} (h : i < l.length) : quoteB (l.take (i + 1)) = quoteB (l.take i) ++ quote1 l[i] := by
  rw [List.take_succ_eq_append_getElem h]
  unfold quoteB
  rw [List.flatMap_append]
  simp only [List.flatMap_cons, List.flatMap_nil, List.append_nil]
theorem quoteB_take (l : List UInt8) (i : Nat) (h : i ≤ l.length) : (quoteB (l.take i)).length ≤ 2 * l.length := by
  have := quoteB_len (l.take i)
  rw [List.length_take] at this
  omega
theorem appByte {k : Option Nat} {sl : Value} {d : List UInt8} {b : UInt8} {z : Value} {H : Heap} {K : Value → Heap → Prop} (h : OwnB H k sl d) (hl : d.length < 2 ^ 39)
    (hK : ∀ k' sl' H', OwnB H' k' sl' (d ++ [b]) → Frm k.toList H H' → (k' = k ∨ ∃ g, k' = some g ∧ H.size ≤ g) → K sl' H') :
    Get (Instr.fill (fun j => some (j * 1, 1)) ((Array.range (1 * 1)).map ((#[z] : Array Value)[· % 1]!)) [(0, byteV b)]) fun cs => NewSl cs 5 1 H fun x22 H =>
    Append 5 1 1 #[(.int .u8 0)] sl x22 H K := by
  rw [fill1 (v := byteV b) rfl, Q6, NewSl]
  have f2 : Frm [] H (H.push (.cells #[byteV b] 5 (0, 0))) := Frm.push _ _ _
  have hb2 := push_same H (.cells #[byteV b] 5 (0, 0))
  have z2 : (H.push (.cells #[byteV b] 5 (0, 0))).size = H.size + 1 := by simp
  generalize H.push (.cells #[byteV b] 5 (0, 0)) = H2 at *
  have hx : IsBytes H2 (.slice (some ⟨H.size, 0, none⟩) 1 1) [b] := .inl ⟨H.size, 0, 1, rfl, by simp, fun j hj => by
    have : j = 0 := by simpa using hj
    subst this
    rw [cellH_of hb2]; rfl⟩
  refine append_own (h.frm f2 (by simp)) hx (by simp; omega) fun k' sl' H3 h1 f3 hk => hK k' sl' H3 h1 ((f2.mono (by simp)).trans f3) ?_
  rcases hk with e | ⟨g, e, hg⟩
  · exact .inl e
  · exact .inr ⟨g, e, by omega⟩
theorem fillTwo {a b z : Value} (ha : isOne a = true) (hb : isOne b = true) : Instr.fill (fun j => some (j * 1, 1)) ((Array.range (2 * 1)).map ((#[z] : Array Value)[· % 1]!)) [(0, a), (1, b)] = some #[a, b] := by
  have e0 : (Array.range (2 * 1)) = #[0, 1] := by decide
  rw [e0]
  rw [fill_cons (off := 0) ha rfl (by simp), fill_cons (off := 1) hb rfl (by simp)]
  simp [Instr.fill]
theorem escape_ok {l : List UInt8} {H : Heap} (hl : l.length < 2 ^ 36) (hp : l.all prB = true) : CallsH Tryz.prog 52 #[strVal l] H fun x H' => x = strVal (quoteB l) ∧ Frm [] H H' := by
  apply s97
  unfold c97
  refine ⟨fun μ vs H1 => ∃ (i : Nat) (k : Option Nat) (sl : Value), vs = [sl, .int .i64 i] ∧ μ = l.length - i ∧ i ≤ l.length ∧ OwnB H1 k sl (quoteB (l.take i)) ∧ Frm [] H H1 ∧ ∀ g, k = some g → H.size ≤ g, ⟨_, 0, none, _, rfl, rfl, Nat.zero_le _, ⟨rfl, rfl⟩, Frm.refl _ _, by simp⟩, ?_⟩
  rintro μ vs H1 ⟨i, k, sl, rfl, rfl, hi, hown, f1, hk⟩
  simp only [lenStr_of, Q0, Q1, Q2, Q3, Q4, Q5, Q6, Q7, Q8, Q9, Qa, Qb, Qc, Qd, Qe, Qf, Qg, Qh, Qi, Qj, Qk, Ql, Qm, Qn, Qo, Qp, Qq, Qr, Qs, dec_lt]
  refine Br_intro (fun hlt => ?_) (fun hlt => ?_)
  · have hlt' : i < l.length := by simpa using hlt
    have hql := quoteB_take l i hi
    have hpi : prB l[i] = true := List.all_eq_true.1 hp _ (List.getElem_mem hlt')
    unfold prB at hpi
    simp only [Bool.and_eq_true, decide_eq_true_eq] at hpi
    refine ⟨fun vs H2 => ∃ (k' : Option Nat) (sl' : Value), vs = [sl'] ∧ OwnB H2 k' sl' (quoteB (l.take i) ++ quote1 l[i]) ∧ Frm [] H H2 ∧ ∀ g, k' = some g → H.size ≤ g, ?_, ?_⟩
    · have e92 : (((l[i].toNat : Nat) : Int) == 92) = (l[i] == 92) := byte_beq l[i] 92
      have e34 : (((l[i].toNat : Nat) : Int) == 34) = (l[i] == 34) := byte_beq l[i] 34
      have e13 : (((l[i].toNat : Nat) : Int) == 13) = false := by rw [beq_eq_false_iff_ne]; omega
      have e10 : (((l[i].toNat : Nat) : Int) == 10) = false := by rw [beq_eq_false_iff_ne]; omega
      simp only [strIndex_of hlt', Q6]
      refine ⟨fun vs H2 => vs = [.bool (l[i] == 92 || l[i] == 34)] ∧ H2 = H1, ?_, ?_⟩
      · simp only [Q0, Q1, Q2, Q3, Q4, Q5, Q6, Q7, Q8, Q9, Qa, Qb, Qc, Qd, Qe, Qf, Qg, Qh, Qi, Qj, byteV, Qk, Ql, Qm, Qn, Qo, Qp, Qq, Qr, Qs, e92, e34]
        refine Br_intro (fun h1 => ?_) (fun h1 => ?_)
        · simp only [and_true, h1, Bool.true_or]
        · simp only [and_true, h1, Bool.false_or]
      · rintro _ H1 ⟨rfl, rfl⟩
        simp only [Q0, Q1, Q2, Q3, Q4, Q5, Q6, Q7, Q8, Q9, Qa, Qb, Qc, Qd, Qe, Qf, Qg, Qh, Qi, Qj]
        refine Br_intro (fun h1 => ?_) (fun h1 => ?_)
        · have h2 : l[i] = 92 ∨ l[i] = 34 := by simpa using h1
          simp only [fillTwo (a := .int .u8 92) (b := byteV l[i]) rfl rfl, Q6, NewSl]
          have f2 : Frm [] H1 (H1.push (.cells #[byteV 92, byteV l[i]] 5 (0, 0))) := Frm.push _ _ _
          have hb2 := push_same H1 (.cells #[byteV 92, byteV l[i]] 5 (0, 0))
          have z2 : (H1.push (.cells #[byteV 92, byteV l[i]] 5 (0, 0))).size = H1.size + 1 := by simp
          rw [show (Value.int IntKind.u8 92) = byteV 92 from rfl]
          generalize H1.push (.cells #[byteV 92, byteV l[i]] 5 (0, 0)) = H2 at *
          have hx : IsBytes H2 (.slice (some ⟨H1.size, 0, none⟩) 2 2) [92, l[i]] := .inl ⟨H1.size, 0, 2, rfl, by simp, fun j hj => by
            rw [cellH_of hb2]
            have : j < 2 := by simpa using hj
            rcases j with _ | _ | j
            · rfl
            · rfl
            · omega⟩
          refine append_own (hown.frm f2 (by simp)) hx (by simp; omega) fun k' sl' H3 h3 f3 hk3 => ?_
          refine ⟨k', sl', rfl, by unfold quote1; rw [if_pos h2]; exact h3, (f1.trans f2).up f3 (fun x hx => .inr (hk x (by simpa using hx))), fun g hg => ?_⟩
          rcases hk3 with e | ⟨g', e, hge⟩
          · exact hk g (by rw [← e, hg])
          · rw [hg] at e; cases e; have := f1.size; omega
        · have h2 : ¬ (l[i] = 92 ∨ l[i] = 34) := by simpa using h1
          simp only [Q0, Q1, Q2, Q3, Q4, Q5, Q6, Q7, Q8, Q9, Qa, Qb, Qc, Qd, Qe, Qf, Qg, Qh, Qi, Qj, byteV, Qk, Ql, Qm, Qn, Qo, Qp, Qq, Qr, Qs, e13, e10, strIndex_of hlt']
          refine appByte (b := l[i]) hown (by omega) fun k' sl' H3 h3 f3 hk3 => ?_
          refine ⟨k', sl', rfl, by unfold quote1; rw [if_neg h2]; exact h3, f1.up f3 (fun x hx => .inr (hk x (by simpa using hx))), fun g hg => ?_⟩
          rcases hk3 with e | ⟨g', e, hge⟩
          · exact hk g (by rw [← e, hg])
          · rw [hg] at e; cases e; have := f1.size; omega
    · rintro _ H2 ⟨k', sl', rfl, hown2, f2, hk2⟩
      simp only [Qk, Ql, Qm, Qn, Qo, Qp, Qq, Qr, Qs, Q0, Q1, Q2, Q3, Q4, Q5, Q6, Q7, Q8, Q9, Qa, Qb, Qc, Qd, Qe, Qf, Qg, Qh, Qi, Qj, inc_i64 (show i < 2 ^ 62 by omega)]
      exact ⟨_, by omega, i + 1, k', sl', rfl, rfl, hlt', by rw [quoteB_succ hlt']; exact hown2, f2, hk2⟩
  · have : i = l.length := by simp at hlt; omega
    subst this
    rw [List.take_length] at hown
    simp only [hown.bytes.str, Q6]
    exact ⟨rfl, f1⟩
end Go.Cps
namespace Go.Cps
open Go Go.Proofs
def cdKey : List UInt8 := [67, 111, 110, 116, 101, 110, 116, 45, 68, 105, 115, 112, 111, 115, 105, 116, 105, 111, 110]
def ctKey : List UInt8 := [67, 111, 110, 116, 101, 110, 116, 45, 84, 121, 112, 101]
def octet : List UInt8 := [97, 112, 112, 108, 105, 99, 97, 116, 105, 111, 110, 47, 111, 99, 116, 101, 116, 45, 115, 116, 114, 101, 97, 109]
def dName : List UInt8 := [102, 111, 114, 109, 45, 100, 97, 116, 97, 59, 32, 110, 97, 109, 101, 61, 34]
def dFile : List UInt8 := [59, 32, 102, 105, 108, 101, 110, 97, 109, 101, 61, 34]
def dispOf (f : FieldL) : List UInt8 := if f.file = [] then dName ++ quoteB f.name ++ [34] else (dName ++ quoteB f.name ++ [34]) ++ (dFile ++ quoteB f.file ++ [34])
def fieldHead (f : FieldL) : List Hdr := if f.file = [] then [(cdKey, [dispOf f])] else [(cdKey, [dispOf f]), (ctKey, [octet])]
end Go.Cps
namespace Go.Cps
open Go Go.Proofs
def lastP (last : Option Nat) : Value := .pointer (last.map fun p => ⟨p, 0, none⟩)
structure WS (B ob wr : Nat) (bd : List UInt8) (k last : Option Nat) (l : List UInt8) (H : Heap) : Prop where
  buf : BufAt ob k l H
  wr_ : WrAt wr (.iface 56 (.pointer (some ⟨ob, 0, none⟩))) bd (lastP last) H
  pt : ∀ p, last = some p → H[p]? = some (.cells #[.pointer (some ⟨wr, 0, none⟩), .bool false, .nilIface] 121 (0, 0))
  low : B ≤ ob ∧ B ≤ wr ∧ (∀ p, last = some p → B ≤ p) ∧ ∀ g, k = some g → B ≤ g
  ne : ob ≠ wr ∧ (∀ p, last = some p → p ≠ ob ∧ p ≠ wr ∧ k ≠ some p) ∧ k ≠ some wr ∧ k ≠ some ob
def WS.ids (ob wr : Nat) (k last : Option Nat) : List Nat := ob :: wr :: (last.toList ++ k.toList)
theorem WS.sub {ob wr : Nat} {k last : Option Nat} : ∀ x ∈ ob :: k.toList, x ∈ WS.ids ob wr k last := by
  intro x hx
  simp only [WS.ids, List.mem_cons, List.mem_append] at hx ⊢
  rcases hx with h | h
  · exact .inl h
  · exact .inr (.inr (.inr h))
theorem BufAt.lt {b : Nat} {k : Option Nat} {l : List UInt8} {H : Heap} (h : BufAt b k l H) : b < H.size ∧ ∀ g, k = some g → g < H.size ∧ g ≠ b := by
  obtain ⟨sl, lr, h1, h2⟩ := h
  refine ⟨lt_of_some h1, fun g hg => ⟨?_, h2.ne g hg⟩⟩
  subst hg
  obtain ⟨cells, _, h3, _⟩ := h2
  exact lt_of_some h3
theorem WS.lt {B ob wr : Nat} {bd l : List UInt8} {k last : Option Nat} {H : Heap} (h : WS B ob wr bd k last l H) : ∀ x ∈ WS.ids ob wr k last, x < H.size ∧ B ≤ x := by
  intro x hx
  simp only [WS.ids, List.mem_cons, List.mem_append, Option.mem_toList] at hx
  rcases hx with rfl | rfl | hx | hx
  · exact ⟨h.buf.lt.1, h.low.1⟩
  · exact ⟨lt_of_some h.wr_, h.low.2.1⟩
  · exact ⟨lt_of_some (h.pt x hx), h.low.2.2.1 x hx⟩
  · exact ⟨(h.buf.lt.2 x hx).1, h.low.2.2.2 x hx⟩
theorem WS.frm {B ob wr : Nat} {bd l : List UInt8} {k last : Option Nat} {H H' : Heap} {X : List Nat} (h : WS B ob wr bd k last l H) (f : Frm X H H') (hx : ∀ x ∈ WS.ids ob wr k last, x ∉ X) : WS B ob wr bd k last l H' where
  buf := h.buf.frm f (hx ob (by simp [WS.ids])) (fun g hg => hx g (by simp [WS.ids, hg]))
  wr_ := f.get h.wr_ (hx wr (by simp [WS.ids]))
  pt := fun p hp => f.get (h.pt p hp) (hx p (by simp [WS.ids, hp]))
  low := h.low
  ne := h.ne
theorem WS.wrote {B ob wr : Nat} {bd l l' : List UInt8} {k k' last : Option Nat} {H H' : Heap} (h : WS B ob wr bd k last l H) (hb : BufAt ob k' l' H') (f : Frm (ob :: k.toList) H H') (hk : k' = k ∨ ∃ g, k' = some g ∧ H.size ≤ g) (hB : B ≤ H.size) : WS B ob wr bd k' last l' H' := by
  have hwr := lt_of_some h.wr_
  obtain ⟨n1, n2, n3, n4⟩ := h.ne
  refine { buf := hb, wr_ := f.get h.wr_ (fun hm => ?_), pt := fun p hp => f.get (h.pt p hp) (fun hm => ?_), low := ⟨h.low.1, h.low.2.1, h.low.2.2.1, fun g hg => ?_⟩, ne := ⟨n1, fun p hp => ?_, ?_, ?_⟩ }
  · rcases List.mem_cons.1 hm with e | e
    · exact n1 e.symm
    · exact n3 (by simpa using e)
  · obtain ⟨m1, m2, m3⟩ := n2 p hp
    rcases List.mem_cons.1 hm with e | e
    · exact m1 e
    · exact m3 (by simpa using e)
  · rcases hk with e | ⟨g', e, hge⟩
    · exact h.low.2.2.2 g (by rw [← e, hg])
    · rw [hg] at e; cases e; omega
  · obtain ⟨m1, m2, m3⟩ := n2 p hp
    refine ⟨m1, m2, fun e2 => ?_⟩
    have := lt_of_some (h.pt p hp)
    rcases hk with e | ⟨g', e, hge⟩
    · exact m3 (by rw [← e, e2])
    · rw [e2] at e; cases e; omega
  · intro e2
    rcases hk with e | ⟨g', e, hge⟩
    · exact n3 (by rw [← e, e2])
    · rw [e2] at e; cases e; omega
  · intro e2
    exact (hb.lt.2 ob e2).2 rfl
theorem meth103 : methodRes Tryz.prog 87 "Write" = some 233 := by kernel_rfl
theorem body212 : hasBody Tryz.prog 233 = true := by kernel_rfl
theorem ahead103 (a : Addr) : aheadP Tryz.prog 87 (.pointer (some a)) "Write" = true := by kernel_rfl
theorem partWrite_ok {B ob wr p : Nat} {bd l d : List UInt8} {k : Option Nat} {x : Value} {H : Heap} (h : WS B ob wr bd k (some p) l H) (hx : IsBytes H x d) (hxb : ∀ y, blk x = some y → y ≠ ob) (hlen : l.length + d.length < 2 ^ 40) (hB : B ≤ H.size) :
    CallsH Tryz.prog 233 #[.pointer (some ⟨p, 0, none⟩), x] H fun r H' => r = .tuple #[.int .i64 d.length, .nilIface] ∧ ∃ k', WS B ob wr bd k' (some p) (l ++ d) H' ∧ Frm (ob :: k.toList) H H' ∧ (k' = k ∨ ∃ g, k' = some g ∧ H.size ≤ g) := by
  apply s212
  simp only [c212, Q0, Q1, Q2, Q3, Q4, Q5, Q6, Q7, Q8, Q9, Qa, Qb, Qc, Qd, Qe, Qf, Qg, Qh, Qi, Qj, cellH_of (h.pt p rfl), cellH_of h.wr_]
  refine invoke_of 223 meth58 body209 ?_
  refine (bufWrite_ok h.buf hx hxb hlen).mono ?_
  rintro r H1 ⟨rfl, k', hb, f1, hk⟩
  simp only [Q0, Q1, Q2, Q3, Q4, Q5, Q6, Q7, Q8, Q9, Qa, Qb, Qc, Qd, Qe, Qf, Qg, Qh, Qi, Qj]
  refine Join_direct ?_
  simp only [nilV2_neq_nil, Q0, Q1, Q2, Q3, Q4, Q5, Q6, Q7, Q8, Q9, Qa, Qb, Qc, Qd, Qe, Qf, Qg, Qh, Qi, Qj]
  exact ⟨trivial, k', h.wrote hb f1 hk hB, f1, hk⟩
theorem closePart_ok {B ob wr p : Nat} {bd l : List UInt8} {k : Option Nat} {H : Heap} (h : WS B ob wr bd k (some p) l H) :
    CallsH Tryz.prog 42 #[.pointer (some ⟨p, 0, none⟩)] H fun r H' => r = .nilIface ∧ BufAt ob k l H' ∧ WrAt wr (.iface 56 (.pointer (some ⟨ob, 0, none⟩))) bd (lastP (some p)) H' ∧ Frm [p] H H' ∧ H'.size = H.size := by
  obtain ⟨n1, n2, n3, n4⟩ := h.ne
  obtain ⟨m1, m2, m3⟩ := n2 p rfl
  have hp := h.pt p rfl
  apply s61
  simp only [c61, Q0, Q1, Q2, Q3, Q4, Q5, Q6, Q7, Q8, Q9, Qa, Qb, Qc, Qd, Qe, Qf, Qg, Qh, Qi, Qj]
  refine Store_of hp (by simp) rfl fun H1 hp1 f1 z1 => ?_
  simp only [Qt, Qu, Qv] at hp1
  simp only [Q0, Q1, Q2, Q3, Q4, Q5, Q6, Q7, Q8, Q9, Qa, Qb, Qc, Qd, Qe, Qf, Qg, Qh, Qi, Qj, cellH_of hp1]
  exact ⟨trivial, h.buf.frm f1 (by rw [List.mem_singleton]; exact m1.symm) (fun g hg => by rw [List.mem_singleton]; rintro rfl; exact m3 hg), f1.get h.wr_ (by rw [List.mem_singleton]; exact m2.symm), f1, z1⟩
theorem close_ok {B ob wr : Nat} {bd l : List UInt8} {k last : Option Nat} {H : Heap} (h : WS B ob wr bd k last l H) (hl : l.length + bd.length + 8 < 2 ^ 40) :
    CallsH Tryz.prog 25 #[.pointer (some ⟨wr, 0, none⟩)] H fun x H' => x = .nilIface ∧ ∃ k', BufAt ob k' (l ++ ([13, 10, 45, 45] ++ bd ++ [45, 45, 13, 10])) H' ∧ Frm (WS.ids ob wr k last) H H' := by
  obtain ⟨n1, n2, n3, n4⟩ := h.ne
  cases last with
  | none =>
    refine (close_nil h.wr_ h.buf hl).mono ?_
    rintro x H' ⟨rfl, k', h1, f, _⟩
    exact ⟨rfl, k', h1, f.mono WS.sub⟩
  | some p =>
    apply s35
    unfold c35
    refine ⟨fun _ H1 => BufAt ob k l H1 ∧ WrAt wr (.iface 56 (.pointer (some ⟨ob, 0, none⟩))) bd (.pointer none) H1 ∧ Frm (WS.ids ob wr k (some p)) H H1, ?_, ?_⟩
    · simp only [Q0, Q1, Q2, Q3, Q4, Q5, Q6, Q7, Q8, Q9, Qa, Qb, Qc, Qd, Qe, Qf, Qg, Qh, Qi, Qj, cellH_of h.wr_, lastP, Option.map_some, nilV2_neq_ptr, Option.isNone_some, Bool.not_false]
      refine (closePart_ok h).mono ?_
      rintro x H1 ⟨rfl, hb1, hw1, f1, z1⟩
      simp only [nilV2_neq_nil, Q0, Q1, Q2, Q3, Q4, Q5, Q6, Q7, Q8, Q9, Qa, Qb, Qc, Qd, Qe, Qf, Qg, Qh, Qi, Qj]
      refine Store_of hw1 (by simp) rfl fun H2 hw2 f2 z2 => ?_
      simp only [Qt, Qu, Qv] at hw2
      exact ⟨hb1.frm f2 (by simpa using n1) (fun g hg => by rw [List.mem_singleton]; rintro rfl; exact n3 hg), hw2, (f1.mono (by simp [WS.ids])).trans (f2.mono (by simp [WS.ids]))⟩
    · rintro _ H1 ⟨hb1, hw1, f1⟩
      have := close_core (R := fun x H' => x = .nilIface ∧ ∃ k', BufAt ob k' (l ++ ([13, 10, 45, 45] ++ bd ++ [45, 45, 13, 10])) H' ∧ Frm (WS.ids ob wr k (some p)) H H') hw1 hb1 hl fun k' H' h1 h2 h3 => ⟨rfl, k', h1, f1.trans (h2.mono WS.sub)⟩
      simp only [Q0, Q1, Q2, Q3, Q4, Q5, Q6, Q7, Q8, Q9, Qa, Qb, Qc, Qd, Qe, Qf, Qg, Qh, Qi, Qj, cellH_of hw1] at this ⊢
      exact this
theorem ioCopy_ok {b ob : Nat} {k ko : Option Nat} {l lo : List UInt8} {H : Heap} (h : BufAt b k l H) (ho : BufAt ob ko lo H) (hne : b ≠ ob) (hb1 : ko ≠ some b) (hb2 : k ≠ some ob) (hkk : ∀ g, k = some g → ko ≠ some g) (hl : l ≠ []) (hlen : lo.length + l.length < 2 ^ 40) :
    CallsH Tryz.prog 57 #[.iface 56 (.pointer (some ⟨ob, 0, none⟩)), .iface 56 (.pointer (some ⟨b, 0, none⟩))] H fun x H' => x = .tuple #[.int .i64 l.length, .nilIface] ∧ ∃ k', BufAt ob k' (lo ++ l) H' ∧ Frm (b :: ob :: ko.toList) H H' ∧ (k' = ko ∨ ∃ g, k' = some g ∧ H.size ≤ g) := by
  apply s65
  unfold c65
  apply s88
  unfold c88
  rw [tassertW]
  simp only [Q0, Q1, Q2, Q3, Q4, Q5, Q6, Q7, Q8, Q9, Qa, Qb, Qc, Qd, Qe, Qf, Qg, Qh, Qi, Qj]
  refine invoke_of 224 meth58W body210 ?_
  refine (writeTo_ok h ho hne hb1 hb2 hkk hl hlen).mono ?_
  rintro x H' ⟨rfl, k', h1, f1, hk⟩
  simp only [Q0, Q1, Q2, Q3, Q4, Q5, Q6, Q7, Q8, Q9, Qa, Qb, Qc, Qd, Qe, Qf, Qg, Qh, Qi, Qj]
  exact ⟨trivial, k', h1, f1, hk⟩
end Go.Cps
namespace Go.Cps
open Go Go.Proofs Go.Shelf Go.RowKit Go.Maps Go.Sort
set_option maxRecDepth 100000
def layKeys_ren : Ren := ⟨fun x => match x with | 7 => 56 | 10 => 89 | n => n, fun x => match x with | 23 => 82 | 26 => 9 | 3 => 112 | 28 => 116 | 0 => 0 | 27 => 115 | 33 => 33 | 4 => 4 | n => n, fun n => n⟩
theorem layKeys : SlLaysZ.n7 Tryz.prog layKeys_ren :=
  { mixed := by kernel_rfl,
    f7 := ⟨"maps.Keys[loop.example/pub-mailparts/pub/textproto.MIMEHeader,string,[]string]", by kernel_rfl, by kernel_rfl⟩,
    f10 := ⟨"maps.Keys[loop.example/pub-mailparts/pub/textproto.MIMEHeader,string,[]string]$1", by kernel_rfl, by kernel_rfl⟩,
    t0 := by kernel_rfl,
    a0 := fun _ => by kernel_rfl,
    z0 := fun _ => by kernel_rfl,
    v0 := fun _ => by kernel_rfl,
    t4 := by kernel_rfl,
    a4 := fun _ => by kernel_rfl,
    z4 := fun _ => by kernel_rfl,
    v4 := fun _ => by kernel_rfl,
    t23 := by kernel_rfl,
    a23 := fun _ => by kernel_rfl,
    z23 := fun _ => by kernel_rfl,
    v23 := fun _ => by kernel_rfl,
    t26 := by kernel_rfl,
    a26 := fun _ => by kernel_rfl,
    z26 := fun _ => by kernel_rfl,
    v26 := fun _ => by kernel_rfl,
    t27 := by kernel_rfl,
    a27 := fun _ => by kernel_rfl,
    z27 := fun _ => by kernel_rfl,
    v27 := fun _ => by kernel_rfl,
    t28 := by kernel_rfl,
    a28 := fun _ => by kernel_rfl,
    z28 := fun _ => by kernel_rfl,
    v28 := fun _ => by kernel_rfl,
    t33 := by kernel_rfl,
    a33 := fun _ => by kernel_rfl,
    z33 := fun _ => by kernel_rfl,
    v33 := fun _ => by kernel_rfl }
def laySorted_ren : Ren := ⟨fun x => match x with | 6 => 55 | 8 => 87 | 9 => 88 | 11 => 118 | 13 => 120 | 12 => 119 | 23 => 149 | 24 => 150 | 14 => 140 | 15 => 141 | 16 => 142 | 17 => 143 | 18 => 144 | 19 => 145 | 20 => 146 | 21 => 147 | 22 => 148 | 25 => 162 | 26 => 163 | 27 => 164 | 28 => 165 | 29 => 166 | 30 => 167 | 31 => 183 | n => n, fun x => match x with | 26 => 9 | 28 => 116 | 24 => 112 | 0 => 0 | 3 => 3 | 37 => 177 | 48 => 173 | 50 => 180 | 4 => 4 | 40 => 228 | 39 => 227 | 45 => 148 | 5 => 5 | 9 => 9 | 51 => 253 | 55 => 257 | 57 => 271 | 58 => 272 | 33 => 33 | n => n, fun n => n⟩
theorem laySorted : SlLaysZ.n6 Tryz.prog laySorted_ren :=
  { mixed := by kernel_rfl,
    f6 := ⟨"slices.Sorted[string]", by kernel_rfl, by kernel_rfl⟩,
    f8 := ⟨"slices.Collect[string]", by kernel_rfl, by kernel_rfl⟩,
    f11 := ⟨"slices.AppendSeq[[]string,string]", by kernel_rfl, by kernel_rfl⟩,
    t0 := by kernel_rfl,
    a0 := fun _ => by kernel_rfl,
    z0 := fun _ => by kernel_rfl,
    v0 := fun _ => by kernel_rfl,
    t24 := by kernel_rfl,
    a24 := fun _ => by kernel_rfl,
    z24 := fun _ => by kernel_rfl,
    v24 := fun _ => by kernel_rfl,
    t26 := by kernel_rfl,
    a26 := fun _ => by kernel_rfl,
    z26 := fun _ => by kernel_rfl,
    v26 := fun _ => by kernel_rfl,
    t28 := by kernel_rfl,
    a28 := fun _ => by kernel_rfl,
    z28 := fun _ => by kernel_rfl,
    v28 := fun _ => by kernel_rfl,
    i26 := by kernel_rfl }
def laySort_ren : Ren := ⟨fun x => match x with | 6 => 88 | 8 => 120 | 9 => 119 | 19 => 149 | 20 => 150 | 21 => 140 | 22 => 141 | 23 => 142 | 24 => 143 | 25 => 144 | 26 => 145 | 27 => 146 | 28 => 147 | 29 => 148 | 36 => 162 | 31 => 163 | 32 => 164 | 37 => 165 | 38 => 166 | 39 => 167 | 41 => 183 | n => n, fun x => match x with | 27 => 112 | 29 => 9 | 3 => 3 | 32 => 177 | 26 => 112 | 0 => 0 | 44 => 173 | 46 => 180 | 4 => 4 | 36 => 228 | 35 => 227 | 41 => 148 | 5 => 5 | 9 => 9 | 53 => 253 | 57 => 257 | 63 => 271 | 64 => 272 | n => n, fun n => n⟩
theorem laySort : SlLaysM.n6 Tryz.prog laySort_ren :=
  { mixed := by kernel_rfl,
    f6 := ⟨"slices.Sort[[]string,string]", by kernel_rfl, by kernel_rfl⟩,
    f8 := by kernel_rfl,
    f9 := ⟨"slices.pdqsortOrdered[string]", by kernel_rfl, by kernel_rfl⟩,
    f19 := by kernel_rfl,
    f20 := by kernel_rfl,
    f21 := ⟨"slices.insertionSortOrdered[string]", by kernel_rfl, by kernel_rfl⟩,
    f22 := ⟨"slices.heapSortOrdered[string]", by kernel_rfl, by kernel_rfl⟩,
    f23 := ⟨"slices.breakPatternsOrdered[string]", by kernel_rfl, by kernel_rfl⟩,
    f24 := ⟨"slices.choosePivotOrdered[string]", by kernel_rfl, by kernel_rfl⟩,
    f25 := ⟨"slices.reverseRangeOrdered[string]", by kernel_rfl, by kernel_rfl⟩,
    f26 := ⟨"slices.partialInsertionSortOrdered[string]", by kernel_rfl, by kernel_rfl⟩,
    f27 := ⟨"cmp.Less[string]", by kernel_rfl, by kernel_rfl⟩,
    f28 := ⟨"slices.partitionEqualOrdered[string]", by kernel_rfl, by kernel_rfl⟩,
    f29 := ⟨"slices.partitionOrdered[string]", by kernel_rfl, by kernel_rfl⟩,
    f31 := by kernel_rfl,
    f32 := by kernel_rfl,
    f36 := ⟨"slices.siftDownOrdered[string]", by kernel_rfl, by kernel_rfl⟩,
    f37 := ⟨"slices.medianAdjacentOrdered[string]", by kernel_rfl, by kernel_rfl⟩,
    f38 := ⟨"slices.medianOrdered[string]", by kernel_rfl, by kernel_rfl⟩,
    f39 := ⟨"cmp.isNaN[string]", by kernel_rfl, by kernel_rfl⟩,
    f41 := ⟨"slices.order2Ordered[string]", by kernel_rfl, by kernel_rfl⟩,
    t0 := by kernel_rfl,
    a0 := fun _ => by kernel_rfl,
    z0 := fun _ => by kernel_rfl,
    v0 := fun _ => by kernel_rfl,
    t3 := by kernel_rfl,
    a3 := fun _ => by kernel_rfl,
    z3 := fun _ => by kernel_rfl,
    v3 := fun _ => by kernel_rfl,
    t4 := by kernel_rfl,
    a4 := fun _ => by kernel_rfl,
    z4 := fun _ => by kernel_rfl,
    v4 := fun _ => by kernel_rfl,
    t5 := by kernel_rfl,
    a5 := fun _ => by kernel_rfl,
    z5 := fun _ => by kernel_rfl,
    v5 := fun _ => by kernel_rfl,
    t9 := by kernel_rfl,
    a9 := fun _ => by kernel_rfl,
    z9 := fun _ => by kernel_rfl,
    v9 := fun _ => by kernel_rfl,
    t26 := by kernel_rfl,
    a26 := fun _ => by kernel_rfl,
    z26 := fun _ => by kernel_rfl,
    v26 := fun _ => by kernel_rfl,
    t27 := by kernel_rfl,
    a27 := fun _ => by kernel_rfl,
    z27 := fun _ => by kernel_rfl,
    v27 := fun _ => by kernel_rfl,
    t29 := by kernel_rfl,
    a29 := fun _ => by kernel_rfl,
    z29 := fun _ => by kernel_rfl,
    v29 := fun _ => by kernel_rfl,
    t32 := by kernel_rfl,
    a32 := fun _ => by kernel_rfl,
    z32 := fun _ => by kernel_rfl,
    v32 := fun _ => by kernel_rfl,
    t35 := by kernel_rfl,
    a35 := fun _ => by kernel_rfl,
    z35 := fun _ => by kernel_rfl,
    v35 := fun _ => by kernel_rfl,
    t36 := by kernel_rfl,
    a36 := fun _ => by kernel_rfl,
    z36 := fun _ => by kernel_rfl,
    v36 := fun _ => by kernel_rfl,
    t41 := by kernel_rfl,
    a41 := fun _ => by kernel_rfl,
    z41 := fun _ => by kernel_rfl,
    v41 := fun _ => by kernel_rfl,
    t44 := by kernel_rfl,
    a44 := fun _ => by kernel_rfl,
    z44 := fun _ => by kernel_rfl,
    v44 := fun _ => by kernel_rfl,
    t46 := by kernel_rfl,
    a46 := fun _ => by kernel_rfl,
    z46 := fun _ => by kernel_rfl,
    v46 := fun _ => by kernel_rfl,
    t53 := by kernel_rfl,
    a53 := fun _ => by kernel_rfl,
    z53 := fun _ => by kernel_rfl,
    v53 := fun _ => by kernel_rfl,
    t57 := by kernel_rfl,
    a57 := fun _ => by kernel_rfl,
    z57 := fun _ => by kernel_rfl,
    v57 := fun _ => by kernel_rfl,
    t63 := by kernel_rfl,
    a63 := fun _ => by kernel_rfl,
    z63 := fun _ => by kernel_rfl,
    v63 := fun _ => by kernel_rfl,
    t64 := by kernel_rfl,
    a64 := fun _ => by kernel_rfl,
    z64 := fun _ => by kernel_rfl,
    v64 := fun _ => by kernel_rfl }
theorem sortsIn63 (m : Nat) : AnyZ.SortsIn Tryz.prog laySorted_ren Fence.wide m :=
  ⟨fun blk off cap ss W hH hblk hsz => callsIn_wide.2 (AnyM.slices_Sort_string laySort blk off cap ss W hH hblk hsz),
   fun p cap W => callsIn_wide.2 (AnyM.slices_Sort_string_none laySort p cap W)⟩
theorem keys64 (mb : Option Nat) (W : World) : CallsIn Fence.wide 5 Tryz.prog 56 #[.map mb] W fun e w' => e = .returned (.func (.func 89) #[] #[.pointer (some ⟨W.heap.size, 0, none⟩)]) ∧ w' = W.alloc (.cells #[.map mb] 82) :=
  AnyZ.keys_in layKeys Fence.wide 5 trivial rfl mb W
def rAny (_ : Value) : Option (DataW Unit × List MemPlace) := some (.nil, [])
theorem strs_inj : ∀ {a b : List (List UInt8)}, True → a.map strVal = b.map strVal → a = b
  | [], [], _, _ => rfl
  | [], _ :: _, _, h => by simp at h
  | _ :: _, [], _, h => by simp at h
  | x :: a, y :: b, _, h => by
    simp only [List.map_cons, List.cons.injEq] at h
    have hxy : x = y := by simpa [strVal] using h.1
    rw [hxy, strs_inj trivial h.2]
theorem key9 {l : List UInt8} (h : l.length < 2 ^ 40) : Go.keyOf Tryz.prog 9 (strVal l) = some (.string l) := by
  have hs : (⟨l.toArray⟩ : ByteArray).size ≤ maxLen := by rw [bstr_size]; unfold maxLen; omega
  simp [Go.keyOf, mapKey, und9, strVal, hs]
theorem ents_own {H : Heap} {m : Nat} {E : List (List UInt8 × Value)} (h : MapAt H m E) (hk : (E.map (·.1)).Nodup) (hl : ∀ e ∈ E, e.1.length < 2 ^ 40) (hn : E.length < 2 ^ 30) (w : World) (hw : w.heap = H) :
    ∃ D0 : DataW Unit, w.ownsMap Tryz.prog 9 rAny m E.length D0 ∧ (strKeys D0).Perm (E.map (·.1)) ∧ Maps.size D0 = E.length := by
  subst hw
  obtain ⟨es, c, h1, h2, h3, h4⟩ := h
  have hlen : es.size = E.length := by
    have := congrArg List.length h2
    simpa [entsOf] using this
  have hkeys : es.toList.map (·.key) = E.map fun e => strVal e.1 := by
    have := congrArg (List.map (·.1)) h2
    simpa [entsOf, Function.comp_def] using this
  have hrd : ∀ x ∈ es.toList, ∃ e ∈ E, x.key = strVal e.1 ∧ Go.WideElems.rd Tryz.prog 9 rAny x = some (.string e.1, .nil) := fun x hx => by
    have : x.key ∈ E.map fun e => strVal e.1 := by rw [← hkeys]; exact List.mem_map.2 ⟨x, hx, rfl⟩
    obtain ⟨e, he, hke⟩ := List.mem_map.1 this
    refine ⟨e, he, hke.symm, ?_⟩
    simp [Go.WideElems.rd, ← hke, key9 (hl e he), rAny]
  have hinj : (es.toList.map (·.key)).Nodup := by
    rw [hkeys]
    have := List.Pairwise.map (f := fun l : List UInt8 => strVal l) (R := (· ≠ ·)) (S := (· ≠ ·)) (fun a b hab he => hab (by simpa [strVal] using he)) hk
    rw [List.map_map] at this
    exact this
  refine ⟨_, ⟨es, c, h1, ⟨by unfold maxLen; omega, ⟨h4, h3, hinj⟩, fun x hx => ?_⟩, by omega, rfl⟩, ?_, ?_⟩
  · obtain ⟨e, _, _, hr⟩ := hrd x hx
    exact ⟨_, hr⟩
  · have hp := Go.WideShapes.sorted_perm (es.toList.map (Go.WideElems.rg Tryz.prog 9 rAny))
    have hp2 := hp.map (fun p => strOf p.1)
    have e1 : (es.toList.map (Go.WideElems.rg Tryz.prog 9 rAny)).map (fun p => strOf p.1) = E.map (·.1) := by
      have e2 : (es.toList.map (Go.WideElems.rg Tryz.prog 9 rAny)).map (fun p => Value.string ⟨(strOf p.1).toArray⟩) = es.toList.map (·.key) := by
        rw [List.map_map]
        refine List.map_congr_left fun x hx => ?_
        obtain ⟨e, _, hke, hr⟩ := hrd x hx
        simp only [Function.comp_apply, Go.WideElems.rg_of hr, strOf, hke, strVal]
      have e3 : ((es.toList.map (Go.WideElems.rg Tryz.prog 9 rAny)).map (fun p => strOf p.1)).map strVal = (E.map (·.1)).map strVal := by
        rw [hkeys] at e2
        rw [List.map_map, List.map_map (f := fun e : List UInt8 × Value => e.1)]
        exact e2
      exact strs_inj trivial e3
    rw [e1] at hp2
    exact hp2
  · have hp := Go.WideShapes.sorted_perm (es.toList.map (Go.WideElems.rg Tryz.prog 9 rAny))
    show List.length _ = _
    rw [hp.length_eq]
    simpa using hlen
theorem sorted_eq {ss ks : List (List UInt8)} (h : ss.Perm ks) (hk : ks.Pairwise (· < ·)) : (ss.mergeSort fun x y => decide (x ≤ y)) = ks := by
  refine List.Perm.eq_of_pairwise (le := fun a b : List UInt8 => a ≤ b) (fun a b _ _ h1 h2 => List.le_antisymm h1 h2) ?_ (hk.imp fun h => List.le_of_lt h) ((List.mergeSort_perm _ _).trans h)
  have := List.pairwise_mergeSort (le := fun x y : List UInt8 => decide (x ≤ y)) (fun a b c h1 h2 => by simp only [decide_eq_true_eq] at *; exact List.le_trans h1 h2) (fun a b => by simpa using List.le_total a b) ss
  exact this.imp fun h => by simpa using h
theorem ownsRow_strs {w : World} {base : Nat} {D : List Nat} {v : Value} {l : List (List UInt8)} (h : w.ownsRow base 9 1 v l.length (l.map encStr)) (hD : ∀ x ∈ D, x < base) : StrsV D w.heap v l := by
  obtain ⟨_, ⟨rfl, h0⟩ | ⟨g, cap, cur, rfl, hbase, hg, h1, _, h2, h3⟩⟩ := h
  · exact .inr ⟨_, rfl, List.eq_nil_of_length_eq_zero h0⟩
  · refine .inl ⟨g, 0, cap, rfl, h1, fun hm => by have := hD g hm; omega, lt_of_some hg, fun j hj => ⟨[strVal l[j]], rfl, rfl, fun i hi => ?_⟩⟩
    have hi0 : i = 0 := by omega
    subst hi0
    rw [cellH_of hg]
    have : (cur.toList.take (l.length * 1))[j]? = (l.map encStr)[j]? := by rw [h3]
    rw [List.getElem?_take, if_pos (by omega), List.getElem?_map, List.getElem?_eq_getElem hj, Array.getElem?_toList] at this
    rw [show 0 + (j * 1 + 0) = j by omega, this]
    rfl
theorem sorted63 (n : Nat) (w : World) (b : Nat) (S : List (List UInt8) → Prop) (N : Nat) (hN : N ≤ maxLen) (hNb : N * 16 ≤ 140737488355328) (hseq : SeqGives Fence.wide 2 Tryz.prog 89 #[.pointer (some ⟨b, 0, none⟩)] encStr S N w) :
    CallsIn Fence.wide 5 Tryz.prog 55 #[.func (.func 89) #[] #[.pointer (some ⟨b, 0, none⟩)]] w fun e w' => ∃ (v : Value) (ss : List (List UInt8)), e = .returned v ∧ S ss ∧ w'.ownsRow w.heap.size 9 1 v ss.length ((ss.mergeSort (fun x y => decide (x ≤ y))).map encStr) ∧ (v = .slice none 0 0 ↔ ss = []) ∧ Go.RowKit.Below w.heap.size w w' :=
  AnyZ.sorted_in laySorted Fence.wide 5 trivial trivial trivial trivial rfl (by omega) (sortsIn63 _) (enters_of Tryz.func88 (by kernel_rfl) rfl) 89 #[.pointer (some ⟨b, 0, none⟩)] trivial (enters_of Tryz.func89 (by kernel_rfl) rfl) S N hN hNb w hseq
theorem keysSorted_ok {H : Heap} {m : Nat} {E : List (List UInt8 × Value)} {ks : List (List UInt8)} {K : Value → Heap → Prop} (hE : MapAt H m E) (hks : (E.map (·.1)).Perm ks) (hs : ks.Pairwise (· < ·)) (hl : ∀ e ∈ E, e.1.length < 2 ^ 40) (hn : E.length < 2 ^ 30) {D : List Nat} (hD : ∀ x ∈ D, x < H.size)
    (hK : ∀ v H', StrsV D H' v ks → Frm [] H H' → K v H') :
    CallsH Tryz.prog 56 #[.map (some m)] H fun x48 H => CallsH Tryz.prog 55 #[x48] H K := by
  have hnd : (E.map (·.1)).Nodup := hks.symm.nodup (hs.imp fun h e => by rw [e] at h; exact List.lt_irrefl _ h)
  intro w hw
  refine ((callsIn_wide (n := 5)).1 (keys64 (some m) w)).mono ?_
  rintro e w1 ⟨rfl, rfl⟩
  have hh1 : (w.alloc (.cells #[.map (some m)] 82)).heap = w.heap.push (.cells #[.map (some m)] 82 (0, 0)) := rfl
  have f1 : Frm [] H (w.alloc (.cells #[.map (some m)] 82)).heap := by rw [hh1, hw]; exact Frm.push _ _ _
  refine ⟨_, rfl, ⟨rfl, rfl, rfl⟩, ?_⟩
  generalize hw1 : w.alloc (.cells #[.map (some m)] 82) = w1 at *
  intro w2 hw2
  have hE2 : MapAt w2.heap m E := by rw [hw2]; exact hE.frm f1 (by simp)
  obtain ⟨D0, hown, hperm, hsize⟩ := ents_own hE2 hnd hl hn w2 rfl
  have hcell : w2.cell? ⟨w.heap.size, 0, none⟩ = some (.map (some m)) := by
    rw [cellH_eq, hw2, hh1, cellH_of (push_same _ _)]
    rfl
  have hlt : w.heap.size < w2.heap.size := by rw [hw2, hh1]; simp
  have hseq : SeqGives Fence.wide 2 Tryz.prog 89 #[.pointer (some ⟨w.heap.size, 0, none⟩)] encStr (fun ss => ss.Perm (strKeys D0)) (Maps.size D0) w2 :=
    AnyZ.keys_gives (ρ := layKeys_ren) { layKeys with } Fence.wide _ trivial rfl (by omega) w.heap.size m E.length D0 w2 hlt hcell hown
  refine ((callsIn_wide (n := 5)).1 (sorted63 5 w2 w.heap.size _ _ (by rw [hsize]; unfold maxLen; omega) (by rw [hsize]; omega) hseq)).mono ?_
  rintro e w3 ⟨v, ss, rfl, hS, hrow, _, hb⟩
  obtain ⟨hsame, hfr⟩ := below_frm rfl hb
  have hsk : ss.Perm ks := (hS.trans hperm).trans hks
  rw [sorted_eq hsk hs, hsk.length_eq] at hrow
  refine ⟨v, rfl, hsame, hK v _ (ownsRow_strs hrow (fun x hx => by have := hD x hx; rw [← hw] at this; omega)) (f1.trans ?_)⟩
  rw [← hw2]
  exact hfr
end Go.Cps
