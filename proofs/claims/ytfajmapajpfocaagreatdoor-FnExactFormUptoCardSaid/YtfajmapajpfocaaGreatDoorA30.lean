/-
  A part of the proof (its texts: L63, L72, L65, L73): each text says below what it proves.
  Conditions: each contract's own.
-/
import Derived.Test.YtfajmapajpfocaaGreatDoorA6
import Derived.Test.YtfajmapajpfocaaGreatDoorA22
import Derived.Test.YtfajmapajpfocaaGreatDoorA25
import Derived.Test.YtfajmapajpfocaaGreatDoorA28
import Derived.Test.YtfajmapajpfocaaGreatDoorA29
set_option linter.all false
/-
  impl.Parts of a body of parts, whole or cut in the last one.
  Conditions: the parts are good ones.
-/
namespace Go.Cps
open Go Go.Proofs

theorem tail_pre (bd : List UInt8) (cut : Option PartIn) (ps : List PartIn) : nldOf bd ++ tailT bd cut ps = [13, 10] ++ (dashOf bd ++ tailT bd cut ps) := by simp [nldOf, dashOf]

theorem partsLoop_ok {S : Stk} {s : St} {mr tb : Nat} {m : MRf} {bd : List UInt8} {B : Nat} {ea ua : Addr} {H : Heap} {cut : Option PartIn} {ps : List PartIn} (h : PR S mr tb m bd B ea ua s H) (hr : s.rest S = wholeT bd cut ps) (hm : m.parts = 0) (hc : m.cur = .pointer none) (hgb : GoodBd bd)
    (hps : ∀ p ∈ ps, GoodIn bd p) (hcut : ∀ p, cut = some p → GoodIn bd p) (hn : ps.length < 2 ^ 34) :
    CallsH Tryz.prog 36 #[.func (.func 39) #[.pointer (some ⟨mr, 0, none⟩)] #[]] H fun x H' => ∃ y rs, x = .tuple #[y, .int .i64 (if cut.isSome then 2 else 1)] ∧ PartsV [] H' y rs ∧ Frm (mr :: S.ids) H H' ∧ (match cut with | none => rs = ps.map resOf | some p => ∃ d, d <+: p.2 ∧ rs = ps.map resOf ++ [(sortHs (hdrOf p.1), d)]) := by
  apply s36
  unfold c36
  have hbr := h.bdr
  have h5 := h.tbf
  have hlow : (∀ x ∈ mr :: tb :: S.ids, x < H.size) ∧ (∀ x, blk S.v = some x → x < H.size) ∧ B ≤ H.size := ⟨h.lt, h.vlt, h.base⟩
  refine ⟨fun μ vs H1 => ∃ done todo k out X m, ps = done ++ todo ∧ μ = todo.length ∧ vs = [out] ∧ OwnS 2 39 PartR (X ++ mr :: S.ids) H1 k out (done.map resOf) ∧
      Closes S mr tb m bd B ea ua ((if done = [] ∧ ¬ (todo = [] ∧ cut = none) then [] else [13, 10]) ++ (dashOf bd ++ tailT bd cut todo)) X H1 ∧ m.parts = done.length ∧ Frm (mr :: S.ids) H H1 ∧ (∀ g, k = some g → H.size ≤ g) ∧ ∀ x ∈ X, H.size ≤ x ∧ x < H1.size,
    ⟨_, [], ps, none, _, [], m, rfl, rfl, rfl, ⟨rfl, rfl⟩, .inl ⟨hc, s, h, ?_⟩, by simpa using hm, Frm.refl _ _, by simp, by simp⟩, ?_⟩
  · rw [hr, wholeT]
    by_cases he : ps = [] ∧ cut = none
    · rw [if_pos he, if_neg (by simp [he]), tail_pre]
    · rw [if_neg he, if_pos ⟨rfl, he⟩]; rfl
  clear h hr hm hc
  rintro μ vs H1 ⟨done, todo, k, out, X, m, hdt, rfl, rfl, hown, hcl, hnp, hfr, hkB, hXB⟩
  have hdl : done.length + todo.length = ps.length := by rw [hdt]; simp
  simp only [nth_zero]
  cases todo with
  | nil =>
    rw [List.append_nil] at hdt
    obtain rfl : done = ps := hdt.symm
    cases cut with
    | none =>
      rw [if_neg (by simp)] at hcl
      refine ⟨39, #[.pointer (some ⟨mr, 0, none⟩)], #[], rfl, bodyd39, ?_⟩
      apply s39
      unfold c39
      apply s72
      unfold c72
      refine (nextPart_end (by simpa [dashOf, tailT] using hcl) hgb).mono ?_
      rintro x H2 ⟨rfl, f2, s2, h2⟩
      simp only [Fld_ptr, add_mk, Nat.zero_add, List.getElem?_toArray, List.getElem?_cons_succ, List.getElem?_cons_zero, Get_some, Br_true, Br_false, nth_zero, nth_one, nth_two, extractV_tuple, fieldAddrV_ptr, nilV_ptr, load1V_ptr, pickV_bool, unV_not, lenV_slice, capV_slice, nilV2_neq_iface]
      refine (state_end h2.er.eof).mono ?_
      rintro x H3 ⟨rfl, rfl⟩
      have hown2 := hown.frm partR_ok f2 (fun x hx => ⟨.inl (by
        simp only [List.mem_append, List.mem_cons] at hx ⊢
        rcases hx with h | h
        · exact .inl h
        · exact .inr (.inr h)), fun e => (hown.lt x e).2 (by
        simp only [List.mem_append, List.mem_cons] at hx ⊢
        rcases hx with h | h
        · exact .inl h
        · exact .inr (.inr h))⟩)
      refine ⟨out, _, rfl, (hown2.slV partR_ok).sub partR_ok (by simp), hfr.up f2 (fun x hx => ?_), rfl⟩
      rcases List.mem_append.1 hx with hx | hx
      · exact .inr (hXB x hx).1
      · exact .inl (by simp [hx])
    | some p =>
      refine partStep_ok (ea := ea) (ua := ua) (mode := none) (n := done.length) h5 hgb hbr hown ?_ hnp hfr hkB hXB hlow (hcut p rfl) (by simp) (by omega) (by simp; omega) fun k' out' pt m' d H' g1 g2 g3 g4 g5 g6 g7 g8 => ?_
      · by_cases h0 : done = []
        · subst h0
          simpa [tailT, modeTail] using hcl
        · have h1 : ¬ done.length = 0 := fun e => h0 (List.eq_nil_of_length_eq_zero e)
          rw [if_neg h1]
          rw [if_neg (by simp [h0])] at hcl
          simpa [tailT, modeTail] using hcl
      · rw [if_neg (by simp)]
        exact ⟨out', _, rfl, (g1.slV partR_ok).sub partR_ok (by simp), g6, d, g2, rfl⟩
  | cons p todo =>
    refine partStep_ok (ea := ea) (ua := ua) (mode := some (tailT bd cut todo)) (n := done.length) h5 hgb hbr hown ?_ hnp hfr hkB hXB hlow (hps p (by rw [hdt]; simp)) (fun t ht => by cases ht; exact tailT_full _ _ _) (by omega) (by simp; omega) fun k' out' pt m' d H' g1 g2 g3 g4 g5 g6 g7 g8 => ?_
    · by_cases h0 : done = []
      · subst h0
        simpa [tailT, modeTail] using hcl
      · have h1 : ¬ done.length = 0 := fun e => h0 (List.eq_nil_of_length_eq_zero e)
        rw [if_neg h1]
        rw [if_neg (by simp [h0])] at hcl
        simpa [tailT, modeTail] using hcl
    · rw [if_pos (by rfl)]
      have hd := g3 rfl
      subst hd
      refine ⟨todo.length, by simp, done ++ [p], todo, k', out', [pt], m', by rw [hdt]; simp, rfl, rfl, ?_, ?_, ?_, g6, g7, ?_⟩
      · rw [List.map_append]; exact g1
      · rw [if_neg (by simp), ← tail_pre]; exact g4 _ rfl
      · rw [g5]; simp
      · intro x hx; rw [List.mem_singleton] at hx; subst hx; exact g8

theorem parts_ok {bd : List UInt8} {v : Value} {B : Nat} {ea ua : Addr} {H : Heap} {cut : Option PartIn} {ps : List PartIn} (hv : IsBytes H v (wholeT bd cut ps)) (hE : Errs B ea ua H) (hB : B ≤ H.size) (hgb : GoodBd bd) (hbr : BdR bd) (hl : (wholeT bd cut ps).length < 2 ^ 39)
    (hps : ∀ p ∈ ps, GoodIn bd p) (hcut : ∀ p, cut = some p → GoodIn bd p) (hn : ps.length < 2 ^ 34) :
    CallsH Tryz.prog 11 #[v, strVal bd] H fun x H' => ∃ y rs, x = .tuple #[y, .int .i64 (if cut.isSome then 2 else 1)] ∧ PartsV [] H' y rs ∧ Frm [] H H' ∧ (match cut with | none => rs = ps.map resOf | some p => ∃ d, d <+: p.2 ∧ rs = ps.map resOf ++ [(sortHs (hdrOf p.1), d)]) := by
  have hlen := hgb.len
  apply s11
  unfold c11
  refine (source_ok hv (by omega)).mono ?_
  rintro x H1 ⟨br, u, rfl, hbr1, hu, f1, hge, hvb, hbs⟩
  have h0 : 0 < H.size := by obtain ⟨t, f, h⟩ := hE.eof; exact lt_of_some h
  refine (newReader_ok hbr1 hu (fun x hx => ⟨(hvb x hx).2.1, (hvb x hx).2.2⟩) (hE.eof.frm f1 (by simp)) (by omega) (by omega) (by omega)).mono ?_
  rintro x H2 ⟨S, s, mr, tb, m, rfl, hrd, hmr, hrest, herr, hparts, hcur, hEt, hEv, f2, hge2, rfl, rfl, h5, htb⟩
  have f12 : Frm [] H H2 := f1.trans f2
  have hge3 : ∀ y ∈ mr :: tb :: S.ids, H.size ≤ y := fun y hy => by
    by_cases hyb : y = S.br
    · omega
    · have := hge2 y hy hyb; have := f1.size; omega
  have hPR : PR S mr tb m bd B ea ua s H2 := ⟨hrd, hmr, hE.frm f12 (by simp), hbr, fun x hx => by have := hge3 x hx; omega, ⟨hEt, hEv⟩, h5, fun x hx => by have := (hvb x hx).2.2; have := f2.size; omega, htb, by have := f12.size; omega⟩
  refine (partsLoop_ok hPR hrest hparts hcur hgb hps hcut hn).mono ?_
  rintro x H3 ⟨y, rs, rfl, hy, f3, hrs⟩
  simp only [Fld_ptr, add_mk, Nat.zero_add, List.getElem?_toArray, List.getElem?_cons_succ, List.getElem?_cons_zero, Get_some, Br_true, Br_false, nth_zero, nth_one, nth_two, extractV_tuple, fieldAddrV_ptr, nilV_ptr, load1V_ptr, pickV_bool, unV_not, lenV_slice, capV_slice]
  refine ⟨y, rs, rfl, hy, f12.up f3 (fun x hx => .inr (hge3 x ?_)), hrs⟩
  rcases List.mem_cons.1 hx with rfl | hx
  · simp
  · simp [hx]
end Go.Cps

/-
  spec.Form.
  Conditions: printable names, short; a boundary that SetBoundary takes; the whole is short.
-/
namespace Go.Cps
open Go Go.Proofs

def fieldIn (f : FieldL) : PartIn := (linesOf (fieldHead f), f.value)
/-- what is still to write -/
def remT (bd : List UInt8) (last : Option Nat) (ps : List PartIn) : List UInt8 := match last with
  | none => wholeT bd none ps
  | some _ => nldOf bd ++ tailT bd none ps

theorem delim_none (bd : List UInt8) : delimText none bd = dashOf bd ++ [13, 10] := by simp [delimText, dashOf]
theorem delim_some (p : Nat) (bd : List UInt8) : delimText (some p) bd = nldOf bd ++ [13, 10] := by simp [delimText, nldOf]

theorem remT_cons {bd : List UInt8} {last : Option Nat} {f : FieldL} {q : Nat} {r : List PartIn} : remT bd last (fieldIn f :: r) = (delimText last bd ++ headText (fieldHead f)) ++ f.value ++ remT bd (some q) r := by
  have hp : partIn (fieldIn f) = headText (fieldHead f) ++ f.value := by simp [partIn, fieldIn, headText]
  cases last with
  | none =>
    have : wholeT bd none (fieldIn f :: r) = dashOf bd ++ tailT bd none (fieldIn f :: r) := by simp [wholeT]
    simp [remT, this, tailT, hp, delim_none]
  | some p =>
    simp [remT, tailT, hp, delim_some]
theorem remT_nil {bd : List UInt8} {last : Option Nat} : remT bd last [] = [13, 10, 45, 45] ++ bd ++ [45, 45, 13, 10] := by
  cases last <;> simp [remT, wholeT, tailT, nldOf]

theorem SlV.elem2 {α : Type} {w : Nat} {R : List Nat → Heap → α → List Value → Prop} {D : List Nat} {H H' : Heap} {v : Value} {l : List α} (h : SlV w R D H v l) (f : Frm [] H H') {j : Nat} (hj : j < l.length) :
    ∃ a vs, (∀ k : IntKind, elemAddrV w v (.int k j) = some (.pointer (some a))) ∧ loadNV w (.pointer (some a)) H' = some (.agg vs.toArray) ∧ vs.length = w ∧ R D H l[j] vs := by
  rcases h with ⟨b, o, c, rfl, h1, h2, h3, h4⟩ | ⟨_, _, rfl⟩
  · obtain ⟨vs, g1, g2, g3⟩ := h4 j hj
    have e : ∀ i, i < w → cellH H' ⟨b, o + j * w + i, none⟩ = vs[i]? := fun i hi => by
      rw [Nat.add_assoc, ← g3 i hi]
      simp only [cellH, f.same b h3 (by simp)]
    refine ⟨⟨b, o + j * w, none⟩, vs, fun k => ?_, ?_, g1, g2⟩
    · have := elemAddr_of (b := b) (o := o) (n := l.length) (c := c) (size := w) (k := k) (i := (j : Int)) (by omega) (by omega)
      simpa using this
    · have hc := cellsH_of (H := H') (b := b) (o := o + j * w) (vs := vs) (fun i hi => e i (by omega))
      rw [g1] at hc
      simp only [loadNV, hc, Option.map_some]
  · simp at hj
theorem WS.sub' {ob wr p : Nat} {k : Option Nat} : ∀ x ∈ ob :: k.toList, x ∈ WS.ids ob wr k (some p) := WS.sub
theorem form_ok {v : Value} {bd : List UInt8} {l : List FieldL} {H : Heap} (hv : FieldsV [] H v l) (hb : BdOk bd) (hl : (wholeT bd none (l.map fieldIn)).length < 2 ^ 36) (hn : l.length < 2 ^ 40)
    (hf : ∀ f ∈ l, f.name.length < 2 ^ 33 ∧ f.name.all prB = true ∧ f.file.length < 2 ^ 33 ∧ f.file.all prB = true) :
    CallsH Tryz.prog 14 #[strVal bd, v] H fun x H' => IsBytes H' x (wholeT bd none (l.map fieldIn)) ∧ Frm [] H H' := by
  have hlen := hb.len
  apply s14
  unfold c14
  rw [New]
  simp only [Fld_ptr, add_mk, Nat.zero_add, List.getElem?_toArray, List.getElem?_cons_succ, List.getElem?_cons_zero, Get_some, Br_true, Br_false, nth_zero, nth_one, nth_two, extractV_tuple, fieldAddrV_ptr, nilV_ptr, load1V_ptr, pickV_bool, unV_not, lenV_slice, capV_slice]
  generalize hH1 : H.push (.cells #[(.slice none 0 0), (.int .i64 0), (.int .i8 0)] 55 (0, 0)) = H1
  have f1 : Frm [] H H1 := by rw [← hH1]; exact Frm.push _ _ _
  have b1 : BufAt H.size none [] H1 := ⟨_, 0, by rw [← hH1]; exact push_same _ _, rfl, rfl⟩
  have z1 : H1.size = H.size + 1 := by rw [← hH1]; simp
  refine (newWriter_ok rfl).mono ?_
  rintro x H2 ⟨rfl, rfl⟩
  have f2 : Frm [] H1 (H1.push (.cells #[.iface 58 (.pointer (some ⟨H.size, 0, none⟩)), strVal [], .pointer none] 105 (0, 0))) := Frm.push _ _ _
  have b2 := b1.frm f2 (by simp) (by simp)
  have w2 : WrAt H1.size (.iface 58 (.pointer (some ⟨H.size, 0, none⟩))) [] (.pointer none) (H1.push (.cells #[.iface 58 (.pointer (some ⟨H.size, 0, none⟩)), strVal [], .pointer none] 105 (0, 0))) := push_same _ _
  refine (setBoundary_ok w2 hb).mono ?_
  rintro x H3 ⟨rfl, w3, f3⟩
  have b3 := b2.frm f3 (by simp; omega) (by simp)
  have f13 : Frm [] H H3 := (f1.trans f2).up f3 (fun x hx => by rw [List.mem_singleton] at hx; subst hx; exact .inr (by omega))
  have ws3 : WS H.size H.size H1.size bd none none [] H3 := ⟨b3, w3, by simp, ⟨Nat.le_refl _, by omega, by simp, by simp⟩, ⟨by omega, by simp, by simp, by simp⟩⟩
  simp only [nilV2_neq_nil, Fld_ptr, add_mk, Nat.zero_add, List.getElem?_toArray, List.getElem?_cons_succ, List.getElem?_cons_zero, Get_some, Br_true, Br_false, nth_zero, nth_one, nth_two, extractV_tuple, fieldAddrV_ptr, nilV_ptr, load1V_ptr, pickV_bool, unV_not, lenV_slice, capV_slice, hv.len]
  refine ⟨fun n vs H' => ∃ i acc k last, vs = [.int .i64 (i : Nat)] ∧ n = l.length - i ∧ i ≤ l.length ∧ WS H.size H.size H1.size bd k last acc H' ∧ Frm [] H H' ∧ acc ++ remT bd last ((l.map fieldIn).drop i) = wholeT bd none (l.map fieldIn), ⟨_, 0, [], none, none, rfl, rfl, Nat.zero_le _, ws3, f13, by simp [remT]⟩, ?_⟩
  rintro n vs H4 ⟨i, acc, k, last, rfl, rfl, hi, ws4, f4, hacc⟩
  have hal : acc.length < 2 ^ 36 := by rw [← hacc] at hl; simp at hl; omega
  simp only [Fld_ptr, add_mk, Nat.zero_add, List.getElem?_toArray, List.getElem?_cons_succ, List.getElem?_cons_zero, Get_some, Br_true, Br_false, nth_zero, nth_one, nth_two, extractV_tuple, fieldAddrV_ptr, nilV_ptr, load1V_ptr, pickV_bool, unV_not, lenV_slice, capV_slice, arithV_add, arithV_sub, arithV_eql, arithV_neq, arithV_lss, arithV_leq, arithV_gtr, arithV_geq, intConvV_int, dec_lt]
  refine Br_intro (fun hlt => ?_) (fun hlt => ?_)
  · have hlt' : i < l.length := by simpa using hlt
    obtain ⟨a, vs, ha, hlo, _, hR⟩ := hv.elem2 f4 hlt'
    obtain ⟨z, rfl, hz⟩ := field_shape hR
    obtain ⟨hf1, hf2, hf3, hf4⟩ := hf l[i] (List.getElem_mem hlt')
    have hdrop : (l.map fieldIn).drop i = fieldIn l[i] :: (l.map fieldIn).drop (i + 1) := by
      rw [List.drop_eq_getElem_cons (by simpa using hlt'), List.getElem_map]
    generalize hfe : l[i] = f at *
    have hvl : f.value.length < 2 ^ 36 := by
      rw [← hacc, hdrop, remT_cons (q := 0)] at hl
      simp at hl
      omega
    have hs4 := f4.size
    have key : ∀ (k' : Option Nat) (p : Nat) (H' : Heap), WS H.size H.size H1.size bd k' (some p) (acc ++ (delimText last bd ++ headText (fieldHead f)) ++ f.value) H' → Frm [] H H' → ∃ n', n' < l.length - i ∧ ∃ i' acc k last, [Value.int .i64 ((i + 1 : Nat) : Int)] = [.int .i64 (i' : Nat)] ∧ n' = l.length - i' ∧ i' ≤ l.length ∧ WS H.size H.size H1.size bd k last acc H' ∧ Frm [] H H' ∧ acc ++ remT bd last ((l.map fieldIn).drop i') = wholeT bd none (l.map fieldIn) := by
      intro k' p H' hw hfr
      refine ⟨_, by omega, i + 1, _, k', some p, rfl, rfl, hlt', hw, hfr, ?_⟩
      rw [← hacc, hdrop, remT_cons (q := p)]
      simp
    refine ⟨fun _ H' => ∃ k' p, WS H.size H.size H1.size bd k' (some p) (acc ++ (delimText last bd ++ headText (fieldHead f)) ++ f.value) H' ∧ Frm [] H H', ?_, ?_⟩
    · simp only [ha, Get_some, hlo]
      refine local3 (K := fun x5 H => _) rfl rfl hz.isOne fun H5 hb5 f5 z5 => ?_
      have f15 := f4.trans f5
      have ws5 := ws4.frm f5 (by simp)
      have hz5 := hz.frm f15 (by simp)
      have hs5 := f15.size
      have e : strV .eql (strVal f.file) (.string ⟨#[]⟩) = some (.bool (decide (f.file = []))) := strV_eql' f.file []
      simp only [Fld_ptr, add_mk, Nat.zero_add, List.getElem?_toArray, List.getElem?_cons_succ, List.getElem?_cons_zero, Get_some, Br_true, Br_false, nth_zero, nth_one, nth_two, extractV_tuple, fieldAddrV_ptr, nilV_ptr, load1V_ptr, pickV_bool, unV_not, lenV_slice, capV_slice, cellH_of hb5, e]
      have hlt5 := ws5.lt
      by_cases hfile : f.file = []
      · have hh : fieldHead f = [(cdKey, [dName ++ quoteB f.name ++ [34]])] := by simp [fieldHead, dispOf, hfile]
        simp only [decide_eq_true hfile, Fld_ptr, add_mk, Nat.zero_add, List.getElem?_toArray, List.getElem?_cons_succ, List.getElem?_cons_zero, Get_some, Br_true, Br_false, nth_zero, nth_one, nth_two, extractV_tuple, fieldAddrV_ptr, nilV_ptr, load1V_ptr, pickV_bool, unV_not, lenV_slice, capV_slice, cellH_of hb5, hz5.1.str]
        refine (writeField_ok ws5 hs5 hf1 hf2 (by omega) (by omega)).mono ?_
        rintro x H6 ⟨p, k6, h6, f6, hp6, hk6⟩
        refine ⟨k6, p, by rw [hh]; exact h6, f15.up f6 (fun x hx => .inr (hlt5 x hx).2)⟩
      · have hh : fieldHead f = [(cdKey, [(dName ++ quoteB f.name ++ [34]) ++ (dFile ++ quoteB f.file ++ [34])]), (ctKey, [octet])] := by simp [fieldHead, dispOf, hfile]
        simp only [decide_eq_false hfile, Fld_ptr, add_mk, Nat.zero_add, List.getElem?_toArray, List.getElem?_cons_succ, List.getElem?_cons_zero, Get_some, Br_true, Br_false, nth_zero, nth_one, nth_two, extractV_tuple, fieldAddrV_ptr, nilV_ptr, load1V_ptr, pickV_bool, unV_not, lenV_slice, capV_slice, cellH_of hb5]
        refine (createFile_ok ws5 hs5 hf1 hf2 hf3 hf4 (by omega)).mono ?_
        rintro x H6 ⟨p, k6, rfl, h6, f6, hp6, hk6⟩
        rw [← hh] at h6
        have f16 : Frm [] H H6 := f15.up f6 (fun x hx => .inr (hlt5 x hx).2)
        have hs6 := f16.size
        have hob4 := (ws4.lt H.size (by simp [WS.ids])).1
        have hs56 := f6.size
        have hs45 := f5.size
        have hs67 : H6.size = H6.size := rfl
        have hb6 := f6.get hb5 (fun hm => by have := (ws4.lt _ hm).1; omega)
        have hz6 := hz.frm f16 (by simp)
        have c6 : cellH H6 ⟨H4.size, 2, none⟩ = some z := by rw [cellH_of hb6]; rfl
        simp only [Fld_ptr, add_mk, Nat.zero_add, List.getElem?_toArray, List.getElem?_cons_succ, List.getElem?_cons_zero, Get_some, Br_true, Br_false, nth_zero, nth_one, nth_two, extractV_tuple, fieldAddrV_ptr, nilV_ptr, load1V_ptr, pickV_bool, unV_not, lenV_slice, capV_slice, nilV2_eql_nil, c6, fill0, NewSl, nilV_method (ahead103 _)]
        have f7 : Frm [] H6 (H6.push (.cells #[] 5 (0, 0))) := Frm.push _ _ _
        have h0b : IsBytes (H6.push (.cells #[] 5 (0, 0))) (.slice (some ⟨H6.size, 0, none⟩) 0 0) [] :=
          (Row.of (z := #[]) (t := 5) (f := (0, 0)) (l := []) (by rw [push_same]; simp) : Row _ H6.size []).bytes (o := 0) (n := 0) (c := 0) (by simp) (by simp)
        have z7 : (H6.push (.cells #[] 5 (0, 0))).size = H6.size + 1 := by simp
        generalize H6.push (.cells #[] 5 (0, 0)) = H7 at *
        have hb7 := f7.get hb6 (by simp)
        have hz7 := hz6.frm f7 (by simp)
        have ws7 := h6.frm f7 (by simp)
        have f17 := f16.trans f7
        have hlt7 := ws7.lt
        have hs7 := f17.size
        have hlen7 : (acc ++ (delimText last bd ++ headText (fieldHead f))).length < 2 ^ 36 := by
          rw [← hacc, hdrop, remT_cons (q := 0)] at hl
          simp at hl ⊢
          omega
        refine ⟨⟨by rw [cellH_of hb7]; rfl, trivial⟩, ?_⟩
        refine append_empty hz7.1 (by omega) (fun h0 => ?_) (fun c H8 hc hr f8 z8 _ => ?_)
        · refine invoke_of 212 meth103 body212 ?_
          refine (partWrite_ok (d := []) ws7 h0b (fun y hy => ?_) (by rw [List.length_nil]; omega) hs7).mono ?_
          · simp only [blk, Option.map_some, Option.some.injEq] at hy
            subst hy
            exact Nat.ne_of_gt (Nat.lt_of_lt_of_le hob4 (Nat.le_trans hs45 hs56))
          rintro x H9 ⟨rfl, k9, h9, f9, hk9⟩
          refine ⟨k9, p, by rw [h0]; exact h9, f17.up f9 (fun x hx => .inr (hlt7 x (WS.sub' x hx)).2)⟩
        · have hx8 : IsBytes H8 (.slice (some ⟨H7.size, 0, none⟩) f.value.length c) f.value := by
            have := hr.bytes (o := 0) (c := c) (n := f.value.length) (by simp) hc
            rwa [List.drop_zero, List.take_length] at this
          have ws8 := ws7.frm f8 (by simp)
          have hlt8 := ws8.lt
          have f18 := f17.trans f8
          refine invoke_of 212 meth103 body212 ?_
          refine (partWrite_ok (d := f.value) ws8 hx8 (fun y hy => ?_) (by omega) f18.size).mono ?_
          · simp [blk] at hy
            omega
          rintro x H9 ⟨rfl, k9, h9, f9, hk9⟩
          exact ⟨k9, p, h9, f18.up f9 (fun x hx => .inr (hlt8 x (WS.sub' x hx)).2)⟩
    · rintro _ H' ⟨k', p, hw, hfr⟩
      simp only [inc_i64 (show i < 2 ^ 62 by omega)]
      exact key k' p H' hw hfr
  · have hge : i = l.length := by have : ¬ i < l.length := by simpa using hlt
                                  omega
    have hrem : (l.map fieldIn).drop i = [] := by rw [hge]; simp
    rw [hrem, remT_nil] at hacc
    refine (close_ok ws4 (by omega)).mono ?_
    rintro x H5 ⟨rfl, k5, b5, f5⟩
    refine (bufBytes_ok b5).mono ?_
    rintro x H6 ⟨hx, hblk, rfl⟩
    refine ⟨by rw [← hacc]; exact hx, f4.up f5 (fun x hx => .inr (ws4.lt x hx).2)⟩
end Go.Cps

/-
  spec.SameHead, spec.Same.
  Conditions: none.
-/
namespace Go.Cps
open Go Go.Proofs

theorem body52 : hasBody Tryz.prog 52 = true := by kernel_rfl
theorem body46 : hasBody Tryz.prog 46 = true := by kernel_rfl

theorem sameHead1_ok {D D' : List Nat} {H : Heap} {p q : Hdr} {us vs : List Value} (hu : HeadR D H p us) (hv : HeadR D' H q vs) (hl : p.2.length < 2 ^ 60) : CallsH Tryz.prog 52 #[.agg us.toArray, .agg vs.toArray] H fun r H' => r = .bool (decide (p = q)) ∧ Frm [] H H' := by
  obtain ⟨y, rfl, hy⟩ := hu
  obtain ⟨z, rfl, hz⟩ := hv
  apply s52
  simp only [c52, New, Value.cells]
  have f1 : Frm [] H (H.push (.cells #[strVal p.1, y] 90 (0, 0))) := Frm.push _ _ _
  have hb1 := push_same H (.cells #[strVal p.1, y] 90 (0, 0))
  generalize H.push (.cells #[strVal p.1, y] 90 (0, 0)) = H1 at *
  have f2 : Frm [] H1 (H1.push (.cells #[strVal q.1, z] 90 (0, 0))) := Frm.push _ _ _
  have hb2 := push_same H1 (.cells #[strVal q.1, z] 90 (0, 0))
  have hb1' : (H1.push (.cells #[strVal q.1, z] 90 (0, 0)))[H.size]? = some (.cells #[strVal p.1, y] 90 (0, 0)) := push_old hb1
  generalize H1.push (.cells #[strVal q.1, z] 90 (0, 0)) = H2 at *
  have f12 := f1.trans f2
  refine Join_direct ?_
  simp only [Fld_ptr, add_mk, Nat.zero_add, List.getElem?_toArray, List.getElem?_cons_succ, List.getElem?_cons_zero, Get_some, Br_true, Br_false, nth_zero, nth_one, nth_two, extractV_tuple, fieldAddrV_ptr, nilV_ptr, load1V_ptr, pickV_bool, unV_not, lenV_slice, capV_slice, cellH_of hb1', cellH_of hb2, strV_eql']
  refine Br_intro (fun h1 => ?_) (fun h1 => ?_)
  · have hk : p.1 = q.1 := by simpa using h1
    refine (equalStrs_ok (hy.frm strR_ok f12 (by simp)) (hz.frm strR_ok f12 (by simp)) hl).mono ?_
    rintro x H3 ⟨rfl, rfl⟩
    simp only [Fld_ptr, add_mk, Nat.zero_add, List.getElem?_toArray, List.getElem?_cons_succ, List.getElem?_cons_zero, Get_some, Br_true, Br_false, nth_zero, nth_one, nth_two, extractV_tuple, fieldAddrV_ptr, nilV_ptr, load1V_ptr, pickV_bool, unV_not, lenV_slice, capV_slice, if_true]
    refine ⟨?_, f12⟩
    congr 1
    rw [Bool.eq_iff_iff]
    simp [Prod.ext_iff, hk]
  · have hk : ¬ p.1 = q.1 := by simpa using h1
    simp only [Fld_ptr, add_mk, Nat.zero_add, List.getElem?_toArray, List.getElem?_cons_succ, List.getElem?_cons_zero, Get_some, Br_true, Br_false, nth_zero, nth_one, nth_two, extractV_tuple, fieldAddrV_ptr, nilV_ptr, load1V_ptr, pickV_bool, unV_not, lenV_slice, capV_slice, Bool.false_eq_true, if_false]
    refine ⟨?_, f12⟩
    rw [decide_eq_false (fun e => hk (by rw [e]))]

theorem c51_ok {D D' : List Nat} {H : Heap} {v w : Value} {a b : List Hdr} {R : Value → Heap → Prop} (ha : HeadsV D H v a) (hb : HeadsV D' H w b) (hl : a.length < 2 ^ 60) (hla : ∀ p ∈ a, p.2.length < 2 ^ 60) (hK : ∀ H', Frm [] H H' → R (.bool (decide (a = b))) H') : c51 v w (.func (.func 52) #[] #[]) H R := by
  unfold c51
  exact equalFunc_core headR_ok ha hb hl body52 (fun x hx y _ us vs H1 _ _ _ hu hv => sameHead1_ok hu hv (hla x hx)) R hK
theorem sameHead_ok {D D' : List Nat} {H : Heap} {v w : Value} {a b : List Hdr} (ha : HeadsV D H v a) (hb : HeadsV D' H w b) (hl : a.length < 2 ^ 60) (hla : ∀ p ∈ a, p.2.length < 2 ^ 60) : CallsH Tryz.prog 21 #[v, w] H fun r H' => r = .bool (decide (a = b)) ∧ Frm [] H H' := by
  apply s21
  unfold c21
  apply s51
  exact c51_ok ha hb hl hla fun H' f => ⟨rfl, f⟩

theorem same1_ok {D D' : List Nat} {H : Heap} {p q : PartL} {us vs : List Value} (hu : PartR D H p us) (hv : PartR D' H q vs) (hl : p.1.length < 2 ^ 60) (hla : ∀ r ∈ p.1, r.2.length < 2 ^ 60) : CallsH Tryz.prog 46 #[.agg us.toArray, .agg vs.toArray] H fun r H' => r = .bool (decide (p = q)) ∧ Frm [] H H' := by
  obtain ⟨y, y2, rfl, hy, hy2⟩ := hu
  obtain ⟨z, z2, rfl, hz, hz2⟩ := hv
  apply s46
  simp only [c46, New, Value.cells]
  have f1 : Frm [] H (H.push (.cells #[y, y2] 39 (0, 0))) := Frm.push _ _ _
  have hb1 := push_same H (.cells #[y, y2] 39 (0, 0))
  generalize H.push (.cells #[y, y2] 39 (0, 0)) = H1 at *
  have f2 : Frm [] H1 (H1.push (.cells #[z, z2] 39 (0, 0))) := Frm.push _ _ _
  have hb2 := push_same H1 (.cells #[z, z2] 39 (0, 0))
  have hb1' : (H1.push (.cells #[z, z2] 39 (0, 0)))[H.size]? = some (.cells #[y, y2] 39 (0, 0)) := push_old hb1
  generalize H1.push (.cells #[z, z2] 39 (0, 0)) = H2 at *
  have f12 := f1.trans f2
  refine Join_direct ?_
  simp only [Fld_ptr, add_mk, Nat.zero_add, List.getElem?_toArray, List.getElem?_cons_succ, List.getElem?_cons_zero, Get_some, Br_true, Br_false, nth_zero, nth_one, nth_two, extractV_tuple, fieldAddrV_ptr, nilV_ptr, load1V_ptr, pickV_bool, unV_not, lenV_slice, capV_slice, cellH_of hb1', cellH_of hb2]
  refine (sameHead_ok (hy.frm headR_ok f12 (by simp)) (hz.frm headR_ok f12 (by simp)) hl hla).mono ?_
  rintro x H3 ⟨rfl, f3⟩
  have f13 := f12.trans f3
  have hb13 := f3.get hb1' (by simp)
  have hb23 := f3.get hb2 (by simp)
  refine Br_intro (fun h1 => ?_) (fun h1 => ?_)
  · have hk : p.1 = q.1 := by simpa using h1
    have e1 := (hy2.frm f13 (by simp)).1.str
    have e2 := (hz2.frm f13 (by simp)).1.str
    have e3 : strV .eql (.string ⟨p.2.toArray⟩) (.string ⟨q.2.toArray⟩) = some (.bool (decide (p.2 = q.2))) := strV_eql' _ _
    simp only [Fld_ptr, add_mk, Nat.zero_add, List.getElem?_toArray, List.getElem?_cons_succ, List.getElem?_cons_zero, Get_some, Br_true, Br_false, nth_zero, nth_one, nth_two, extractV_tuple, fieldAddrV_ptr, nilV_ptr, load1V_ptr, pickV_bool, unV_not, lenV_slice, capV_slice, cellH_of hb13, cellH_of hb23, e1, e2, e3, if_true]
    refine ⟨?_, f13⟩
    congr 1
    rw [Bool.eq_iff_iff]
    simp [Prod.ext_iff, hk]
  · have hk : ¬ p.1 = q.1 := by simpa using h1
    simp only [Fld_ptr, add_mk, Nat.zero_add, List.getElem?_toArray, List.getElem?_cons_succ, List.getElem?_cons_zero, Get_some, Br_true, Br_false, nth_zero, nth_one, nth_two, extractV_tuple, fieldAddrV_ptr, nilV_ptr, load1V_ptr, pickV_bool, unV_not, lenV_slice, capV_slice, Bool.false_eq_true, if_false]
    refine ⟨?_, f13⟩
    rw [decide_eq_false (fun e => hk (by rw [e]))]

theorem c45_ok {D D' : List Nat} {H : Heap} {v w : Value} {a b : List PartL} {R : Value → Heap → Prop} (ha : PartsV D H v a) (hb : PartsV D' H w b) (hl : a.length < 2 ^ 60) (hla : ∀ p ∈ a, p.1.length < 2 ^ 60 ∧ ∀ r ∈ p.1, r.2.length < 2 ^ 60) (hK : ∀ H', Frm [] H H' → R (.bool (decide (a = b))) H') : c45 v w (.func (.func 46) #[] #[]) H R := by
  unfold c45
  exact equalFunc_core partR_ok ha hb hl body46 (fun x hx y _ us vs H1 _ _ _ hu hv => same1_ok hu hv (hla x hx).1 (hla x hx).2) R hK
theorem same_ok {D D' : List Nat} {H : Heap} {v w : Value} {a b : List PartL} (ha : PartsV D H v a) (hb : PartsV D' H w b) (hl : a.length < 2 ^ 60) (hla : ∀ p ∈ a, p.1.length < 2 ^ 60 ∧ ∀ r ∈ p.1, r.2.length < 2 ^ 60) : CallsH Tryz.prog 15 #[v, w] H fun r H' => r = .bool (decide (a = b)) ∧ Frm [] H H' := by
  apply s15
  unfold c15
  apply s45
  exact c45_ok ha hb hl hla fun H' f => ⟨rfl, f⟩
end Go.Cps

/-
  FnExactForm, apart from any world.
  Conditions: few fields, short.
-/
namespace Go.Cps
open Go Go.Proofs

theorem prB_iff {b : UInt8} : prB b = true ↔ 32 ≤ b.toNat ∧ b.toNat ≤ 126 := by simp [prB]
theorem quoteB_chars {l : List UInt8} (h : l.all prB = true) : ∀ b ∈ quoteB l, prB b = true := by
  intro b hb
  obtain ⟨c, hc, hb⟩ := List.mem_flatMap.1 hb
  have := List.all_eq_true.1 h c hc
  unfold quote1 at hb
  split at hb
  · simp only [List.mem_cons, List.not_mem_nil, or_false] at hb
    rcases hb with rfl | rfl
    · decide
    · exact this
  · rw [List.mem_singleton] at hb; rw [hb]; exact this
theorem disp_plain {f : FieldL} (h1 : f.name.all prB = true) (h2 : f.file.all prB = true) : PlainV (dispOf f) := by
  have q1 := quoteB_chars h1
  have q2 := quoteB_chars h2
  have n1 : ∀ b ∈ dName, prB b = true := by decide
  have n2 : ∀ b ∈ dFile, prB b = true := by decide
  have n3 : prB 34 = true := by decide
  unfold dispOf
  split
  · refine ⟨fun b hb => prB_iff.1 ?_, by simp [dName], by simp⟩
    simp only [List.mem_append, List.mem_singleton] at hb
    rcases hb with (hb | hb) | rfl
    · exact n1 b hb
    · exact q1 b hb
    · exact n3
  · refine ⟨fun b hb => prB_iff.1 ?_, by simp [dName], by rw [← List.append_assoc, ← List.append_assoc, List.getLast?_concat]; decide⟩
    simp only [List.mem_append, List.mem_singleton] at hb
    rcases hb with ((hb | hb) | rfl) | ((hb | hb) | rfl)
    · exact n1 b hb
    · exact q1 b hb
    · exact n3
    · exact n2 b hb
    · exact q2 b hb
    · exact n3
theorem disp_len {f : FieldL} (h1 : f.name.length ≤ 200) (h2 : f.file.length ≤ 200) : (dispOf f).length ≤ 900 := by
  have q1 := quoteB_len f.name
  have q2 := quoteB_len f.file
  unfold dispOf
  split <;> simp [dName, dFile] <;> omega
theorem octet_plain : PlainV octet := ⟨by decide, by decide, by decide⟩

theorem Nowhere.cons {v p : List UInt8} {a : UInt8} (h : Nowhere v p) : Nowhere v (a :: p) := by
  intro i hi he
  simp only [List.length_cons] at hi he
  refine h (i + 1) (by omega) ?_
  have hlt : i < v.length := by omega
  rw [List.drop_eq_getElem_cons hlt, List.take_succ_cons] at he
  exact (List.cons.inj he).2

theorem GoodField.lines {bd : List UInt8} {f : FieldL} (h : GoodField bd f) : ∀ kv ∈ linesOf (fieldHead f), LineOk kv := by
  have hd := disp_len h.name h.file
  have hp := disp_plain h.pname h.pfile
  intro kv hkv
  have hcd : LineOk (cdKey, dispOf f) := ⟨(by decide : cdKey ≠ []), cd_tok, hp, by simp [cdKey]; omega⟩
  have hct : LineOk (ctKey, octet) := ⟨(by decide : ctKey ≠ []), ct_tok, octet_plain, by simp [ctKey, octet]⟩
  unfold fieldHead at hkv
  split at hkv <;> simp only [linesOf, List.flatMap_cons, List.flatMap_nil, List.map_cons, List.map_nil, List.append_nil, List.cons_append, List.nil_append, List.mem_cons, List.not_mem_nil, or_false] at hkv
  · rw [hkv]; exact hcd
  · rcases hkv with rfl | rfl
    · exact hcd
    · exact hct
theorem GoodField.inn {bd : List UInt8} {f : FieldL} (h : GoodField bd f) (hl : f.value.length < 2 ^ 38) : GoodIn bd (fieldIn f) where
  lines := h.lines
  few := by
    unfold fieldIn fieldHead
    split <;> simp [linesOf]
  nw := h.free.2.cons
  dash := h.free.1
  small := hl
theorem res_field (f : FieldL) : resOf (fieldIn f) = fieldPart f := by
  have h1 : hdrOf (linesOf (fieldHead f)) = fieldHead f := by
    unfold fieldHead
    split
    · simp [linesOf, hdrOf, hdrFrom, addH, cd_canon]
    · simp [linesOf, hdrOf, hdrFrom, addH, cd_canon, ct_canon, cd_ne_ct]
  have h2 : sortHs (fieldHead f) = fieldHead f := by
    refine (sortHs_eq (List.Perm.refl _) ?_ ?_).symm
    · unfold fieldHead
      split <;> simp [cd_ne_ct]
    · unfold fieldHead
      split
      · simp
      · refine List.Pairwise.cons (fun b hb => ?_) (by simp)
        rw [List.mem_singleton] at hb
        subst hb
        exact List.le_of_lt cd_lt_ct
  simp only [resOf, fieldIn, fieldPart, h1, h2]

theorem head_len {bd : List UInt8} {f : FieldL} (h : GoodField bd f) : (partIn (fieldIn f)).length ≤ 1000 + f.value.length := by
  have hd := disp_len h.name h.file
  unfold partIn fieldIn fieldHead
  split <;> simp [linesOf, linesText, lineOf, cdKey, ctKey, octet] <;> omega
theorem tail_len {bd : List UInt8} : ∀ {l : List FieldL}, (∀ f ∈ l, GoodField bd f) → (tailT bd none (l.map fieldIn)).length ≤ l.length * (1010 + bd.length) + (l.map (·.value.length)).sum + 4
  | [], _ => by simp [tailT]
  | f :: l, h => by
    have h1 := head_len (h f (by simp))
    have h2 := tail_len (l := l) (fun g hg => h g (by simp [hg]))
    simp only [List.map_cons, tailT, List.length_cons, List.length_append, nldOf_length, List.sum_cons, Nat.add_mul] at *
    omega
theorem whole_len {bd : List UInt8} {l : List FieldL} (h : ∀ f ∈ l, GoodField bd f) : (wholeT bd none (l.map fieldIn)).length ≤ l.length * (1010 + bd.length) + (l.map (·.value.length)).sum + bd.length + 10 := by
  have := tail_len h
  unfold wholeT
  split <;> simp only [List.length_append, nldOf_length, dashOf_length] <;> omega
theorem le_sum {l : List FieldL} {f : FieldL} (h : f ∈ l) : f.value.length ≤ (l.map (·.value.length)).sum := by
  induction l with
  | nil => cases h
  | cons g l ih =>
    simp only [List.map_cons, List.sum_cons]
    rcases List.mem_cons.1 h with rfl | h
    · omega
    · have := ih h; omega

theorem bd_no_cr {l : List UInt8} (h : BdOk l) : 13 ∉ l := by
  intro hm
  have := h.chars 13 hm
  simp [bchar, alnum, punct] at this

theorem fieldHead_small (f : FieldL) : (fieldHead f).length ≤ 2 ∧ ∀ r ∈ fieldHead f, r.2.length ≤ 1 := by
  unfold fieldHead
  split <;> simp

theorem exactForm_ok {B : Nat} {ea ua : Addr} {v : Value} {bd : List UInt8} {l : List FieldL} {H : Heap} (hv : FieldsV [] H v l) (hE : Errs B ea ua H) (hB : B ≤ H.size) (hbl : bd.length < 2 ^ 38) (hn : l.length ≤ 2 ^ 24) (hs : (l.map (·.value.length)).sum < 2 ^ 34)
    (hlf : ∀ f ∈ l, f.name.length < 2 ^ 33 ∧ f.file.length < 2 ^ 33) :
    CallsH Tryz.prog 4 #[v, strVal bd] H fun x H' => x = .bool true ∧ Frm [] H H' := by
  have hvl : ∀ f ∈ l, f.value.length < 2 ^ 34 := fun f hf => Nat.lt_of_le_of_lt (le_sum hf) hs
  apply s4
  unfold c4
  refine ⟨fun vs H' => ∃ b : Bool, vs = [.bool b] ∧ Frm [] H H', ?_, ?_⟩
  · refine (fits7_ok hv (by omega)).mono ?_
    rintro x H1 ⟨⟨r, rfl⟩, f1⟩
    simp only [Fld_ptr, add_mk, Nat.zero_add, List.getElem?_toArray, List.getElem?_cons_succ, List.getElem?_cons_zero, Get_some, Br_true, Br_false, nth_zero, nth_one, nth_two, extractV_tuple, fieldAddrV_ptr, nilV_ptr, load1V_ptr, pickV_bool, unV_not, lenV_slice, capV_slice]
    refine Br_intro (fun _ => ⟨_, rfl, f1⟩) (fun _ => ?_)
    simp only [Fld_ptr, add_mk, Nat.zero_add, List.getElem?_toArray, List.getElem?_cons_succ, List.getElem?_cons_zero, Get_some, Br_true, Br_false, nth_zero, nth_one, nth_two, extractV_tuple, fieldAddrV_ptr, nilV_ptr, load1V_ptr, pickV_bool, unV_not, lenV_slice, capV_slice, arithV_add, arithV_sub, arithV_eql, arithV_neq, arithV_lss, arithV_leq, arithV_gtr, arithV_geq, intConvV_int, lenStr_of]
    exact ⟨_, rfl, f1⟩
  rintro _ H1 ⟨b, rfl, f1⟩
  simp only [Fld_ptr, add_mk, Nat.zero_add, List.getElem?_toArray, List.getElem?_cons_succ, List.getElem?_cons_zero, Get_some, Br_true, Br_false, nth_zero, nth_one, nth_two, extractV_tuple, fieldAddrV_ptr, nilV_ptr, load1V_ptr, pickV_bool, unV_not, lenV_slice, capV_slice]
  refine Br_intro (fun _ => ⟨trivial, f1⟩) (fun _ => ?_)
  simp only [Fld_ptr, add_mk, Nat.zero_add, List.getElem?_toArray, List.getElem?_cons_succ, List.getElem?_cons_zero, Get_some, Br_true, Br_false, nth_zero, nth_one, nth_two, extractV_tuple, fieldAddrV_ptr, nilV_ptr, load1V_ptr, pickV_bool, unV_not, lenV_slice, capV_slice, arithV_add, arithV_sub, arithV_eql, arithV_neq, arithV_lss, arithV_leq, arithV_gtr, arithV_geq, intConvV_int, lenStr_of]
  refine Br_intro (fun _ => ⟨trivial, f1⟩) (fun _ => ?_)
  refine (fields_ok (hv.frm fieldR_ok f1 (by simp)) (by omega) (by omega) (fun f hf => ⟨by have := hlf f hf; omega, by have := hlf f hf; omega, by have := hvl f hf; omega⟩)).mono ?_
  rintro x H2 ⟨r, rfl, hr, f2⟩
  simp only [Fld_ptr, add_mk, Nat.zero_add, List.getElem?_toArray, List.getElem?_cons_succ, List.getElem?_cons_zero, Get_some, Br_true, Br_false, nth_zero, nth_one, nth_two, extractV_tuple, fieldAddrV_ptr, nilV_ptr, load1V_ptr, pickV_bool, unV_not, lenV_slice, capV_slice]
  refine Br_intro (fun _ => ⟨trivial, f1.trans f2⟩) (fun hr0 => ?_)
  obtain ⟨hg, hbd⟩ := hr (by simpa using hr0)
  have hok := okBd_iff hbd
  have hlen := hok.len
  have hpos := hok.pos
  have f12 := f1.trans f2
  have hwl : (wholeT bd none (l.map fieldIn)).length < 2 ^ 36 := by
    have := whole_len hg
    have h2 : l.length * (1010 + bd.length) ≤ 2 ^ 24 * 1080 := Nat.mul_le_mul hn (by omega)
    omega
  refine (form_ok (hv.frm fieldR_ok f12 (by simp)) hok hwl (by omega) (fun f hf => ⟨(hlf f hf).1, (hg f hf).pname, (hlf f hf).2, (hg f hf).pfile⟩)).mono ?_
  rintro x H3 ⟨hx, f3⟩
  have f13 := f12.trans f3
  have hgb : GoodBd bd := ⟨by intro h0; rw [h0] at hpos; simp at hpos, bd_no_nl hok, by omega⟩
  have hbr : BdR bd := ⟨bd_no_cr hok, by omega⟩
  refine (parts_ok hx (hE.frm f13 (by simp)) (Nat.le_trans hB f13.size) hgb hbr (by omega) ?_ (by simp) (by simp; omega)).mono ?_
  · intro p hp
    obtain ⟨f, hf, rfl⟩ := List.mem_map.1 hp
    exact (hg f hf).inn (by have := hvl f hf; omega)
  rintro x H4 ⟨y, rs, rfl, hy, f4, hrs⟩
  simp only at hrs
  subst hrs
  have hmap : (l.map fieldIn).map resOf = l.map fieldPart := by
    rw [List.map_map]
    exact List.map_congr_left fun f _ => res_field f
  rw [hmap] at hy
  have f14 := f13.trans f4
  have ho : ((1 : Int) == 1) = true := by decide
  simp only [Fld_ptr, add_mk, Nat.zero_add, List.getElem?_toArray, List.getElem?_cons_succ, List.getElem?_cons_zero, Get_some, Br_true, Br_false, nth_zero, nth_one, nth_two, extractV_tuple, fieldAddrV_ptr, nilV_ptr, load1V_ptr, pickV_bool, unV_not, lenV_slice, capV_slice]
  refine ⟨fun vs H' => vs = [.bool true] ∧ Frm [] H H', ?_, ?_⟩
  · simp only [Fld_ptr, add_mk, Nat.zero_add, List.getElem?_toArray, List.getElem?_cons_succ, List.getElem?_cons_zero, Get_some, Br_true, Br_false, nth_zero, nth_one, nth_two, extractV_tuple, fieldAddrV_ptr, nilV_ptr, load1V_ptr, pickV_bool, unV_not, lenV_slice, capV_slice, arithV_add, arithV_sub, arithV_eql, arithV_neq, arithV_lss, arithV_leq, arithV_gtr, arithV_geq, intConvV_int, if_true, ho, Option.isSome_none, Bool.false_eq_true, if_false]
    refine (fieldParts_ok (hv.frm fieldR_ok f14 (by simp)) (by omega) (fun f hf => by have := hlf f hf; omega)).mono ?_
    rintro x H5 ⟨hx5, f5⟩
    have f15 := f14.trans f5
    refine (same_ok (hy.frm partR_ok f5 (by simp)) hx5 (by simp; omega) ?_).mono ?_
    · intro p hp
      obtain ⟨f, hf, rfl⟩ := List.mem_map.1 hp
      obtain ⟨h1, h2⟩ := fieldHead_small f
      exact ⟨by show (fieldHead f).length < _; omega, fun r hr => by have := h2 r hr; omega⟩
    rintro x H6 ⟨rfl, f6⟩
    simp only [decide_true, Fld_ptr, add_mk, Nat.zero_add, List.getElem?_toArray, List.getElem?_cons_succ, List.getElem?_cons_zero, Get_some, Br_true, Br_false, nth_zero, nth_one, nth_two, extractV_tuple, fieldAddrV_ptr, nilV_ptr, load1V_ptr, pickV_bool, unV_not, lenV_slice, capV_slice]
    exact ⟨trivial, f15.trans f6⟩
  · rintro _ H' ⟨rfl, hfr⟩
    exact ⟨rfl, hfr⟩
end Go.Cps
