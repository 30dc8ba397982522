/-
  A part of the proof (its texts: L63, L72, L74): each text says below what it proves.
  Conditions: each contract's own.
-/
import Derived.Test.YtfajmapajpfocaaGreatDoorB28
import Derived.Test.YtfajmapajpfocaaGreatDoorB29
set_option linter.all false
/-
  impl.Parts of a body of parts, whole or cut in the last one.
  Conditions: the parts are good ones.
-/
namespace Go.Cps
open Go Go.Proofs

theorem tail_pre (bd : List UInt8) (cut : Option PartIn) (ps : List PartIn) : nldOf bd ++ tailT bd cut ps = [13, 10] ++ (dashOf bd ++ tailT bd cut ps) := by simp [nldOf, dashOf]

theorem partsLoop_ok {S : Stk} {s : St} {mr tb : Nat} {m : MRf} {bd : List UInt8} {B : Nat} {ea ua : Addr} {H : Heap} {cut : Option PartIn} {ps : List PartIn} (h : PR S mr tb m bd B ea ua s H) (hr : s.rest S = wholeT bd cut ps) (hm : m.parts = 0) (hc : m.cur = .pointer none) (hgb : GoodBd bd)
    (hps : ∀ p ∈ ps, GoodIn bd p) (hcut : ∀ p, cut = some p → GoodIn bd p) (hn : ps.length < 2 ^ 34) :
    CallsH Tryz.prog 36 #[.func (.func 39) #[.pointer (some ⟨mr, 0, none⟩)] #[]] H fun x H' => ∃ y rs, x = .tuple #[y, .int .i64 (if cut.isSome then 2 else 1)] ∧ PartsV [] H' y rs ∧ Frm (mr :: S.ids) H H' ∧ (match cut with | none => rs = ps.map resOf | some p => ∃ d, d <+: p.2 ∧ rs = ps.map resOf ++ [(sortHs (hdrOf p.1), d)]) := by
  apply s36
  unfold c36
  have hbr := h.bdr
  have h5 := h.tbf
  have hlow : (∀ x ∈ mr :: tb :: S.ids, x < H.size) ∧ (∀ x, blk S.v = some x → x < H.size) ∧ B ≤ H.size := ⟨h.lt, h.vlt, h.base⟩
  refine ⟨fun μ vs H1 => ∃ done todo k out X m, ps = done ++ todo ∧ μ = todo.length ∧ vs = [out] ∧ OwnS 2 39 PartR (X ++ mr :: S.ids) H1 k out (done.map resOf) ∧
      Closes S mr tb m bd B ea ua ((if done = [] ∧ ¬ (todo = [] ∧ cut = none) then [] else [13, 10]) ++ (dashOf bd ++ tailT bd cut todo)) X H1 ∧ m.parts = done.length ∧ Frm (mr :: S.ids) H H1 ∧ (∀ g, k = some g → H.size ≤ g) ∧ ∀ x ∈ X, H.size ≤ x ∧ x < H1.size,
    ⟨_, [], ps, none, _, [], m, rfl, rfl, rfl, ⟨rfl, rfl⟩, .inl ⟨hc, s, h, ?_⟩, by simpa using hm, Frm.refl _ _, by simp, by simp⟩, ?_⟩
  · rw [hr, wholeT]
    by_cases he : ps = [] ∧ cut = none
    · rw [if_pos he, if_neg (by simp [he]), tail_pre]
    · rw [if_neg he, if_pos ⟨rfl, he⟩]; rfl
  clear h hr hm hc
  rintro μ vs H1 ⟨done, todo, k, out, X, m, hdt, rfl, rfl, hown, hcl, hnp, hfr, hkB, hXB⟩
  have hdl : done.length + todo.length = ps.length := by rw [hdt]; simp
  simp only [nth_zero]
  cases todo with
  | nil =>
    rw [List.append_nil] at hdt
    obtain rfl : done = ps := hdt.symm
    cases cut with
    | none =>
      rw [if_neg (by simp)] at hcl
      refine ⟨39, #[.pointer (some ⟨mr, 0, none⟩)], #[], rfl, bodyd39, ?_⟩
      apply s39
      unfold c39
      apply s72
      unfold c72
      refine (nextPart_end (by simpa [dashOf, tailT] using hcl) hgb).mono ?_
      rintro x H2 ⟨rfl, f2, s2, h2⟩
      simp only [Fld_ptr, add_mk, Nat.zero_add, List.getElem?_toArray, List.getElem?_cons_succ, List.getElem?_cons_zero, Get_some, Br_true, Br_false, nth_zero, nth_one, nth_two, extractV_tuple, fieldAddrV_ptr, nilV_ptr, load1V_ptr, pickV_bool, unV_not, lenV_slice, capV_slice, nilV2_neq_iface]
      refine (state_end h2.er.eof).mono ?_
      rintro x H3 ⟨rfl, rfl⟩
      have hown2 := hown.frm partR_ok f2 (fun x hx => ⟨.inl (by
        simp only [List.mem_append, List.mem_cons] at hx ⊢
        rcases hx with h | h
        · exact .inl h
        · exact .inr (.inr h)), fun e => (hown.lt x e).2 (by
        simp only [List.mem_append, List.mem_cons] at hx ⊢
        rcases hx with h | h
        · exact .inl h
        · exact .inr (.inr h))⟩)
      refine ⟨out, _, rfl, (hown2.slV partR_ok).sub partR_ok (by simp), hfr.up f2 (fun x hx => ?_), rfl⟩
      rcases List.mem_append.1 hx with hx | hx
      · exact .inr (hXB x hx).1
      · exact .inl (by simp [hx])
    | some p =>
      refine partStep_ok (ea := ea) (ua := ua) (mode := none) (n := done.length) h5 hgb hbr hown ?_ hnp hfr hkB hXB hlow (hcut p rfl) (by simp) (by omega) (by simp; omega) fun k' out' pt m' d H' g1 g2 g3 g4 g5 g6 g7 g8 => ?_
      · by_cases h0 : done = []
        · subst h0
          simpa [tailT, modeTail] using hcl
        · have h1 : ¬ done.length = 0 := fun e => h0 (List.eq_nil_of_length_eq_zero e)
          rw [if_neg h1]
          rw [if_neg (by simp [h0])] at hcl
          simpa [tailT, modeTail] using hcl
      · rw [if_neg (by simp)]
        exact ⟨out', _, rfl, (g1.slV partR_ok).sub partR_ok (by simp), g6, d, g2, rfl⟩
  | cons p todo =>
    refine partStep_ok (ea := ea) (ua := ua) (mode := some (tailT bd cut todo)) (n := done.length) h5 hgb hbr hown ?_ hnp hfr hkB hXB hlow (hps p (by rw [hdt]; simp)) (fun t ht => by cases ht; exact tailT_full _ _ _) (by omega) (by simp; omega) fun k' out' pt m' d H' g1 g2 g3 g4 g5 g6 g7 g8 => ?_
    · by_cases h0 : done = []
      · subst h0
        simpa [tailT, modeTail] using hcl
      · have h1 : ¬ done.length = 0 := fun e => h0 (List.eq_nil_of_length_eq_zero e)
        rw [if_neg h1]
        rw [if_neg (by simp [h0])] at hcl
        simpa [tailT, modeTail] using hcl
    · rw [if_pos (by rfl)]
      have hd := g3 rfl
      subst hd
      refine ⟨todo.length, by simp, done ++ [p], todo, k', out', [pt], m', by rw [hdt]; simp, rfl, rfl, ?_, ?_, ?_, g6, g7, ?_⟩
      · rw [List.map_append]; exact g1
      · rw [if_neg (by simp), ← tail_pre]; exact g4 _ rfl
      · rw [g5]; simp
      · intro x hx; rw [List.mem_singleton] at hx; subst hx; exact g8

theorem parts_ok {bd : List UInt8} {v : Value} {B : Nat} {ea ua : Addr} {H : Heap} {cut : Option PartIn} {ps : List PartIn} (hv : IsBytes H v (wholeT bd cut ps)) (hE : Errs B ea ua H) (hB : B ≤ H.size) (hgb : GoodBd bd) (hbr : BdR bd) (hl : (wholeT bd cut ps).length < 2 ^ 39)
    (hps : ∀ p ∈ ps, GoodIn bd p) (hcut : ∀ p, cut = some p → GoodIn bd p) (hn : ps.length < 2 ^ 34) :
    CallsH Tryz.prog 11 #[v, strVal bd] H fun x H' => ∃ y rs, x = .tuple #[y, .int .i64 (if cut.isSome then 2 else 1)] ∧ PartsV [] H' y rs ∧ Frm [] H H' ∧ (match cut with | none => rs = ps.map resOf | some p => ∃ d, d <+: p.2 ∧ rs = ps.map resOf ++ [(sortHs (hdrOf p.1), d)]) := by
  have hlen := hgb.len
  apply s11
  unfold c11
  refine (source_ok hv (by omega)).mono ?_
  rintro x H1 ⟨br, u, rfl, hbr1, hu, f1, hge, hvb, hbs⟩
  have h0 : 0 < H.size := by obtain ⟨t, f, h⟩ := hE.eof; exact lt_of_some h
  refine (newReader_ok hbr1 hu (fun x hx => ⟨(hvb x hx).2.1, (hvb x hx).2.2⟩) (hE.eof.frm f1 (by simp)) (by omega) (by omega) (by omega)).mono ?_
  rintro x H2 ⟨S, s, mr, tb, m, rfl, hrd, hmr, hrest, herr, hparts, hcur, hEt, hEv, f2, hge2, rfl, rfl, h5, htb⟩
  have f12 : Frm [] H H2 := f1.trans f2
  have hge3 : ∀ y ∈ mr :: tb :: S.ids, H.size ≤ y := fun y hy => by
    by_cases hyb : y = S.br
    · omega
    · have := hge2 y hy hyb; have := f1.size; omega
  have hPR : PR S mr tb m bd B ea ua s H2 := ⟨hrd, hmr, hE.frm f12 (by simp), hbr, fun x hx => by have := hge3 x hx; omega, ⟨hEt, hEv⟩, h5, fun x hx => by have := (hvb x hx).2.2; have := f2.size; omega, htb, by have := f12.size; omega⟩
  refine (partsLoop_ok hPR hrest hparts hcur hgb hps hcut hn).mono ?_
  rintro x H3 ⟨y, rs, rfl, hy, f3, hrs⟩
  simp only [Fld_ptr, add_mk, Nat.zero_add, List.getElem?_toArray, List.getElem?_cons_succ, List.getElem?_cons_zero, Get_some, Br_true, Br_false, nth_zero, nth_one, nth_two, extractV_tuple, fieldAddrV_ptr, nilV_ptr, load1V_ptr, pickV_bool, unV_not, lenV_slice, capV_slice]
  refine ⟨y, rs, rfl, hy, f12.up f3 (fun x hx => .inr (hge3 x ?_)), hrs⟩
  rcases List.mem_cons.1 hx with rfl | hx
  · simp
  · simp [hx]
end Go.Cps

/-
  spec.Form.
  Conditions: printable names, short; a boundary that SetBoundary takes; the whole is short.
-/
namespace Go.Cps
open Go Go.Proofs

def fieldIn (f : FieldL) : PartIn := (linesOf (fieldHead f), f.value)
/-- what is still to write -/
def remT (bd : List UInt8) (last : Option Nat) (ps : List PartIn) : List UInt8 := match last with
  | none => wholeT bd none ps
  | some _ => nldOf bd ++ tailT bd none ps

theorem delim_none (bd : List UInt8) : delimText none bd = dashOf bd ++ [13, 10] := by simp [delimText, dashOf]
theorem delim_some (p : Nat) (bd : List UInt8) : delimText (some p) bd = nldOf bd ++ [13, 10] := by simp [delimText, nldOf]

theorem remT_cons {bd : List UInt8} {last : Option Nat} {f : FieldL} {q : Nat} {r : List PartIn} : remT bd last (fieldIn f :: r) = (delimText last bd ++ headText (fieldHead f)) ++ f.value ++ remT bd (some q) r := by
  have hp : partIn (fieldIn f) = headText (fieldHead f) ++ f.value := by simp [partIn, fieldIn, headText]
  cases last with
  | none =>
    have : wholeT bd none (fieldIn f :: r) = dashOf bd ++ tailT bd none (fieldIn f :: r) := by simp [wholeT]
    simp [remT, this, tailT, hp, delim_none]
  | some p =>
    simp [remT, tailT, hp, delim_some]
theorem remT_nil {bd : List UInt8} {last : Option Nat} : remT bd last [] = [13, 10, 45, 45] ++ bd ++ [45, 45, 13, 10] := by
  cases last <;> simp [remT, wholeT, tailT, nldOf]

theorem SlV.elem2 {α : Type} {w : Nat} {R : List Nat → Heap → α → List Value → Prop} {D : List Nat} {H H' : Heap} {v : Value} {l : List α} (h : SlV w R D H v l) (f : Frm [] H H') {j : Nat} (hj : j < l.length) :
    ∃ a vs, (∀ k : IntKind, elemAddrV w v (.int k j) = some (.pointer (some a))) ∧ loadNV w (.pointer (some a)) H' = some (.agg vs.toArray) ∧ vs.length = w ∧ R D H l[j] vs := by
  rcases h with ⟨b, o, c, rfl, h1, h2, h3, h4⟩ | ⟨_, _, rfl⟩
  · obtain ⟨vs, g1, g2, g3⟩ := h4 j hj
    have e : ∀ i, i < w → cellH H' ⟨b, o + j * w + i, none⟩ = vs[i]? := fun i hi => by
      rw [Nat.add_assoc, ← g3 i hi]
      simp only [cellH, f.same b h3 (by simp)]
    refine ⟨⟨b, o + j * w, none⟩, vs, fun k => ?_, ?_, g1, g2⟩
    · have := elemAddr_of (b := b) (o := o) (n := l.length) (c := c) (size := w) (k := k) (i := (j : Int)) (by omega) (by omega)
      simpa using this
    · have hc := cellsH_of (H := H') (b := b) (o := o + j * w) (vs := vs) (fun i hi => e i (by omega))
      rw [g1] at hc
      simp only [loadNV, hc, Option.map_some]
  · simp at hj
theorem WS.sub' {ob wr p : Nat} {k : Option Nat} : ∀ x ∈ ob :: k.toList, x ∈ WS.ids ob wr k (some p) := WS.sub
theorem form_ok {v : Value} {bd : List UInt8} {l : List FieldL} {H : Heap} (hv : FieldsV [] H v l) (hb : BdOk bd) (hl : (wholeT bd none (l.map fieldIn)).length < 2 ^ 36) (hn : l.length < 2 ^ 40)
    (hf : ∀ f ∈ l, f.name.length < 2 ^ 33 ∧ f.name.all prB = true ∧ f.file.length < 2 ^ 33 ∧ f.file.all prB = true) :
    CallsH Tryz.prog 14 #[strVal bd, v] H fun x H' => IsBytes H' x (wholeT bd none (l.map fieldIn)) ∧ Frm [] H H' := by
  have hlen := hb.len
  apply s14
  unfold c14
  rw [New]
  simp only [Fld_ptr, add_mk, Nat.zero_add, List.getElem?_toArray, List.getElem?_cons_succ, List.getElem?_cons_zero, Get_some, Br_true, Br_false, nth_zero, nth_one, nth_two, extractV_tuple, fieldAddrV_ptr, nilV_ptr, load1V_ptr, pickV_bool, unV_not, lenV_slice, capV_slice]
  generalize hH1 : H.push (.cells #[(.slice none 0 0), (.int .i64 0), (.int .i8 0)] 55 (0, 0)) = H1
  have f1 : Frm [] H H1 := by rw [← hH1]; exact Frm.push _ _ _
  have b1 : BufAt H.size none [] H1 := ⟨_, 0, by rw [← hH1]; exact push_same _ _, rfl, rfl⟩
  have z1 : H1.size = H.size + 1 := by rw [← hH1]; simp
  refine (newWriter_ok rfl).mono ?_
  rintro x H2 ⟨rfl, rfl⟩
  have f2 : Frm [] H1 (H1.push (.cells #[.iface 58 (.pointer (some ⟨H.size, 0, none⟩)), strVal [], .pointer none] 105 (0, 0))) := Frm.push _ _ _
  have b2 := b1.frm f2 (by simp) (by simp)
  have w2 : WrAt H1.size (.iface 58 (.pointer (some ⟨H.size, 0, none⟩))) [] (.pointer none) (H1.push (.cells #[.iface 58 (.pointer (some ⟨H.size, 0, none⟩)), strVal [], .pointer none] 105 (0, 0))) := push_same _ _
  refine (setBoundary_ok w2 hb).mono ?_
  rintro x H3 ⟨rfl, w3, f3⟩
  have b3 := b2.frm f3 (by simp; omega) (by simp)
  have f13 : Frm [] H H3 := (f1.trans f2).up f3 (fun x hx => by rw [List.mem_singleton] at hx; subst hx; exact .inr (by omega))
  have ws3 : WS H.size H.size H1.size bd none none [] H3 := ⟨b3, w3, by simp, ⟨Nat.le_refl _, by omega, by simp, by simp⟩, ⟨by omega, by simp, by simp, by simp⟩⟩
  simp only [nilV2_neq_nil, Fld_ptr, add_mk, Nat.zero_add, List.getElem?_toArray, List.getElem?_cons_succ, List.getElem?_cons_zero, Get_some, Br_true, Br_false, nth_zero, nth_one, nth_two, extractV_tuple, fieldAddrV_ptr, nilV_ptr, load1V_ptr, pickV_bool, unV_not, lenV_slice, capV_slice, hv.len]
  refine ⟨fun n vs H' => ∃ i acc k last, vs = [.int .i64 (i : Nat)] ∧ n = l.length - i ∧ i ≤ l.length ∧ WS H.size H.size H1.size bd k last acc H' ∧ Frm [] H H' ∧ acc ++ remT bd last ((l.map fieldIn).drop i) = wholeT bd none (l.map fieldIn), ⟨_, 0, [], none, none, rfl, rfl, Nat.zero_le _, ws3, f13, by simp [remT]⟩, ?_⟩
  rintro n vs H4 ⟨i, acc, k, last, rfl, rfl, hi, ws4, f4, hacc⟩
  have hal : acc.length < 2 ^ 36 := by rw [← hacc] at hl; simp at hl; omega
  simp only [Fld_ptr, add_mk, Nat.zero_add, List.getElem?_toArray, List.getElem?_cons_succ, List.getElem?_cons_zero, Get_some, Br_true, Br_false, nth_zero, nth_one, nth_two, extractV_tuple, fieldAddrV_ptr, nilV_ptr, load1V_ptr, pickV_bool, unV_not, lenV_slice, capV_slice, arithV_add, arithV_sub, arithV_eql, arithV_neq, arithV_lss, arithV_leq, arithV_gtr, arithV_geq, intConvV_int, dec_lt]
  refine Br_intro (fun hlt => ?_) (fun hlt => ?_)
  · have hlt' : i < l.length := by simpa using hlt
    obtain ⟨a, vs, ha, hlo, _, hR⟩ := hv.elem2 f4 hlt'
    obtain ⟨z, rfl, hz⟩ := field_shape hR
    obtain ⟨hf1, hf2, hf3, hf4⟩ := hf l[i] (List.getElem_mem hlt')
    have hdrop : (l.map fieldIn).drop i = fieldIn l[i] :: (l.map fieldIn).drop (i + 1) := by
      rw [List.drop_eq_getElem_cons (by simpa using hlt'), List.getElem_map]
    generalize hfe : l[i] = f at *
    have hvl : f.value.length < 2 ^ 36 := by
      rw [← hacc, hdrop, remT_cons (q := 0)] at hl
      simp at hl
      omega
    have hs4 := f4.size
    have key : ∀ (k' : Option Nat) (p : Nat) (H' : Heap), WS H.size H.size H1.size bd k' (some p) (acc ++ (delimText last bd ++ headText (fieldHead f)) ++ f.value) H' → Frm [] H H' → ∃ n', n' < l.length - i ∧ ∃ i' acc k last, [Value.int .i64 ((i + 1 : Nat) : Int)] = [.int .i64 (i' : Nat)] ∧ n' = l.length - i' ∧ i' ≤ l.length ∧ WS H.size H.size H1.size bd k last acc H' ∧ Frm [] H H' ∧ acc ++ remT bd last ((l.map fieldIn).drop i') = wholeT bd none (l.map fieldIn) := by
      intro k' p H' hw hfr
      refine ⟨_, by omega, i + 1, _, k', some p, rfl, rfl, hlt', hw, hfr, ?_⟩
      rw [← hacc, hdrop, remT_cons (q := p)]
      simp
    refine ⟨fun _ H' => ∃ k' p, WS H.size H.size H1.size bd k' (some p) (acc ++ (delimText last bd ++ headText (fieldHead f)) ++ f.value) H' ∧ Frm [] H H', ?_, ?_⟩
    · simp only [ha, Get_some, hlo]
      refine local3 (K := fun x5 H => _) rfl rfl hz.isOne fun H5 hb5 f5 z5 => ?_
      have f15 := f4.trans f5
      have ws5 := ws4.frm f5 (by simp)
      have hz5 := hz.frm f15 (by simp)
      have hs5 := f15.size
      have e : strV .eql (strVal f.file) (.string ⟨#[]⟩) = some (.bool (decide (f.file = []))) := strV_eql' f.file []
      simp only [Fld_ptr, add_mk, Nat.zero_add, List.getElem?_toArray, List.getElem?_cons_succ, List.getElem?_cons_zero, Get_some, Br_true, Br_false, nth_zero, nth_one, nth_two, extractV_tuple, fieldAddrV_ptr, nilV_ptr, load1V_ptr, pickV_bool, unV_not, lenV_slice, capV_slice, cellH_of hb5, e]
      have hlt5 := ws5.lt
      by_cases hfile : f.file = []
      · have hh : fieldHead f = [(cdKey, [dName ++ quoteB f.name ++ [34]])] := by simp [fieldHead, dispOf, hfile]
        simp only [decide_eq_true hfile, Fld_ptr, add_mk, Nat.zero_add, List.getElem?_toArray, List.getElem?_cons_succ, List.getElem?_cons_zero, Get_some, Br_true, Br_false, nth_zero, nth_one, nth_two, extractV_tuple, fieldAddrV_ptr, nilV_ptr, load1V_ptr, pickV_bool, unV_not, lenV_slice, capV_slice, cellH_of hb5, hz5.1.str]
        refine (writeField_ok ws5 hs5 hf1 hf2 (by omega) (by omega)).mono ?_
        rintro x H6 ⟨p, k6, h6, f6, hp6, hk6⟩
        refine ⟨k6, p, by rw [hh]; exact h6, f15.up f6 (fun x hx => .inr (hlt5 x hx).2)⟩
      · have hh : fieldHead f = [(cdKey, [(dName ++ quoteB f.name ++ [34]) ++ (dFile ++ quoteB f.file ++ [34])]), (ctKey, [octet])] := by simp [fieldHead, dispOf, hfile]
        simp only [decide_eq_false hfile, Fld_ptr, add_mk, Nat.zero_add, List.getElem?_toArray, List.getElem?_cons_succ, List.getElem?_cons_zero, Get_some, Br_true, Br_false, nth_zero, nth_one, nth_two, extractV_tuple, fieldAddrV_ptr, nilV_ptr, load1V_ptr, pickV_bool, unV_not, lenV_slice, capV_slice, cellH_of hb5]
        refine (createFile_ok ws5 hs5 hf1 hf2 hf3 hf4 (by omega)).mono ?_
        rintro x H6 ⟨p, k6, rfl, h6, f6, hp6, hk6⟩
        rw [← hh] at h6
        have f16 : Frm [] H H6 := f15.up f6 (fun x hx => .inr (hlt5 x hx).2)
        have hs6 := f16.size
        have hob4 := (ws4.lt H.size (by simp [WS.ids])).1
        have hs56 := f6.size
        have hs45 := f5.size
        have hs67 : H6.size = H6.size := rfl
        have hb6 := f6.get hb5 (fun hm => by have := (ws4.lt _ hm).1; omega)
        have hz6 := hz.frm f16 (by simp)
        have c6 : cellH H6 ⟨H4.size, 2, none⟩ = some z := by rw [cellH_of hb6]; rfl
        simp only [Fld_ptr, add_mk, Nat.zero_add, List.getElem?_toArray, List.getElem?_cons_succ, List.getElem?_cons_zero, Get_some, Br_true, Br_false, nth_zero, nth_one, nth_two, extractV_tuple, fieldAddrV_ptr, nilV_ptr, load1V_ptr, pickV_bool, unV_not, lenV_slice, capV_slice, nilV2_eql_nil, c6, fill0, NewSl, nilV_method (ahead103 _)]
        have f7 : Frm [] H6 (H6.push (.cells #[] 5 (0, 0))) := Frm.push _ _ _
        have h0b : IsBytes (H6.push (.cells #[] 5 (0, 0))) (.slice (some ⟨H6.size, 0, none⟩) 0 0) [] :=
          (Row.of (z := #[]) (t := 5) (f := (0, 0)) (l := []) (by rw [push_same]; simp) : Row _ H6.size []).bytes (o := 0) (n := 0) (c := 0) (by simp) (by simp)
        have z7 : (H6.push (.cells #[] 5 (0, 0))).size = H6.size + 1 := by simp
        generalize H6.push (.cells #[] 5 (0, 0)) = H7 at *
        have hb7 := f7.get hb6 (by simp)
        have hz7 := hz6.frm f7 (by simp)
        have ws7 := h6.frm f7 (by simp)
        have f17 := f16.trans f7
        have hlt7 := ws7.lt
        have hs7 := f17.size
        have hlen7 : (acc ++ (delimText last bd ++ headText (fieldHead f))).length < 2 ^ 36 := by
          rw [← hacc, hdrop, remT_cons (q := 0)] at hl
          simp at hl ⊢
          omega
        refine ⟨⟨by rw [cellH_of hb7]; rfl, trivial⟩, ?_⟩
        refine append_empty hz7.1 (by omega) (fun h0 => ?_) (fun c H8 hc hr f8 z8 _ => ?_)
        · refine invoke_of 212 meth103 body212 ?_
          refine (partWrite_ok (d := []) ws7 h0b (fun y hy => ?_) (by rw [List.length_nil]; omega) hs7).mono ?_
          · simp only [blk, Option.map_some, Option.some.injEq] at hy
            subst hy
            exact Nat.ne_of_gt (Nat.lt_of_lt_of_le hob4 (Nat.le_trans hs45 hs56))
          rintro x H9 ⟨rfl, k9, h9, f9, hk9⟩
          refine ⟨k9, p, by rw [h0]; exact h9, f17.up f9 (fun x hx => .inr (hlt7 x (WS.sub' x hx)).2)⟩
        · have hx8 : IsBytes H8 (.slice (some ⟨H7.size, 0, none⟩) f.value.length c) f.value := by
            have := hr.bytes (o := 0) (c := c) (n := f.value.length) (by simp) hc
            rwa [List.drop_zero, List.take_length] at this
          have ws8 := ws7.frm f8 (by simp)
          have hlt8 := ws8.lt
          have f18 := f17.trans f8
          refine invoke_of 212 meth103 body212 ?_
          refine (partWrite_ok (d := f.value) ws8 hx8 (fun y hy => ?_) (by omega) f18.size).mono ?_
          · simp [blk] at hy
            omega
          rintro x H9 ⟨rfl, k9, h9, f9, hk9⟩
          exact ⟨k9, p, h9, f18.up f9 (fun x hx => .inr (hlt8 x (WS.sub' x hx)).2)⟩
    · rintro _ H' ⟨k', p, hw, hfr⟩
      simp only [inc_i64 (show i < 2 ^ 62 by omega)]
      exact key k' p H' hw hfr
  · have hge : i = l.length := by have : ¬ i < l.length := by simpa using hlt
                                  omega
    have hrem : (l.map fieldIn).drop i = [] := by rw [hge]; simp
    rw [hrem, remT_nil] at hacc
    refine (close_ok ws4 (by omega)).mono ?_
    rintro x H5 ⟨rfl, k5, b5, f5⟩
    refine (bufBytes_ok b5).mono ?_
    rintro x H6 ⟨hx, hblk, rfl⟩
    refine ⟨by rw [← hacc]; exact hx, f4.up f5 (fun x hx => .inr (ws4.lt x hx).2)⟩
end Go.Cps

/-
  impl.Write of parts whose headers have ascending keys, each with values.
  Conditions: a boundary that SetBoundary takes; the whole is short.
-/
namespace Go.Cps
open Go Go.Proofs

def partInL (p : PartL) : PartIn := (linesOf p.1, p.2)
theorem remT_cons' {bd : List UInt8} {last : Option Nat} {p : PartL} {q : Nat} {r : List PartIn} : remT bd last (partInL p :: r) = (delimText last bd ++ headText p.1) ++ p.2 ++ remT bd (some q) r := by
  have hp : partIn (partInL p) = headText p.1 ++ p.2 := by simp [partIn, partInL, headText]
  cases last with
  | none =>
    have : wholeT bd none (partInL p :: r) = dashOf bd ++ tailT bd none (partInL p :: r) := by simp [wholeT]
    simp [remT, this, tailT, hp, delim_none]
  | some p =>
    simp [remT, tailT, hp, delim_some]

/-- keys that ascend, each with values -/
structure AscHead (hd : List Hdr) : Prop where
  asc : (hd.map (·.1)).Pairwise (· < ·)
  ne : ∀ p ∈ hd, p.2 ≠ [] ∧ p.2.length < 2 ^ 30
  len : hd.length < 2 ^ 30
  key : ∀ p ∈ hd, p.1.length < 2 ^ 40

theorem local2' {T : TypeId} {z1 z2 a b : Value} {H : Heap} {K : Value → Heap → Prop} (h1 : isOne a = true) (h2 : isOne b = true)
    (hK : ∀ H', H'[H.size]? = some (.cells #[a, b] T (0, 0)) → Frm [] H H' → H'.size = H.size + 1 → K (.pointer (some ⟨H.size, 0, none⟩)) H') :
    New (.cells #[z1, z2] T (0, 0)) H fun x5 H => Get (storeNV 2 x5 (.agg #[a, b]) H) fun H => K x5 H := by
  have hp := push_same H (.cells #[z1, z2] T (0, 0))
  have f0 : Frm [] H (H.push (.cells #[z1, z2] T (0, 0))) := Frm.push _ _ _
  have z0 : (H.push (.cells #[z1, z2] T (0, 0))).size = H.size + 1 := by simp
  simp only [New]
  generalize H.push (.cells #[z1, z2] T (0, 0)) = H0 at *
  rw [storeNV_of (vs := #[a, b]) (n := 2) hp rfl rfl (by simp [h1, h2]), Get_some]
  refine hK _ (upd_same (lt_of_some hp)) ⟨by simp; omega, fun k hk _ => ?_⟩ (by simpa using z0)
  rw [upd_ne (by omega)]
  exact f0.same k hk (by simp)
theorem part_shape {D : List Nat} {H : Heap} {p : PartL} {vs : List Value} (h : PartR D H p vs) : ∃ y z, vs = [y, z] ∧ HeadsV D H y p.1 ∧ BytV D H z p.2 := h

theorem write_ok {v : Value} {bd : List UInt8} {l : List PartL} {H : Heap} (hv : PartsV [] H v l) (hb : BdOk bd) (hl : (wholeT bd none (l.map partInL)).length < 2 ^ 36) (hn : l.length < 2 ^ 40) (hh : ∀ p ∈ l, AscHead p.1) :
    CallsH Tryz.prog 10 #[strVal bd, v] H fun x H' => ∃ y, x = .tuple #[y, .bool true] ∧ IsBytes H' y (wholeT bd none (l.map partInL)) ∧ Frm [] H H' := by
  have hlen := hb.len
  apply s10
  unfold c10
  rw [New]
  simp only [Fld_ptr, add_mk, Nat.zero_add, List.getElem?_toArray, List.getElem?_cons_succ, List.getElem?_cons_zero, Get_some, Br_true, Br_false, nth_zero, nth_one, nth_two, extractV_tuple, fieldAddrV_ptr, nilV_ptr, load1V_ptr, pickV_bool, unV_not, lenV_slice, capV_slice]
  generalize hH1 : H.push (.cells #[(.slice none 0 0), (.int .i64 0), (.int .i8 0)] 55 (0, 0)) = H1
  have f1 : Frm [] H H1 := by rw [← hH1]; exact Frm.push _ _ _
  have b1 : BufAt H.size none [] H1 := ⟨_, 0, by rw [← hH1]; exact push_same _ _, rfl, rfl⟩
  have z1 : H1.size = H.size + 1 := by rw [← hH1]; simp
  refine (newWriter_ok rfl).mono ?_
  rintro x H2 ⟨rfl, rfl⟩
  have f2 : Frm [] H1 (H1.push (.cells #[.iface 58 (.pointer (some ⟨H.size, 0, none⟩)), strVal [], .pointer none] 105 (0, 0))) := Frm.push _ _ _
  have b2 := b1.frm f2 (by simp) (by simp)
  have w2 : WrAt H1.size (.iface 58 (.pointer (some ⟨H.size, 0, none⟩))) [] (.pointer none) (H1.push (.cells #[.iface 58 (.pointer (some ⟨H.size, 0, none⟩)), strVal [], .pointer none] 105 (0, 0))) := push_same _ _
  refine (setBoundary_ok w2 hb).mono ?_
  rintro x H3 ⟨rfl, w3, f3⟩
  have b3 := b2.frm f3 (by simp; omega) (by simp)
  have f13 : Frm [] H H3 := (f1.trans f2).up f3 (fun x hx => by rw [List.mem_singleton] at hx; subst hx; exact .inr (by omega))
  have ws3 : WS H.size H.size H1.size bd none none [] H3 := ⟨b3, w3, by simp, ⟨Nat.le_refl _, by omega, by simp, by simp⟩, ⟨by omega, by simp, by simp, by simp⟩⟩
  simp only [nilV2_neq_nil, Fld_ptr, add_mk, Nat.zero_add, List.getElem?_toArray, List.getElem?_cons_succ, List.getElem?_cons_zero, Get_some, Br_true, Br_false, nth_zero, nth_one, nth_two, extractV_tuple, fieldAddrV_ptr, nilV_ptr, load1V_ptr, pickV_bool, unV_not, lenV_slice, capV_slice, hv.len]
  refine ⟨fun n vs H' => ∃ i acc k last, vs = [.int .i64 (i : Nat)] ∧ n = l.length - i ∧ i ≤ l.length ∧ WS H.size H.size H1.size bd k last acc H' ∧ Frm [] H H' ∧ acc ++ remT bd last ((l.map partInL).drop i) = wholeT bd none (l.map partInL), ⟨_, 0, [], none, none, rfl, rfl, Nat.zero_le _, ws3, f13, by simp [remT]⟩, ?_⟩
  rintro n vs H4 ⟨i, acc, k, last, rfl, rfl, hi, ws4, f4, hacc⟩
  have hal : acc.length < 2 ^ 36 := by rw [← hacc] at hl; simp at hl; omega
  simp only [Fld_ptr, add_mk, Nat.zero_add, List.getElem?_toArray, List.getElem?_cons_succ, List.getElem?_cons_zero, Get_some, Br_true, Br_false, nth_zero, nth_one, nth_two, extractV_tuple, fieldAddrV_ptr, nilV_ptr, load1V_ptr, pickV_bool, unV_not, lenV_slice, capV_slice, arithV_add, arithV_sub, arithV_eql, arithV_neq, arithV_lss, arithV_leq, arithV_gtr, arithV_geq, intConvV_int, dec_lt]
  refine Br_intro (fun hlt => ?_) (fun hlt => ?_)
  · have hlt' : i < l.length := by simpa using hlt
    obtain ⟨a, vs, ha, hlo, _, hR⟩ := hv.elem2 f4 hlt'
    obtain ⟨y, z, rfl, hy, hz⟩ := part_shape hR
    have hhd := hh l[i] (List.getElem_mem hlt')
    have hdrop : (l.map partInL).drop i = partInL l[i] :: (l.map partInL).drop (i + 1) := by
      rw [List.drop_eq_getElem_cons (by simpa using hlt'), List.getElem_map]
    generalize hfe : l[i] = p at *
    have hpl : acc.length + (delimText last bd).length + (headText p.1).length + p.2.length < 2 ^ 36 := by
      rw [← hacc, hdrop, remT_cons' (q := 0)] at hl
      simp at hl
      omega
    have hs4 := f4.size
    have key : ∀ (k' : Option Nat) (q : Nat) (H' : Heap), WS H.size H.size H1.size bd k' (some q) (acc ++ (delimText last bd ++ headText p.1) ++ p.2) H' → Frm [] H H' → ∃ n', n' < l.length - i ∧ ∃ i' acc k last, [Value.int .i64 ((i + 1 : Nat) : Int)] = [.int .i64 (i' : Nat)] ∧ n' = l.length - i' ∧ i' ≤ l.length ∧ WS H.size H.size H1.size bd k last acc H' ∧ Frm [] H H' ∧ acc ++ remT bd last ((l.map partInL).drop i') = wholeT bd none (l.map partInL) := by
      intro k' q H' hw hfr
      refine ⟨_, by omega, i + 1, _, k', some q, rfl, rfl, hlt', hw, hfr, ?_⟩
      rw [← hacc, hdrop, remT_cons' (q := q)]
      simp
    simp only [ha, Get_some, hlo]
    refine local2' (K := fun x5 H => _) hy.isOne hz.isOne fun H5 hb5 f5 z5 => ?_
    have f15 := f4.trans f5
    have ws5 := ws4.frm f5 (by simp)
    have hs5 := f15.size
    simp only [Fld_ptr, add_mk, Nat.zero_add, List.getElem?_toArray, List.getElem?_cons_succ, List.getElem?_cons_zero, Get_some, Br_true, Br_false, nth_zero, nth_one, nth_two, extractV_tuple, fieldAddrV_ptr, nilV_ptr, load1V_ptr, pickV_bool, unV_not, lenV_slice, capV_slice, cellH_of hb5]
    refine (header_ok (hy.frm headR_ok f15 (by simp)) hhd.ne (hhd.asc.imp fun h e => by rw [e] at h; exact List.lt_irrefl _ h) hhd.len).mono ?_
    rintro x H6 ⟨m, N, E, rfl, hE, hEhd, f6, hEb, rfl⟩
    have f16 := f15.trans f6
    have ws6 := ws5.frm f6 (by simp)
    have hs6 := f16.size
    have hlt5 := ws5.lt
    have hEl : E.length = p.1.length := by rw [← hEhd, List.length_map]
    have hkl : ∀ e ∈ E, e.key.length < 2 ^ 40 := fun e he => hhd.key e.hd (by rw [← hEhd]; exact List.mem_map_of_mem he)
    have hb6 := f6.get hb5 (by simp)
    refine (createPart_ok (hs := p.1) ws6 hs6 hE (fun x hx hm => ?_) (by rw [hEhd]) hhd.asc hkl hhd.len (by omega) ?_).mono ?_
    · have := hEb x hx; have := (hlt5 x hm).1; omega
    · omega
    rintro x H7 ⟨q, k7, rfl, h7, f7, hq7, hk7⟩
    have hlt6 := ws6.lt
    have f17 : Frm [] H H7 := f16.up f7 (fun x hx => .inr (hlt6 x hx).2)
    have hb7 := f7.get hb6 (fun hm => by have := (ws4.lt _ hm).1; omega)
    have c7 : cellH H7 ⟨H4.size, 1, none⟩ = some z := by rw [cellH_of hb7]; rfl
    simp only [Fld_ptr, add_mk, Nat.zero_add, List.getElem?_toArray, List.getElem?_cons_succ, List.getElem?_cons_zero, Get_some, Br_true, Br_false, nth_zero, nth_one, nth_two, extractV_tuple, fieldAddrV_ptr, nilV_ptr, load1V_ptr, pickV_bool, unV_not, lenV_slice, capV_slice, nilV2_neq_nil, c7, fill0, NewSl, nilV_method (ahead103 _)]
    have hz7 := hz.frm f17 (by simp)
    have f8 : Frm [] H7 (H7.push (.cells #[] 5 (0, 0))) := Frm.push _ _ _
    have h0b : IsBytes (H7.push (.cells #[] 5 (0, 0))) (.slice (some ⟨H7.size, 0, none⟩) 0 0) [] := .inr ⟨_, rfl, rfl⟩
    generalize H7.push (.cells #[] 5 (0, 0)) = H8 at *
    have hb8 := f8.get hb7 (by simp)
    have hz8 := hz7.frm f8 (by simp)
    have ws8 := h7.frm f8 (by simp)
    have f18 := f17.trans f8
    have hlt8 := ws8.lt
    have hs8 := f18.size
    have hob4 := (ws4.lt H.size (by simp [WS.ids])).1
    have hs45 := f5.size
    have hs56 := f6.size
    have hs67 := f7.size
    have hlen8 : (acc ++ (delimText last bd ++ headText p.1)).length + p.2.length < 2 ^ 36 := by simp; omega
    refine ⟨⟨by rw [cellH_of hb8]; rfl, trivial⟩, ?_⟩
    refine append_empty hz8.1 (by omega) (fun h0 => ?_) (fun c H9 hc hr f9 z9 _ => ?_)
    · refine invoke_of 212 meth103 body212 ?_
      refine (partWrite_ok (d := []) ws8 h0b (fun y hy => ?_) (by rw [List.length_nil]; omega) hs8).mono ?_
      · simp only [blk, Option.some.injEq] at hy
        subst hy
        exact Nat.ne_of_gt (by omega)
      rintro x H9 ⟨rfl, k9, h9, f9, hk9⟩
      simp only [Fld_ptr, add_mk, Nat.zero_add, List.getElem?_toArray, List.getElem?_cons_succ, List.getElem?_cons_zero, Get_some, Br_true, Br_false, nth_zero, nth_one, nth_two, extractV_tuple, fieldAddrV_ptr, nilV_ptr, load1V_ptr, pickV_bool, unV_not, lenV_slice, capV_slice, nilV2_neq_nil, inc_i64 (show i < 2 ^ 62 by omega)]
      exact key k9 q H9 (by rw [h0]; exact h9) (f18.up f9 (fun x hx => .inr (hlt8 x (WS.sub' x hx)).2))
    · have hx9 : IsBytes H9 (.slice (some ⟨H8.size, 0, none⟩) p.2.length c) p.2 := by
        have := hr.bytes (o := 0) (c := c) (n := p.2.length) (by simp) hc
        rwa [List.drop_zero, List.take_length] at this
      have ws9 := ws8.frm f9 (by simp)
      have hlt9 := ws9.lt
      have f19 := f18.trans f9
      refine invoke_of 212 meth103 body212 ?_
      refine (partWrite_ok (d := p.2) ws9 hx9 (fun y hy => ?_) (by omega) f19.size).mono ?_
      · simp [blk] at hy
        have := f8.size
        omega
      rintro x H10 ⟨rfl, k10, h10, f10, hk10⟩
      simp only [Fld_ptr, add_mk, Nat.zero_add, List.getElem?_toArray, List.getElem?_cons_succ, List.getElem?_cons_zero, Get_some, Br_true, Br_false, nth_zero, nth_one, nth_two, extractV_tuple, fieldAddrV_ptr, nilV_ptr, load1V_ptr, pickV_bool, unV_not, lenV_slice, capV_slice, nilV2_neq_nil, inc_i64 (show i < 2 ^ 62 by omega)]
      exact key k10 q H10 h10 (f19.up f10 (fun x hx => .inr (hlt9 x (WS.sub' x hx)).2))
  · have hge : i = l.length := by have : ¬ i < l.length := by simpa using hlt
                                  omega
    have hrem : (l.map partInL).drop i = [] := by rw [hge]; simp
    rw [hrem, remT_nil] at hacc
    refine (close_ok ws4 (by omega)).mono ?_
    rintro x H5 ⟨rfl, k5, b5, f5⟩
    refine (bufBytes_ok b5).mono ?_
    rintro x H6 ⟨hx, hblk, rfl⟩
    simp only [nilV2_eql_nil, Fld_ptr, add_mk, Nat.zero_add, List.getElem?_toArray, List.getElem?_cons_succ, List.getElem?_cons_zero, Get_some, Br_true, Br_false, nth_zero, nth_one, nth_two, extractV_tuple, fieldAddrV_ptr, nilV_ptr, load1V_ptr, pickV_bool, unV_not, lenV_slice, capV_slice]
    have hf : Frm [] H H6 := f4.up f5 (fun x hx => .inr (ws4.lt x hx).2)
    exact ⟨_, rfl, by rw [← hacc]; exact hx, hf⟩
end Go.Cps
