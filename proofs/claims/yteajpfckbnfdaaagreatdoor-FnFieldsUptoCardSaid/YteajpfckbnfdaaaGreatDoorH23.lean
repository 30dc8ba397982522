/-
  A part of the proof: The text of a body of parts; one part of it read. impl.parts over NextRawPart: the parts of a body, whole or cut in the last one. impl.Parts of a body of parts, whole or cut in the last one. spec.Form. FnExactForm, apart from any world. What the bodies of some functions of the program come to, at heap level, each proved of the program itself. MIMEHeader.Get of a canonical key. What the bodies of some functions of the program come to, at heap level, each proved of the program itself. strings.EqualFold of equal texts and of an empty one; MIMEHeader.Del of a canonical key. What the bodies of some functions of the program come to, at heap level, each proved of the program itself.
  Conditions: each contract's own.
-/
import Derived.Test.YteajpfckbnfdaaaGreatDoorH4
import Derived.Test.YteajpfckbnfdaaaGreatDoorH5
import Derived.Test.YteajpfckbnfdaaaGreatDoorH18
import Derived.Test.YteajpfckbnfdaaaGreatDoorH20
import Derived.Test.YteajpfckbnfdaaaGreatDoorH22
set_option linter.all false
namespace Go.Cps
open Go Go.Proofs
abbrev PartIn := List (List UInt8 × List UInt8) × List UInt8
def partIn (p : PartIn) : List UInt8 := linesText p.1 ++ 13 :: 10 :: p.2
def tailT (bd : List UInt8) (cut : Option PartIn) : List PartIn → List UInt8
  | [] => match cut with
    | none => [45, 45, 13, 10]
    | some p => 13 :: 10 :: partIn p
  | p :: r => 13 :: 10 :: (partIn p ++ (nldOf bd ++ tailT bd cut r))
def wholeT (bd : List UInt8) (cut : Option PartIn) (ps : List PartIn) : List UInt8 := if ps = [] ∧ cut = none then nldOf bd ++ tailT bd cut ps else dashOf bd ++ tailT bd cut ps
structure GoodIn (bd : List UInt8) (p : PartIn) : Prop where
  lines : ∀ kv ∈ p.1, LineOk kv
  few : p.1.length ≤ 110
  nw : Nowhere p.2 (nldOf bd)
  dash : (dashOf bd).isPrefixOf p.2 = false
  small : p.2.length < 2 ^ 38
theorem dash_tail {bd b t : List UInt8} (hb : BdR bd) (h : (dashOf bd).isPrefixOf b = false) : (dashOf bd).isPrefixOf (b ++ (nldOf bd ++ t)) = false := by
  rw [← Bool.not_eq_true] at h ⊢
  intro hp
  apply h
  rw [List.isPrefixOf_iff_prefix] at hp ⊢
  by_cases hl : (dashOf bd).length ≤ b.length
  · exact List.prefix_of_prefix_length_le hp (List.prefix_append _ _) hl
  · exfalso
    obtain ⟨r, hr⟩ := hp
    have hlt : b.length < (dashOf bd).length := by omega
    have h1 : (b ++ (nldOf bd ++ t))[b.length]? = some 13 := by
      rw [List.getElem?_append_right (Nat.le_refl _), Nat.sub_self]
      rfl
    rw [← hr, List.getElem?_append_left hlt] at h1
    exact dash_nocr hb (List.mem_of_getElem? h1)
theorem tailT_full (bd : List UInt8) (cut : Option PartIn) (ps : List PartIn) : FullT (tailT bd cut ps) := by
  cases ps with
  | nil =>
    cases cut with
    | none => exact fullT_end _
    | some p => exact fullT_crlf _
  | cons p r => exact fullT_crlf _
theorem allRaw_ok {S : Stk} {mr tb : Nat} {m : MRf} {bd : List UInt8} {B : Nat} {ea ua : Addr} {mode : Option (List UInt8)} {b : List UInt8} {pt hm : Nat} {s : St} {H : Heap} (h : RB (rawEnv S mr tb m bd B ea ua mode pt hm) b 0 0 .go false s H) (hv : ∀ x, blk S.v = some x → x < H.size) (htb : tb < H.size) (hB : B ≤ H.size) :
    CallsH Tryz.prog 18 #[.iface 41 (.pointer (some ⟨pt, 0, none⟩))] H fun x H' => ∃ k out d, x = .tuple #[out, .bool mode.isSome] ∧ OwnB H' k out d ∧ d <+: b ∧ (mode.isSome = true → d = b) ∧
      (∀ t, mode = some t → ∃ total s', RB (rawEnv S mr tb m bd B ea ua mode pt hm) [] 0 total .eof false s' H') ∧ Frm (pt :: S.ids) H H' ∧ (∀ g, k = some g → H.size ≤ g) := by
  have hlt : ∀ x ∈ pt :: mr :: tb :: S.ids, x < H.size := fun x hx => by
    rcases List.mem_cons.1 hx with rfl | hx
    · exact lt_of_some h.hp
    · rcases List.mem_cons.1 hx with rfl | hx
      · exact lt_of_some h.ma.hm
      · rcases List.mem_cons.1 hx with rfl | hx
        · exact htb
        · exact h.rd.ids_lt x hx
  refine (all_ok (e := rawEnv S mr tb m bd B ea ua mode pt hm) rfl h hB hlt hv).mono ?_
  rintro x H' ⟨k, out, d, b', total, ev, re, s', rfl, hout, hdb, h', hne, f, hk⟩
  cases mode with
  | none =>
    have hc := (h'.cut rfl).1
    cases ev with
    | go => exact absurd rfl hne
    | eof => exact absurd rfl hc
    | re => exact ⟨k, out, d, rfl, hout, ⟨b', hdb⟩, by simp, by simp, f, hk⟩
  | some t =>
    obtain ⟨_, hre, h1, h2⟩ := h'.full t rfl
    cases ev with
    | go => exact absurd rfl hne
    | re => exact absurd rfl h1
    | eof =>
      have hb0 : b' = [] := List.eq_nil_of_length_eq_zero (h2 rfl).symm
      subst hb0
      subst hre
      rw [List.append_nil] at hdb
      subst hdb
      exact ⟨k, out, d, rfl, hout, List.prefix_refl _, fun _ => rfl, fun t' ht' => ⟨total, s', h'⟩, f, hk⟩
end Go.Cps
namespace Go.Cps
open Go Go.Proofs
theorem OwnS.new {α : Type} {w T : Nat} {R : List Nat → Heap → α → List Value → Prop} (hR : RelOk R) {D : List Nat} {H : Heap} {k : Option Nat} {v : Value} {l : List α} {g : Nat} (h : OwnS w T R D H k v l) (hg : H.size ≤ g) : OwnS w T R (g :: D) H k v l := by
  cases k with
  | none => exact h
  | some q =>
    obtain ⟨cells, c, rfl, hq, hc, hl, hqD, he⟩ := h
    have hql := lt_of_some hq
    refine ⟨cells, c, rfl, hq, hc, hl, fun hm => ?_, fun j hj => ?_⟩
    · rcases List.mem_cons.1 hm with rfl | hm
      · omega
      · exact hqD hm
    · obtain ⟨vs, g1, g2, g3⟩ := he j hj
      exact ⟨vs, g1, hR.sub (fun x hx => by
        simp only [List.mem_cons] at hx ⊢
        rcases hx with h | h | h
        · exact .inr (.inl h)
        · exact .inl h
        · exact .inr (.inr h)) (hR.new g2 hg), g3⟩
end Go.Cps
namespace Go.Cps
open Go Go.Proofs
theorem tail_pre (bd : List UInt8) (cut : Option PartIn) (ps : List PartIn) : nldOf bd ++ tailT bd cut ps = [13, 10] ++ (dashOf bd ++ tailT bd cut ps) := by simp [nldOf, dashOf]
end Go.Cps
namespace Go.Cps
open Go Go.Proofs
def fieldIn (f : FieldL) : PartIn := (linesOf (fieldHead f), f.value)
def remT (bd : List UInt8) (last : Option Nat) (ps : List PartIn) : List UInt8 := match last with
  | none => wholeT bd none ps
  | some _ => nldOf bd ++ tailT bd none ps
theorem delim_none (bd : List UInt8) : delimText none bd = dashOf bd ++ [13, 10] := by simp [delimText, dashOf]
theorem delim_some (p : Nat) (bd : List UInt8) : delimText (some p) bd = nldOf bd ++ [13, 10] := by simp [delimText, nldOf]
theorem remT_cons {bd : List UInt8} {last : Option Nat} {f : FieldL} {q : Nat} {r : List PartIn} : remT bd last (fieldIn f :: r) = (delimText last bd ++ headText (fieldHead f)) ++ f.value ++ remT bd (some q) r := by
  have hp : partIn (fieldIn f) = headText (fieldHead f) ++ f.value := by simp [partIn, fieldIn, headText]
  cases last with
  | none =>
    have : wholeT bd none (fieldIn f :: r) = dashOf bd ++ tailT bd none (fieldIn f :: r) := by simp [wholeT]
    simp [remT, this, tailT, hp, delim_none]
  | some p =>
    simp [remT, tailT, hp, delim_some]
theorem remT_nil {bd : List UInt8} {last : Option Nat} : remT bd last [] = [13, 10, 45, 45] ++ bd ++ [45, 45, 13, 10] := by
  cases last <;> simp [remT, wholeT, tailT, nldOf]
theorem SlV.elem2 {α : Type} {w : Nat} {R : List Nat → Heap → α → List Value → Prop} {D : List Nat} {H H' : Heap} {v : Value} {l : List α} (h : SlV w R D H v l) (f : Frm [] H H') {j : Nat} (hj : j < l.length) :
    ∃ a vs, (∀ k : IntKind, elemAddrV w v (.int k j) = some (.pointer (some a))) ∧ loadNV w (.pointer (some a)) H' = some (.agg vs.toArray) ∧ vs.length = w ∧ R D H l[j] vs := by
  rcases h with ⟨b, o, c, rfl, h1, h2, h3, h4⟩ | ⟨_, _, rfl⟩
  · obtain ⟨vs, g1, g2, g3⟩ := h4 j hj
    have e : ∀ i, i < w → cellH H' ⟨b, o + j * w + i, none⟩ = vs[i]? := fun i hi => by
      rw [Nat.add_assoc, ← g3 i hi]
      simp only [cellH, f.same b h3 (by simp)]
    refine ⟨⟨b, o + j * w, none⟩, vs, fun k => ?_, ?_, g1, g2⟩
    · have := elemAddr_of (b := b) (o := o) (n := l.length) (c := c) (size := w) (k := k) (i := (j : Int)) (by omega) (by omega)
      simpa using this
    · have hc := cellsH_of (H := H') (b := b) (o := o + j * w) (vs := vs) (fun i hi => e i (by omega))
      rw [g1] at hc
      simp only [loadNV, hc, Option.map_some]
  · simp at hj
theorem WS.sub' {ob wr p : Nat} {k : Option Nat} : ∀ x ∈ ob :: k.toList, x ∈ WS.ids ob wr k (some p) := WS.sub
theorem form_ok {v : Value} {bd : List UInt8} {l : List FieldL} {H : Heap} (hv : FieldsV [] H v l) (hb : BdOk bd) (hl : (wholeT bd none (l.map fieldIn)).length < 2 ^ 36) (hn : l.length < 2 ^ 40)
    (hf : ∀ f ∈ l, f.name.length < 2 ^ 33 ∧ f.name.all prB = true ∧ f.file.length < 2 ^ 33 ∧ f.file.all prB = true) :
    CallsH Tryz.prog 7 #[strVal bd, v] H fun x H' => IsBytes H' x (wholeT bd none (l.map fieldIn)) ∧ Frm [] H H' := by
  have hlen := hb.len
  apply s14
  unfold c14
  rw [New]
  simp only [Q0, Q1, Q2, Q3, Q4, Q5, Q6, Q7, Q8, Q9, Qa, Qb, Qc, Qd, Qe, Qf, Qg, Qh, Qi, Qj]
  generalize hH1 : H.push (.cells #[(.slice none 0 0), (.int .i64 0), (.int .i8 0)] 53 (0, 0)) = H1
  have f1 : Frm [] H H1 := by rw [← hH1]; exact Frm.push _ _ _
  have b1 : BufAt H.size none [] H1 := ⟨_, 0, by rw [← hH1]; exact push_same _ _, rfl, rfl⟩
  have z1 : H1.size = H.size + 1 := by rw [← hH1]; simp
  refine (newWriter_ok rfl).mono ?_
  rintro x H2 ⟨rfl, rfl⟩
  have f2 : Frm [] H1 (H1.push (.cells #[.iface 56 (.pointer (some ⟨H.size, 0, none⟩)), strVal [], .pointer none] 89 (0, 0))) := Frm.push _ _ _
  have b2 := b1.frm f2 (by simp) (by simp)
  have w2 : WrAt H1.size (.iface 56 (.pointer (some ⟨H.size, 0, none⟩))) [] (.pointer none) (H1.push (.cells #[.iface 56 (.pointer (some ⟨H.size, 0, none⟩)), strVal [], .pointer none] 89 (0, 0))) := push_same _ _
  refine (setBoundary_ok w2 hb).mono ?_
  rintro x H3 ⟨rfl, w3, f3⟩
  have b3 := b2.frm f3 (by simp; omega) (by simp)
  have f13 : Frm [] H H3 := (f1.trans f2).up f3 (fun x hx => by rw [List.mem_singleton] at hx; subst hx; exact .inr (by omega))
  have ws3 : WS H.size H.size H1.size bd none none [] H3 := ⟨b3, w3, by simp, ⟨Nat.le_refl _, by omega, by simp, by simp⟩, ⟨by omega, by simp, by simp, by simp⟩⟩
  simp only [nilV2_neq_nil, Q0, Q1, Q2, Q3, Q4, Q5, Q6, Q7, Q8, Q9, Qa, Qb, Qc, Qd, Qe, Qf, Qg, Qh, Qi, Qj, hv.len]
  refine ⟨fun n vs H' => ∃ i acc k last, vs = [.int .i64 (i : Nat)] ∧ n = l.length - i ∧ i ≤ l.length ∧ WS H.size H.size H1.size bd k last acc H' ∧ Frm [] H H' ∧ acc ++ remT bd last ((l.map fieldIn).drop i) = wholeT bd none (l.map fieldIn), ⟨_, 0, [], none, none, rfl, rfl, Nat.zero_le _, ws3, f13, by simp [remT]⟩, ?_⟩
  rintro n vs H4 ⟨i, acc, k, last, rfl, rfl, hi, ws4, f4, hacc⟩
  have hal : acc.length < 2 ^ 36 := by rw [← hacc] at hl; simp at hl; omega
  simp only [Q0, Q1, Q2, Q3, Q4, Q5, Q6, Q7, Q8, Q9, Qa, Qb, Qc, Qd, Qe, Qf, Qg, Qh, Qi, Qj, Qk, Ql, Qm, Qn, Qo, Qp, Qq, Qr, Qs, dec_lt]
  refine Br_intro (fun hlt => ?_) (fun hlt => ?_)
  · have hlt' : i < l.length := by simpa using hlt
    obtain ⟨a, vs, ha, hlo, _, hR⟩ := hv.elem2 f4 hlt'
    obtain ⟨z, rfl, hz⟩ := field_shape hR
    obtain ⟨hf1, hf2, hf3, hf4⟩ := hf l[i] (List.getElem_mem hlt')
    have hdrop : (l.map fieldIn).drop i = fieldIn l[i] :: (l.map fieldIn).drop (i + 1) := by
      rw [List.drop_eq_getElem_cons (by simpa using hlt'), List.getElem_map]
    generalize hfe : l[i] = f at *
    have hvl : f.value.length < 2 ^ 36 := by
      rw [← hacc, hdrop, remT_cons (q := 0)] at hl
      simp at hl
      omega
    have hs4 := f4.size
    have key : ∀ (k' : Option Nat) (p : Nat) (H' : Heap), WS H.size H.size H1.size bd k' (some p) (acc ++ (delimText last bd ++ headText (fieldHead f)) ++ f.value) H' → Frm [] H H' → ∃ n', n' < l.length - i ∧ ∃ i' acc k last, [Value.int .i64 ((i + 1 : Nat) : Int)] = [.int .i64 (i' : Nat)] ∧ n' = l.length - i' ∧ i' ≤ l.length ∧ WS H.size H.size H1.size bd k last acc H' ∧ Frm [] H H' ∧ acc ++ remT bd last ((l.map fieldIn).drop i') = wholeT bd none (l.map fieldIn) := by
      intro k' p H' hw hfr
      refine ⟨_, by omega, i + 1, _, k', some p, rfl, rfl, hlt', hw, hfr, ?_⟩
      rw [← hacc, hdrop, remT_cons (q := p)]
      simp
    refine ⟨fun _ H' => ∃ k' p, WS H.size H.size H1.size bd k' (some p) (acc ++ (delimText last bd ++ headText (fieldHead f)) ++ f.value) H' ∧ Frm [] H H', ?_, ?_⟩
    · simp only [ha, Q6, hlo]
      refine local3 (K := fun x5 H => _) rfl rfl hz.isOne fun H5 hb5 f5 z5 => ?_
      have f15 := f4.trans f5
      have ws5 := ws4.frm f5 (by simp)
      have hz5 := hz.frm f15 (by simp)
      have hs5 := f15.size
      have e : strV .eql (strVal f.file) (.string ⟨#[]⟩) = some (.bool (decide (f.file = []))) := strV_eql' f.file []
      simp only [Q0, Q1, Q2, Q3, Q4, Q5, Q6, Q7, Q8, Q9, Qa, Qb, Qc, Qd, Qe, Qf, Qg, Qh, Qi, Qj, cellH_of hb5, e]
      have hlt5 := ws5.lt
      by_cases hfile : f.file = []
      · have hh : fieldHead f = [(cdKey, [dName ++ quoteB f.name ++ [34]])] := by simp [fieldHead, dispOf, hfile]
        simp only [decide_eq_true hfile, Q0, Q1, Q2, Q3, Q4, Q5, Q6, Q7, Q8, Q9, Qa, Qb, Qc, Qd, Qe, Qf, Qg, Qh, Qi, Qj, cellH_of hb5, hz5.1.str]
        refine (writeField_ok ws5 hs5 hf1 hf2 (by omega) (by omega)).mono ?_
        rintro x H6 ⟨p, k6, h6, f6, hp6, hk6⟩
        refine ⟨k6, p, by rw [hh]; exact h6, f15.up f6 (fun x hx => .inr (hlt5 x hx).2)⟩
      · have hh : fieldHead f = [(cdKey, [(dName ++ quoteB f.name ++ [34]) ++ (dFile ++ quoteB f.file ++ [34])]), (ctKey, [octet])] := by simp [fieldHead, dispOf, hfile]
        simp only [decide_eq_false hfile, Q0, Q1, Q2, Q3, Q4, Q5, Q6, Q7, Q8, Q9, Qa, Qb, Qc, Qd, Qe, Qf, Qg, Qh, Qi, Qj, cellH_of hb5]
        refine (createFile_ok ws5 hs5 hf1 hf2 hf3 hf4 (by omega)).mono ?_
        rintro x H6 ⟨p, k6, rfl, h6, f6, hp6, hk6⟩
        rw [← hh] at h6
        have f16 : Frm [] H H6 := f15.up f6 (fun x hx => .inr (hlt5 x hx).2)
        have hs6 := f16.size
        have hob4 := (ws4.lt H.size (by simp [WS.ids])).1
        have hs56 := f6.size
        have hs45 := f5.size
        have hs67 : H6.size = H6.size := rfl
        have hb6 := f6.get hb5 (fun hm => by have := (ws4.lt _ hm).1; omega)
        have hz6 := hz.frm f16 (by simp)
        have c6 : cellH H6 ⟨H4.size, 2, none⟩ = some z := by rw [cellH_of hb6]; rfl
        simp only [Q0, Q1, Q2, Q3, Q4, Q5, Q6, Q7, Q8, Q9, Qa, Qb, Qc, Qd, Qe, Qf, Qg, Qh, Qi, Qj, nilV2_eql_nil, c6, fill0, NewSl, nilV_method (ahead103 _)]
        have f7 : Frm [] H6 (H6.push (.cells #[] 5 (0, 0))) := Frm.push _ _ _
        have h0b : IsBytes (H6.push (.cells #[] 5 (0, 0))) (.slice (some ⟨H6.size, 0, none⟩) 0 0) [] :=
          (Row.of (z := #[]) (t := 5) (f := (0, 0)) (l := []) (by rw [push_same]; simp) : Row _ H6.size []).bytes (o := 0) (n := 0) (c := 0) (by simp) (by simp)
        have z7 : (H6.push (.cells #[] 5 (0, 0))).size = H6.size + 1 := by simp
        generalize H6.push (.cells #[] 5 (0, 0)) = H7 at *
        have hb7 := f7.get hb6 (by simp)
        have hz7 := hz6.frm f7 (by simp)
        have ws7 := h6.frm f7 (by simp)
        have f17 := f16.trans f7
        have hlt7 := ws7.lt
        have hs7 := f17.size
        have hlen7 : (acc ++ (delimText last bd ++ headText (fieldHead f))).length < 2 ^ 36 := by
          rw [← hacc, hdrop, remT_cons (q := 0)] at hl
          simp at hl ⊢
          omega
        refine ⟨⟨by rw [cellH_of hb7]; rfl, trivial⟩, ?_⟩
        refine append_empty hz7.1 (by omega) (fun h0 => ?_) (fun c H8 hc hr f8 z8 _ => ?_)
        · refine invoke_of 233 meth103 body212 ?_
          refine (partWrite_ok (d := []) ws7 h0b (fun y hy => ?_) (by rw [List.length_nil]; omega) hs7).mono ?_
          · simp only [blk, Option.map_some, Option.some.injEq] at hy
            subst hy
            exact Nat.ne_of_gt (Nat.lt_of_lt_of_le hob4 (Nat.le_trans hs45 hs56))
          rintro x H9 ⟨rfl, k9, h9, f9, hk9⟩
          refine ⟨k9, p, by rw [h0]; exact h9, f17.up f9 (fun x hx => .inr (hlt7 x (WS.sub' x hx)).2)⟩
        · have hx8 : IsBytes H8 (.slice (some ⟨H7.size, 0, none⟩) f.value.length c) f.value := by
            have := hr.bytes (o := 0) (c := c) (n := f.value.length) (by simp) hc
            rwa [List.drop_zero, List.take_length] at this
          have ws8 := ws7.frm f8 (by simp)
          have hlt8 := ws8.lt
          have f18 := f17.trans f8
          refine invoke_of 233 meth103 body212 ?_
          refine (partWrite_ok (d := f.value) ws8 hx8 (fun y hy => ?_) (by omega) f18.size).mono ?_
          · simp [blk] at hy
            omega
          rintro x H9 ⟨rfl, k9, h9, f9, hk9⟩
          exact ⟨k9, p, h9, f18.up f9 (fun x hx => .inr (hlt8 x (WS.sub' x hx)).2)⟩
    · rintro _ H' ⟨k', p, hw, hfr⟩
      simp only [inc_i64 (show i < 2 ^ 62 by omega)]
      exact key k' p H' hw hfr
  · have hge : i = l.length := by have : ¬ i < l.length := by simpa using hlt
                                  omega
    have hrem : (l.map fieldIn).drop i = [] := by rw [hge]; simp
    rw [hrem, remT_nil] at hacc
    refine (close_ok ws4 (by omega)).mono ?_
    rintro x H5 ⟨rfl, k5, b5, f5⟩
    refine (bufBytes_ok b5).mono ?_
    rintro x H6 ⟨hx, hblk, rfl⟩
    refine ⟨by rw [← hacc]; exact hx, f4.up f5 (fun x hx => .inr (ws4.lt x hx).2)⟩
end Go.Cps
namespace Go.Cps
open Go Go.Proofs
theorem prB_iff {b : UInt8} : prB b = true ↔ 32 ≤ b.toNat ∧ b.toNat ≤ 126 := by simp [prB]
theorem quoteB_chars {l : List UInt8} (h : l.all prB = true) : ∀ b ∈ quoteB l, prB b = true := by
  intro b hb
  obtain ⟨c, hc, hb⟩ := List.mem_flatMap.1 hb
  have := List.all_eq_true.1 h c hc
  unfold quote1 at hb
  split at hb
  · simp only [List.mem_cons, List.not_mem_nil, or_false] at hb
    rcases hb with rfl | rfl
    · decide
    · exact this
  · rw [List.mem_singleton] at hb; rw [hb]; exact this
theorem disp_plain {f : FieldL} (h1 : f.name.all prB = true) (h2 : f.file.all prB = true) : PlainV (dispOf f) := by
  have q1 := quoteB_chars h1
  have q2 := quoteB_chars h2
  have n1 : ∀ b ∈ dName, prB b = true := by decide
  have n2 : ∀ b ∈ dFile, prB b = true := by decide
  have n3 : prB 34 = true := by decide
  unfold dispOf
  split
  · refine ⟨fun b hb => prB_iff.1 ?_, by simp [dName], by simp⟩
    simp only [List.mem_append, List.mem_singleton] at hb
    rcases hb with (hb | hb) | rfl
    · exact n1 b hb
    · exact q1 b hb
    · exact n3
  · refine ⟨fun b hb => prB_iff.1 ?_, by simp [dName], by rw [← List.append_assoc, ← List.append_assoc, List.getLast?_concat]; decide⟩
    simp only [List.mem_append, List.mem_singleton] at hb
    rcases hb with ((hb | hb) | rfl) | ((hb | hb) | rfl)
    · exact n1 b hb
    · exact q1 b hb
    · exact n3
    · exact n2 b hb
    · exact q2 b hb
    · exact n3
theorem disp_len {f : FieldL} (h1 : f.name.length ≤ 200) (h2 : f.file.length ≤ 200) : (dispOf f).length ≤ 900 := by
  have q1 := quoteB_len f.name
  have q2 := quoteB_len f.file
  unfold dispOf
  split <;> simp [dName, dFile] <;> omega
theorem octet_plain : PlainV octet := ⟨by decide, by decide, by decide⟩
theorem Nowhere.cons {v p : List UInt8} {a : UInt8} (h : Nowhere v p) : Nowhere v (a :: p) := by
  intro i hi he
  simp only [List.length_cons] at hi he
  refine h (i + 1) (by omega) ?_
  have hlt : i < v.length := by omega
  rw [List.drop_eq_getElem_cons hlt, List.take_succ_cons] at he
  exact (List.cons.inj he).2
theorem GoodField.lines {bd : List UInt8} {f : FieldL} (h : GoodField bd f) : ∀ kv ∈ linesOf (fieldHead f), LineOk kv := by
  have hd := disp_len h.name h.file
  have hp := disp_plain h.pname h.pfile
  intro kv hkv
  have hcd : LineOk (cdKey, dispOf f) := ⟨(by decide : cdKey ≠ []), cd_tok, hp, by simp [cdKey]; omega⟩
  have hct : LineOk (ctKey, octet) := ⟨(by decide : ctKey ≠ []), ct_tok, octet_plain, by simp [ctKey, octet]⟩
  unfold fieldHead at hkv
  split at hkv <;> simp only [linesOf, List.flatMap_cons, List.flatMap_nil, List.map_cons, List.map_nil, List.append_nil, List.cons_append, List.nil_append, List.mem_cons, List.not_mem_nil, or_false] at hkv
  · rw [hkv]; exact hcd
  · rcases hkv with rfl | rfl
    · exact hcd
    · exact hct
theorem GoodField.inn {bd : List UInt8} {f : FieldL} (h : GoodField bd f) (hl : f.value.length < 2 ^ 38) : GoodIn bd (fieldIn f) where
  lines := h.lines
  few := by
    unfold fieldIn fieldHead
    split <;> simp [linesOf]
  nw := h.free.2.cons
  dash := h.free.1
  small := hl
theorem head_len {bd : List UInt8} {f : FieldL} (h : GoodField bd f) : (partIn (fieldIn f)).length ≤ 1000 + f.value.length := by
  have hd := disp_len h.name h.file
  unfold partIn fieldIn fieldHead
  split <;> simp [linesOf, linesText, lineOf, cdKey, ctKey, octet] <;> omega
theorem tail_len {bd : List UInt8} : ∀ {l : List FieldL}, (∀ f ∈ l, GoodField bd f) → (tailT bd none (l.map fieldIn)).length ≤ l.length * (1010 + bd.length) + (l.map (·.value.length)).sum + 4
  | [], _ => by simp [tailT]
  | f :: l, h => by
    have h1 := head_len (h f (by simp))
    have h2 := tail_len (l := l) (fun g hg => h g (by simp [hg]))
    simp only [List.map_cons, tailT, List.length_cons, List.length_append, nldOf_length, List.sum_cons, Nat.add_mul] at *
    omega
theorem whole_len {bd : List UInt8} {l : List FieldL} (h : ∀ f ∈ l, GoodField bd f) : (wholeT bd none (l.map fieldIn)).length ≤ l.length * (1010 + bd.length) + (l.map (·.value.length)).sum + bd.length + 10 := by
  have := tail_len h
  unfold wholeT
  split <;> simp only [List.length_append, nldOf_length, dashOf_length] <;> omega
theorem le_sum {l : List FieldL} {f : FieldL} (h : f ∈ l) : f.value.length ≤ (l.map (·.value.length)).sum := by
  induction l with
  | nil => cases h
  | cons g l ih =>
    simp only [List.map_cons, List.sum_cons]
    rcases List.mem_cons.1 h with rfl | h
    · omega
    · have := ih h; omega
theorem bd_no_cr {l : List UInt8} (h : BdOk l) : 13 ∉ l := by
  intro hm
  have := h.chars 13 hm
  simp [bchar, alnum, punct] at this
end Go.Cps
namespace Go.Cps
open Go Go.Proofs
set_option maxRecDepth 100000
def c59 (a0 : Value) (H : Heap) (R : Value → Heap → Prop) : Prop :=
  CallsH Tryz.prog 34 #[] H fun x5 H =>
  CallsH Tryz.prog 33 #[a0, (.bool false), (.int .i64 10485760), x5] H fun x6 H =>
  Get (extractV x6 0) fun x7 =>
  Get (extractV x6 1) fun x8 =>
  R (.tuple #[x7, x8]) H
def p59 : Plan := .seq (.leaf []) (.seq (.leaf []) (.leaf []))
theorem s59 {a0 : Value} {H : Heap} {R : Value → Heap → Prop} (h : c59 a0 H R) : CallsH Tryz.prog 16 #[a0] H R :=
  callsH_of_eq p59 (fn := Tryz.f16) (c := Tryz.f16.body.getD .skip) (args := [a0]) Tryz.func16 (by kernel_rfl) mixed (by kernel_rfl) (by kernel_rfl) (by kernel_rfl) h
def c116 (a0 a1 : Value) (H : Heap) (R : Value → Heap → Prop) : Prop :=
  Get (nilV2 .eql (.map none) a0) fun x7 =>
  Br x7 (
  R (.string ⟨#[]⟩) H) (
  CallsH Tryz.prog 53 #[a1] H fun x10 H =>
  ExecV Tryz.prog (Instr.lookup 82 a0 x10 false) H fun x11 H =>
  Get (lenV x11) fun x13 =>
  Get (arithV .eql .i64 x13 (.int .i64 0)) fun x14 =>
  Br x14 (
  R (.string ⟨#[]⟩) H) (
  Get (elemAddrV 1 x11 (.int .i64 0)) fun x16 =>
  Get (load1V x16 H) fun x17 =>
  R x17 H))
def p116 : Plan := .seq (.leaf []) (.seq (.seq (.leaf []) (.cond (.seq (.leaf []) (.leaf [])) (.leaf []))) (.seq (.leaf []) (.seq (.seq (.leaf []) (.cond (.seq (.leaf []) (.leaf [])) (.leaf []))) (.seq (.leaf []) (.leaf [])))))
theorem s116 {a0 a1 : Value} {H : Heap} {R : Value → Heap → Prop} (h : c116 a0 a1 H R) : CallsH Tryz.prog 49 #[a0, a1] H R :=
  callsH_of_eq p116 (fn := Tryz.f49) (c := Tryz.f49.body.getD .skip) (args := [a0, a1]) Tryz.func49 (by kernel_rfl) mixed (by kernel_rfl) (by kernel_rfl) (by kernel_rfl) h
end Go.Cps
namespace Go.Cps
open Go Go.Proofs
def firstOf (key : List UInt8) : List Hdr → List UInt8
  | [] => []
  | p :: r => if p.1 = key then p.2.headD [] else firstOf key r
theorem getE_G {key : List UInt8} : ∀ {G : List GEnt}, (getE key (G.map GEnt.pair) = none ∧ firstOf key (G.map (·.1)) = []) ∨ ∃ g ∈ G, getE key (G.map GEnt.pair) = some g.2 ∧ firstOf key (G.map (·.1)) = g.1.2.headD []
  | [] => .inl ⟨rfl, rfl⟩
  | g :: r => by
    by_cases hk : g.1.1 = key
    · refine .inr ⟨g, by simp, ?_, ?_⟩
      · simp only [List.map_cons, getE]
        rw [if_pos (show g.pair.1 = key from hk)]; rfl
      · simp only [List.map_cons, firstOf, if_pos hk]
    · rcases getE_G (key := key) (G := r) with ⟨h1, h2⟩ | ⟨g', hg, h1, h2⟩
      · refine .inl ⟨?_, ?_⟩
        · simp only [List.map_cons, getE]
          rw [if_neg (show ¬ g.pair.1 = key from hk)]; exact h1
        · simp only [List.map_cons, firstOf, if_neg hk]; exact h2
      · refine .inr ⟨g', by simp [hg], ?_, ?_⟩
        · simp only [List.map_cons, getE]
          rw [if_neg (show ¬ g.pair.1 = key from hk)]; exact h1
        · simp only [List.map_cons, firstOf, if_neg hk]; exact h2
theorem get_ok {D : List Nat} {H : Heap} {m : Nat} {G : List GEnt} {key : List UInt8} (hG : EntsG D H m G) (hl : key.length < 2 ^ 30) (ht : ∀ b ∈ key, tok b.toNat = true) (hc : canonG true key = key) :
    CallsH Tryz.prog 49 #[.map (some m), strVal key] H fun x H' => x = strVal (firstOf key (G.map (·.1))) ∧ Frm [] H H' := by
  apply s116
  have hn : nilV2 .eql (.map none) (.map (some m)) = some (.bool false) := rfl
  simp only [c116, hn, Q0, Q1, Q2, Q3, Q4, Q5, Q6, Q7, Q8, Q9, Qa, Qb, Qc, Qd, Qe, Qf, Qg, Qh, Qi, Qj]
  refine (canonId_ok (by omega) ht hc).mono ?_
  rintro x H1 ⟨rfl, rfl⟩
  have f1 : Frm [] H1 H1 := Frm.refl _ _
  have hG1 := hG.apart (X := []) (by simp)
  have hG2 := hG1.frm f1 (by simp)
  rw [lookup_of und106 hG2.map]
  rcases getE_G (key := key) (G := G) with ⟨h1, h2⟩ | ⟨g, hg, h1, h2⟩
  · rw [h1, h2]
    have e0 : lenV (.slice none 0 0) = some (.int .i64 ((0 : Nat) : Int)) := rfl
    have hz : (((0 : Nat) : Int) == 0) = true := by decide
    simp only [Option.getD_none, e0, Q0, Q1, Q2, Q3, Q4, Q5, Q6, Q7, Q8, Q9, Qa, Qb, Qc, Qd, Qe, Qf, Qg, Qh, Qi, Qj, Qk, Ql, Qm, Qn, Qo, Qp, Qq, Qr, Qs, hz]
    exact ⟨rfl, f1⟩
  · rw [h1, h2]
    have hs := hG2.strs g hg
    simp only [Option.getD_some, hs.len, Q0, Q1, Q2, Q3, Q4, Q5, Q6, Q7, Q8, Q9, Qa, Qb, Qc, Qd, Qe, Qf, Qg, Qh, Qi, Qj, Qk, Ql, Qm, Qn, Qo, Qp, Qq, Qr, Qs]
    refine Br_intro (fun h3 => ?_) (fun h3 => ?_)
    · have : g.1.2 = [] := List.eq_nil_of_length_eq_zero (by simpa using h3)
      rw [this]
      exact ⟨rfl, f1⟩
    · have hp : 0 < g.1.2.length := by simp at h3; exact List.length_pos_iff.2 h3
      obtain ⟨a, ha, hca⟩ := strs_elem hs hp
      have ha0 : elemAddrV 1 g.2 (.int .i64 0) = some (.pointer (some a)) := ha .i64
      have hld : load1V (.pointer (some a)) H1 = some (strVal g.1.2[0]) := hca
      simp only [ha0, Q6, hld]
      refine ⟨?_, f1⟩
      congr 1
      have hgen : ∀ (l : List (List UInt8)) (h : 0 < l.length), l[0] = l.headD [] := fun l h => by
        cases l with
        | nil => simp at h
        | cons s r => rfl
      exact hgen _ hp
end Go.Cps
namespace Go.Cps
open Go Go.Proofs
set_option maxRecDepth 100000
def c115 (a0 a1 : Value) (H : Heap) (R : Value → Heap → Prop) : Prop :=
  Get (lenStrV a0) fun x15 =>
  Get (lenStrV a1) fun x17 =>
  Get (minV x15 x17) fun x18 =>
  Loop [(.int .i64 0)] H fun K1 vs2 H =>
  Get (arithV .lss .i64 (nth vs2 0) x18) fun x21 =>
  Br x21 (
  Join (fun K3 =>
  Get (strIndexV a0 (nth vs2 0)) fun x26 =>
  Get (strIndexV a1 (nth vs2 0)) fun x29 =>
  Get (arithV .or .u8 x26 x29) fun x32 =>
  Get (arithV .geq .u8 x32 (.int .u8 128)) fun x33 =>
  Br x33 (
  False) (
  Get (arithV .eql .u8 x29 x26) fun x36 =>
  Br x36 (
  K3 [] H) (
  Join (fun K4 =>
  Get (arithV .lss .u8 x29 x26) fun x39 =>
  Br x39 (
  K4 [x29, x26] H) (
  K4 [x26, x29] H)) fun vs5 H =>
  Join (fun K6 =>
  Get (arithV .leq .u8 (.int .u8 65) (nth vs5 0)) fun x43 =>
  Br x43 (
  Get (arithV .leq .u8 (nth vs5 0) (.int .u8 90)) fun x46 =>
  Get (pickV (.bool true) x46 (.bool false)) fun x47 =>
  Br x47 (
  Get (arithV .add .u8 (nth vs5 0) (.int .u8 97)) fun x51 =>
  Get (arithV .sub .u8 x51 (.int .u8 65)) fun x52 =>
  Get (arithV .eql .u8 (nth vs5 1) x52) fun x53 =>
  Get (pickV (.bool true) x53 (.bool false)) fun x54 =>
  K6 [x54] H) (
  Get (pickV (.bool false) undef (.bool false)) fun x54_1 =>
  K6 [x54_1] H)) (
  Get (pickV (.bool false) undef (.bool false)) fun x47_1 =>
  Br x47_1 (
  Get (arithV .add .u8 (nth vs5 0) (.int .u8 97)) fun x51_1 =>
  Get (arithV .sub .u8 x51_1 (.int .u8 65)) fun x52_1 =>
  Get (arithV .eql .u8 (nth vs5 1) x52_1) fun x53_1 =>
  Get (pickV (.bool true) x53_1 (.bool false)) fun x54_2 =>
  K6 [x54_2] H) (
  Get (pickV (.bool false) undef (.bool false)) fun x54_3 =>
  K6 [x54_3] H))) fun vs7 H =>
  Br (nth vs7 0) (
  K3 [] H) (
  R (.bool false) H)))) fun _ H =>
  Get (arithV .add .i64 (nth vs2 0) (.int .i64 1)) fun x23 =>
  K1 [x23] H) (
  Get (lenStrV a0) fun x56 =>
  Get (lenStrV a1) fun x58 =>
  Get (arithV .eql .i64 x56 x58) fun x59 =>
  R x59 H)
def p115 : Plan := .seq (.leaf []) (.scope (.seq (.leaf []) (.seq (.seq (.leaf []) (.block (.loop [5] (.seq (.seq (.leaf []) (.cond (.leaf []) (.leaf []))) (.join [] (.block (.seq (.leaf []) (.seq (.leaf []) (.seq (.seq (.leaf []) (.cond (.leaf []) (.leaf []))) (.seq (.seq (.leaf []) (.cond (.leaf []) (.leaf []))) (.join [7, 8] (.seq (.leaf []) (.cond (.leaf []) (.leaf []))) (.seq (.join [54] (.leaf []) (.cond (.leaf []) (.leaf []))) (.seq (.leaf []) (.leaf []))))))))) (.leaf [])))))) (.seq (.seq (.leaf []) (.leaf [])) (.seq (.leaf []) (.seq (.leaf []) (.seq (.leaf []) (.seq (.seq (.leaf []) (.leaf [])) (.seq (.leaf []) (.leaf []))))))))))
theorem s115 {a0 a1 : Value} {H : Heap} {R : Value → Heap → Prop} (h : c115 a0 a1 H R) : CallsH Tryz.prog 65 #[a0, a1] H R :=
  callsH_of_eq p115 (fn := Tryz.f65) (c := Tryz.f65.body.getD .skip) (args := [a0, a1]) Tryz.func65 (by kernel_rfl) mixed (by kernel_rfl) (by kernel_rfl) (by kernel_rfl) h
end Go.Cps
namespace Go.Cps
open Go Go.Proofs
theorem or_self8 (n : Nat) (h : n < 256) : IntKind.u8.wrap ((BitVec.ofInt IntKind.u8.bits (n : Int) ||| BitVec.ofInt IntKind.u8.bits (n : Int)).toNat : Int) = (n : Int) := by
  have e : (BitVec.ofInt 8 (n : Int) ||| BitVec.ofInt 8 (n : Int)).toNat = n := by
    rw [BitVec.or_self]
    simp
    omega
  show IntKind.u8.wrap ((BitVec.ofInt 8 (n : Int) ||| BitVec.ofInt 8 (n : Int)).toNat : Int) = (n : Int)
  rw [e]
  exact wrap_u8 (by omega) (by omega)
theorem eqFold_ok {s t : List UInt8} {H : Heap} (ha : ∀ c ∈ t, c.toNat < 128) (h : s = t ∨ (s = [] ∧ t ≠ [])) (ht : t.length < 2 ^ 30) : CallsH Tryz.prog 65 #[strVal s, strVal t] H fun x H' => x = .bool (decide (s = t)) ∧ H' = H := by
  apply s115
  have hmin : ∀ a b : Nat, minV (.int .i64 a) (.int .i64 b) = some (.int .i64 (min a b : Nat)) := fun a b => by
    simp only [minV]
    by_cases hab : (b : Int) < (a : Int)
    · rw [if_pos hab, Nat.min_eq_right (by omega)]
    · rw [if_neg hab, Nat.min_eq_left (by omega)]
  simp only [c115, lenStr_of, Q0, Q1, Q2, Q3, Q4, Q5, Q6, Q7, Q8, Q9, Qa, Qb, Qc, Qd, Qe, Qf, Qg, Qh, Qi, Qj, hmin]
  rcases h with rfl | ⟨rfl, hne⟩
  · refine ⟨fun μ vs H1 => ∃ i : Nat, vs = [.int .i64 i] ∧ μ = s.length - i ∧ i ≤ s.length ∧ H1 = H, ⟨_, 0, rfl, rfl, Nat.zero_le _, rfl⟩, ?_⟩
    rintro μ vs H1 ⟨i, rfl, rfl, hi, rfl⟩
    simp only [Q0, Q1, Q2, Q3, Q4, Q5, Q6, Q7, Q8, Q9, Qa, Qb, Qc, Qd, Qe, Qf, Qg, Qh, Qi, Qj, Qk, Ql, Qm, Qn, Qo, Qp, Qq, Qr, Qs, Nat.min_self, dec_lt]
    refine Br_intro (fun hlt => ?_) (fun hlt => ?_)
    · have hlt' : i < s.length := by simpa using hlt
      have h128 := ha _ (List.getElem_mem hlt')
      have hor : arithV .or .u8 (byteV s[i]) (byteV s[i]) = some (byteV s[i]) := by
        have := or_self8 s[i].toNat (s[i]).toNat_lt
        simp only [byteV, arithV, if_true, and_self, this]
      have hge : arithV .geq .u8 (byteV s[i]) (.int .u8 128) = some (.bool false) := by
        simp only [byteV, Qk, Ql, Qm, Qn, Qo, Qp, Qq, Qr, Qs, Option.some.injEq, Value.bool.injEq, decide_eq_false_iff_not]
        omega
      have hee : arithV .eql .u8 (byteV s[i]) (byteV s[i]) = some (.bool true) := by simp [byteV]
      refine Join_direct ?_
      simp only [strIndex_of hlt', Q0, Q1, Q2, Q3, Q4, Q5, Q6, Q7, Q8, Q9, Qa, Qb, Qc, Qd, Qe, Qf, Qg, Qh, Qi, Qj, hor, hge, hee]
      simp only [inc_i64 (show i < 2 ^ 62 by omega), Qk, Ql, Qm, Qn, Qo, Qp, Qq, Qr, Qs, Q0, Q1, Q2, Q3, Q4, Q5, Q6, Q7, Q8, Q9, Qa, Qb, Qc, Qd, Qe, Qf, Qg, Qh, Qi, Qj]
      exact ⟨_, by omega, i + 1, rfl, rfl, hlt', trivial⟩
    · simp
  · have hn : 0 < t.length := List.length_pos_iff.2 hne
    refine ⟨fun μ vs H1 => vs = [.int .i64 0] ∧ H1 = H, ⟨0, rfl, rfl⟩, ?_⟩
    rintro μ vs H1 ⟨rfl, rfl⟩
    have e0 : decide ((0 : Int) < ((min ([] : List UInt8).length t.length : Nat) : Int)) = false := by simp
    have e1 : ((([] : List UInt8).length : Int) == (t.length : Int)) = false := by rw [beq_eq_false_iff_ne]; simp only [List.length_nil]; omega
    have e2 : decide ([] = t) = false := by rw [decide_eq_false_iff_not]; exact fun e => hne e.symm
    simp only [Q0, Q1, Q2, Q3, Q4, Q5, Q6, Q7, Q8, Q9, Qa, Qb, Qc, Qd, Qe, Qf, Qg, Qh, Qi, Qj, Qk, Ql, Qm, Qn, Qo, Qp, Qq, Qr, Qs, e0, e1, e2]
    exact ⟨trivial, trivial⟩
end Go.Cps
namespace Go.Cps
open Go Go.Proofs
set_option maxRecDepth 100000
def c1135 (a0 : Value) (H : Heap) (R : Value → Heap → Prop) : Prop :=
  Get (shiftV .shl .u64 (.int .u64 1) a0) fun x4 =>
  Get (arithV .and .u64 x4 (.int .u64 18158675342946992128)) fun x5 =>
  Get (arithV .sub .u8 a0 (.int .u8 64)) fun x7 =>
  Get (shiftV .shl .u64 (.int .u64 1) x7) fun x8 =>
  Get (arithV .and .u64 x8 (.int .u64 939524097)) fun x9 =>
  Get (arithV .or .u64 x5 x9) fun x10 =>
  Get (arithV .neq .u64 x10 (.int .u64 0)) fun x11 =>
  R x11 H
def p1135 : Plan := .seq (.leaf []) (.seq (.leaf []) (.leaf []))
theorem s1135 {a0 : Value} {H : Heap} {R : Value → Heap → Prop} (h : c1135 a0 H R) : CallsH Tryz.prog 135 #[a0] H R :=
  callsH_of_eq p1135 (fn := Tryz.f135) (c := Tryz.f135.body.getD .skip) (args := [a0]) Tryz.func135 (by kernel_rfl) mixed (by kernel_rfl) (by kernel_rfl) (by kernel_rfl) h
def c1131 (a0 : Value) (H : Heap) (R : Value → Heap → Prop) : Prop :=
  Get (shiftV .shl .u64 (.int .u64 1) a0) fun x4 =>
  Get (arithV .and .u64 x4 (.int .u64 288068722172624896)) fun x5 =>
  Get (arithV .sub .u8 a0 (.int .u8 64)) fun x7 =>
  Get (shiftV .shl .u64 (.int .u64 1) x7) fun x8 =>
  Get (arithV .and .u64 x8 (.int .u64 9223372035915251710)) fun x9 =>
  Get (arithV .or .u64 x5 x9) fun x10 =>
  Get (arithV .neq .u64 x10 (.int .u64 0)) fun x11 =>
  R x11 H
def p1131 : Plan := .seq (.leaf []) (.seq (.leaf []) (.leaf []))
theorem s1131 {a0 : Value} {H : Heap} {R : Value → Heap → Prop} (h : c1131 a0 H R) : CallsH Tryz.prog 131 #[a0] H R :=
  callsH_of_eq p1131 (fn := Tryz.f131) (c := Tryz.f131.body.getD .skip) (args := [a0]) Tryz.func131 (by kernel_rfl) mixed (by kernel_rfl) (by kernel_rfl) (by kernel_rfl) h
def c1104 (a0 : Value) (H : Heap) (R : Value → Heap → Prop) : Prop :=
  Get (lenStrV a0) fun x6 =>
  Loop [(.int .i64 0)] H fun K1 vs2 H =>
  Get (arithV .lss .i64 (nth vs2 0) x6) fun x8 =>
  Br x8 (
  Get (strIndexV a0 (nth vs2 0)) fun x12 =>
  CallsH Tryz.prog 131 #[x12] H fun x13 H =>
  Get (unV .not x13) fun x14 =>
  Br x14 (
  Get (strSliceV a0 none (some (nth vs2 0))) fun x17 =>
  Get (strSliceV a0 (some (nth vs2 0)) none) fun x20 =>
  R (.tuple #[x17, x20]) H) (
  Get (arithV .add .i64 (nth vs2 0) (.int .i64 1)) fun x21 =>
  K1 [x21] H)) (
  R (.tuple #[a0, (.string ⟨#[]⟩)]) H)
def p1104 : Plan := .seq (.leaf []) (.seq (.seq (.leaf []) (.block (.loop [7] (.seq (.leaf []) (.seq (.cond (.leaf []) (.leaf [])) (.seq (.block (.seq (.leaf []) (.seq (.leaf []) (.cond (.seq (.leaf [0, 1, 2, 3, 4, 5, 6, 7]) (.leaf [])) (.leaf []))))) (.leaf []))))))) (.seq (.leaf []) (.leaf [])))
theorem s1104 {a0 : Value} {H : Heap} {R : Value → Heap → Prop} (h : c1104 a0 H R) : CallsH Tryz.prog 104 #[a0] H R :=
  callsH_of_eq p1104 (fn := Tryz.f104) (c := Tryz.f104.body.getD .skip) (args := [a0]) Tryz.func104 (by kernel_rfl) mixed (by kernel_rfl) (by kernel_rfl) (by kernel_rfl) h
def c1105 (a0 a1 : Value) (H : Heap) (R : Value → Heap → Prop) : Prop :=
  CallsH Tryz.prog 132 #[a0, a1] H fun x8 H =>
  Get (extractV x8 0) fun x9 =>
  Get (extractV x8 1) fun x10 =>
  R (.tuple #[x9, x10]) H
def p1105 : Plan := .seq (.leaf []) (.seq (.leaf []) (.leaf []))
theorem s1105 {a0 a1 : Value} {H : Heap} {R : Value → Heap → Prop} (h : c1105 a0 a1 H R) : CallsH Tryz.prog 105 #[a0, a1] H R :=
  callsH_of_eq p1105 (fn := Tryz.f105) (c := Tryz.f105.body.getD .skip) (args := [a0, a1]) Tryz.func105 (by kernel_rfl) mixed (by kernel_rfl) (by kernel_rfl) (by kernel_rfl) h
def c1132 (a0 a1 : Value) (H : Heap) (R : Value → Heap → Prop) : Prop :=
  CallsH Tryz.prog 156 #[a0, a1] H fun x8 H =>
  Get (unV .not x8) fun x9 =>
  Br x9 (
  R (.tuple #[a0, (.bool false)]) H) (
  Get (lenStrV a1) fun x13 =>
  Get (strSliceV a0 (some x13) none) fun x14 =>
  R (.tuple #[x14, (.bool true)]) H)
def p1132 : Plan := .seq (.leaf []) (.seq (.seq (.leaf []) (.cond (.seq (.leaf []) (.leaf [])) (.leaf []))) (.seq (.leaf []) (.leaf [])))
theorem s1132 {a0 a1 : Value} {H : Heap} {R : Value → Heap → Prop} (h : c1132 a0 a1 H R) : CallsH Tryz.prog 132 #[a0, a1] H R :=
  callsH_of_eq p1132 (fn := Tryz.f132) (c := Tryz.f132.body.getD .skip) (args := [a0, a1]) Tryz.func132 (by kernel_rfl) mixed (by kernel_rfl) (by kernel_rfl) (by kernel_rfl) h
def c1156 (a0 a1 : Value) (H : Heap) (R : Value → Heap → Prop) : Prop :=
  Join (fun K1 =>
  Get (lenStrV a0) fun x6 =>
  Get (lenStrV a1) fun x8 =>
  Get (arithV .geq .i64 x6 x8) fun x9 =>
  Br x9 (
  Get (lenStrV a1) fun x13 =>
  Get (strSliceV a0 none (some x13)) fun x14 =>
  Get (strV .eql x14 a1) fun x16 =>
  Get (pickV (.bool true) x16 (.bool false)) fun x17 =>
  K1 [x17] H) (
  Get (pickV (.bool false) undef (.bool false)) fun x17_1 =>
  K1 [x17_1] H)) fun vs2 H =>
  R (nth vs2 0) H
def p1156 : Plan := .seq (.leaf []) (.join [4] (.leaf []) (.leaf []))
theorem s1156 {a0 a1 : Value} {H : Heap} {R : Value → Heap → Prop} (h : c1156 a0 a1 H R) : CallsH Tryz.prog 156 #[a0, a1] H R :=
  callsH_of_eq p1156 (fn := Tryz.f156) (c := Tryz.f156.body.getD .skip) (args := [a0, a1]) Tryz.func156 (by kernel_rfl) mixed (by kernel_rfl) (by kernel_rfl) (by kernel_rfl) h
def c1097 (a0 a1 : Value) (H : Heap) (R : Value → Heap → Prop) : Prop :=
  Loop [(.int .i64 0)] H fun K1 vs2 H =>
  Get (lenStrV a1) fun x8 =>
  Get (arithV .add .i64 (nth vs2 0) x8) fun x9 =>
  Get (lenStrV a0) fun x11 =>
  Get (arithV .leq .i64 x9 x11) fun x12 =>
  Br x12 (
  Get (lenStrV a1) fun x19 =>
  Get (arithV .add .i64 (nth vs2 0) x19) fun x20 =>
  Get (strSliceV a0 (some (nth vs2 0)) (some x20)) fun x21 =>
  Get (strV .eql x21 a1) fun x23 =>
  Br x23 (
  R (nth vs2 0) H) (
  Get (arithV .add .i64 (nth vs2 0) (.int .i64 1)) fun x14 =>
  K1 [x14] H)) (
  R (.int .i64 (-1)) H)
def p1097 : Plan := .seq (.leaf []) (.seq (.seq (.leaf []) (.block (.loop [5] (.seq (.seq (.leaf []) (.cond (.leaf []) (.leaf []))) (.seq (.block (.seq (.leaf []) (.cond (.seq (.leaf []) (.leaf [])) (.leaf [])))) (.leaf [])))))) (.seq (.leaf []) (.leaf [])))
theorem s1097 {a0 a1 : Value} {H : Heap} {R : Value → Heap → Prop} (h : c1097 a0 a1 H R) : CallsH Tryz.prog 97 #[a0, a1] H R :=
  callsH_of_eq p1097 (fn := Tryz.f97) (c := Tryz.f97.body.getD .skip) (args := [a0, a1]) Tryz.func97 (by kernel_rfl) mixed (by kernel_rfl) (by kernel_rfl) (by kernel_rfl) h
def c1068 (a0 a1 : Value) (H : Heap) (R : Value → Heap → Prop) : Prop :=
  CallsH Tryz.prog 97 #[a0, a1] H fun x10 H =>
  Get (arithV .geq .i64 x10 (.int .i64 0)) fun x12 =>
  Br x12 (
  Get (strSliceV a0 none (some x10)) fun x15 =>
  Get (lenStrV a1) fun x19 =>
  Get (arithV .add .i64 x10 x19) fun x20 =>
  Get (strSliceV a0 (some x20) none) fun x21 =>
  R (.tuple #[x15, x21, (.bool true)]) H) (
  R (.tuple #[a0, (.string ⟨#[]⟩), (.bool false)]) H)
def p1068 : Plan := .seq (.leaf []) (.seq (.seq (.leaf []) (.seq (.leaf []) (.cond (.seq (.leaf [0, 1, 2, 3, 4, 5, 6, 7, 8, 9, 10, 11]) (.leaf [])) (.leaf [])))) (.seq (.leaf []) (.leaf [])))
theorem s1068 {a0 a1 : Value} {H : Heap} {R : Value → Heap → Prop} (h : c1068 a0 a1 H R) : CallsH Tryz.prog 68 #[a0, a1] H R :=
  callsH_of_eq p1068 (fn := Tryz.f68) (c := Tryz.f68.body.getD .skip) (args := [a0, a1]) Tryz.func68 (by kernel_rfl) mixed (by kernel_rfl) (by kernel_rfl) (by kernel_rfl) h
def c1081 (a0 : Value) (H : Heap) (R : Value → Heap → Prop) : Prop :=
  Get (arithV .eql .u8 (.int .u8 47) a0) fun x4 =>
  R x4 H
def p1081 : Plan := .seq (.leaf []) (.seq (.leaf []) (.leaf []))
theorem s1081 {a0 : Value} {H : Heap} {R : Value → Heap → Prop} (h : c1081 a0 H R) : CallsH Tryz.prog 81 #[a0] H R :=
  callsH_of_eq p1081 (fn := Tryz.f81) (c := Tryz.f81.body.getD .skip) (args := [a0]) Tryz.func81 (by kernel_rfl) mixed (by kernel_rfl) (by kernel_rfl) (by kernel_rfl) h
def c1082 (a0 : Value) (H : Heap) (R : Value → Heap → Prop) : Prop :=
  CallsH Tryz.prog 114 #[a0] H fun x5 H =>
  Get (strSliceV a0 none (some x5)) fun x6 =>
  CallsH Tryz.prog 113 #[x6] H fun x7 H =>
  R x7 H
def p1082 : Plan := .seq (.leaf []) (.seq (.leaf []) (.leaf []))
theorem s1082 {a0 : Value} {H : Heap} {R : Value → Heap → Prop} (h : c1082 a0 H R) : CallsH Tryz.prog 82 #[a0] H R :=
  callsH_of_eq p1082 (fn := Tryz.f82) (c := Tryz.f82.body.getD .skip) (args := [a0]) Tryz.func82 (by kernel_rfl) mixed (by kernel_rfl) (by kernel_rfl) (by kernel_rfl) h
def c1113 (a0 : Value) (H : Heap) (R : Value → Heap → Prop) : Prop :=
  Br (.bool true) (
  R a0 H) (
  CallsH Tryz.prog 138 #[a0, (.int .u8 47), (.int .u8 47)] H fun x5 H =>
  R x5 H)
def p1113 : Plan := .seq (.leaf []) (.seq (.cond (.seq (.leaf []) (.leaf [])) (.leaf [])) (.seq (.leaf []) (.leaf [])))
theorem s1113 {a0 : Value} {H : Heap} {R : Value → Heap → Prop} (h : c1113 a0 H R) : CallsH Tryz.prog 113 #[a0] H R :=
  callsH_of_eq p1113 (fn := Tryz.f113) (c := Tryz.f113.body.getD .skip) (args := [a0]) Tryz.func113 (by kernel_rfl) mixed (by kernel_rfl) (by kernel_rfl) (by kernel_rfl) h
def c1114 (a0 : Value) (H : Heap) (R : Value → Heap → Prop) : Prop :=
  R (.int .i64 0) H
def p1114 : Plan := .seq (.leaf []) (.seq (.leaf []) (.leaf []))
theorem s1114 {a0 : Value} {H : Heap} {R : Value → Heap → Prop} (h : c1114 a0 H R) : CallsH Tryz.prog 114 #[a0] H R :=
  callsH_of_eq p1114 (fn := Tryz.f114) (c := Tryz.f114.body.getD .skip) (args := [a0]) Tryz.func114 (by kernel_rfl) mixed (by kernel_rfl) (by kernel_rfl) (by kernel_rfl) h
def c1051 (a0 : Value) (H : Heap) (R : Value → Heap → Prop) : Prop :=
  Get (strV .eql a0 (.string ⟨#[]⟩)) fun x5 =>
  Br x5 (
  R (.string ⟨#[46]⟩) H) (
  Loop [a0] H fun K1 vs2 H =>
  Join (fun K3 =>
  Get (lenStrV (nth vs2 0)) fun x7 =>
  Get (arithV .gtr .i64 x7 (.int .i64 0)) fun x8 =>
  Br x8 (
  Get (lenStrV (nth vs2 0)) fun x12 =>
  Get (arithV .sub .i64 x12 (.int .i64 1)) fun x13 =>
  Get (strIndexV (nth vs2 0) x13) fun x14 =>
  CallsH Tryz.prog 81 #[x14] H fun x15 H =>
  Get (pickV (.bool true) x15 (.bool false)) fun x16 =>
  K3 [x16] H) (
  Get (pickV (.bool false) undef (.bool false)) fun x16_1 =>
  K3 [x16_1] H)) fun vs4 H =>
  Br (nth vs4 0) (
  Get (lenStrV (nth vs2 0)) fun x19 =>
  Get (arithV .sub .i64 x19 (.int .i64 1)) fun x20 =>
  Get (strSliceV (nth vs2 0) (some (.int .i64 0)) (some x20)) fun x21 =>
  K1 [x21] H) (
  CallsH Tryz.prog 82 #[(nth vs2 0)] H fun x24 H =>
  Get (lenStrV x24) fun x25 =>
  Get (strSliceV (nth vs2 0) (some x25) none) fun x26 =>
  Get (lenStrV x26) fun x28 =>
  Get (arithV .sub .i64 x28 (.int .i64 1)) fun x29 =>
  Loop [x29] H fun K5 vs6 H =>
  Join (fun K7 =>
  Get (arithV .geq .i64 (nth vs6 0) (.int .i64 0)) fun x31 =>
  Br x31 (
  Get (strIndexV x26 (nth vs6 0)) fun x35 =>
  CallsH Tryz.prog 81 #[x35] H fun x36 H =>
  Get (unV .not x36) fun x37 =>
  Get (pickV (.bool true) x37 (.bool false)) fun x38 =>
  K7 [x38] H) (
  Get (pickV (.bool false) undef (.bool false)) fun x38_1 =>
  K7 [x38_1] H)) fun vs8 H =>
  Br (nth vs8 0) (
  Get (arithV .sub .i64 (nth vs6 0) (.int .i64 1)) fun x40 =>
  K5 [x40] H) (
  Join (fun K9 =>
  Get (arithV .geq .i64 (nth vs6 0) (.int .i64 0)) fun x42 =>
  Br x42 (
  Get (arithV .add .i64 (nth vs6 0) (.int .i64 1)) fun x45 =>
  Get (strSliceV x26 (some x45) none) fun x46 =>
  K9 [x46] H) (
  K9 [x26] H)) fun vs10 H =>
  Get (strV .eql (nth vs10 0) (.string ⟨#[]⟩)) fun x48 =>
  Br x48 (
  R (.string ⟨#[47]⟩) H) (
  R (nth vs10 0) H))))
def p1051 : Plan := .seq (.leaf []) (.seq (.seq (.leaf []) (.cond (.seq (.leaf []) (.leaf [])) (.leaf []))) (.seq (.block (.loop [0] (.seq (.join [16] (.leaf []) (.cond (.leaf []) (.leaf []))) (.block (.leaf []))))) (.seq (.leaf []) (.seq (.leaf []) (.seq (.block (.loop [3] (.seq (.join [38] (.leaf []) (.cond (.leaf []) (.leaf []))) (.block (.leaf []))))) (.join [0] (.seq (.leaf []) (.cond (.leaf []) (.leaf []))) (.seq (.seq (.leaf []) (.cond (.seq (.leaf []) (.leaf [])) (.leaf []))) (.seq (.leaf []) (.leaf [])))))))))
theorem s1051 {a0 : Value} {H : Heap} {R : Value → Heap → Prop} (h : c1051 a0 H R) : CallsH Tryz.prog 51 #[a0] H R :=
  callsH_of_eq p1051 (fn := Tryz.f51) (c := Tryz.f51.body.getD .skip) (args := [a0]) Tryz.func51 (by kernel_rfl) mixed (by kernel_rfl) (by kernel_rfl) (by kernel_rfl) h
def c1036 (a0 : Value) (H : Heap) (R : Value → Heap → Prop) : Prop :=
  CallsH Tryz.prog 51 #[a0] H fun x4 H =>
  R x4 H
def p1036 : Plan := .seq (.leaf []) (.seq (.leaf []) (.leaf []))
theorem s1036 {a0 : Value} {H : Heap} {R : Value → Heap → Prop} (h : c1036 a0 H R) : CallsH Tryz.prog 36 #[a0] H R :=
  callsH_of_eq p1036 (fn := Tryz.f36) (c := Tryz.f36.body.getD .skip) (args := [a0]) Tryz.func36 (by kernel_rfl) mixed (by kernel_rfl) (by kernel_rfl) (by kernel_rfl) h
end Go.Cps
