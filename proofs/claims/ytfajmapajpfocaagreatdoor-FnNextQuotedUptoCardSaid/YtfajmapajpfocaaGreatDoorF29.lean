/-
  A part of the proof: spec.Form. impl.Write of parts whose headers have ascending keys, each with values. What the bodies of some functions of the program come to, at heap level, each proved of the program itself.
  Conditions: each contract's own.
-/
import Derived.Test.YtfajmapajpfocaaGreatDoorF4
import Derived.Test.YtfajmapajpfocaaGreatDoorF27
import Derived.Test.YtfajmapajpfocaaGreatDoorF28
set_option linter.all false
namespace Go.Cps
open Go Go.Proofs
def remT (bd : List UInt8) (last : Option Nat) (ps : List PartIn) : List UInt8 := match last with
  | none => wholeT bd none ps
  | some _ => nldOf bd ++ tailT bd none ps
theorem delim_none (bd : List UInt8) : delimText none bd = dashOf bd ++ [13, 10] := by simp [delimText, dashOf]
theorem delim_some (p : Nat) (bd : List UInt8) : delimText (some p) bd = nldOf bd ++ [13, 10] := by simp [delimText, nldOf]
theorem remT_nil {bd : List UInt8} {last : Option Nat} : remT bd last [] = [13, 10, 45, 45] ++ bd ++ [45, 45, 13, 10] := by
  cases last <;> simp [remT, wholeT, tailT, nldOf]
theorem SlV.elem2 {α : Type} {w : Nat} {R : List Nat → Heap → α → List Value → Prop} {D : List Nat} {H H' : Heap} {v : Value} {l : List α} (h : SlV w R D H v l) (f : Frm [] H H') {j : Nat} (hj : j < l.length) :
    ∃ a vs, (∀ k : IntKind, elemAddrV w v (.int k j) = some (.pointer (some a))) ∧ loadNV w (.pointer (some a)) H' = some (.agg vs.toArray) ∧ vs.length = w ∧ R D H l[j] vs := by
  rcases h with ⟨b, o, c, rfl, h1, h2, h3, h4⟩ | ⟨_, _, rfl⟩
  · obtain ⟨vs, g1, g2, g3⟩ := h4 j hj
    have e : ∀ i, i < w → cellH H' ⟨b, o + j * w + i, none⟩ = vs[i]? := fun i hi => by
      rw [Nat.add_assoc, ← g3 i hi]
      simp only [cellH, f.same b h3 (by simp)]
    refine ⟨⟨b, o + j * w, none⟩, vs, fun k => ?_, ?_, g1, g2⟩
    · have := elemAddr_of (b := b) (o := o) (n := l.length) (c := c) (size := w) (k := k) (i := (j : Int)) (by omega) (by omega)
      simpa using this
    · have hc := cellsH_of (H := H') (b := b) (o := o + j * w) (vs := vs) (fun i hi => e i (by omega))
      rw [g1] at hc
      simp only [loadNV, hc, Option.map_some]
  · simp at hj
theorem WS.sub' {ob wr p : Nat} {k : Option Nat} : ∀ x ∈ ob :: k.toList, x ∈ WS.ids ob wr k (some p) := WS.sub
end Go.Cps
namespace Go.Cps
open Go Go.Proofs
def partInL (p : PartL) : PartIn := (linesOf p.1, p.2)
theorem remT_cons' {bd : List UInt8} {last : Option Nat} {p : PartL} {q : Nat} {r : List PartIn} : remT bd last (partInL p :: r) = (delimText last bd ++ headText p.1) ++ p.2 ++ remT bd (some q) r := by
  have hp : partIn (partInL p) = headText p.1 ++ p.2 := by simp [partIn, partInL, headText]
  cases last with
  | none =>
    have : wholeT bd none (partInL p :: r) = dashOf bd ++ tailT bd none (partInL p :: r) := by simp [wholeT]
    simp [remT, this, tailT, hp, delim_none]
  | some p =>
    simp [remT, tailT, hp, delim_some]
structure AscHead (hd : List Hdr) : Prop where
  asc : (hd.map (·.1)).Pairwise (· < ·)
  ne : ∀ p ∈ hd, p.2 ≠ [] ∧ p.2.length < 2 ^ 30
  len : hd.length < 2 ^ 30
  key : ∀ p ∈ hd, p.1.length < 2 ^ 40
theorem local2' {T : TypeId} {z1 z2 a b : Value} {H : Heap} {K : Value → Heap → Prop} (h1 : isOne a = true) (h2 : isOne b = true)
    (hK : ∀ H', H'[H.size]? = some (.cells #[a, b] T (0, 0)) → Frm [] H H' → H'.size = H.size + 1 → K (.pointer (some ⟨H.size, 0, none⟩)) H') :
    New (.cells #[z1, z2] T (0, 0)) H fun x5 H => Get (storeNV 2 x5 (.agg #[a, b]) H) fun H => K x5 H := by
  have hp := push_same H (.cells #[z1, z2] T (0, 0))
  have f0 : Frm [] H (H.push (.cells #[z1, z2] T (0, 0))) := Frm.push _ _ _
  have z0 : (H.push (.cells #[z1, z2] T (0, 0))).size = H.size + 1 := by simp
  simp only [New]
  generalize H.push (.cells #[z1, z2] T (0, 0)) = H0 at *
  rw [storeNV_of (vs := #[a, b]) (n := 2) hp rfl rfl (by simp [h1, h2]), Q6]
  refine hK _ (upd_same (lt_of_some hp)) ⟨by simp; omega, fun k hk _ => ?_⟩ (by simpa using z0)
  rw [upd_ne (by omega)]
  exact f0.same k hk (by simp)
theorem part_shape {D : List Nat} {H : Heap} {p : PartL} {vs : List Value} (h : PartR D H p vs) : ∃ y z, vs = [y, z] ∧ HeadsV D H y p.1 ∧ BytV D H z p.2 := h
theorem write_ok {v : Value} {bd : List UInt8} {l : List PartL} {H : Heap} (hv : PartsV [] H v l) (hb : BdOk bd) (hl : (wholeT bd none (l.map partInL)).length < 2 ^ 36) (hn : l.length < 2 ^ 40) (hh : ∀ p ∈ l, AscHead p.1) :
    CallsH Tryz.prog 10 #[strVal bd, v] H fun x H' => ∃ y, x = .tuple #[y, .bool true] ∧ IsBytes H' y (wholeT bd none (l.map partInL)) ∧ Frm [] H H' := by
  have hlen := hb.len
  apply s10
  unfold c10
  rw [New]
  simp only [Q0, Q1, Q2, Q3, Q4, Q5, Q6, Q7, Q8, Q9, Qa, Qb, Qc, Qd, Qe, Qf, Qg, Qh, Qi, Qj]
  generalize hH1 : H.push (.cells #[(.slice none 0 0), (.int .i64 0), (.int .i8 0)] 55 (0, 0)) = H1
  have f1 : Frm [] H H1 := by rw [← hH1]; exact Frm.push _ _ _
  have b1 : BufAt H.size none [] H1 := ⟨_, 0, by rw [← hH1]; exact push_same _ _, rfl, rfl⟩
  have z1 : H1.size = H.size + 1 := by rw [← hH1]; simp
  refine (newWriter_ok rfl).mono ?_
  rintro x H2 ⟨rfl, rfl⟩
  have f2 : Frm [] H1 (H1.push (.cells #[.iface 58 (.pointer (some ⟨H.size, 0, none⟩)), strVal [], .pointer none] 105 (0, 0))) := Frm.push _ _ _
  have b2 := b1.frm f2 (by simp) (by simp)
  have w2 : WrAt H1.size (.iface 58 (.pointer (some ⟨H.size, 0, none⟩))) [] (.pointer none) (H1.push (.cells #[.iface 58 (.pointer (some ⟨H.size, 0, none⟩)), strVal [], .pointer none] 105 (0, 0))) := push_same _ _
  refine (setBoundary_ok w2 hb).mono ?_
  rintro x H3 ⟨rfl, w3, f3⟩
  have b3 := b2.frm f3 (by simp; omega) (by simp)
  have f13 : Frm [] H H3 := (f1.trans f2).up f3 (fun x hx => by rw [List.mem_singleton] at hx; subst hx; exact .inr (by omega))
  have ws3 : WS H.size H.size H1.size bd none none [] H3 := ⟨b3, w3, by simp, ⟨Nat.le_refl _, by omega, by simp, by simp⟩, ⟨by omega, by simp, by simp, by simp⟩⟩
  simp only [nilV2_neq_nil, Q0, Q1, Q2, Q3, Q4, Q5, Q6, Q7, Q8, Q9, Qa, Qb, Qc, Qd, Qe, Qf, Qg, Qh, Qi, Qj, hv.len]
  refine ⟨fun n vs H' => ∃ i acc k last, vs = [.int .i64 (i : Nat)] ∧ n = l.length - i ∧ i ≤ l.length ∧ WS H.size H.size H1.size bd k last acc H' ∧ Frm [] H H' ∧ acc ++ remT bd last ((l.map partInL).drop i) = wholeT bd none (l.map partInL), ⟨_, 0, [], none, none, rfl, rfl, Nat.zero_le _, ws3, f13, by simp [remT]⟩, ?_⟩
  rintro n vs H4 ⟨i, acc, k, last, rfl, rfl, hi, ws4, f4, hacc⟩
  have hal : acc.length < 2 ^ 36 := by rw [← hacc] at hl; simp at hl; omega
  simp only [Q0, Q1, Q2, Q3, Q4, Q5, Q6, Q7, Q8, Q9, Qa, Qb, Qc, Qd, Qe, Qf, Qg, Qh, Qi, Qj, Qk, Ql, Qm, Qn, Qo, Qp, Qq, Qr, Qs, dec_lt]
  refine Br_intro (fun hlt => ?_) (fun hlt => ?_)
  · have hlt' : i < l.length := by simpa using hlt
    obtain ⟨a, vs, ha, hlo, _, hR⟩ := hv.elem2 f4 hlt'
    obtain ⟨y, z, rfl, hy, hz⟩ := part_shape hR
    have hhd := hh l[i] (List.getElem_mem hlt')
    have hdrop : (l.map partInL).drop i = partInL l[i] :: (l.map partInL).drop (i + 1) := by
      rw [List.drop_eq_getElem_cons (by simpa using hlt'), List.getElem_map]
    generalize hfe : l[i] = p at *
    have hpl : acc.length + (delimText last bd).length + (headText p.1).length + p.2.length < 2 ^ 36 := by
      rw [← hacc, hdrop, remT_cons' (q := 0)] at hl
      simp at hl
      omega
    have hs4 := f4.size
    have key : ∀ (k' : Option Nat) (q : Nat) (H' : Heap), WS H.size H.size H1.size bd k' (some q) (acc ++ (delimText last bd ++ headText p.1) ++ p.2) H' → Frm [] H H' → ∃ n', n' < l.length - i ∧ ∃ i' acc k last, [Value.int .i64 ((i + 1 : Nat) : Int)] = [.int .i64 (i' : Nat)] ∧ n' = l.length - i' ∧ i' ≤ l.length ∧ WS H.size H.size H1.size bd k last acc H' ∧ Frm [] H H' ∧ acc ++ remT bd last ((l.map partInL).drop i') = wholeT bd none (l.map partInL) := by
      intro k' q H' hw hfr
      refine ⟨_, by omega, i + 1, _, k', some q, rfl, rfl, hlt', hw, hfr, ?_⟩
      rw [← hacc, hdrop, remT_cons' (q := q)]
      simp
    simp only [ha, Q6, hlo]
    refine local2' (K := fun x5 H => _) hy.isOne hz.isOne fun H5 hb5 f5 z5 => ?_
    have f15 := f4.trans f5
    have ws5 := ws4.frm f5 (by simp)
    have hs5 := f15.size
    simp only [Q0, Q1, Q2, Q3, Q4, Q5, Q6, Q7, Q8, Q9, Qa, Qb, Qc, Qd, Qe, Qf, Qg, Qh, Qi, Qj, cellH_of hb5]
    refine (header_ok (hy.frm Qx f15 (by simp)) hhd.ne (hhd.asc.imp fun h e => by rw [e] at h; exact List.lt_irrefl _ h) hhd.len).mono ?_
    rintro x H6 ⟨m, N, E, rfl, hE, hEhd, f6, hEb, rfl⟩
    have f16 := f15.trans f6
    have ws6 := ws5.frm f6 (by simp)
    have hs6 := f16.size
    have hlt5 := ws5.lt
    have hEl : E.length = p.1.length := by rw [← hEhd, List.length_map]
    have hkl : ∀ e ∈ E, e.key.length < 2 ^ 40 := fun e he => hhd.key e.hd (by rw [← hEhd]; exact List.mem_map_of_mem he)
    have hb6 := f6.get hb5 (by simp)
    refine (createPart_ok (hs := p.1) ws6 hs6 hE (fun x hx hm => ?_) (by rw [hEhd]) hhd.asc hkl hhd.len (by omega) ?_).mono ?_
    · have := hEb x hx; have := (hlt5 x hm).1; omega
    · omega
    rintro x H7 ⟨q, k7, rfl, h7, f7, hq7, hk7⟩
    have hlt6 := ws6.lt
    have f17 : Frm [] H H7 := f16.up f7 (fun x hx => .inr (hlt6 x hx).2)
    have hb7 := f7.get hb6 (fun hm => by have := (ws4.lt _ hm).1; omega)
    have c7 : cellH H7 ⟨H4.size, 1, none⟩ = some z := by rw [cellH_of hb7]; rfl
    simp only [Q0, Q1, Q2, Q3, Q4, Q5, Q6, Q7, Q8, Q9, Qa, Qb, Qc, Qd, Qe, Qf, Qg, Qh, Qi, Qj, nilV2_neq_nil, c7, fill0, NewSl, nilV_method (ahead103 _)]
    have hz7 := hz.frm f17 (by simp)
    have f8 : Frm [] H7 (H7.push (.cells #[] 5 (0, 0))) := Frm.push _ _ _
    have h0b : IsBytes (H7.push (.cells #[] 5 (0, 0))) (.slice (some ⟨H7.size, 0, none⟩) 0 0) [] := .inr ⟨_, rfl, rfl⟩
    generalize H7.push (.cells #[] 5 (0, 0)) = H8 at *
    have hb8 := f8.get hb7 (by simp)
    have hz8 := hz7.frm f8 (by simp)
    have ws8 := h7.frm f8 (by simp)
    have f18 := f17.trans f8
    have hlt8 := ws8.lt
    have hs8 := f18.size
    have hob4 := (ws4.lt H.size (by simp [WS.ids])).1
    have hs45 := f5.size
    have hs56 := f6.size
    have hs67 := f7.size
    have hlen8 : (acc ++ (delimText last bd ++ headText p.1)).length + p.2.length < 2 ^ 36 := by simp; omega
    refine ⟨⟨by rw [cellH_of hb8]; rfl, trivial⟩, ?_⟩
    refine append_empty hz8.1 (by omega) (fun h0 => ?_) (fun c H9 hc hr f9 z9 _ => ?_)
    · refine invoke_of 212 meth103 body212 ?_
      refine (partWrite_ok (d := []) ws8 h0b (fun y hy => ?_) (by rw [List.length_nil]; omega) hs8).mono ?_
      · simp only [blk, Option.some.injEq] at hy
        subst hy
        exact Nat.ne_of_gt (by omega)
      rintro x H9 ⟨rfl, k9, h9, f9, hk9⟩
      simp only [Q0, Q1, Q2, Q3, Q4, Q5, Q6, Q7, Q8, Q9, Qa, Qb, Qc, Qd, Qe, Qf, Qg, Qh, Qi, Qj, nilV2_neq_nil, inc_i64 (show i < 2 ^ 62 by omega)]
      exact key k9 q H9 (by rw [h0]; exact h9) (f18.up f9 (fun x hx => .inr (hlt8 x (WS.sub' x hx)).2))
    · have hx9 : IsBytes H9 (.slice (some ⟨H8.size, 0, none⟩) p.2.length c) p.2 := by
        have := hr.bytes (o := 0) (c := c) (n := p.2.length) (by simp) hc
        rwa [List.drop_zero, List.take_length] at this
      have ws9 := ws8.frm f9 (by simp)
      have hlt9 := ws9.lt
      have f19 := f18.trans f9
      refine invoke_of 212 meth103 body212 ?_
      refine (partWrite_ok (d := p.2) ws9 hx9 (fun y hy => ?_) (by omega) f19.size).mono ?_
      · simp [blk] at hy
        have := f8.size
        omega
      rintro x H10 ⟨rfl, k10, h10, f10, hk10⟩
      simp only [Q0, Q1, Q2, Q3, Q4, Q5, Q6, Q7, Q8, Q9, Qa, Qb, Qc, Qd, Qe, Qf, Qg, Qh, Qi, Qj, nilV2_neq_nil, inc_i64 (show i < 2 ^ 62 by omega)]
      exact key k10 q H10 h10 (f19.up f10 (fun x hx => .inr (hlt9 x (WS.sub' x hx)).2))
  · have hge : i = l.length := by have : ¬ i < l.length := by simpa using hlt
                                  omega
    have hrem : (l.map partInL).drop i = [] := by rw [hge]; simp
    rw [hrem, remT_nil] at hacc
    refine (close_ok ws4 (by omega)).mono ?_
    rintro x H5 ⟨rfl, k5, b5, f5⟩
    refine (bufBytes_ok b5).mono ?_
    rintro x H6 ⟨hx, hblk, rfl⟩
    simp only [nilV2_eql_nil, Q0, Q1, Q2, Q3, Q4, Q5, Q6, Q7, Q8, Q9, Qa, Qb, Qc, Qd, Qe, Qf, Qg, Qh, Qi, Qj]
    have hf : Frm [] H H6 := f4.up f5 (fun x hx => .inr (ws4.lt x hx).2)
    exact ⟨_, rfl, by rw [← hacc]; exact hx, hf⟩
end Go.Cps
namespace Go.Cps
open Go Go.Proofs
set_option maxRecDepth 100000
def c17 (a0 : Value) (H : Heap) (R : Value → Heap → Prop) : Prop :=
  Get (lenV a0) fun x6 =>
  Get (arithV .gtr .i64 x6 (.int .i64 2147483647)) fun x7 =>
  Br x7 (
  R (.bool false) H) (
  Get (lenV a0) fun x9 =>
  Loop [(.int .i64 0)] H fun K1 vs2 H =>
  Get (arithV .lss .i64 (nth vs2 0) x9) fun x11 =>
  Br x11 (
  Get (elemAddrV 2 a0 (nth vs2 0)) fun x12 =>
  Get (loadNV 2 x12 H) fun x13 =>
  New (.cells #[(.slice none 0 0), (.slice none 0 0)] 39 (0, 0)) H fun x4 H =>
  Get (storeNV 2 x4 x13 H) fun H =>
  Get (loadNV 2 x4 H) fun x14 =>
  CallsH Tryz.prog 48 #[x14] H fun x15 H =>
  Get (unV .not x15) fun x16 =>
  Br x16 (
  R (.bool false) H) (
  Get (arithV .add .i64 (nth vs2 0) (.int .i64 1)) fun x17 =>
  K1 [x17] H)) (
  R (.bool true) H))
def p17 : Plan := .seq (.leaf []) (.seq (.seq (.leaf []) (.cond (.seq (.leaf []) (.leaf [])) (.leaf []))) (.seq (.seq (.leaf []) (.block (.loop [10] (.seq (.leaf []) (.seq (.cond (.leaf []) (.leaf [])) (.seq (.block (.seq (.leaf []) (.seq (.leaf []) (.cond (.seq (.leaf []) (.leaf [])) (.leaf []))))) (.leaf []))))))) (.seq (.leaf []) (.leaf []))))
theorem s17 {a0 : Value} {H : Heap} {R : Value → Heap → Prop} (h : c17 a0 H R) : CallsH Tryz.prog 17 #[a0] H R :=
  callsH_of_eq p17 (fn := Tryz.f17) (c := Tryz.f17.body.getD .skip) (args := [a0]) Tryz.func17 (by kernel_rfl) mixed (by kernel_rfl) (by kernel_rfl) (by kernel_rfl) h
def c48 (a0 : Value) (H : Heap) (R : Value → Heap → Prop) : Prop :=
  New (.cells (Value.cells a0) 39 (0, 0)) H fun x1 H =>
  Get (fieldAddrV 0 x1) fun x3 =>
  Get (load1V x3 H) fun x4 =>
  CallsH Tryz.prog 22 #[x4] H fun x5 H =>
  Get (unV .not x5) fun x6 =>
  Br x6 (
  R (.bool false) H) (
  Get (fieldAddrV 1 x1) fun x7 =>
  Get (load1V x7 H) fun x8 =>
  Get (lenV x8) fun x9 =>
  Get (arithV .gtr .i64 x9 (.int .i64 2147483647)) fun x10 =>
  Br x10 (
  R (.bool false) H) (
  R (.bool true) H))
def p48 : Plan := .seq (.leaf []) (.seq (.seq (.leaf []) (.cond (.seq (.leaf []) (.leaf [])) (.leaf []))) (.seq (.seq (.leaf []) (.cond (.seq (.leaf []) (.leaf [])) (.leaf []))) (.seq (.leaf []) (.leaf []))))
theorem s48 {a0 : Value} {H : Heap} {R : Value → Heap → Prop} (h : c48 a0 H R) : CallsH Tryz.prog 48 #[a0] H R :=
  callsH_of_eq p48 (fn := Tryz.f48) (c := Tryz.f48.body.getD .skip) (args := [a0]) Tryz.func48 (by kernel_rfl) mixed (by kernel_rfl) (by kernel_rfl) (by kernel_rfl) h
def c22 (a0 : Value) (H : Heap) (R : Value → Heap → Prop) : Prop :=
  Get (lenV a0) fun x6 =>
  Get (arithV .gtr .i64 x6 (.int .i64 2147483647)) fun x7 =>
  Br x7 (
  R (.bool false) H) (
  Get (lenV a0) fun x9 =>
  Loop [(.int .i64 0)] H fun K1 vs2 H =>
  Get (arithV .lss .i64 (nth vs2 0) x9) fun x11 =>
  Br x11 (
  Get (elemAddrV 2 a0 (nth vs2 0)) fun x12 =>
  Get (loadNV 2 x12 H) fun x13 =>
  New (.cells #[(.string ⟨#[]⟩), (.slice none 0 0)] 90 (0, 0)) H fun x4 H =>
  Get (storeNV 2 x4 x13 H) fun H =>
  Get (loadNV 2 x4 H) fun x14 =>
  CallsH Tryz.prog 54 #[x14] H fun x15 H =>
  Get (unV .not x15) fun x16 =>
  Br x16 (
  R (.bool false) H) (
  Get (arithV .add .i64 (nth vs2 0) (.int .i64 1)) fun x17 =>
  K1 [x17] H)) (
  R (.bool true) H))
def p22 : Plan := .seq (.leaf []) (.seq (.seq (.leaf []) (.cond (.seq (.leaf []) (.leaf [])) (.leaf []))) (.seq (.seq (.leaf []) (.block (.loop [10] (.seq (.leaf []) (.seq (.cond (.leaf []) (.leaf [])) (.seq (.block (.seq (.leaf []) (.seq (.leaf []) (.cond (.seq (.leaf []) (.leaf [])) (.leaf []))))) (.leaf []))))))) (.seq (.leaf []) (.leaf []))))
theorem s22 {a0 : Value} {H : Heap} {R : Value → Heap → Prop} (h : c22 a0 H R) : CallsH Tryz.prog 22 #[a0] H R :=
  callsH_of_eq p22 (fn := Tryz.f22) (c := Tryz.f22.body.getD .skip) (args := [a0]) Tryz.func22 (by kernel_rfl) mixed (by kernel_rfl) (by kernel_rfl) (by kernel_rfl) h
def c54 (a0 : Value) (H : Heap) (R : Value → Heap → Prop) : Prop :=
  New (.cells (Value.cells a0) 90 (0, 0)) H fun x1 H =>
  Get (fieldAddrV 0 x1) fun x3 =>
  Get (load1V x3 H) fun x4 =>
  Get (lenStrV x4) fun x5 =>
  Get (arithV .gtr .i64 x5 (.int .i64 2147483647)) fun x6 =>
  Br x6 (
  R (.bool false) H) (
  Get (fieldAddrV 1 x1) fun x7 =>
  Get (load1V x7 H) fun x8 =>
  CallsH Tryz.prog 80 #[x8] H fun x9 H =>
  Get (unV .not x9) fun x10 =>
  Br x10 (
  R (.bool false) H) (
  R (.bool true) H))
def p54 : Plan := .seq (.leaf []) (.seq (.seq (.leaf []) (.cond (.seq (.leaf []) (.leaf [])) (.leaf []))) (.seq (.seq (.leaf []) (.cond (.seq (.leaf []) (.leaf [])) (.leaf []))) (.seq (.leaf []) (.leaf []))))
theorem s54 {a0 : Value} {H : Heap} {R : Value → Heap → Prop} (h : c54 a0 H R) : CallsH Tryz.prog 54 #[a0] H R :=
  callsH_of_eq p54 (fn := Tryz.f54) (c := Tryz.f54.body.getD .skip) (args := [a0]) Tryz.func54 (by kernel_rfl) mixed (by kernel_rfl) (by kernel_rfl) (by kernel_rfl) h
def c80 (a0 : Value) (H : Heap) (R : Value → Heap → Prop) : Prop :=
  Get (lenV a0) fun x6 =>
  Get (arithV .gtr .i64 x6 (.int .i64 2147483647)) fun x7 =>
  Br x7 (
  R (.bool false) H) (
  Get (lenV a0) fun x9 =>
  Loop [(.int .i64 0)] H fun K1 vs2 H =>
  Get (arithV .lss .i64 (nth vs2 0) x9) fun x11 =>
  Br x11 (
  Get (elemAddrV 1 a0 (nth vs2 0)) fun x12 =>
  Get (load1V x12 H) fun x13 =>
  Get (lenStrV x13) fun x15 =>
  Get (arithV .gtr .i64 x15 (.int .i64 2147483647)) fun x16 =>
  Br x16 (
  R (.bool false) H) (
  Get (arithV .add .i64 (nth vs2 0) (.int .i64 1)) fun x17 =>
  K1 [x17] H)) (
  R (.bool true) H))
def p80 : Plan := .seq (.leaf []) (.seq (.seq (.leaf []) (.cond (.seq (.leaf []) (.leaf [])) (.leaf []))) (.seq (.seq (.leaf []) (.block (.loop [10] (.seq (.leaf []) (.seq (.cond (.leaf []) (.leaf [])) (.seq (.block (.seq (.leaf []) (.seq (.leaf []) (.cond (.seq (.leaf []) (.leaf [])) (.leaf []))))) (.leaf []))))))) (.seq (.leaf []) (.leaf []))))
theorem s80 {a0 : Value} {H : Heap} {R : Value → Heap → Prop} (h : c80 a0 H R) : CallsH Tryz.prog 80 #[a0] H R :=
  callsH_of_eq p80 (fn := Tryz.f80) (c := Tryz.f80.body.getD .skip) (args := [a0]) Tryz.func80 (by kernel_rfl) mixed (by kernel_rfl) (by kernel_rfl) (by kernel_rfl) h
def c18 (a0 a1 : Value) (H : Heap) (R : Value → Heap → Prop) : Prop :=
  Get (lenV a0) fun x8 =>
  Loop [(.int .i64 0)] H fun K1 vs2 H =>
  Get (arithV .lss .i64 (nth vs2 0) x8) fun x10 =>
  Br x10 (
  Get (elemAddrV 2 a0 (nth vs2 0)) fun x11 =>
  Get (loadNV 2 x11 H) fun x12 =>
  New (.cells #[(.slice none 0 0), (.slice none 0 0)] 39 (0, 0)) H fun x6 H =>
  Get (storeNV 2 x6 x12 H) fun H =>
  Join (fun K3 =>
  Get (fieldAddrV 0 x6) fun x13 =>
  Get (load1V x13 H) fun x14 =>
  CallsH Tryz.prog 49 #[x14] H fun x15 H =>
  Get (unV .not x15) fun x16 =>
  Br x16 (
  Get (pickV (.bool true) (.bool true) undef) fun x23 =>
  K3 [x23] H) (
  Get (fieldAddrV 1 x6) fun x18 =>
  Get (load1V x18 H) fun x19 =>
  CallsH Tryz.prog 25 #[x19, a1] H fun x21 H =>
  Get (unV .not x21) fun x22 =>
  Get (pickV (.bool false) (.bool true) x22) fun x23_1 =>
  K3 [x23_1] H)) fun vs4 H =>
  Br (nth vs4 0) (
  R (.bool false) H) (
  Get (arithV .add .i64 (nth vs2 0) (.int .i64 1)) fun x24 =>
  K1 [x24] H)) (
  CallsH Tryz.prog 9 #[a1] H fun x26 H =>
  R x26 H)
def p18 : Plan := .seq (.leaf []) (.seq (.seq (.leaf []) (.block (.loop [9] (.seq (.leaf []) (.seq (.cond (.leaf []) (.leaf [])) (.seq (.block (.seq (.leaf []) (.join [23] (.leaf []) (.cond (.seq (.leaf []) (.leaf [])) (.leaf []))))) (.leaf []))))))) (.seq (.leaf []) (.leaf [])))
theorem s18 {a0 a1 : Value} {H : Heap} {R : Value → Heap → Prop} (h : c18 a0 a1 H R) : CallsH Tryz.prog 18 #[a0, a1] H R :=
  callsH_of_eq p18 (fn := Tryz.f18) (c := Tryz.f18.body.getD .skip) (args := [a0, a1]) Tryz.func18 (by kernel_rfl) mixed (by kernel_rfl) (by kernel_rfl) (by kernel_rfl) h
def c49 (a0 : Value) (H : Heap) (R : Value → Heap → Prop) : Prop :=
  Get (lenV a0) fun x11 =>
  Loop [(.int .i64 0), (.int .i64 0)] H fun K1 vs2 H =>
  Get (arithV .lss .i64 (nth vs2 1) x11) fun x13 =>
  Br x13 (
  Get (elemAddrV 2 a0 (nth vs2 1)) fun x15 =>
  Get (loadNV 2 x15 H) fun x16 =>
  New (.cells #[(.string ⟨#[]⟩), (.slice none 0 0)] 90 (0, 0)) H fun x5 H =>
  Get (storeNV 2 x5 x16 H) fun H =>
  Join (fun K3 =>
  Get (fieldAddrV 0 x5) fun x17 =>
  Get (load1V x17 H) fun x18 =>
  CallsH Tryz.prog 76 #[x18] H fun x19 H =>
  Get (unV .not x19) fun x20 =>
  Br x20 (
  Get (pickV (.bool true) (.bool true) undef) fun x26 =>
  Br x26 (
  Get (pickV (.bool true) (.bool true) undef) fun x41 =>
  K3 [x41] H) (
  Get (arithV .gtr .i64 (nth vs2 1) (.int .i64 0)) fun x29 =>
  Br x29 (
  Get (arithV .sub .i64 (nth vs2 1) (.int .i64 1)) fun x33 =>
  Get (elemAddrV 2 a0 x33) fun x34 =>
  Get (fieldAddrV 0 x34) fun x35 =>
  Get (load1V x35 H) fun x36 =>
  Get (fieldAddrV 0 x5) fun x37 =>
  Get (load1V x37 H) fun x38 =>
  Get (strV .geq x36 x38) fun x39 =>
  Get (pickV (.bool true) x39 (.bool false)) fun x40 =>
  Get (pickV (.bool false) (.bool true) x40) fun x41_1 =>
  K3 [x41_1] H) (
  Get (pickV (.bool false) undef (.bool false)) fun x40_1 =>
  Get (pickV (.bool false) (.bool true) x40_1) fun x41_2 =>
  K3 [x41_2] H))) (
  Get (fieldAddrV 1 x5) fun x22 =>
  Get (load1V x22 H) fun x23 =>
  Get (lenV x23) fun x24 =>
  Get (arithV .eql .i64 x24 (.int .i64 0)) fun x25 =>
  Get (pickV (.bool false) (.bool true) x25) fun x26_1 =>
  Br x26_1 (
  Get (pickV (.bool true) (.bool true) undef) fun x41_3 =>
  K3 [x41_3] H) (
  Get (arithV .gtr .i64 (nth vs2 1) (.int .i64 0)) fun x29_1 =>
  Br x29_1 (
  Get (arithV .sub .i64 (nth vs2 1) (.int .i64 1)) fun x33_1 =>
  Get (elemAddrV 2 a0 x33_1) fun x34_1 =>
  Get (fieldAddrV 0 x34_1) fun x35_1 =>
  Get (load1V x35_1 H) fun x36_1 =>
  Get (fieldAddrV 0 x5) fun x37_1 =>
  Get (load1V x37_1 H) fun x38_1 =>
  Get (strV .geq x36_1 x38_1) fun x39_1 =>
  Get (pickV (.bool true) x39_1 (.bool false)) fun x40_2 =>
  Get (pickV (.bool false) (.bool true) x40_2) fun x41_4 =>
  K3 [x41_4] H) (
  Get (pickV (.bool false) undef (.bool false)) fun x40_3 =>
  Get (pickV (.bool false) (.bool true) x40_3) fun x41_5 =>
  K3 [x41_5] H)))) fun vs4 H =>
  Br (nth vs4 0) (
  R (.bool false) H) (
  Get (sliceV 2 a0 none (some (nth vs2 1)) none) fun x44 =>
  Get (lenV x44) fun x45 =>
  Loop [(.int .i64 0)] H fun K5 vs6 H =>
  Get (arithV .lss .i64 (nth vs6 0) x45) fun x47 =>
  Br x47 (
  Get (elemAddrV 2 x44 (nth vs6 0)) fun x48 =>
  Get (loadNV 2 x48 H) fun x49 =>
  New (.cells #[(.string ⟨#[]⟩), (.slice none 0 0)] 90 (0, 0)) H fun x7 H =>
  Get (storeNV 2 x7 x49 H) fun H =>
  Get (fieldAddrV 0 x7) fun x50 =>
  Get (load1V x50 H) fun x51 =>
  Get (fieldAddrV 0 x5) fun x53 =>
  Get (load1V x53 H) fun x54 =>
  CallsH Tryz.prog 77 #[x51] H fun x52 H =>
  (load1V x53 H = some x54 ∧ True) ∧
  CallsH Tryz.prog 77 #[x54] H fun x55 H =>
  Get (strV .eql x52 x55) fun x56 =>
  Br x56 (
  R (.bool false) H) (
  Get (arithV .add .i64 (nth vs6 0) (.int .i64 1)) fun x57 =>
  K5 [x57] H)) (
  Get (fieldAddrV 1 x5) fun x58 =>
  Get (load1V x58 H) fun x59 =>
  Get (lenV x59) fun x60 =>
  Loop [(nth vs2 0), (.int .i64 0)] H fun K7 vs8 H =>
  Get (arithV .lss .i64 (nth vs8 1) x60) fun x62 =>
  Br x62 (
  Get (elemAddrV 1 x59 (nth vs8 1)) fun x63 =>
  Get (load1V x63 H) fun x64 =>
  Get (arithV .add .i64 (nth vs8 0) (.int .i64 1)) fun x66 =>
  Join (fun K9 =>
  CallsH Tryz.prog 78 #[x64] H fun x68 H =>
  Get (unV .not x68) fun x69 =>
  Br x69 (
  Get (pickV (.bool true) (.bool true) undef) fun x79 =>
  Br x79 (
  Get (pickV (.bool true) (.bool true) undef) fun x83 =>
  K9 [x83] H) (
  Get (arithV .gtr .i64 x66 (.int .i64 100)) fun x82 =>
  Get (pickV (.bool false) (.bool true) x82) fun x83_1 =>
  K9 [x83_1] H)) (
  Get (fieldAddrV 0 x5) fun x71 =>
  Get (load1V x71 H) fun x72 =>
  Get (lenStrV x72) fun x73 =>
  Get (arithV .add .i64 x73 (.int .i64 2)) fun x74 =>
  Get (lenStrV x64) fun x76 =>
  Get (arithV .add .i64 x74 x76) fun x77 =>
  Get (arithV .gtr .i64 x77 (.int .i64 998)) fun x78 =>
  Get (pickV (.bool false) (.bool true) x78) fun x79_1 =>
  Br x79_1 (
  Get (pickV (.bool true) (.bool true) undef) fun x83_2 =>
  K9 [x83_2] H) (
  Get (arithV .gtr .i64 x66 (.int .i64 100)) fun x82_1 =>
  Get (pickV (.bool false) (.bool true) x82_1) fun x83_3 =>
  K9 [x83_3] H))) fun vs10 H =>
  Br (nth vs10 0) (
  R (.bool false) H) (
  Get (arithV .add .i64 (nth vs8 1) (.int .i64 1)) fun x84 =>
  K7 [x66, x84] H)) (
  Get (arithV .add .i64 (nth vs2 1) (.int .i64 1)) fun x85 =>
  K1 [(nth vs8 0), x85] H)))) (
  R (.bool true) H)
def p49 : Plan := .seq (.leaf []) (.seq (.leaf []) (.seq (.seq (.leaf []) (.block (.loop [3, 12] (.seq (.leaf []) (.seq (.cond (.leaf []) (.leaf [])) (.seq (.block (.seq (.leaf []) (.seq (.join [41] (.leaf [0, 1, 2, 3, 4, 5, 6, 7, 8, 9, 10, 11, 12, 13, 14, 15, 16, 17, 18, 19, 20, 21, 22, 23, 24]) (.cond (.seq (.leaf []) (.leaf [])) (.leaf []))) (.seq (.seq (.leaf []) (.block (.loop [46] (.seq (.leaf []) (.seq (.cond (.leaf []) (.leaf [])) (.seq (.block (.seq (.leaf []) (.seq (.leaf [0, 1, 3, 4, 2, 5, 6]) (.cond (.seq (.leaf []) (.leaf [])) (.leaf []))))) (.leaf []))))))) (.seq (.leaf []) (.block (.loop [3, 61] (.seq (.leaf []) (.seq (.cond (.leaf []) (.leaf [])) (.seq (.block (.seq (.leaf []) (.seq (.leaf []) (.join [83] (.leaf []) (.cond (.seq (.leaf []) (.leaf [])) (.leaf [])))))) (.leaf []))))))))))) (.leaf []))))))) (.seq (.leaf []) (.leaf []))))
theorem s49 {a0 : Value} {H : Heap} {R : Value → Heap → Prop} (h : c49 a0 H R) : CallsH Tryz.prog 49 #[a0] H R :=
  callsH_of_eq p49 (fn := Tryz.f49) (c := Tryz.f49.body.getD .skip) (args := [a0]) Tryz.func49 (by kernel_rfl) mixed (by kernel_rfl) (by kernel_rfl) (by kernel_rfl) h
def c76 (a0 : Value) (H : Heap) (R : Value → Heap → Prop) : Prop :=
  Loop [(.int .i64 0)] H fun K1 vs2 H =>
  Get (lenStrV a0) fun x6 =>
  Get (arithV .lss .i64 (nth vs2 0) x6) fun x7 =>
  Br x7 (
  Join (fun K3 =>
  Get (strIndexV a0 (nth vs2 0)) fun x12 =>
  CallsH Tryz.prog 28 #[x12] H fun x13 H =>
  Get (unV .not x13) fun x14 =>
  Br x14 (
  Get (strIndexV a0 (nth vs2 0)) fun x18 =>
  CallsH Tryz.prog 29 #[(.string ⟨#[33, 35, 36, 37, 38, 39, 42, 43, 45, 46, 94, 95, 96, 124, 126]⟩), x18] H fun x19 H =>
  Get (unV .not x19) fun x20 =>
  Get (pickV (.bool true) x20 (.bool false)) fun x21 =>
  K3 [x21] H) (
  Get (pickV (.bool false) undef (.bool false)) fun x21_1 =>
  K3 [x21_1] H)) fun vs4 H =>
  Br (nth vs4 0) (
  R (.bool false) H) (
  Get (arithV .add .i64 (nth vs2 0) (.int .i64 1)) fun x9 =>
  K1 [x9] H)) (
  Get (lenStrV a0) fun x23 =>
  Get (arithV .gtr .i64 x23 (.int .i64 0)) fun x24 =>
  R x24 H)
def p76 : Plan := .seq (.leaf []) (.seq (.seq (.leaf []) (.block (.loop [3] (.seq (.seq (.leaf []) (.cond (.leaf []) (.leaf []))) (.seq (.block (.join [21] (.leaf []) (.cond (.seq (.leaf []) (.leaf [])) (.leaf [])))) (.leaf [])))))) (.seq (.leaf []) (.leaf [])))
theorem s76 {a0 : Value} {H : Heap} {R : Value → Heap → Prop} (h : c76 a0 H R) : CallsH Tryz.prog 76 #[a0] H R :=
  callsH_of_eq p76 (fn := Tryz.f76) (c := Tryz.f76.body.getD .skip) (args := [a0]) Tryz.func76 (by kernel_rfl) mixed (by kernel_rfl) (by kernel_rfl) (by kernel_rfl) h
def c77 (a0 : Value) (H : Heap) (R : Value → Heap → Prop) : Prop :=
  ToBytes 5 a0 H fun x8 H =>
  Get (lenV x8) fun x10 =>
  Loop [(.bool true), (.int .i64 0)] H fun K1 vs2 H =>
  Get (arithV .lss .i64 (nth vs2 1) x10) fun x12 =>
  Br x12 (
  Get (elemAddrV 1 x8 (nth vs2 1)) fun x14 =>
  Get (load1V x14 H) fun x15 =>
  Join (fun K3 =>
  Join (fun K4 =>
  Br (nth vs2 0) (
  Get (arithV .geq .u8 x15 (.int .u8 97)) fun x19 =>
  Get (pickV (.bool true) x19 (.bool false)) fun x20 =>
  Br x20 (
  Get (arithV .leq .u8 x15 (.int .u8 122)) fun x23 =>
  Get (pickV (.bool true) x23 (.bool false)) fun x24 =>
  K4 [x24] H) (
  Get (pickV (.bool false) undef (.bool false)) fun x24_1 =>
  K4 [x24_1] H)) (
  Get (pickV (.bool false) undef (.bool false)) fun x20_1 =>
  Br x20_1 (
  Get (arithV .leq .u8 x15 (.int .u8 122)) fun x23_1 =>
  Get (pickV (.bool true) x23_1 (.bool false)) fun x24_2 =>
  K4 [x24_2] H) (
  Get (pickV (.bool false) undef (.bool false)) fun x24_3 =>
  K4 [x24_3] H))) fun vs5 H =>
  Br (nth vs5 0) (
  Get (arithV .sub .u8 x15 (.int .u8 32)) fun x28 =>
  Get (elemAddrV 1 x8 (nth vs2 1)) fun x29 =>
  Get (store1V x29 x28 H) fun H =>
  K3 [] H) (
  K3 [] H)) fun _ H =>
  Join (fun K7 =>
  Join (fun K8 =>
  Get (unV .not (nth vs2 0)) fun x31 =>
  Br x31 (
  Get (arithV .geq .u8 x15 (.int .u8 65)) fun x34 =>
  Get (pickV (.bool true) x34 (.bool false)) fun x35 =>
  Br x35 (
  Get (arithV .leq .u8 x15 (.int .u8 90)) fun x38 =>
  Get (pickV (.bool true) x38 (.bool false)) fun x39 =>
  K8 [x39] H) (
  Get (pickV (.bool false) undef (.bool false)) fun x39_1 =>
  K8 [x39_1] H)) (
  Get (pickV (.bool false) undef (.bool false)) fun x35_1 =>
  Br x35_1 (
  Get (arithV .leq .u8 x15 (.int .u8 90)) fun x38_1 =>
  Get (pickV (.bool true) x38_1 (.bool false)) fun x39_2 =>
  K8 [x39_2] H) (
  Get (pickV (.bool false) undef (.bool false)) fun x39_3 =>
  K8 [x39_3] H))) fun vs9 H =>
  Br (nth vs9 0) (
  Get (arithV .add .u8 x15 (.int .u8 32)) fun x43 =>
  Get (elemAddrV 1 x8 (nth vs2 1)) fun x44 =>
  Get (store1V x44 x43 H) fun H =>
  K7 [] H) (
  K7 [] H)) fun _ H =>
  Get (arithV .eql .u8 x15 (.int .u8 45)) fun x46 =>
  Get (arithV .add .i64 (nth vs2 1) (.int .i64 1)) fun x47 =>
  K1 [x46, x47] H) (
  Get (bytesV x8 H) fun x49 =>
  R x49 H)
def p77 : Plan := .seq (.leaf []) (.seq (.leaf []) (.seq (.leaf []) (.seq (.seq (.leaf []) (.block (.loop [4, 11] (.seq (.leaf []) (.seq (.cond (.leaf []) (.leaf [])) (.seq (.block (.seq (.leaf []) (.join [] (.join [24] (.leaf []) (.cond (.leaf []) (.leaf []))) (.join [] (.join [39] (.leaf []) (.cond (.leaf []) (.leaf []))) (.leaf []))))) (.leaf []))))))) (.seq (.leaf []) (.leaf [])))))
theorem s77 {a0 : Value} {H : Heap} {R : Value → Heap → Prop} (h : c77 a0 H R) : CallsH Tryz.prog 77 #[a0] H R :=
  callsH_of_eq p77 (fn := Tryz.f77) (c := Tryz.f77.body.getD .skip) (args := [a0]) Tryz.func77 (by kernel_rfl) mixed (by kernel_rfl) (by kernel_rfl) (by kernel_rfl) h
def c78 (a0 : Value) (H : Heap) (R : Value → Heap → Prop) : Prop :=
  Join (fun K1 =>
  CallsH Tryz.prog 41 #[a0] H fun x4 H =>
  Br x4 (
  Get (strV .eql a0 (.string ⟨#[]⟩)) fun x7 =>
  Br x7 (
  Get (pickV (.bool true) (.bool true) undef) fun x20 =>
  Get (pickV (.bool true) x20 (.bool false)) fun x21 =>
  K1 [x21] H) (
  Get (strIndexV a0 (.int .i64 0)) fun x10 =>
  Get (arithV .neq .u8 x10 (.int .u8 32)) fun x11 =>
  Br x11 (
  Get (lenStrV a0) fun x15 =>
  Get (arithV .sub .i64 x15 (.int .i64 1)) fun x16 =>
  Get (strIndexV a0 x16) fun x17 =>
  Get (arithV .neq .u8 x17 (.int .u8 32)) fun x18 =>
  Get (pickV (.bool true) x18 (.bool false)) fun x19 =>
  Get (pickV (.bool false) (.bool true) x19) fun x20_1 =>
  Get (pickV (.bool true) x20_1 (.bool false)) fun x21_1 =>
  K1 [x21_1] H) (
  Get (pickV (.bool false) undef (.bool false)) fun x19_1 =>
  Get (pickV (.bool false) (.bool true) x19_1) fun x20_2 =>
  Get (pickV (.bool true) x20_2 (.bool false)) fun x21_2 =>
  K1 [x21_2] H))) (
  Get (pickV (.bool false) undef (.bool false)) fun x21_3 =>
  K1 [x21_3] H)) fun vs2 H =>
  R (nth vs2 0) H
def p78 : Plan := .seq (.leaf []) (.join [2] (.leaf []) (.leaf []))
theorem s78 {a0 : Value} {H : Heap} {R : Value → Heap → Prop} (h : c78 a0 H R) : CallsH Tryz.prog 78 #[a0] H R :=
  callsH_of_eq p78 (fn := Tryz.f78) (c := Tryz.f78.body.getD .skip) (args := [a0]) Tryz.func78 (by kernel_rfl) mixed (by kernel_rfl) (by kernel_rfl) (by kernel_rfl) h
def c20 (a0 : Value) (H : Heap) (R : Value → Heap → Prop) : Prop :=
  Get (lenV a0) fun x7 =>
  Loop [(.slice none 0 0), (.int .i64 0)] H fun K1 vs2 H =>
  Get (arithV .lss .i64 (nth vs2 1) x7) fun x9 =>
  Br x9 (
  Get (elemAddrV 2 a0 (nth vs2 1)) fun x10 =>
  Get (loadNV 2 x10 H) fun x11 =>
  New (.cells #[(.slice none 0 0), (.slice none 0 0)] 39 (0, 0)) H fun x5 H =>
  Get (storeNV 2 x5 x11 H) fun H =>
  Get (fieldAddrV 0 x5) fun x13 =>
  Get (load1V x13 H) fun x14 =>
  Get (fieldAddrV 1 x5) fun x16 =>
  Get (load1V x16 H) fun x17 =>
  CallsH Tryz.prog 50 #[x14] H fun x15 H =>
  (load1V x16 H = some x17 ∧ True) ∧
  Get ((fillV #[(0, 1), (1, 1)] #[(.slice none 0 0), (.slice none 0 0)] [(0, x15), (1, x17)]).map .agg) fun x18 =>
  Get (Instr.fill (fun j => some (j * 2, 2)) ((Array.range (1 * 2)).map ((#[(.slice none 0 0), (.slice none 0 0)] : Array Value)[· % 2]!)) [(0, x18)]) fun cs => NewSl cs 39 1 H fun x19 H =>
  Append 39 2 48 #[(.slice none 0 0), (.slice none 0 0)] (nth vs2 0) x19 H fun x20 H =>
  Get (arithV .add .i64 (nth vs2 1) (.int .i64 1)) fun x21 =>
  K1 [x20, x21] H) (
  R (nth vs2 0) H)
def p20 : Plan := .seq (.leaf []) (.seq (.leaf []) (.seq (.seq (.leaf []) (.block (.loop [3, 8] (.seq (.leaf []) (.seq (.cond (.leaf []) (.leaf [])) (.seq (.block (.seq (.leaf []) (.leaf [0, 1, 2, 4, 5, 3, 6, 7, 8, 9]))) (.leaf []))))))) (.seq (.leaf []) (.leaf []))))
theorem s20 {a0 : Value} {H : Heap} {R : Value → Heap → Prop} (h : c20 a0 H R) : CallsH Tryz.prog 20 #[a0] H R :=
  callsH_of_eq p20 (fn := Tryz.f20) (c := Tryz.f20.body.getD .skip) (args := [a0]) Tryz.func20 (by kernel_rfl) mixed (by kernel_rfl) (by kernel_rfl) (by kernel_rfl) h
def c50 (a0 : Value) (H : Heap) (R : Value → Heap → Prop) : Prop :=
  Get (lenV a0) fun x9 =>
  Loop [(.slice none 0 0), (.int .i64 0)] H fun K1 vs2 H =>
  Get (arithV .lss .i64 (nth vs2 1) x9) fun x11 =>
  Br x11 (
  Get (elemAddrV 2 a0 (nth vs2 1)) fun x12 =>
  Get (loadNV 2 x12 H) fun x13 =>
  New (.cells #[(.string ⟨#[]⟩), (.slice none 0 0)] 90 (0, 0)) H fun x5 H =>
  Get (storeNV 2 x5 x13 H) fun H =>
  Get (fieldAddrV 0 x5) fun x14 =>
  Get (load1V x14 H) fun x15 =>
  CallsH Tryz.prog 77 #[x15] H fun x16 H =>
  Loop [(.int .i64 0)] H fun K3 vs4 H =>
  Join (fun K5 =>
  Get (lenV (nth vs2 0)) fun x19 =>
  Get (arithV .lss .i64 (nth vs4 0) x19) fun x20 =>
  Br x20 (
  Get (elemAddrV 2 (nth vs2 0) (nth vs4 0)) fun x24 =>
  Get (fieldAddrV 0 x24) fun x25 =>
  Get (load1V x25 H) fun x26 =>
  Get (strV .lss x26 x16) fun x28 =>
  Get (pickV (.bool true) x28 (.bool false)) fun x29 =>
  K5 [x29] H) (
  Get (pickV (.bool false) undef (.bool false)) fun x29_1 =>
  K5 [x29_1] H)) fun vs6 H =>
  Br (nth vs6 0) (
  Get (arithV .add .i64 (nth vs4 0) (.int .i64 1)) fun x31 =>
  K3 [x31] H) (
  Get (fieldAddrV 1 x5) fun x35 =>
  Get (load1V x35 H) fun x36 =>
  Get ((fillV #[(0, 1), (1, 1)] #[(.string ⟨#[]⟩), (.slice none 0 0)] [(0, x16), (1, x36)]).map .agg) fun x37 =>
  Get (Instr.fill (fun j => some (j * 2, 2)) ((Array.range (1 * 2)).map ((#[(.string ⟨#[]⟩), (.slice none 0 0)] : Array Value)[· % 2]!)) [(0, x37)]) fun cs => NewSl cs 90 1 H fun x38 H =>
  CallsH Tryz.prog 79 #[(nth vs2 0), (nth vs4 0), x38] H fun x39 H =>
  Get (arithV .add .i64 (nth vs2 1) (.int .i64 1)) fun x40 =>
  K1 [x39, x40] H)) (
  R (nth vs2 0) H)
def p50 : Plan := .seq (.leaf []) (.seq (.leaf []) (.seq (.seq (.leaf []) (.block (.loop [3, 10] (.seq (.leaf []) (.seq (.cond (.leaf []) (.leaf [])) (.seq (.block (.seq (.leaf []) (.seq (.leaf []) (.seq (.leaf []) (.seq (.block (.loop [7] (.seq (.join [29] (.leaf []) (.cond (.leaf []) (.leaf []))) (.block (.leaf []))))) (.leaf [])))))) (.leaf []))))))) (.seq (.leaf []) (.leaf []))))
theorem s50 {a0 : Value} {H : Heap} {R : Value → Heap → Prop} (h : c50 a0 H R) : CallsH Tryz.prog 50 #[a0] H R :=
  callsH_of_eq p50 (fn := Tryz.f50) (c := Tryz.f50.body.getD .skip) (args := [a0]) Tryz.func50 (by kernel_rfl) mixed (by kernel_rfl) (by kernel_rfl) (by kernel_rfl) h
def c79 (a0 a1 a2 : Value) (H : Heap) (R : Value → Heap → Prop) : Prop :=
  Get (sliceV 2 a0 (some a1) none none) fun _ =>
  Get (lenV a2) fun x14 =>
  Get (arithV .eql .i64 x14 (.int .i64 0)) fun x16 =>
  Br x16 (
  R a0 H) (
  Get (lenV a0) fun x19 =>
  Get (arithV .eql .i64 a1 x19) fun x22 =>
  Br x22 (
  Append 90 2 40 #[(.string ⟨#[]⟩), (.slice none 0 0)] a0 a2 H fun x25 H =>
  R x25 H) (
  Get (arithV .add .i64 x19 x14) fun x28 =>
  Get (capV a0) fun x30 =>
  Get (arithV .gtr .i64 x28 x30) fun x31 =>
  Br x31 (
  Get (sliceV 2 a0 none (some a1) none) fun x34 =>
  Get (arithV .add .i64 x19 x14) fun x37 =>
  Get (arithV .sub .i64 x37 a1) fun x39 =>
  AppendZ 90 2 40 #[(.string ⟨#[]⟩), (.slice none 0 0)] x34 x39 H fun x40 H =>
  Get (sliceV 2 x40 (some a1) none none) fun x43 =>
  Copy 2 x43 a2 H fun _ H =>
  Get (arithV .add .i64 a1 x14) fun x49 =>
  Get (sliceV 2 x40 (some x49) none none) fun x50 =>
  Get (sliceV 2 a0 (some a1) none none) fun x53 =>
  Copy 2 x50 x53 H fun _ H =>
  R x40 H) (
  Get (arithV .add .i64 x19 x14) fun x59 =>
  Get (sliceV 2 a0 none (some x59) none) fun x60 =>
  Get (arithV .add .i64 a1 x14) fun x65 =>
  Get (sliceV 2 x60 (some x65) none none) fun x66 =>
  CallX Tryz.prog 99 #[a2, x66] H fun x67 H =>
  Get (unV .not x67) fun x68 =>
  Br x68 (
  Get (arithV .add .i64 a1 x14) fun x72 =>
  Get (sliceV 2 x60 (some x72) none none) fun x73 =>
  Get (sliceV 2 x60 (some a1) none none) fun x76 =>
  Copy 2 x73 x76 H fun _ H =>
  Get (sliceV 2 x60 (some a1) none none) fun x80 =>
  Copy 2 x80 a2 H fun _ H =>
  R x60 H) (
  Get (sliceV 2 x60 (some x19) none none) fun x86 =>
  Copy 2 x86 a2 H fun _ H =>
  Get (sliceV 2 x60 (some a1) none none) fun x91 =>
  CallsH Tryz.prog 100 #[x91, x14] H fun _ H =>
  R x60 H))))
def p79 : Plan := .seq (.leaf []) (.seq (.leaf []) (.seq (.leaf []) (.seq (.seq (.leaf []) (.cond (.seq (.leaf []) (.leaf [])) (.leaf []))) (.seq (.leaf []) (.seq (.seq (.leaf []) (.cond (.seq (.leaf []) (.leaf [])) (.leaf []))) (.seq (.seq (.leaf []) (.cond (.seq (.leaf []) (.seq (.leaf []) (.seq (.leaf [0, 1, 2, 3, 4, 5, 6, 7, 8]) (.seq (.leaf []) (.leaf []))))) (.leaf []))) (.seq (.leaf []) (.seq (.seq (.leaf []) (.cond (.seq (.leaf [0, 1, 2, 3, 4, 5, 6, 7, 8]) (.seq (.leaf []) (.seq (.leaf []) (.leaf [])))) (.leaf []))) (.seq (.leaf []) (.seq (.leaf []) (.seq (.leaf []) (.leaf []))))))))))))
theorem s79 {a0 a1 a2 : Value} {H : Heap} {R : Value → Heap → Prop} (h : c79 a0 a1 a2 H R) : CallsH Tryz.prog 79 #[a0, a1, a2] H R :=
  callsH_of_eq p79 (fn := Tryz.f79) (c := Tryz.f79.body.getD .skip) (args := [a0, a1, a2]) Tryz.func79 (by kernel_rfl) mixed (by kernel_rfl) (by kernel_rfl) (by kernel_rfl) h
def c7 (a0 a1 : Value) (H : Heap) (R : Value → Heap → Prop) : Prop :=
  Join (fun K1 =>
  CallsH Tryz.prog 17 #[a0] H fun x10 H =>
  Get (unV .not x10) fun x11 =>
  Br x11 (
  Get (pickV (.bool true) (.bool true) undef) fun x16 =>
  K1 [x16] H) (
  Get (lenStrV a1) fun x14 =>
  Get (arithV .gtr .i64 x14 (.int .i64 2147483647)) fun x15 =>
  Get (pickV (.bool false) (.bool true) x15) fun x16_1 =>
  K1 [x16_1] H)) fun vs2 H =>
  Br (nth vs2 0) (
  R (.bool true) H) (
  Get (lenStrV a1) fun x18 =>
  Get (arithV .gtr .i64 x18 (.int .i64 16777216)) fun x19 =>
  Br x19 (
  R (.bool true) H) (
  Join (fun K3 =>
  Get (lenV a0) fun x21 =>
  Get (arithV .eql .i64 x21 (.int .i64 0)) fun x22 =>
  Br x22 (
  Get (pickV (.bool true) (.bool true) undef) fun x28 =>
  K3 [x28] H) (
  CallsH Tryz.prog 18 #[a0, a1] H fun x26 H =>
  Get (unV .not x26) fun x27 =>
  Get (pickV (.bool false) (.bool true) x27) fun x28_1 =>
  K3 [x28_1] H)) fun vs4 H =>
  Br (nth vs4 0) (
  R (.bool true) H) (
  CallsH Tryz.prog 10 #[a1, a0] H fun x32 H =>
  Get (extractV x32 0) fun x33 =>
  Get (extractV x32 1) fun x34 =>
  CallsH Tryz.prog 11 #[x33, a1] H fun x38 H =>
  Get (extractV x38 0) fun x39 =>
  Get (extractV x38 1) fun x40 =>
  Join (fun K5 =>
  Br x34 (
  Get (arithV .eql .i64 x40 (.int .i64 1)) fun x44 =>
  Get (pickV (.bool true) x44 (.bool false)) fun x45 =>
  Br x45 (
  CallsH Tryz.prog 20 #[a0] H fun x49 H =>
  CallsH Tryz.prog 15 #[x39, x49] H fun x50 H =>
  Get (pickV (.bool true) x50 (.bool false)) fun x51 =>
  K5 [x51] H) (
  Get (pickV (.bool false) undef (.bool false)) fun x51_1 =>
  K5 [x51_1] H)) (
  Get (pickV (.bool false) undef (.bool false)) fun x45_1 =>
  Br x45_1 (
  CallsH Tryz.prog 20 #[a0] H fun x49_1 H =>
  CallsH Tryz.prog 15 #[x39, x49_1] H fun x50_1 H =>
  Get (pickV (.bool true) x50_1 (.bool false)) fun x51_2 =>
  K5 [x51_2] H) (
  Get (pickV (.bool false) undef (.bool false)) fun x51_3 =>
  K5 [x51_3] H))) fun vs6 H =>
  R (nth vs6 0) H)))
def p7 : Plan := .seq (.leaf []) (.seq (.join [16] (.leaf []) (.cond (.seq (.leaf []) (.leaf [])) (.leaf []))) (.seq (.seq (.leaf []) (.cond (.seq (.leaf []) (.leaf [])) (.leaf []))) (.seq (.join [28] (.leaf []) (.cond (.seq (.leaf []) (.leaf [])) (.leaf []))) (.seq (.leaf []) (.seq (.leaf []) (.join [4] (.leaf []) (.leaf [])))))))
theorem s7 {a0 a1 : Value} {H : Heap} {R : Value → Heap → Prop} (h : c7 a0 a1 H R) : CallsH Tryz.prog 7 #[a0, a1] H R :=
  callsH_of_eq p7 (fn := Tryz.f7) (c := Tryz.f7.body.getD .skip) (args := [a0, a1]) Tryz.func7 (by kernel_rfl) mixed (by kernel_rfl) (by kernel_rfl) (by kernel_rfl) h
end Go.Cps
