/-
  A part of the proof: impl.header: a list of headers made a map. spec.Same and what it calls: two lists of parts compared. spec.Printable, spec.find, spec.Free. zzFits of fields; spec.Fields. spec.Quote, escapeQuotes. spec.FieldParts. A multipart Writer over a bytes.Buffer: its state; a part's Write; Close; io.Copy out of a buffer.
  Conditions: each contract's own.
-/
import Derived.Test.YtfajmapajpfocaaGreatDoorF9
import Derived.Test.YtfajmapajpfocaaGreatDoorF12
import Derived.Test.YtfajmapajpfocaaGreatDoorF22
import Derived.Test.YtfajmapajpfocaaGreatDoorF23
import Derived.Test.YtfajmapajpfocaaGreatDoorF24
import Derived.Test.YtfajmapajpfocaaGreatDoorF25
set_option linter.all false
namespace Go.Cps
open Go Go.Proofs
theorem OwnS.strsAt {D : List Nat} {H : Heap} {g : Nat} {v : Value} {l : List (List UInt8)} (h : OwnS 1 9 StrR D H (some g) v l) : ∃ c, v = .slice (some ⟨g, 0, none⟩) l.length c ∧ StrsAt H g 0 c l := by
  obtain ⟨cells, c, rfl, hg, hc, hl, hgD, he⟩ := h
  refine ⟨c, rfl, cells, hg, hl, by omega, fun j hj => ?_⟩
  obtain ⟨vs, g1, g2, g3⟩ := he j hj
  have := g3 0 (by omega)
  rw [show vs = [strVal l[j]] from g2] at this
  rw [Nat.zero_add, List.getElem?_eq_getElem hj]
  simpa using this
theorem putNew_ok {T : TypeId} (hT : Tryz.prog.underlying T = some (.map 9 88)) {H : Heap} {m N g c : Nat} {E : List Ent} {k : List UInt8} {vs : List (List UInt8)} (hE : Ents H m N E) (hg : getE k (E.map Ent.pair) = none) (hs : StrsAt H g 0 c vs) (hgE : ∀ e ∈ E, e.b ≠ g) (hN : vs.length ≤ N) :
    ∃ H', Ents H' m N (E ++ [⟨k, g, 0, c, vs⟩]) ∧ Frm [m] H H' ∧ H'.size = H.size ∧ ∀ K : Value → Heap → Prop, ExecV Tryz.prog (do Instr.mapUpdate T (.map (some m)) (strVal k) (.slice (some ⟨g, 0, none⟩) vs.length c); pure undef) H K = K undef H' := by
  obtain ⟨H2, hm2, f2, z2, hex⟩ := update_of hT (k := k) (v := .slice (some ⟨g, 0, none⟩) vs.length c) hE.map
  obtain ⟨_, hs2⟩ := getE_none hg
  have hne : ∀ {b o c' l}, StrsAt H b o c' l → b ≠ m := fun {b o c' l} hst hh => by
    obtain ⟨cs, hcs, _⟩ := hst
    obtain ⟨es, c, hm0, _⟩ := hE.map
    rw [hh, hm0] at hcs
    cases hcs
  refine ⟨H2, ⟨?_, fun e he => ?_, ?_, ?_⟩, f2, z2, hex⟩
  · rw [hs2] at hm2; simpa [Ent.pair] using hm2
  · rcases List.mem_append.1 he with he | he
    · exact (hE.strs e he).frm f2 (by simpa using hne (hE.strs e he))
    · rw [List.mem_singleton] at he
      subst he
      exact hs.frm f2 (by simpa using hne hs)
  · rw [List.pairwise_append]
    refine ⟨hE.apart, by simp, fun e he e' he' => ?_⟩
    rw [List.mem_singleton] at he'
    subst he'
    exact .inl (hgE e he)
  · intro e he
    rcases List.mem_append.1 he with he | he
    · exact hE.few e he
    · rw [List.mem_singleton] at he; subst he; exact hN
theorem getE_absent {k : List UInt8} : ∀ {E : List Ent}, (∀ e ∈ E, e.key ≠ k) → getE k (E.map Ent.pair) = none
  | [], _ => rfl
  | e :: r, h => by
    simp only [List.map_cons, getE]
    rw [if_neg (by exact h e (by simp)), getE_absent fun e' he' => h e' (by simp [he'])]
theorem local2 {T : TypeId} {z1 z2 a b : Value} {H : Heap} {K : Value → Heap → Prop} (h1 : isOne a = true) (h2 : isOne b = true)
    (hK : ∀ H', H'[H.size]? = some (.cells #[a, b] T (0, 0)) → Frm [] H H' → H'.size = H.size + 1 → K (.pointer (some ⟨H.size, 0, none⟩)) H') :
    New (.cells #[z1, z2] T (0, 0)) H fun x5 H => Get (storeNV 2 x5 (.agg #[a, b]) H) fun H => K x5 H := by
  have hp := push_same H (.cells #[z1, z2] T (0, 0))
  have f0 : Frm [] H (H.push (.cells #[z1, z2] T (0, 0))) := Frm.push _ _ _
  have z0 : (H.push (.cells #[z1, z2] T (0, 0))).size = H.size + 1 := by simp
  simp only [New]
  generalize H.push (.cells #[z1, z2] T (0, 0)) = H0 at *
  rw [storeNV_of (vs := #[a, b]) (n := 2) hp rfl rfl (by simp [h1, h2]), Q6]
  refine hK _ (upd_same (lt_of_some hp)) ⟨by simp; omega, fun k hk _ => ?_⟩ (by simpa using z0)
  rw [upd_ne (by omega)]
  exact f0.same k hk (by simp)
theorem header_ok {D : List Nat} {H : Heap} {v : Value} {hd : List Hdr} (hv : HeadsV D H v hd) (hne : ∀ p ∈ hd, p.2 ≠ [] ∧ p.2.length < 2 ^ 30) (hk : (hd.map (·.1)).Nodup) (hl : hd.length < 2 ^ 30) :
    CallsH Tryz.prog 33 #[v] H fun x H' => ∃ m N E, x = .map (some m) ∧ Ents H' m N E ∧ E.map Ent.hd = hd ∧ Frm [] H H' ∧ (∀ x ∈ Ents.blks m E, H.size ≤ x) ∧ N = 2 ^ 30 := by
  apply s33
  simp only [c33, NewMap, hv.len, Q6]
  have f1 : Frm [] H (H.push (.map #[] 0)) := Frm.push _ _ _
  have hm1 := mapAt_new H
  have z1 : (H.push (.map #[] 0)).size = H.size + 1 := by simp
  generalize H.push (.map #[] 0) = H1 at *
  refine ⟨fun μ vs H2 => ∃ (i : Nat) (E : List Ent), vs = [.int .i64 i] ∧ μ = hd.length - i ∧ i ≤ hd.length ∧ Ents H2 H.size (2 ^ 30) E ∧ E.map Ent.hd = hd.take i ∧ Frm [] H H2 ∧ ∀ x ∈ Ents.blks H.size E, H.size ≤ x,
    ⟨_, 0, [], rfl, rfl, Nat.zero_le _, ⟨hm1, by simp, List.Pairwise.nil, by simp⟩, by simp, f1, by simp [Ents.blks]⟩, ?_⟩
  rintro μ vs H2 ⟨i, E, rfl, rfl, hi, hE, hhd, f2, hbk⟩
  have dd : ∀ a b : Nat, decide ((a : Int) < (b : Int)) = decide (a < b) := fun a b => by simp
  simp only [Q0, Q1, Q2, Q3, Q4, Q5, Q6, Q7, Q8, Q9, Qa, Qb, Qc, Qd, Qe, Qf, Qg, Qh, Qi, Qj, Qk, Ql, Qm, Qn, Qo, Qp, Qq, Qr, Qs, dd]
  refine Br_intro (fun hlt => ?_) (fun hlt => ?_)
  · have hlt' : i < hd.length := by simpa using hlt
    have hv2 := hv.frm Qx f2 (by simp)
    obtain ⟨a, cs, ha, hlo, hcl, ⟨y, hcs, hy⟩, _⟩ := hv2.elem hlt'
    subst hcs
    simp only [ha, Q6, hlo]
    refine local2 (K := fun x5 H => _) rfl hy.isOne fun H3 hb3 f3 z3 => ?_
    have hE3 := hE.frm f3 (by simp)
    simp only [Q0, Q1, Q2, Q3, Q4, Q5, Q6, Q7, Q8, Q9, Qa, Qb, Qc, Qd, Qe, Qf, Qg, Qh, Qi, Qj, cellH_of hb3]
    have habs : getE hd[i].1 (E.map Ent.pair) = none := getE_absent fun e he => by
      intro hke
      have hm : e.hd ∈ hd.take i := by rw [← hhd]; exact List.mem_map.2 ⟨e, he, rfl⟩
      obtain ⟨j, hj, hje⟩ := List.getElem_of_mem hm
      simp only [List.length_take] at hj
      rw [List.getElem_take] at hje
      have hn := List.pairwise_iff_getElem.1 hk j i (by simp; omega) (by simpa using hlt') (by omega)
      apply hn
      rw [List.getElem_map, List.getElem_map, hje, ← hke]
      rfl
    rw [lookup_of und66 hE3.map, habs]
    simp only [Option.getD_none]
    obtain ⟨hne1, hne2⟩ := hne hd[i] (List.getElem_mem hlt')
    have hy3 : StrsV D H3 y hd[i].2 := hy.frm Qy f3 (by simp)
    refine ⟨⟨by rw [cellH_of hb3]; rfl, by rw [cellH_of hb3]; rfl, trivial⟩, ?_⟩
    refine append_copy (D' := []) hy3 hne1 (by omega) (by simp) fun g w H4 hw f4 hg z4 => ?_
    refine ⟨⟨by rw [cellH_of (f4.get hb3 (by simp))]; rfl, trivial⟩, ?_⟩
    obtain ⟨c, rfl, hst⟩ := hw.strsAt
    have hE4 := hE3.frm f4 (by simp)
    obtain ⟨H5, hE5, f5, z5, hex⟩ := putNew_ok und66 hE4 habs hst (fun e he => by
      have := hE3.lt e.b (by simp only [Ents.blks, List.mem_cons, List.mem_map]; exact .inr ⟨e, he, rfl⟩)
      omega) (by omega : _ ≤ 2 ^ 30)
    rw [hex]
    have e1 : IntKind.i64.wrap ((i : Int) + 1) = ((i + 1 : Nat) : Int) := by rw [wrap_i64 (by omega) (by omega)]; omega
    simp only [Qk, Ql, Qm, Qn, Qo, Qp, Qq, Qr, Qs, Q0, Q1, Q2, Q3, Q4, Q5, Q6, Q7, Q8, Q9, Qa, Qb, Qc, Qd, Qe, Qf, Qg, Qh, Qi, Qj, e1]
    refine ⟨_, by omega, i + 1, _, rfl, rfl, hlt', hE5, ?_, ?_, ?_⟩
    · rw [List.map_append, hhd, List.take_succ_eq_append_getElem hlt']
      rfl
    · exact ((f2.trans f3).trans f4).up f5 (fun x hx => by rw [List.mem_singleton] at hx; subst hx; exact .inr (Nat.le_refl _))
    · intro x hx
      simp only [Ents.blks, List.map_append, List.mem_cons, List.mem_append, List.map_cons, List.map_nil, List.not_mem_nil, or_false] at hx
      rcases hx with h | h | h
      · omega
      · exact hbk x (by simp only [Ents.blks, List.mem_cons]; exact .inr h)
      · have h1 := f2.size; have h2 := f3.size; rw [h, hg]; omega
  · have : i = hd.length := by simp at hlt; omega
    subst this
    rw [List.take_length] at hhd
    exact ⟨_, _, E, rfl, hE, hhd, f2, hbk, rfl⟩
end Go.Cps
namespace Go.Cps
open Go Go.Proofs
theorem dec_lt (a b : Nat) : decide ((a : Int) < (b : Int)) = decide (a < b) := by simp
theorem inc_i64 {i : Nat} (h : i < 2 ^ 62) : IntKind.i64.wrap ((i : Int) + 1) = ((i + 1 : Nat) : Int) := by rw [wrap_i64 (by omega) (by omega)]; omega
theorem neq_nat (a b : Nat) : (((a : Nat) : Int) != ((b : Nat) : Int)) = decide (a ≠ b) := by
  rw [Bool.eq_iff_iff]
  simp only [bne_iff_ne, ne_eq, decide_eq_true_eq]
  omega
theorem strV_eql' (a b : List UInt8) : strV .eql (strVal a) (strVal b) = some (.bool (decide (a = b))) := by
  rw [strVal, strVal, strV_eql, toList_mk, toList_mk]
  congr 2
  rw [Bool.eq_iff_iff]
  simp
theorem strV_neq' (a b : List UInt8) : strV .neq (strVal a) (strVal b) = some (.bool (decide (a ≠ b))) := by
  show some (Value.bool !((⟨a.toArray⟩ : ByteArray).toList == (⟨b.toArray⟩ : ByteArray).toList)) = _
  rw [toList_mk, toList_mk]
  congr 2
  rw [Bool.eq_iff_iff]
  simp
theorem take_succ_eq {α : Type} {a b : List α} {i : Nat} (ha : i < a.length) (hb : i < b.length) (h : a.take i = b.take i) (he : a[i] = b[i]) : a.take (i + 1) = b.take (i + 1) := by
  rw [List.take_succ_eq_append_getElem ha, List.take_succ_eq_append_getElem hb, h, he]
theorem ne_of_get {α : Type} {a b : List α} {i : Nat} (ha : i < a.length) (hb : i < b.length) (h : a[i] ≠ b[i]) : a ≠ b := by
  rintro rfl
  exact h rfl
theorem equalStrs_ok {D D' : List Nat} {H : Heap} {v w : Value} {a b : List (List UInt8)} (ha : StrsV D H v a) (hb : StrsV D' H w b) (hl : a.length < 2 ^ 60) : CallsH Tryz.prog 53 #[v, w] H fun x H' => x = .bool (decide (a = b)) ∧ H' = H := by
  apply s53
  simp only [c53, ha.len, hb.len, Q0, Q1, Q2, Q3, Q4, Q5, Q6, Q7, Q8, Q9, Qa, Qb, Qc, Qd, Qe, Qf, Qg, Qh, Qi, Qj, Qk, Ql, Qm, Qn, Qo, Qp, Qq, Qr, Qs, neq_nat]
  refine Br_intro (fun hne => ⟨?_, trivial⟩) (fun heq => ?_)
  · have : a ≠ b := by rintro rfl; simp at hne
    rw [decide_eq_false this]
  · have hlen : a.length = b.length := by simpa using heq
    refine ⟨fun μ vs H' => ∃ i : Nat, vs = [.int .i64 i] ∧ μ = a.length - i ∧ i ≤ a.length ∧ H' = H ∧ a.take i = b.take i, ⟨_, 0, rfl, rfl, Nat.zero_le _, rfl, by simp⟩, ?_⟩
    rintro μ vs H ⟨i, rfl, rfl, hi, rfl, ht⟩
    simp only [Q0, Q1, Q2, Q3, Q4, Q5, Q6, Q7, Q8, Q9, Qa, Qb, Qc, Qd, Qe, Qf, Qg, Qh, Qi, Qj, Qk, Ql, Qm, Qn, Qo, Qp, Qq, Qr, Qs, dec_lt]
    refine Br_intro (fun hlt => ?_) (fun hlt => ?_)
    · have hlt' : i < a.length := by simpa using hlt
      obtain ⟨p, hp, hcp⟩ := strs_elem ha hlt'
      obtain ⟨q, hq, hcq⟩ := strs_elem hb (j := i) (by omega)
      simp only [hp, hq, Q0, Q1, Q2, Q3, Q4, Q5, Q6, Q7, Q8, Q9, Qa, Qb, Qc, Qd, Qe, Qf, Qg, Qh, Qi, Qj, hcp, hcq, strV_neq']
      refine Br_intro (fun hne => ⟨?_, trivial⟩) (fun he => ?_)
      · rw [decide_eq_false (ne_of_get hlt' (by omega) (by simpa using hne))]
      · simp only [inc_i64 (show i < 2 ^ 62 by omega)]
        exact ⟨_, by omega, i + 1, rfl, rfl, hlt', trivial, take_succ_eq hlt' (by omega) ht (by simpa using he)⟩
    · have hi' : i = a.length := by simp at hlt; omega
      subst hi'
      rw [List.take_length, hlen, List.take_length] at ht
      rw [decide_eq_true ht]
      exact ⟨rfl, trivial⟩
theorem equalFunc_core {α : Type} [DecidableEq α] {R : List Nat → Heap → α → List Value → Prop} (hR : RelOk R) {T : TypeId} {f : Nat} {z1 z2 : Value} {D D' : List Nat} {H : Heap} {v w : Value} {a b : List α} (ha : SlV 2 R D H v a) (hb : SlV 2 R D' H w b) (hl : a.length < 2 ^ 60) (hbody : hasBody Tryz.prog f = true)
    (hf : ∀ x ∈ a, ∀ y ∈ b, ∀ (us vs : List Value) (H1 : Heap), Frm [] H H1 → us.length = 2 → vs.length = 2 → R D H1 x us → R D' H1 y vs → CallsH Tryz.prog f #[.agg us.toArray, .agg vs.toArray] H1 fun r H2 => r = .bool (decide (x = y)) ∧ Frm [] H1 H2) (R0 : Value → Heap → Prop) (hK : ∀ H', Frm [] H H' → R0 (.bool (decide (a = b))) H') :
    Get (lenV v) fun x11 =>
    Get (lenV w) fun x13 =>
    Get (arithV .neq .i64 x11 x13) fun x14 =>
    Br x14 (
    R0 (.bool false) H) (
    Get (lenV v) fun x16 =>
    Loop [(.int .i64 0)] H fun K1 vs2 H =>
    Get (arithV .lss .i64 (nth vs2 0) x16) fun x18 =>
    Br x18 (
    Get (elemAddrV 2 v (nth vs2 0)) fun x20 =>
    Get (loadNV 2 x20 H) fun x21 =>
    New (.cells #[z1, z2] T (0, 0)) H fun x8 H =>
    Get (storeNV 2 x8 x21 H) fun H =>
    Get (elemAddrV 2 w (nth vs2 0)) fun x24 =>
    Get (loadNV 2 x24 H) fun x25 =>
    New (.cells #[z1, z2] T (0, 0)) H fun x9 H =>
    Get (storeNV 2 x9 x25 H) fun H =>
    Get (loadNV 2 x8 H) fun x27 =>
    Get (loadNV 2 x9 H) fun x28 =>
    CallV Tryz.prog (.func (.func f) #[] #[]) #[x27, x28] H fun x29 H =>
    Get (unV .not x29) fun x30 =>
    Br x30 (
    R0 (.bool false) H) (
    Get (arithV .add .i64 (nth vs2 0) (.int .i64 1)) fun x31 =>
    K1 [x31] H)) (
    R0 (.bool true) H)) := by
  simp only [ha.len, hb.len, Q0, Q1, Q2, Q3, Q4, Q5, Q6, Q7, Q8, Q9, Qa, Qb, Qc, Qd, Qe, Qf, Qg, Qh, Qi, Qj, Qk, Ql, Qm, Qn, Qo, Qp, Qq, Qr, Qs, neq_nat]
  refine Br_intro (fun hne => ?_) (fun heq => ?_)
  · have : a ≠ b := by rintro rfl; simp at hne
    rw [← decide_eq_false this]
    exact hK H (Frm.refl _ _)
  · have hlen : a.length = b.length := by simpa using heq
    refine ⟨fun μ vs H' => ∃ i : Nat, vs = [.int .i64 i] ∧ μ = a.length - i ∧ i ≤ a.length ∧ Frm [] H H' ∧ a.take i = b.take i, ⟨_, 0, rfl, rfl, Nat.zero_le _, Frm.refl _ _, by simp⟩, ?_⟩
    rintro μ vs H1 ⟨i, rfl, rfl, hi, f1, ht⟩
    simp only [Q0, Q1, Q2, Q3, Q4, Q5, Q6, Q7, Q8, Q9, Qa, Qb, Qc, Qd, Qe, Qf, Qg, Qh, Qi, Qj, Qk, Ql, Qm, Qn, Qo, Qp, Qq, Qr, Qs, dec_lt]
    refine Br_intro (fun hlt => ?_) (fun hlt => ?_)
    · have hlt' : i < a.length := by simpa using hlt
      have hltb : i < b.length := by omega
      obtain ⟨p, us, hp, hlu, hul, hRu, _⟩ := (ha.frm hR f1 (by simp)).elem hlt'
      obtain ⟨u1, u2, rfl⟩ : ∃ u1 u2, us = [u1, u2] := by
        match us, hul with
        | [u1, u2], _ => exact ⟨u1, u2, rfl⟩
      simp only [hp, Q6, hlu]
      have o1 := hR.one hRu
      refine local2 (K := fun x8 H => _) (o1 u1 (by simp)) (o1 u2 (by simp)) fun H2 hb2 f2 z2 => ?_
      obtain ⟨q, ws, hq, hlw, hwl, hRw, _⟩ := (hb.frm hR (f1.trans f2) (by simp)).elem hltb
      obtain ⟨w1, w2, rfl⟩ : ∃ w1 w2, ws = [w1, w2] := by
        match ws, hwl with
        | [w1, w2], _ => exact ⟨w1, w2, rfl⟩
      simp only [hq, Q6, hlw]
      have o2 := hR.one hRw
      refine local2 (K := fun x8 H => _) (o2 w1 (by simp)) (o2 w2 (by simp)) fun H3 hb3 f3 z3 => ?_
      have hb2' := f3.get hb2 (by simp)
      simp only [loadNV_of (n := 2) hb2' rfl, loadNV_of (n := 2) hb3 rfl, Q6]
      refine ⟨f, #[], #[], rfl, hbody, ?_⟩
      have f13 := (f1.trans f2).trans f3
      refine (hf a[i] (List.getElem_mem hlt') b[i] (List.getElem_mem hltb) [u1, u2] [w1, w2] H3 f13 rfl rfl (hR.frm hRu (f2.trans f3) (by simp)) (hR.frm hRw f3 (by simp))).mono ?_
      rintro r H4 ⟨rfl, f4⟩
      simp only [Q0, Q1, Q2, Q3, Q4, Q5, Q6, Q7, Q8, Q9, Qa, Qb, Qc, Qd, Qe, Qf, Qg, Qh, Qi, Qj]
      refine Br_intro (fun hne => ?_) (fun he => ?_)
      · have : a ≠ b := ne_of_get hlt' hltb (by simpa using hne)
        rw [← decide_eq_false this]
        exact hK _ (f13.trans f4)
      · simp only [Qk, Ql, Qm, Qn, Qo, Qp, Qq, Qr, Qs, Q0, Q1, Q2, Q3, Q4, Q5, Q6, Q7, Q8, Q9, Qa, Qb, Qc, Qd, Qe, Qf, Qg, Qh, Qi, Qj, inc_i64 (show i < 2 ^ 62 by omega)]
        exact ⟨_, by omega, i + 1, rfl, rfl, hlt', f13.trans f4, take_succ_eq hlt' hltb ht (by simpa using he)⟩
    · have hi' : i = a.length := by simp at hlt; omega
      subst hi'
      rw [List.take_length, hlen, List.take_length] at ht
      rw [← decide_eq_true ht]
      exact hK _ f1
end Go.Cps
namespace Go.Cps
open Go Go.Proofs
def prB (b : UInt8) : Bool := decide (32 ≤ b.toNat) && decide (b.toNat ≤ 126)
theorem take_all_succ {p : UInt8 → Bool} {l : List UInt8} {i : Nat} (h : i < l.length) (ht : (l.take i).all p = true) : (l.take (i + 1)).all p = p l[i] := by
  rw [List.take_succ_eq_append_getElem h, List.all_append, ht]; simp
theorem all_false {p : UInt8 → Bool} {l : List UInt8} {i : Nat} (h : i < l.length) (hp : p l[i] = false) : l.all p = false := by
  rw [← Bool.not_eq_true, List.all_eq_true]
  intro ha
  rw [ha _ (List.getElem_mem h)] at hp
  cases hp
theorem printable_ok {l : List UInt8} {H : Heap} (hl : l.length < 2 ^ 40) : CallsH Tryz.prog 41 #[strVal l] H fun x H' => x = .bool (l.all prB) ∧ H' = H := by
  apply s41
  unfold c41
  refine ⟨fun μ vs H' => ∃ i : Nat, vs = [.int .i64 i] ∧ μ = l.length - i ∧ i ≤ l.length ∧ H' = H ∧ (l.take i).all prB = true, ⟨_, 0, rfl, rfl, Nat.zero_le _, rfl, by simp⟩, ?_⟩
  rintro μ vs H ⟨i, rfl, rfl, hi, rfl, ht⟩
  simp only [lenStr_of, Q0, Q1, Q2, Q3, Q4, Q5, Q6, Q7, Q8, Q9, Qa, Qb, Qc, Qd, Qe, Qf, Qg, Qh, Qi, Qj, Qk, Ql, Qm, Qn, Qo, Qp, Qq, Qr, Qs, dec_lt]
  refine Br_intro (fun hlt => ?_) (fun hlt => ?_)
  · have hlt' : i < l.length := by simpa using hlt
    have hp : prB l[i] = (!(decide (((l[i].toNat : Nat) : Int) < 32) || decide (((l[i].toNat : Nat) : Int) > 126))) := by
      unfold prB
      rw [Bool.eq_iff_iff]
      simp only [Bool.and_eq_true, decide_eq_true_eq, Bool.not_eq_true', Bool.or_eq_false_iff, decide_eq_false_iff_not]
      omega
    refine ⟨fun vs H' => vs = [.bool (!prB l[i])] ∧ H' = H, ?_, ?_⟩
    · simp only [strIndex_of hlt', Q0, Q1, Q2, Q3, Q4, Q5, Q6, Q7, Q8, Q9, Qa, Qb, Qc, Qd, Qe, Qf, Qg, Qh, Qi, Qj, byteV, Qk, Ql, Qm, Qn, Qo, Qp, Qq, Qr, Qs]
      refine Br_intro (fun h1 => ?_) (fun h1 => ?_)
      · simp only [Q0, Q1, Q2, Q3, Q4, Q5, Q6, Q7, Q8, Q9, Qa, Qb, Qc, Qd, Qe, Qf, Qg, Qh, Qi, Qj, if_true, and_true]
        rw [hp, h1]; rfl
      · simp only [strIndex_of hlt', Q0, Q1, Q2, Q3, Q4, Q5, Q6, Q7, Q8, Q9, Qa, Qb, Qc, Qd, Qe, Qf, Qg, Qh, Qi, Qj, byteV, Qk, Ql, Qm, Qn, Qo, Qp, Qq, Qr, Qs, Bool.false_eq_true, if_false, and_true]
        rw [hp, h1]; simp
    · rintro _ H ⟨rfl, rfl⟩
      simp only [Q0, Q1, Q2, Q3, Q4, Q5, Q6, Q7, Q8, Q9, Qa, Qb, Qc, Qd, Qe, Qf, Qg, Qh, Qi, Qj]
      refine Br_intro (fun h1 => ?_) (fun h1 => ?_)
      · rw [all_false hlt' (by simpa using h1)]
        exact ⟨rfl, trivial⟩
      · simp only [inc_i64 (show i < 2 ^ 62 by omega)]
        exact ⟨_, by omega, i + 1, rfl, rfl, hlt', trivial, by rw [take_all_succ hlt' ht]; simpa using h1⟩
  · have : i = l.length := by simp at hlt; omega
    subst this
    rw [List.take_length] at ht
    rw [ht]
    exact ⟨rfl, trivial⟩
theorem find_ok {v u : Value} {buf pat : List UInt8} {H : Heap} (hv : IsBytes H v buf) (hu : IsBytes H u pat) (hl : buf.length < 2 ^ 40) (hp : pat.length < 2 ^ 40) :
    CallsH Tryz.prog 42 #[v, u] H fun x H' => H' = H ∧ ((x = .int .i64 (-1) ∧ Nowhere buf pat) ∨ ∃ i : Nat, x = .int .i64 i ∧ First buf pat i) := by
  apply s42
  unfold c42
  refine ⟨fun μ vs H' => ∃ i : Nat, vs = [.int .i64 i] ∧ μ = buf.length + 1 - i ∧ i ≤ buf.length + 1 ∧ H' = H ∧ ∀ j, j < i → (buf.drop j).take pat.length ≠ pat, ⟨_, 0, rfl, rfl, Nat.zero_le _, rfl, by simp⟩, ?_⟩
  rintro μ vs H ⟨i, rfl, rfl, hi, rfl, hno⟩
  have e1 : IntKind.i64.wrap ((i : Int) + (pat.length : Int)) = ((i + pat.length : Nat) : Int) := by rw [wrap_i64 (by omega) (by omega)]; omega
  simp only [hv.len, hu.len, Q0, Q1, Q2, Q3, Q4, Q5, Q6, Q7, Q8, Q9, Qa, Qb, Qc, Qd, Qe, Qf, Qg, Qh, Qi, Qj, Qk, Ql, Qm, Qn, Qo, Qp, Qq, Qr, Qs, e1]
  refine Br_intro (fun hle => ?_) (fun hle => ?_)
  · have hle' : i + pat.length ≤ buf.length := by simp at hle; omega
    obtain ⟨y, hy, hyb⟩ := hv.from' (lo := i) (by omega) .i64
    simp only [hy, Q6]
    refine (hasPrefix_ok hyb hu).mono ?_
    rintro x H1 ⟨rfl, rfl⟩
    have hiff : pat.isPrefixOf (buf.drop i) = decide ((buf.drop i).take pat.length = pat) := by
      rw [Bool.eq_iff_iff, List.isPrefixOf_iff_prefix, decide_eq_true_eq, List.prefix_iff_eq_take]
      exact eq_comm
    rw [hiff]
    refine Br_intro (fun h1 => ?_) (fun h1 => ?_)
    · exact ⟨rfl, .inr ⟨i, rfl, hle', by simpa using h1, hno⟩⟩
    · simp only [inc_i64 (show i < 2 ^ 62 by omega), Q0, Q1, Q2, Q3, Q4, Q5, Q6, Q7, Q8, Q9, Qa, Qb, Qc, Qd, Qe, Qf, Qg, Qh, Qi, Qj]
      refine ⟨_, by omega, i + 1, rfl, rfl, by omega, trivial, fun j hj => ?_⟩
      by_cases hji : j = i
      · subst hji; simpa using h1
      · exact hno j (by omega)
  · refine ⟨trivial, .inl ⟨trivial, fun j hj => ?_⟩⟩
    have : ¬ i + pat.length ≤ buf.length := by simp at hle; omega
    exact hno j (by omega)
def FreeP (body bd : List UInt8) : Prop := (dashOf bd).isPrefixOf body = false ∧ Nowhere body (10 :: dashOf bd)
theorem first_not_nowhere {buf pat : List UInt8} {i : Nat} (h : First buf pat i) : ¬ Nowhere buf pat := fun hn => hn i h.1 h.2.1
theorem free_ok {v : Value} {body bd : List UInt8} {H : Heap} (hv : IsBytes H v body) (hvb : body ≠ [] → ∀ x, blk v = some x → x < H.size) (hl : body.length < 2 ^ 39) (hb : bd.length < 2 ^ 39) :
    CallsH Tryz.prog 25 #[v, strVal bd] H fun x H' => ∃ r : Bool, x = .bool r ∧ (r = true ↔ FreeP body bd) ∧ Frm [] H H' := by
  apply s25
  have e1 : strV .add (.string ⟨#[45, 45]⟩) (strVal bd) = some (strVal (dashOf bd)) := strV_add (a := [45, 45]) (b := bd) (by simp; omega)
  have hdl := dashOf_length bd
  simp only [c25, e1, Q6]
  refine toBytes_of fun c H1 hc hr1 f1 z1 => ?_
  have hx1 : IsBytes H1 (.slice (some ⟨H.size, 0, none⟩) (dashOf bd).length c) (dashOf bd) := by
    have := hr1.bytes (o := 0) (c := c) (n := (dashOf bd).length) (by simp) hc
    rwa [List.drop_zero, List.take_length] at this
  have hv1 := hv.frm f1 (by simp)
  refine Join_direct ?_
  refine (hasPrefix_ok hv1 hx1).mono ?_
  rintro x H1 ⟨rfl, rfl⟩
  simp only [Q0, Q1, Q2, Q3, Q4, Q5, Q6, Q7, Q8, Q9, Qa, Qb, Qc, Qd, Qe, Qf, Qg, Qh, Qi, Qj]
  refine Br_intro (fun h1 => ?_) (fun h1 => ?_)
  · have h1' : (dashOf bd).isPrefixOf body = false := by simpa using h1
    rw [show (Value.int IntKind.u8 10) = byteV 10 from rfl, fill1 (v := byteV 10) rfl, Q6, NewSl]
    have f2 : Frm [] H1 (H1.push (.cells #[byteV 10] 5 (0, 0))) := Frm.push _ _ _
    have hb2 := push_same H1 (.cells #[byteV 10] 5 (0, 0))
    have z2 : (H1.push (.cells #[byteV 10] 5 (0, 0))).size = H1.size + 1 := by simp
    generalize H1.push (.cells #[byteV 10] 5 (0, 0)) = H2 at *
    have hown : OwnB H2 (some H1.size) (.slice (some ⟨H1.size, 0, none⟩) 1 1) [10] := ⟨#[byteV 10], rfl, hb2, rfl, by simp⟩
    refine append_own hown (hx1.frm f2 (by simp)) (by simp; omega) fun k' sl H3 hown3 f3 hk3 => ?_
    have hv3 : IsBytes H3 v body := (hv1.frm f2 (by simp)).frm' f3 (fun h0 y hy hm => by
      have := hvb h0 y hy
      have : y = H1.size := by simpa using hm
      omega)
    refine (find_ok hv3 hown3.bytes (by omega) (by simp; omega)).mono ?_
    have f13 : Frm [] H H3 := (f1.trans f2).up f3 (fun x hx => by
      have : x = H1.size := by simpa using hx
      exact .inr (by omega))
    rintro x H3 ⟨rfl, ⟨rfl, hno⟩ | ⟨i, rfl, hf⟩⟩
    · have d1 : decide ((-1 : Int) < 0) = true := by decide
      simp only [Qk, Ql, Qm, Qn, Qo, Qp, Qq, Qr, Qs, Q0, Q1, Q2, Q3, Q4, Q5, Q6, Q7, Q8, Q9, Qa, Qb, Qc, Qd, Qe, Qf, Qg, Qh, Qi, Qj, d1, if_true]
      exact ⟨true, rfl, ⟨fun _ => ⟨h1', hno⟩, fun _ => rfl⟩, f13⟩
    · have d1 : decide ((i : Int) < 0) = false := by simp
      simp only [Qk, Ql, Qm, Qn, Qo, Qp, Qq, Qr, Qs, Q0, Q1, Q2, Q3, Q4, Q5, Q6, Q7, Q8, Q9, Qa, Qb, Qc, Qd, Qe, Qf, Qg, Qh, Qi, Qj, d1, if_true]
      exact ⟨false, rfl, ⟨fun h => (by cases h), fun h => absurd h.2 (first_not_nowhere hf)⟩, f13⟩
  · simp only [Q0, Q1, Q2, Q3, Q4, Q5, Q6, Q7, Q8, Q9, Qa, Qb, Qc, Qd, Qe, Qf, Qg, Qh, Qi, Qj, Bool.false_eq_true, if_false]
    refine ⟨false, rfl, ⟨fun h => (by cases h), fun h => ?_⟩, f1⟩
    rw [h.1] at h1
    cases h1
end Go.Cps
namespace Go.Cps
open Go Go.Proofs
def isBool (x : Value) : Prop := ∃ r : Bool, x = .bool r
end Go.Cps
namespace Go.Cps
open Go Go.Proofs
theorem appByte {k : Option Nat} {sl : Value} {d : List UInt8} {b : UInt8} {z : Value} {H : Heap} {K : Value → Heap → Prop} (h : OwnB H k sl d) (hl : d.length < 2 ^ 39)
    (hK : ∀ k' sl' H', OwnB H' k' sl' (d ++ [b]) → Frm k.toList H H' → (k' = k ∨ ∃ g, k' = some g ∧ H.size ≤ g) → K sl' H') :
    Get (Instr.fill (fun j => some (j * 1, 1)) ((Array.range (1 * 1)).map ((#[z] : Array Value)[· % 1]!)) [(0, byteV b)]) fun cs => NewSl cs 5 1 H fun x22 H =>
    Append 5 1 1 #[(.int .u8 0)] sl x22 H K := by
  rw [fill1 (v := byteV b) rfl, Q6, NewSl]
  have f2 : Frm [] H (H.push (.cells #[byteV b] 5 (0, 0))) := Frm.push _ _ _
  have hb2 := push_same H (.cells #[byteV b] 5 (0, 0))
  have z2 : (H.push (.cells #[byteV b] 5 (0, 0))).size = H.size + 1 := by simp
  generalize H.push (.cells #[byteV b] 5 (0, 0)) = H2 at *
  have hx : IsBytes H2 (.slice (some ⟨H.size, 0, none⟩) 1 1) [b] := .inl ⟨H.size, 0, 1, rfl, by simp, fun j hj => by
    have : j = 0 := by simpa using hj
    subst this
    rw [cellH_of hb2]; rfl⟩
  refine append_own (h.frm f2 (by simp)) hx (by simp; omega) fun k' sl' H3 h1 f3 hk => hK k' sl' H3 h1 ((f2.mono (by simp)).trans f3) ?_
  rcases hk with e | ⟨g, e, hg⟩
  · exact .inl e
  · exact .inr ⟨g, e, by omega⟩
end Go.Cps
namespace Go.Cps
open Go Go.Proofs
theorem strs1 {D : List Nat} {H : Heap} {b : Nat} {s : List UInt8} (h : H[b]? = some (.cells #[strVal s] 9 (0, 0))) (hb : b ∉ D) : StrsV D H (.slice (some ⟨b, 0, none⟩) 1 1) [s] :=
  .inl ⟨b, 0, 1, rfl, by simp, hb, lt_of_some h, fun j hj => by
    have : j = 0 := by simpa using hj
    subst this
    refine ⟨[strVal s], rfl, rfl, fun i hi => ?_⟩
    have : i = 0 := by omega
    subst this
    rw [cellH_of h]; rfl⟩
theorem newSl_of {cs : Array Value} {T n : Nat} {H : Heap} {K : Value → Heap → Prop} (hK : ∀ H', H'[H.size]? = some (.cells cs T (0, 0)) → Frm [] H H' → H'.size = H.size + 1 → K (.slice (some ⟨H.size, 0, none⟩) n n) H') : NewSl cs T n H K :=
  hK _ (push_same _ _) (Frm.push _ _ _) (by simp)
theorem agg2 {z1 z2 a b : Value} (ha : isOne a = true) (hb : isOne b = true) (hz : True) : fillV #[(0, 1), (1, 1)] #[z1, z2] [(0, a), (1, b)] = some #[a, b] := by
  rw [fillV_cons ha rfl (by simp), fillV_cons hb rfl (by simp), fillV_nil]; rfl
end Go.Cps
namespace Go.Cps
open Go Go.Proofs
def lastP (last : Option Nat) : Value := .pointer (last.map fun p => ⟨p, 0, none⟩)
structure WS (B ob wr : Nat) (bd : List UInt8) (k last : Option Nat) (l : List UInt8) (H : Heap) : Prop where
  buf : BufAt ob k l H
  wr_ : WrAt wr (.iface 58 (.pointer (some ⟨ob, 0, none⟩))) bd (lastP last) H
  pt : ∀ p, last = some p → H[p]? = some (.cells #[.pointer (some ⟨wr, 0, none⟩), .bool false, .nilIface] 115 (0, 0))
  low : B ≤ ob ∧ B ≤ wr ∧ (∀ p, last = some p → B ≤ p) ∧ ∀ g, k = some g → B ≤ g
  ne : ob ≠ wr ∧ (∀ p, last = some p → p ≠ ob ∧ p ≠ wr ∧ k ≠ some p) ∧ k ≠ some wr ∧ k ≠ some ob
def WS.ids (ob wr : Nat) (k last : Option Nat) : List Nat := ob :: wr :: (last.toList ++ k.toList)
theorem WS.sub {ob wr : Nat} {k last : Option Nat} : ∀ x ∈ ob :: k.toList, x ∈ WS.ids ob wr k last := by
  intro x hx
  simp only [WS.ids, List.mem_cons, List.mem_append] at hx ⊢
  rcases hx with h | h
  · exact .inl h
  · exact .inr (.inr (.inr h))
theorem BufAt.lt {b : Nat} {k : Option Nat} {l : List UInt8} {H : Heap} (h : BufAt b k l H) : b < H.size ∧ ∀ g, k = some g → g < H.size ∧ g ≠ b := by
  obtain ⟨sl, lr, h1, h2⟩ := h
  refine ⟨lt_of_some h1, fun g hg => ⟨?_, h2.ne g hg⟩⟩
  subst hg
  obtain ⟨cells, _, h3, _⟩ := h2
  exact lt_of_some h3
theorem WS.lt {B ob wr : Nat} {bd l : List UInt8} {k last : Option Nat} {H : Heap} (h : WS B ob wr bd k last l H) : ∀ x ∈ WS.ids ob wr k last, x < H.size ∧ B ≤ x := by
  intro x hx
  simp only [WS.ids, List.mem_cons, List.mem_append, Option.mem_toList] at hx
  rcases hx with rfl | rfl | hx | hx
  · exact ⟨h.buf.lt.1, h.low.1⟩
  · exact ⟨lt_of_some h.wr_, h.low.2.1⟩
  · exact ⟨lt_of_some (h.pt x hx), h.low.2.2.1 x hx⟩
  · exact ⟨(h.buf.lt.2 x hx).1, h.low.2.2.2 x hx⟩
theorem WS.frm {B ob wr : Nat} {bd l : List UInt8} {k last : Option Nat} {H H' : Heap} {X : List Nat} (h : WS B ob wr bd k last l H) (f : Frm X H H') (hx : ∀ x ∈ WS.ids ob wr k last, x ∉ X) : WS B ob wr bd k last l H' where
  buf := h.buf.frm f (hx ob (by simp [WS.ids])) (fun g hg => hx g (by simp [WS.ids, hg]))
  wr_ := f.get h.wr_ (hx wr (by simp [WS.ids]))
  pt := fun p hp => f.get (h.pt p hp) (hx p (by simp [WS.ids, hp]))
  low := h.low
  ne := h.ne
theorem WS.wrote {B ob wr : Nat} {bd l l' : List UInt8} {k k' last : Option Nat} {H H' : Heap} (h : WS B ob wr bd k last l H) (hb : BufAt ob k' l' H') (f : Frm (ob :: k.toList) H H') (hk : k' = k ∨ ∃ g, k' = some g ∧ H.size ≤ g) (hB : B ≤ H.size) : WS B ob wr bd k' last l' H' := by
  have hwr := lt_of_some h.wr_
  obtain ⟨n1, n2, n3, n4⟩ := h.ne
  refine { buf := hb, wr_ := f.get h.wr_ (fun hm => ?_), pt := fun p hp => f.get (h.pt p hp) (fun hm => ?_), low := ⟨h.low.1, h.low.2.1, h.low.2.2.1, fun g hg => ?_⟩, ne := ⟨n1, fun p hp => ?_, ?_, ?_⟩ }
  · rcases List.mem_cons.1 hm with e | e
    · exact n1 e.symm
    · exact n3 (by simpa using e)
  · obtain ⟨m1, m2, m3⟩ := n2 p hp
    rcases List.mem_cons.1 hm with e | e
    · exact m1 e
    · exact m3 (by simpa using e)
  · rcases hk with e | ⟨g', e, hge⟩
    · exact h.low.2.2.2 g (by rw [← e, hg])
    · rw [hg] at e; cases e; omega
  · obtain ⟨m1, m2, m3⟩ := n2 p hp
    refine ⟨m1, m2, fun e2 => ?_⟩
    have := lt_of_some (h.pt p hp)
    rcases hk with e | ⟨g', e, hge⟩
    · exact m3 (by rw [← e, e2])
    · rw [e2] at e; cases e; omega
  · intro e2
    rcases hk with e | ⟨g', e, hge⟩
    · exact n3 (by rw [← e, e2])
    · rw [e2] at e; cases e; omega
  · intro e2
    exact (hb.lt.2 ob e2).2 rfl
theorem meth103 : methodRes Tryz.prog 103 "Write" = some 212 := by kernel_rfl
theorem body212 : hasBody Tryz.prog 212 = true := by kernel_rfl
theorem ahead103 (a : Addr) : aheadP Tryz.prog 103 (.pointer (some a)) "Write" = true := by kernel_rfl
theorem partWrite_ok {B ob wr p : Nat} {bd l d : List UInt8} {k : Option Nat} {x : Value} {H : Heap} (h : WS B ob wr bd k (some p) l H) (hx : IsBytes H x d) (hxb : ∀ y, blk x = some y → y ≠ ob) (hlen : l.length + d.length < 2 ^ 40) (hB : B ≤ H.size) :
    CallsH Tryz.prog 212 #[.pointer (some ⟨p, 0, none⟩), x] H fun r H' => r = .tuple #[.int .i64 d.length, .nilIface] ∧ ∃ k', WS B ob wr bd k' (some p) (l ++ d) H' ∧ Frm (ob :: k.toList) H H' ∧ (k' = k ∨ ∃ g, k' = some g ∧ H.size ≤ g) := by
  apply s212
  simp only [c212, Q0, Q1, Q2, Q3, Q4, Q5, Q6, Q7, Q8, Q9, Qa, Qb, Qc, Qd, Qe, Qf, Qg, Qh, Qi, Qj, cellH_of (h.pt p rfl), cellH_of h.wr_]
  refine invoke_of 209 meth58 body209 ?_
  refine (bufWrite_ok h.buf hx hxb hlen).mono ?_
  rintro r H1 ⟨rfl, k', hb, f1, hk⟩
  simp only [Q0, Q1, Q2, Q3, Q4, Q5, Q6, Q7, Q8, Q9, Qa, Qb, Qc, Qd, Qe, Qf, Qg, Qh, Qi, Qj]
  refine Join_direct ?_
  simp only [nilV2_neq_nil, Q0, Q1, Q2, Q3, Q4, Q5, Q6, Q7, Q8, Q9, Qa, Qb, Qc, Qd, Qe, Qf, Qg, Qh, Qi, Qj]
  exact ⟨trivial, k', h.wrote hb f1 hk hB, f1, hk⟩
theorem closePart_ok {B ob wr p : Nat} {bd l : List UInt8} {k : Option Nat} {H : Heap} (h : WS B ob wr bd k (some p) l H) :
    CallsH Tryz.prog 61 #[.pointer (some ⟨p, 0, none⟩)] H fun r H' => r = .nilIface ∧ BufAt ob k l H' ∧ WrAt wr (.iface 58 (.pointer (some ⟨ob, 0, none⟩))) bd (lastP (some p)) H' ∧ Frm [p] H H' ∧ H'.size = H.size := by
  obtain ⟨n1, n2, n3, n4⟩ := h.ne
  obtain ⟨m1, m2, m3⟩ := n2 p rfl
  have hp := h.pt p rfl
  apply s61
  simp only [c61, Q0, Q1, Q2, Q3, Q4, Q5, Q6, Q7, Q8, Q9, Qa, Qb, Qc, Qd, Qe, Qf, Qg, Qh, Qi, Qj]
  refine Store_of hp (by simp) rfl fun H1 hp1 f1 z1 => ?_
  simp only [Qt, Qu, Qv] at hp1
  simp only [Q0, Q1, Q2, Q3, Q4, Q5, Q6, Q7, Q8, Q9, Qa, Qb, Qc, Qd, Qe, Qf, Qg, Qh, Qi, Qj, cellH_of hp1]
  exact ⟨trivial, h.buf.frm f1 (by rw [List.mem_singleton]; exact m1.symm) (fun g hg => by rw [List.mem_singleton]; rintro rfl; exact m3 hg), f1.get h.wr_ (by rw [List.mem_singleton]; exact m2.symm), f1, z1⟩
theorem close_ok {B ob wr : Nat} {bd l : List UInt8} {k last : Option Nat} {H : Heap} (h : WS B ob wr bd k last l H) (hl : l.length + bd.length + 8 < 2 ^ 40) :
    CallsH Tryz.prog 35 #[.pointer (some ⟨wr, 0, none⟩)] H fun x H' => x = .nilIface ∧ ∃ k', BufAt ob k' (l ++ ([13, 10, 45, 45] ++ bd ++ [45, 45, 13, 10])) H' ∧ Frm (WS.ids ob wr k last) H H' := by
  obtain ⟨n1, n2, n3, n4⟩ := h.ne
  cases last with
  | none =>
    refine (close_nil h.wr_ h.buf hl).mono ?_
    rintro x H' ⟨rfl, k', h1, f, _⟩
    exact ⟨rfl, k', h1, f.mono WS.sub⟩
  | some p =>
    apply s35
    unfold c35
    refine ⟨fun _ H1 => BufAt ob k l H1 ∧ WrAt wr (.iface 58 (.pointer (some ⟨ob, 0, none⟩))) bd (.pointer none) H1 ∧ Frm (WS.ids ob wr k (some p)) H H1, ?_, ?_⟩
    · simp only [Q0, Q1, Q2, Q3, Q4, Q5, Q6, Q7, Q8, Q9, Qa, Qb, Qc, Qd, Qe, Qf, Qg, Qh, Qi, Qj, cellH_of h.wr_, lastP, Option.map_some, nilV2_neq_ptr, Option.isNone_some, Bool.not_false]
      refine (closePart_ok h).mono ?_
      rintro x H1 ⟨rfl, hb1, hw1, f1, z1⟩
      simp only [nilV2_neq_nil, Q0, Q1, Q2, Q3, Q4, Q5, Q6, Q7, Q8, Q9, Qa, Qb, Qc, Qd, Qe, Qf, Qg, Qh, Qi, Qj]
      refine Store_of hw1 (by simp) rfl fun H2 hw2 f2 z2 => ?_
      simp only [Qt, Qu, Qv] at hw2
      exact ⟨hb1.frm f2 (by simpa using n1) (fun g hg => by rw [List.mem_singleton]; rintro rfl; exact n3 hg), hw2, (f1.mono (by simp [WS.ids])).trans (f2.mono (by simp [WS.ids]))⟩
    · rintro _ H1 ⟨hb1, hw1, f1⟩
      have := close_core (R := fun x H' => x = .nilIface ∧ ∃ k', BufAt ob k' (l ++ ([13, 10, 45, 45] ++ bd ++ [45, 45, 13, 10])) H' ∧ Frm (WS.ids ob wr k (some p)) H H') hw1 hb1 hl fun k' H' h1 h2 h3 => ⟨rfl, k', h1, f1.trans (h2.mono WS.sub)⟩
      simp only [Q0, Q1, Q2, Q3, Q4, Q5, Q6, Q7, Q8, Q9, Qa, Qb, Qc, Qd, Qe, Qf, Qg, Qh, Qi, Qj, cellH_of hw1] at this ⊢
      exact this
theorem ioCopy_ok {b ob : Nat} {k ko : Option Nat} {l lo : List UInt8} {H : Heap} (h : BufAt b k l H) (ho : BufAt ob ko lo H) (hne : b ≠ ob) (hb1 : ko ≠ some b) (hb2 : k ≠ some ob) (hkk : ∀ g, k = some g → ko ≠ some g) (hl : l ≠ []) (hlen : lo.length + l.length < 2 ^ 40) :
    CallsH Tryz.prog 65 #[.iface 58 (.pointer (some ⟨ob, 0, none⟩)), .iface 58 (.pointer (some ⟨b, 0, none⟩))] H fun x H' => x = .tuple #[.int .i64 l.length, .nilIface] ∧ ∃ k', BufAt ob k' (lo ++ l) H' ∧ Frm (b :: ob :: ko.toList) H H' ∧ (k' = ko ∨ ∃ g, k' = some g ∧ H.size ≤ g) := by
  apply s65
  unfold c65
  apply s88
  unfold c88
  rw [tassertW]
  simp only [Q0, Q1, Q2, Q3, Q4, Q5, Q6, Q7, Q8, Q9, Qa, Qb, Qc, Qd, Qe, Qf, Qg, Qh, Qi, Qj]
  refine invoke_of 210 meth58W body210 ?_
  refine (writeTo_ok h ho hne hb1 hb2 hkk hl hlen).mono ?_
  rintro x H' ⟨rfl, k', h1, f1, hk⟩
  simp only [Q0, Q1, Q2, Q3, Q4, Q5, Q6, Q7, Q8, Q9, Qa, Qb, Qc, Qd, Qe, Qf, Qg, Qh, Qi, Qj]
  exact ⟨trivial, k', h1, f1, hk⟩
end Go.Cps
