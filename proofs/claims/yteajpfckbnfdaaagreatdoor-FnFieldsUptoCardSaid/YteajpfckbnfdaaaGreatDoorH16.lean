/-
  A part of the proof: readContinuedLineSlice of a line that does not go on. Go maps with strings as keys and slices of strings as values: lookup and update. upcomingHeaderKeys: some small number; the reader's rest is as it was. Slices of strings in rows: windows, one string appended.
  Conditions: each contract's own.
-/
import Derived.Test.YteajpfckbnfdaaaGreatDoorH15
set_option linter.all false
namespace Go.Cps
open Go Go.Proofs
theorem body169 : hasBody Tryz.prog 172 = true := by kernel_rfl
def OwnE (H : Heap) (k : Option Nat) (sl : Value) : Prop := match k with
  | none => sl = .slice none 0 0
  | some g => ∃ (n : Nat) (cells : Array Value), sl = .slice (some ⟨g, 0, none⟩) n cells.size ∧ H[g]? = some (.cells cells 5 (0, 0)) ∧ n ≤ cells.size
theorem OwnB.toE {H : Heap} {k : Option Nat} {sl : Value} {l : List UInt8} (h : OwnB H k sl l) : OwnE H k sl := by
  cases k with
  | none => exact h.1
  | some g => obtain ⟨cells, h1, h2, _, h3⟩ := h; exact ⟨_, cells, h1, h2, h3⟩
theorem OwnE.frm {H H' : Heap} {k : Option Nat} {sl : Value} {X : List Nat} (h : OwnE H k sl) (f : Frm X H H') (hk : ∀ g, k = some g → g ∉ X) : OwnE H' k sl := by
  cases k with
  | none => exact h
  | some g =>
    obtain ⟨n, cells, h1, hg, h2⟩ := h
    exact ⟨n, cells, h1, f.get hg (hk g rfl), h2⟩
theorem OwnE.put {H H' : Heap} {g o : Nat} {sl : Value} {cs : Array Value} {vs : List Value} (h : OwnE H (some g) sl) (hg : H[g]? = some (.cells cs 5 (0, 0))) (hg' : H'[g]? = some (.cells (putAt cs o vs) 5 (0, 0))) : OwnE H' (some g) sl := by
  obtain ⟨n, cells, h1, h2, h3⟩ := h
  rw [hg] at h2
  cases h2
  exact ⟨n, _, by rw [h1, putAt_size], hg', by rw [putAt_size]; exact h3⟩
theorem OwnE.empty {H : Heap} {k : Option Nat} {sl : Value} (h : OwnE H k sl) : ∃ y, (∀ kk : IntKind, sliceV 1 sl none (some (.int kk 0)) none = some y) ∧ OwnB H k y [] := by
  cases k with
  | none =>
    rw [show sl = .slice none 0 0 from h]
    exact ⟨.slice none 0 0, fun _ => rfl, rfl, rfl⟩
  | some g =>
    obtain ⟨n, cells, rfl, hg, hle⟩ := h
    refine ⟨.slice (some ⟨g, 0, none⟩) 0 cells.size, fun kk => ?_, cells, rfl, hg, rfl, Nat.zero_le _⟩
    exact sliceV_hi (hi := 0) (Nat.zero_le _) kk
structure Cont (S : Stk) (tr : Nat) (l : List UInt8) (q : List UInt8) (u : Value) (s' : St) (k' : Option Nat) (H' : Heap) : Prop where
  rd : RdAt S s' H'
  rest : s'.rest S = q
  bytes : IsBytes H' u l
  tr_ : ∃ tbuf', TR S tr tbuf' H' ∧ OwnE H' k' tbuf'
  where_ : Rng u S.bf s'.r ∨ OwnB H' k' u l
theorem contLine_ok {S : Stk} {s : St} {H : Heap} {tr : Nat} {k : Option Nat} {tbuf : Value} {p q : List UInt8} {c : UInt8} {lim : Int} (ht : TR S tr tbuf H) (ho : OwnE H k tbuf) (htr : tr ∉ S.ids) (hkt : ∀ g, k = some g → g ∉ tr :: S.ids)
    (h : RdAt S s H) (h4 : Full4 H) (h40 : 1 ∉ S.ids) (hvt : blk S.v ≠ some tr) (hvk : ∀ g, k = some g → blk S.v ≠ some g) (htr0 : tr ≠ 0) (hk0 : ∀ g, k = some g → g ≠ 0) (hr : s.rest S = p ++ 13 :: 10 :: c :: q) (hp : 10 ∉ p) (hl : p.length ≤ 4000) (hcol : 58 ∈ p) (hc : lws c = false) (hlim : 10000 ≤ lim) (hlim2 : lim ≤ 2 ^ 40) :
    CallsH Tryz.prog 171 #[.pointer (some ⟨tr, 0, none⟩), .int .i64 lim, .func (.func 172) #[] #[]] H fun x H' => ∃ u s' k', x = .tuple #[u, .nilIface] ∧ Cont S tr (trimB p) (c :: q) u s' k' H' ∧ Frm (tr :: k.toList ++ S.ids) H H' ∧ (k' = k ∨ ∃ g, k' = some g ∧ H.size ≤ g) := by
  have hpn : p ≠ [] := by rintro rfl; simp at hcol
  have hpl : 0 < p.length := List.length_pos_iff.2 hpn
  apply s168
  have hnf : nilV2 .eql .nilFunc (.func (.func 172) #[] #[]) = some (.bool false) := rfl
  simp only [c168, hnf, Q0, Q1, Q2, Q3, Q4, Q5, Q6, Q7, Q8, Q9, Qa, Qb, Qc, Qd, Qe, Qf, Qg, Qh, Qi, Qj]
  refine (lineSlice_ok ht h h4 h40 hr hp hl (by omega)).mono ?_
  rintro x H1 ⟨u0, s1, rfl, h1, hu0, hr1, hrng, f1, z1⟩
  have ht1 : TR S tr tbuf H1 := f1.get ht htr
  have hne : (((p.length : Nat) : Int) == 0) = false := by rw [beq_eq_false_iff_ne]; omega
  simp only [Q0, Q1, Q2, Q3, Q4, Q5, Q6, Q7, Q8, Q9, Qa, Qb, Qc, Qd, Qe, Qf, Qg, Qh, Qi, Qj, Qk, Ql, Qm, Qn, Qo, Qp, Qq, Qr, Qs, nilV2_neq_nil, hu0.len, hne]
  refine ⟨172, #[], #[], rfl, body169, ?_⟩
  refine (colon_ok hu0 hcol).mono ?_
  rintro x H1 ⟨rfl, rfl⟩
  simp only [nilV2_neq_nil, Q0, Q1, Q2, Q3, Q4, Q5, Q6, Q7, Q8, Q9, Qa, Qb, Qc, Qd, Qe, Qf, Qg, Qh, Qi, Qj]
  have hubf : ∀ {H2 : Heap} {s2 : St}, RdAt S s2 H2 → s2.buf = s1.buf → IsBytes H2 u0 p := by
    intro H2 s2 h2 hb
    refine hu0.cast fun b o cc e => ?_
    have hbb : b = S.bf := by
      obtain ⟨o', n', c', he, _⟩ := hrng
      rw [he] at e
      cases e
      rfl
    rw [hbb, h2.hbf, h1.hbf, hb]
  have ho1 := ho.frm f1 (fun g hg => by have := hkt g hg; simp at this; exact this.2)
  refine ⟨fun _ H2 => ∃ s2, RdAt S s2 H2 ∧ s2.buf = s1.buf ∧ s2.r = s1.r ∧ s2.rest S = c :: q ∧ Frm S.ids H1 H2, ?_, ?_⟩
  · simp only [Q0, Q1, Q2, Q3, Q4, Q5, Q6, Q7, Q8, Q9, Qa, Qb, Qc, Qd, Qe, Qf, Qg, Qh, Qi, Qj, cellH_of ht1]
    refine (buffered_ok h1).mono ?_
    rintro x H2 ⟨rfl, rfl⟩
    simp only [Q0, Q1, Q2, Q3, Q4, Q5, Q6, Q7, Q8, Q9, Qa, Qb, Qc, Qd, Qe, Qf, Qg, Qh, Qi, Qj, Qk, Ql, Qm, Qn, Qo, Qp, Qq, Qr, Qs]
    refine Br_intro (fun hb => ?_) (fun hb => ⟨s1, h1, rfl, rfl, hr1, Frm.refl _ _⟩)
    have hb2 : 2 ≤ s1.w - s1.r := by simp at hb; omega
    simp only [Q0, Q1, Q2, Q3, Q4, Q5, Q6, Q7, Q8, Q9, Qa, Qb, Qc, Qd, Qe, Qf, Qg, Qh, Qi, Qj, cellH_of ht1]
    refine (peek_ok h1 (n := 2) (by omega)).mono ?_
    rintro x H3 ⟨u2, s3, rfl, hpk⟩
    obtain ⟨eb, er, ew, ee, ep⟩ := hpk.same hb2
    have hrl := h1.rest_len
    have hpb := hpk.bytes
    have hlen2 : ((s1.rest S).take 2).length = 2 := by rw [List.length_take]; omega
    have h3s : RdAt S s3 H3 ∧ s3.buf = s1.buf ∧ s3.r = s1.r ∧ s3.rest S = c :: q ∧ Frm S.ids H2 H3 := ⟨hpk.rd, eb, er, hpk.rest.trans hr1, hpk.frm⟩
    have hu3 := hubf hpk.rd eb
    obtain ⟨a0, ha0, hc0⟩ := elem_at hpb (i := 0) (by omega) (by omega)
    obtain ⟨a1, ha1, hc1⟩ := elem_at hpb (i := 1) (by omega) (by omega)
    generalize ((s1.rest S).take 2)[0]'(by omega) = y0 at hc0
    generalize ((s1.rest S).take 2)[1]'(by omega) = y1 at hc1
    have hlv := hpb.len
    rw [hlen2] at hlv
    rw [show ((0 : Nat) : Int) = 0 from rfl] at ha0
    rw [show ((1 : Nat) : Int) = 1 from rfl] at ha1
    simp only [Q0, Q1, Q2, Q3, Q4, Q5, Q6, Q7, Q8, Q9, Qa, Qb, Qc, Qd, Qe, Qf, Qg, Qh, Qi, Qj]
    refine ⟨fun vs H' => (∃ b, vs = [.bool b]) ∧ H' = H3, ?_, ?_⟩
    · have g2 : decide ((((2 : Nat)) : Int) > 0) = true := by decide
      have g3 : (((2 : Nat) : Int) == 2) = true := by decide
      simp only [hlv, Q0, Q1, Q2, Q3, Q4, Q5, Q6, Q7, Q8, Q9, Qa, Qb, Qc, Qd, Qe, Qf, Qg, Qh, Qi, Qj, Qk, Ql, Qm, Qn, Qo, Qp, Qq, Qr, Qs, g2, ha0, hc0]
      refine letterB_ok.mono ?_
      rintro x H4 ⟨rfl, rfl⟩
      refine Br_intro (fun hh => ?_) (fun hh => ?_)
      · simp only [Q0, Q1, Q2, Q3, Q4, Q5, Q6, Q7, Q8, Q9, Qa, Qb, Qc, Qd, Qe, Qf, Qg, Qh, Qi, Qj, if_true]
        exact ⟨⟨_, rfl⟩, trivial⟩
      · simp only [Q0, Q1, Q2, Q3, Q4, Q5, Q6, Q7, Q8, Q9, Qa, Qb, Qc, Qd, Qe, Qf, Qg, Qh, Qi, Qj, if_true, Bool.false_eq_true, if_false, ha0, hc0, byteV, Qk, Ql, Qm, Qn, Qo, Qp, Qq, Qr, Qs, hlv, g3, ha1, hc1]
        refine Br_intro (fun hh => ?_) (fun hh => ?_)
        · exact ⟨⟨_, rfl⟩, trivial⟩
        · refine Br_intro (fun hh => ?_) (fun hh => ?_)
          · exact ⟨⟨_, rfl⟩, trivial⟩
          · exact ⟨⟨_, rfl⟩, trivial⟩
    · rintro _ H3 ⟨⟨b, rfl⟩, rfl⟩
      simp only [Q0, Q1, Q2, Q3, Q4, Q5, Q6, Q7, Q8, Q9, Qa, Qb, Qc, Qd, Qe, Qf, Qg, Qh, Qi, Qj]
      refine Br_intro (fun hh => ?_) (fun hh => ⟨s3, h3s⟩)
      refine (trim_ok hu3 (by omega)).mono ?_
      rintro y H4 ⟨rfl, hy, hsub⟩
      have f13 := f1.trans hpk.frm
      refine ⟨y, s3, k, rfl, ⟨hpk.rd, h3s.2.2.2.1, hy, ⟨tbuf, hpk.frm.get ht1 htr, ho1.frm hpk.frm (fun g hg => by have := hkt g hg; simp at this; exact this.2)⟩, .inl (hsub.2 _ _ (by rw [er]; exact hrng))⟩, f13.mono (fun x hx => by simp [hx]), .inl rfl⟩
  · rintro _ H2 ⟨s2, h2, hb2, hrr2, hr2, f2⟩
    have ht2 : TR S tr tbuf H2 := f2.get ht1 htr
    have hu2 := hubf h2 hb2
    have ho2 := ho1.frm f2 (fun g hg => by have := hkt g hg; simp at this; exact this.2)
    obtain ⟨sl0, hsl0, hsl⟩ := ho2.empty
    simp only [Q0, Q1, Q2, Q3, Q4, Q5, Q6, Q7, Q8, Q9, Qa, Qb, Qc, Qd, Qe, Qf, Qg, Qh, Qi, Qj, cellH_of ht2, hsl0 .i64]
    refine (trim_ok hu2 (by omega)).mono ?_
    rintro y H2 ⟨rfl, hy, hsub⟩
    have htl : (trimB p).length ≤ p.length := by
      unfold trimB
      rw [List.length_reverse]
      refine Nat.le_trans (List.IsSuffix.length_le (List.dropWhile_suffix _)) ?_
      rw [List.length_reverse]
      exact List.IsSuffix.length_le (List.dropWhile_suffix _)
    refine ⟨⟨by rw [cellH_of ht2]; rfl, trivial⟩, ?_⟩
    refine append_own hsl hy (by simp; omega) fun k' sl' H3 ho3 f3 hk3 => ?_
    have hkn : ∀ x ∈ k.toList, x ∉ tr :: S.ids := fun x hx => hkt x (by simpa using hx)
    have ht3 : TR S tr tbuf H3 := f3.get ht2 (fun hm => hkn _ hm (by simp))
    have h3 : RdAt S s2 H3 := h2.frm f3 (fun x hx hm => hkn _ hm (by simp [hx])) (fun x hx hm => hvk x (by simpa using hm) hx) (fun hm => hk0 0 (by simpa using hm) rfl)
    have hk'n : ∀ g, k' = some g → g ∉ tr :: S.ids := by
      intro g hg
      rcases hk3 with e | ⟨g', e, hge⟩
      · exact hkt g (by rw [← e, hg])
      · rw [hg] at e; cases e
        intro hm
        have hlt : g < H2.size := by
          rcases List.mem_cons.1 hm with rfl | hm
          · exact lt_of_some ht2
          · simp only [Stk.ids, List.mem_cons, List.not_mem_nil, or_false] at hm
            rcases hm with rfl | rfl | rfl | rfl
            · exact lt_of_some h2.hb
            · exact lt_of_some h2.hbf
            · exact lt_of_some h2.hst
            · exact lt_of_some h2.hbr
        omega
    have hone : isOne sl' = true := by
      cases k' with
      | none => rw [ho3.1]; rfl
      | some g => obtain ⟨cells, e, _⟩ := ho3; rw [e]; rfl
    refine Store_of ht3 (by simp) hone fun H4 hb4 f4 z4 => ?_
    simp only [Qt, Qu, Qv] at hb4
    have ht4 : TR S tr sl' H4 := hb4
    have h4' : RdAt S s2 H4 := h3.frm f4 (fun x hx => by
      rw [List.mem_singleton]; intro e; exact htr (e ▸ hx)) (fun x hx => by
      rw [List.mem_singleton]; intro e; exact hvt (by rw [hx, e])) (by rw [List.mem_singleton]; exact fun e => htr0 e.symm)
    have ho4 := ho3.frm f4 (fun g hg => by
      have := hk'n g hg
      simp at this ⊢
      exact this.1)
    have d1 : decide (lim < 0) = false := by simp; omega
    refine Join_direct ?_
    simp only [Qk, Ql, Qm, Qn, Qo, Qp, Qq, Qr, Qs, Q0, Q1, Q2, Q3, Q4, Q5, Q6, Q7, Q8, Q9, Qa, Qb, Qc, Qd, Qe, Qf, Qg, Qh, Qi, Qj, d1, cellH_of ht4, ho4.bytes.len]
    refine ⟨fun n vs H' => vs = [] ∧ H' = H4, ⟨0, rfl, rfl⟩, ?_⟩
    rintro n vs H4 ⟨rfl, rfl⟩
    refine (skipSpace_ok ht4 htr h4' hr2 hc).mono ?_
    rintro x H5 ⟨s5, rfl, h5, hr5, f5, z5⟩
    have ht5 : TR S tr sl' H5 := f5.get ht4 htr
    have ho5 := ho4.frm f5 (fun g hg => by have := hk'n g hg; simp at this; exact this.2)
    have d2 : decide ((0 : Int) > 0) = false := by decide
    simp only [Qk, Ql, Qm, Qn, Qo, Qp, Qq, Qr, Qs, Q0, Q1, Q2, Q3, Q4, Q5, Q6, Q7, Q8, Q9, Qa, Qb, Qc, Qd, Qe, Qf, Qg, Qh, Qi, Qj, d2, cellH_of ht5]
    refine ⟨sl', s5, k', rfl, ⟨h5, hr5, by simpa using ho5.bytes, ⟨sl', ht5, ho5.toE⟩, .inr (by simpa using ho5)⟩, ?_, ?_⟩
    · have fa := (f1.trans f2).mono (S' := tr :: k.toList ++ S.ids) (fun x hx => by simp [hx])
      have fb := f3.mono (S' := tr :: k.toList ++ S.ids) (fun x hx => by simp at hx ⊢; simp [hx])
      have fc := f4.mono (S' := tr :: k.toList ++ S.ids) (fun x hx => by simp at hx; simp [hx])
      have fd := f5.mono (S' := tr :: k.toList ++ S.ids) (fun x hx => by simp [hx])
      exact ((fa.trans fb).trans fc).trans fd
    · rcases hk3 with e | ⟨g, e, hge⟩
      · exact .inl e
      · exact .inr ⟨g, e, by have := f1.size; have := f2.size; omega⟩
end Go.Cps
namespace Go.Cps
open Go Go.Proofs
def entsOf (es : Array MapEntry) (ents : List (List UInt8 × Value)) : Prop := es.toList.map (fun e => (e.key, e.val)) = ents.map fun p => (strVal p.1, p.2)
def MapAt (H : Heap) (m : Nat) (ents : List (List UInt8 × Value)) : Prop := ∃ es clock, H[m]? = some (.map es clock) ∧ entsOf es ents ∧ (es.toList.map (·.born)).Nodup ∧ ∀ e ∈ es.toList, e.born < clock
theorem MapAt.frm {H H' : Heap} {m : Nat} {ents : List (List UInt8 × Value)} {X : List Nat} (h : MapAt H m ents) (f : Frm X H H') (hm : m ∉ X) : MapAt H' m ents := by
  obtain ⟨es, c, h1, h2⟩ := h
  exact ⟨es, c, f.get h1 hm, h2⟩
theorem mapAt_new (H : Heap) : MapAt (H.push (.map #[] 0)) H.size [] := ⟨#[], 0, push_same _ _, rfl, by simp, by simp⟩
def getE (k : List UInt8) : List (List UInt8 × Value) → Option Value
  | [] => none
  | p :: r => if p.1 = k then some p.2 else getE k r
def setE (k : List UInt8) (v : Value) : List (List UInt8 × Value) → List (List UInt8 × Value)
  | [] => [(k, v)]
  | p :: r => if p.1 = k then (p.1, v) :: r else p :: setE k v r
def posE (k : List UInt8) : List (List UInt8 × Value) → Option Nat
  | [] => none
  | p :: r => if p.1 = k then some 0 else (posE k r).map (· + 1)
theorem bytes_beq (a b : List UInt8) : ((⟨a.toArray⟩ : ByteArray) == ⟨b.toArray⟩) = decide (a = b) := by
  show (a.toArray == b.toArray) = decide (a = b)
  rw [Bool.eq_iff_iff, beq_iff_eq, decide_eq_true_eq]
  constructor
  · intro h
    have := congrArg Array.toList h
    simpa using this
  · rintro rfl; rfl
theorem findNow_ents (k : List UInt8) : ∀ (es : List MapEntry) (ents : List (List UInt8 × Value)) (i : Nat), es.map (fun e => (e.key, e.val)) = ents.map (fun p => (strVal p.1, p.2)) →
    Instr.findNow .string (strVal k) es i = some ((posE k ents).bind fun j => (getE k ents).map fun v => (i + j, v))
  | [], [], i, _ => rfl
  | [], _ :: _, _, h => by simp at h
  | _ :: _, [], _, h => by simp at h
  | e :: es, p :: ents, i, h => by
    simp only [List.map_cons, List.cons.injEq, Prod.mk.injEq] at h
    obtain ⟨⟨h1, h2⟩, h3⟩ := h
    have ih := findNow_ents k es ents (i + 1) h3
    simp only [Instr.findNow, h1, strVal, Instr.sameNow, bytes_beq]
    by_cases hk : k = p.1
    · subst hk
      simp [posE, getE, h2]
    · rw [decide_eq_false hk]
      simp only [strVal] at ih
      rw [ih]
      have hk2 : ¬ p.1 = k := fun e => hk e.symm
      simp only [posE, getE, if_neg hk2]
      cases posE k ents with
      | none => rfl
      | some j => simp; cases getE k ents <;> simp; omega
theorem posE_some {k : List UInt8} : ∀ {ents : List (List UInt8 × Value)}, (posE k ents).isSome = (getE k ents).isSome
  | [] => rfl
  | p :: r => by
    simp only [posE, getE]
    split
    · rfl
    · rw [Option.isSome_map]; exact posE_some
theorem und106 : Tryz.prog.underlying 82 = some (.map 9 112) := by kernel_rfl
theorem zero88 (w : World) : (zeroValue 112).run Tryz.prog w = .ok (.slice none 0 0) w := by kernel_rfl
theorem check9 (e : Bool) (s : ByteArray) (w : World) : (Instr.checkKey e 10000 9 (.string s)).run Tryz.prog w = .ok () w := by
  have h : ∀ n : Nat, (Instr.checkKey e (n + 1) 9 (.string s)).run Tryz.prog w = .ok () w := fun n => by
    simp [Instr.checkKey, run_underlying und9]
  exact h 9999
theorem find_run {k : List UInt8} {es : Array MapEntry} {ents : List (List UInt8 × Value)} (h : entsOf es ents) (w : World) : (Instr.findKey 9 (strVal k) es.toList).run Tryz.prog w = .ok ((posE k ents).bind fun j => (getE k ents).map fun v => (j, v)) w := by
  have := findNow_ents k es.toList ents 0 h
  simp only [Nat.zero_add] at this
  simp [Instr.findKey, run_underlying und9, this]
theorem lookup_of {T : TypeId} (hT : Tryz.prog.underlying T = some (.map 9 112)) {m : Nat} {k : List UInt8} {ents : List (List UInt8 × Value)} {H : Heap} {K : Value → Heap → Prop} (h : MapAt H m ents) :
    ExecV Tryz.prog (Instr.lookup T (.map (some m)) (strVal k) false) H K = K ((getE k ents).getD (.slice none 0 0)) H := by
  apply ExecV.eq
  intro w hw
  subst hw
  obtain ⟨es, c, h1, h2, _, _⟩ := h
  have hf := find_run (k := k) h2 w
  have hs : (posE k ents).isSome = (getE k ents).isSome := posE_some
  have hc := check9 es.isEmpty ⟨k.toArray⟩ w
  simp only [Instr.lookup, Sem.run_bind, run_underlying hT, Result.andThen_ok, getObj, Sem.run, h1, Result.andThen, hf]
  have hp : (pure es : Sem (Array MapEntry)).run Tryz.prog w = .ok es w := rfl
  rw [hp]
  simp only []
  rw [show strVal k = .string ⟨k.toArray⟩ from rfl, hc]
  simp only []
  rw [show (Value.string ⟨k.toArray⟩) = strVal k from rfl, hf]
  cases hg : getE k ents with
  | none =>
    rw [hg] at hs
    have : posE k ents = none := by simpa using hs
    rw [this]
    simp [Result.andThen, zero88]
  | some v =>
    rw [hg] at hs
    obtain ⟨j, hj⟩ := Option.isSome_iff_exists.1 (by simpa using hs)
    rw [hj]
    simp [Result.andThen]
theorem setE_none {k : List UInt8} {v : Value} : ∀ {ents : List (List UInt8 × Value)}, posE k ents = none → setE k v ents = ents ++ [(k, v)]
  | [], _ => rfl
  | p :: r, h => by
    simp only [posE] at h
    split at h
    · cases h
    · rename_i hk
      rw [Option.map_eq_none_iff] at h
      simp only [setE, if_neg hk, setE_none h, List.cons_append]
theorem setE_some {k : List UInt8} {v : Value} : ∀ {ents : List (List UInt8 × Value)} {j : Nat}, posE k ents = some j → ∃ h : j < ents.length, ents[j].1 = k ∧ setE k v ents = ents.set j (k, v)
  | [], j, h => by cases h
  | p :: r, j, h => by
    simp only [posE] at h
    split at h
    · rename_i hk
      cases h
      exact ⟨by simp, hk, by simp [setE, hk]⟩
    · rename_i hk
      obtain ⟨i, hi, rfl⟩ := Option.map_eq_some_iff.1 h
      obtain ⟨h1, h2, h3⟩ := setE_some (v := v) hi
      exact ⟨by simp; omega, by simpa using h2, by simp [setE, hk, h3]⟩
theorem update_of {T E9 : TypeId} (hT : Tryz.prog.underlying T = some (.map 9 E9)) {m : Nat} {k : List UInt8} {v : Value} {ents : List (List UInt8 × Value)} {H : Heap} (h : MapAt H m ents) :
    ∃ H', MapAt H' m (setE k v ents) ∧ Frm [m] H H' ∧ H'.size = H.size ∧ ∀ K : Value → Heap → Prop, ExecV Tryz.prog (do Instr.mapUpdate T (.map (some m)) (strVal k) v; pure undef) H K = K undef H' := by
  obtain ⟨es, c, h1, h2, h3, h4⟩ := h
  have hs : (posE k ents).isSome = (getE k ents).isSome := posE_some
  have hrunf : ∀ w, (Instr.findKey 9 (strVal k) es.toList).run Tryz.prog w = .ok ((posE k ents).bind fun j => (getE k ents).map fun v => (j, v)) w := fun w => find_run h2 w
  have hset : ∀ (w : World) (o : Obj), w.heap = H → (setObj m o).run Tryz.prog w = .ok () { w with heap := upd H m o } := fun w o hw => by
    subst hw
    simp only [setObj, Sem.run, h1]
    rfl
  cases hp : posE k ents with
  | none =>
    have hg : getE k ents = none := by rw [hp] at hs; simpa using hs.symm
    refine ⟨upd H m (.map (es.push ⟨strVal k, v, c⟩) (c + 1)), ⟨_, _, upd_same (lt_of_some h1), ?_, ?_, ?_⟩, Frm.upd _ (by simp), by simp, fun K => ?_⟩
    · rw [setE_none hp]
      unfold entsOf at h2 ⊢
      simp [h2]
    · rw [Array.toList_push, List.map_append, List.nodup_append]
      refine ⟨h3, by simp, fun a ha b hb => ?_⟩
      obtain ⟨e, he, rfl⟩ := List.mem_map.1 ha
      have h5 := h4 e he
      simp only [List.map_cons, List.map_nil, List.mem_singleton] at hb
      omega
    · intro e he
      rw [Array.toList_push, List.mem_append, List.mem_singleton] at he
      rcases he with he | rfl
      · have := h4 e he; omega
      · exact Nat.lt_succ_self _
    · apply ExecV.eq'
      intro w hw
      refine ⟨{ w with heap := upd H m (.map (es.push ⟨strVal k, v, c⟩) (c + 1)) }, ?_, ⟨rfl, rfl, rfl⟩, rfl⟩
      have hgo : (getObj m).run Tryz.prog w = .ok (.map es c) w := by simp [getObj, Sem.run, hw, h1]
      have hc := check9 false ⟨k.toArray⟩ w
      have hf := hrunf w
      rw [hp] at hf
      simp only [Instr.mapUpdate, Sem.run_bind, run_underlying hT, Result.andThen_ok, hgo]
      rw [show strVal k = .string ⟨k.toArray⟩ from rfl, hc]
      simp only [Result.andThen_ok]
      rw [show (Value.string ⟨k.toArray⟩) = strVal k from rfl, hf]
      simp only [Option.bind_none, Result.andThen_ok, hset w _ hw]
      rfl
  | some j =>
    have hg : ∃ u, getE k ents = some u := by rw [hp] at hs; exact Option.isSome_iff_exists.1 hs.symm
    obtain ⟨u, hu⟩ := hg
    obtain ⟨hj, hjk, hse⟩ := setE_some (v := v) hp
    have hlen : es.size = ents.length := by
      have := congrArg List.length h2
      simpa [entsOf] using this
    have hjs : j < es.size := by omega
    have hkey : es[j].key = strVal k := by
      have h5 : (es.toList.map (fun e => (e.key, e.val)))[j]? = (ents.map fun p => (strVal p.1, p.2))[j]? := by rw [h2]
      rw [List.getElem?_map, List.getElem?_map, Array.getElem?_toList, Array.getElem?_eq_getElem hjs, List.getElem?_eq_getElem hj] at h5
      simp only [Option.map_some, Option.some.injEq, Prod.mk.injEq] at h5
      rw [h5.1, hjk]
    have hborn : (es.modify j fun e => { e with key := strVal k, val := v }).toList.map (·.born) = es.toList.map (·.born) := by
      apply List.ext_getElem?
      intro i
      rw [List.getElem?_map, List.getElem?_map, Array.getElem?_toList, Array.getElem?_toList, Array.getElem?_modify]
      by_cases hij : j = i
      · subst hij
        rw [if_pos rfl]
        cases es[j]? <;> rfl
      · rw [if_neg hij]
    refine ⟨upd H m (.map (es.modify j fun e => { e with key := strVal k, val := v }) c), ⟨_, _, upd_same (lt_of_some h1), ?_, by rw [hborn]; exact h3, fun e he => ?_⟩, Frm.upd _ (by simp), by simp, fun K => ?_⟩
    · rw [hse]
      unfold entsOf at h2 ⊢
      apply List.ext_getElem?
      intro i
      have h5 : (es.toList.map (fun e => (e.key, e.val)))[i]? = (ents.map fun p => (strVal p.1, p.2))[i]? := by rw [h2]
      rw [List.getElem?_map, List.getElem?_map, Array.getElem?_toList] at h5 ⊢
      rw [Array.getElem?_modify, List.getElem?_set]
      by_cases hij : j = i
      · subst hij
        rw [if_pos rfl, if_pos rfl, if_pos hj, Array.getElem?_eq_getElem hjs]
        rfl
      · rw [if_neg hij, if_neg hij]
        exact h5
    · have : e.born ∈ es.toList.map (·.born) := by rw [← hborn]; exact List.mem_map.2 ⟨e, he, rfl⟩
      obtain ⟨e', he', hee⟩ := List.mem_map.1 this
      rw [← hee]; exact h4 e' he'
    · apply ExecV.eq'
      intro w hw
      refine ⟨{ w with heap := upd H m (.map (es.modify j fun e => { e with key := strVal k, val := v }) c) }, ?_, ⟨rfl, rfl, rfl⟩, rfl⟩
      have hgo : (getObj m).run Tryz.prog w = .ok (.map es c) w := by simp [getObj, Sem.run, hw, h1]
      have hc := check9 false ⟨k.toArray⟩ w
      have hf := hrunf w
      rw [hp, hu] at hf
      have hstay : (Instr.keyThatStays (((es[j]?).map (·.key)).getD (strVal k)) (strVal k)).run Tryz.prog w = .ok (strVal k) w := by
        rw [Array.getElem?_eq_getElem hjs, Option.map_some, Option.getD_some, hkey]
        have : Instr.sameBits 10000 (strVal k) (strVal k) = true := by
          simp only [strVal, Instr.sameBits, bytes_beq]
          simp
        simp [Instr.keyThatStays, this]
      simp only [Instr.mapUpdate, Sem.run_bind, run_underlying hT, Result.andThen_ok, hgo]
      rw [show strVal k = .string ⟨k.toArray⟩ from rfl, hc]
      simp only [Result.andThen_ok]
      rw [show (Value.string ⟨k.toArray⟩) = strVal k from rfl, hf]
      simp only [Option.bind_some, Option.map_some, Result.andThen_ok, hstay, Sem.run_bind, hset w _ hw]
      rfl
end Go.Cps
namespace Go.Cps
open Go Go.Proofs
theorem lit1 {c : UInt8} {H : Heap} {K : Value → Heap → Prop} (h : ∀ H', IsBytes H' (.slice (some ⟨H.size, 0, none⟩) 1 1) [c] → Frm [] H H' → H'.size = H.size + 1 → K (.slice (some ⟨H.size, 0, none⟩) 1 1) H') :
    Get (Instr.fill (fun j => some (j * 1, 1)) ((Array.range (1 * 1)).map ((#[(.int .u8 0)] : Array Value)[· % 1]!)) [(0, byteV c)]) fun cs => NewSl cs 5 1 H fun x H => MarkS x H K := by
  have e0 : ((Array.range (1 * 1)).map ((#[(.int .u8 0)] : Array Value)[· % 1]!)) = #[.int .u8 0] := by kernel_rfl
  have e : Instr.fill (fun j => some (j * 1, 1)) ((Array.range (1 * 1)).map ((#[(.int .u8 0)] : Array Value)[· % 1]!)) [(0, byteV c)] = some #[byteV c] := by
    rw [e0, fill_cons (off := 0) rfl rfl (by simp)]
    rfl
  rw [e, Q6, NewSl]
  refine ⟨_, _, _, #[byteV c], 5, rfl, push_same _ _, ?_⟩
  have key : ∀ H', H' = (H.push (.cells #[byteV c] 5 (0, 0))).setIfInBounds H.size (.cells #[byteV c] 5 (1, 2)) → K (.slice (some ⟨H.size, 0, none⟩) 1 1) H' := by
    intro H' hH'
    have hb : H'[H.size]? = some (.cells #[byteV c] 5 (1, 2)) := by
      rw [hH', Array.getElem?_setIfInBounds, if_pos rfl, if_pos (by simp)]
    refine h _ (.inl ⟨H.size, 0, 1, rfl, by simp, fun j hj => ?_⟩) ⟨by rw [hH']; simp, fun k hk _ => ?_⟩ (by rw [hH']; simp)
    · rw [cellH_of hb]
      simp only [List.length_singleton] at hj
      have : j = 0 := by omega
      subst this
      rfl
    · rw [hH', Array.getElem?_setIfInBounds_ne (by omega), Array.getElem?_push, if_neg (by omega)]
  exact key _ rfl
theorem bytesCut1_ok {v u : Value} {l : List UInt8} {c : UInt8} {H : Heap} (hv : IsBytes H v l) (hu : IsBytes H u [c]) (hl : l.length < 2 ^ 39) :
    CallsH Tryz.prog 173 #[v, u] H fun x H' => H' = H ∧ ∃ y z b m r, x = .tuple #[y, z, .bool b] ∧ IsBytes H y m ∧ m.length ≤ l.length ∧ IsBytes H z r ∧ r.length < l.length + 1 ∧ (l ≠ [] → r.length < l.length) := by
  apply s170
  unfold c170
  refine (bytesIndexT_ok hv hu (by omega) (by simp)).mono ?_
  rintro x H1 ⟨rfl, ⟨rfl, hno⟩ | ⟨i, rfl, hi⟩⟩
  · have d0 : decide ((-1 : Int) ≥ 0) = false := by decide
    simp only [Qk, Ql, Qm, Qn, Qo, Qp, Qq, Qr, Qs, Q0, Q1, Q2, Q3, Q4, Q5, Q6, Q7, Q8, Q9, Qa, Qb, Qc, Qd, Qe, Qf, Qg, Qh, Qi, Qj, d0]
    refine ⟨trivial, v, _, false, l, [], rfl, hv, Nat.le_refl _, .inr ⟨_, rfl, rfl⟩, by simp, fun h => List.length_pos_iff.2 h⟩
  · have h1 := hi.1
    simp only [List.length_singleton] at h1
    have d0 : decide ((i : Int) ≥ 0) = true := by simp
    have e1 : IntKind.i64.wrap ((i : Int) + ((1 : Nat) : Int)) = ((i + 1 : Nat) : Int) := by rw [wrap_i64 (by omega) (by omega)]; omega
    obtain ⟨y, hy, hyb, hyk⟩ := hv.upto (j := i) (by omega) .i64
    obtain ⟨z, hz, hzb, hzk⟩ := hv.from2 (i := i + 1) (by omega) .i64
    simp only [Qk, Ql, Qm, Qn, Qo, Qp, Qq, Qr, Qs, Q0, Q1, Q2, Q3, Q4, Q5, Q6, Q7, Q8, Q9, Qa, Qb, Qc, Qd, Qe, Qf, Qg, Qh, Qi, Qj, d0, hy, hu.len, List.length_singleton, e1, hz]
    exact ⟨trivial, y, z, true, _, _, rfl, hyb, by simp; omega, hzb, by simp; omega, fun _ => by simp; omega⟩
theorem upcoming_ok {S : Stk} {s : St} {H : Heap} {tr : Nat} {tbuf : Value} (ht : TR S tr tbuf H) (htr : tr ∉ S.ids) (h : RdAt S s H) :
    CallsH Tryz.prog 168 #[.pointer (some ⟨tr, 0, none⟩)] H fun x H' => ∃ (n : Nat) (s' : St), x = .int .i64 n ∧ n ≤ 1000 ∧ RdAt S s' H' ∧ s'.rest S = s.rest S ∧ Frm S.ids H H' := by
  apply s165
  simp only [c165, Q0, Q1, Q2, Q3, Q4, Q5, Q6, Q7, Q8, Q9, Qa, Qb, Qc, Qd, Qe, Qf, Qg, Qh, Qi, Qj, cellH_of ht]
  refine (peek_ok h (n := 1) (by omega)).mono ?_
  rintro x H1 ⟨u1, s1, rfl, hp1⟩
  have h1 := hp1.rd
  have ht1 : TR S tr tbuf H1 := hp1.frm.get ht htr
  simp only [Q0, Q1, Q2, Q3, Q4, Q5, Q6, Q7, Q8, Q9, Qa, Qb, Qc, Qd, Qe, Qf, Qg, Qh, Qi, Qj, cellH_of ht1]
  refine (buffered_ok h1).mono ?_
  rintro x H1 ⟨rfl, rfl⟩
  simp only [Qk, Ql, Qm, Qn, Qo, Qp, Qq, Qr, Qs, Q0, Q1, Q2, Q3, Q4, Q5, Q6, Q7, Q8, Q9, Qa, Qb, Qc, Qd, Qe, Qf, Qg, Qh, Qi, Qj]
  refine Br_intro (fun h0 => ⟨0, s1, rfl, by omega, h1, hp1.rest, hp1.frm⟩) (fun h0 => ?_)
  have hw4 := h1.w4
  simp only [Q0, Q1, Q2, Q3, Q4, Q5, Q6, Q7, Q8, Q9, Qa, Qb, Qc, Qd, Qe, Qf, Qg, Qh, Qi, Qj, cellH_of ht1]
  refine (peek_ok h1 (n := s1.w - s1.r) (by omega)).mono ?_
  rintro x H2 ⟨u2, s2, rfl, hp2⟩
  have h2 := hp2.rd
  have ht2 : TR S tr tbuf H2 := hp2.frm.get ht1 htr
  have hub := hp2.bytes
  simp only [Q0, Q1, Q2, Q3, Q4, Q5, Q6, Q7, Q8, Q9, Qa, Qb, Qc, Qd, Qe, Qf, Qg, Qh, Qi, Qj]
  have f02 : Frm S.ids H H2 := hp1.frm.trans hp2.frm
  have fin : ∀ H' (n : Nat), n ≤ 1000 → Frm [] H2 H' → ∃ (n' : Nat) (s' : St), (Value.int .i64 n : Value) = .int .i64 n' ∧ n' ≤ 1000 ∧ RdAt S s' H' ∧ s'.rest S = s.rest S ∧ Frm S.ids H H' := fun H' n hn f =>
    ⟨n, s2, rfl, hn, h2.frm f (by simp) (by simp) (by simp), hp2.rest.trans hp1.rest, f02.trans (f.mono (by simp))⟩
  refine ⟨fun vs H' => ∃ n : Nat, vs = [.int .i64 n] ∧ n ≤ 1000 ∧ Frm [] H2 H', ?_, ?_⟩
  · refine ⟨fun μ vs H' => ∃ (n : Nat) (y : Value) (m : List UInt8), vs = [.int .i64 n, y] ∧ μ = m.length ∧ n ≤ 1000 ∧ IsBytes H' y m ∧ m.length ≤ 4096 ∧ Frm [] H2 H', ⟨_, 0, u2, _, rfl, rfl, by omega, hub, by rw [List.length_take]; omega, Frm.refl _ _⟩, ?_⟩
    rintro μ vs H3 ⟨n, y, m, rfl, rfl, hn, hy, hm, f3⟩
    have dd : ∀ a b : Nat, decide ((a : Int) < (b : Int)) = decide (a < b) := fun a b => by simp
    refine ⟨fun vs H' => H' = H3 ∧ vs = [.bool (decide (0 < m.length) && decide (n < 1000))], ?_, ?_⟩
    · have d1 : decide ((m.length : Int) > 0) = decide (0 < m.length) := by simp
      have d2 : decide ((n : Int) < 1000) = decide (n < 1000) := by simp; omega
      simp only [Q0, Q1, Q2, Q3, Q4, Q5, Q6, Q7, Q8, Q9, Qa, Qb, Qc, Qd, Qe, Qf, Qg, Qh, Qi, Qj, Qk, Ql, Qm, Qn, Qo, Qp, Qq, Qr, Qs, hy.len, d1, d2]
      refine Br_intro (fun hh => ?_) (fun hh => ?_) <;> simp only [Q0, Q1, Q2, Q3, Q4, Q5, Q6, Q7, Q8, Q9, Qa, Qb, Qc, Qd, Qe, Qf, Qg, Qh, Qi, Qj, hh, if_true, Bool.false_eq_true, if_false, Bool.true_and, Bool.false_and, and_self]
    · rintro _ H3 ⟨rfl, rfl⟩
      simp only [Q0, Q1, Q2, Q3, Q4, Q5, Q6, Q7, Q8, Q9, Qa, Qb, Qc, Qd, Qe, Qf, Qg, Qh, Qi, Qj]
      refine Br_intro (fun hc => ?_) (fun hc => ⟨n, rfl, hn, f3⟩)
      simp only [Bool.and_eq_true, decide_eq_true_eq] at hc
      refine lit1 (c := 10) fun H4 hl4 f4 z4 => ?_
      have hy4 := hy.frm f4 (by simp)
      refine (bytesCut1_ok hy4 hl4 (by omega)).mono ?_
      rintro x H4 ⟨rfl, y1, z1, b1, m1, r1, rfl, hy1, hm1l, hz1, hr1, hr2⟩
      have hrl := hr2 (List.length_pos_iff.1 hc.1)
      have f24 := f3.trans f4
      simp only [Q0, Q1, Q2, Q3, Q4, Q5, Q6, Q7, Q8, Q9, Qa, Qb, Qc, Qd, Qe, Qf, Qg, Qh, Qi, Qj]
      by_cases hm1 : m1 = []
      · subst hm1
        refine Join_direct ?_
        simp only [hy1.len, Q0, Q1, Q2, Q3, Q4, Q5, Q6, Q7, Q8, Q9, Qa, Qb, Qc, Qd, Qe, Qf, Qg, Qh, Qi, Qj, Qk, Ql, Qm, Qn, Qo, Qp, Qq, Qr, Qs, List.length_nil, show ((((0 : Nat)) : Int) == 0) = true from rfl, if_true]
        exact ⟨n, rfl, hn, f24⟩
      · have hpos : 0 < m1.length := List.length_pos_iff.2 hm1
        have hne : (((m1.length : Nat) : Int) == 0) = false := by rw [beq_eq_false_iff_ne]; omega
        have hml : m1.length < 2 ^ 40 := by omega
        obtain ⟨a, ha, hca⟩ := elem_at hy1 hpos hml
        rw [show ((0 : Nat) : Int) = 0 from rfl] at ha
        generalize m1[0] = b0 at hca
        refine ⟨fun vs H' => (∃ b, vs = [.bool b]) ∧ H' = H4, ?_, ?_⟩
        · simp only [hy1.len, Q0, Q1, Q2, Q3, Q4, Q5, Q6, Q7, Q8, Q9, Qa, Qb, Qc, Qd, Qe, Qf, Qg, Qh, Qi, Qj, Qk, Ql, Qm, Qn, Qo, Qp, Qq, Qr, Qs, hne]
          refine Br_intro (fun hh => ?_) (fun hh => ?_)
          · simp only [ha, hca, byteV, Q0, Q1, Q2, Q3, Q4, Q5, Q6, Q7, Q8, Q9, Qa, Qb, Qc, Qd, Qe, Qf, Qg, Qh, Qi, Qj, Qk, Ql, Qm, Qn, Qo, Qp, Qq, Qr, Qs, if_true, Bool.false_eq_true, if_false]
            exact ⟨⟨_, rfl⟩, trivial⟩
          · simp only [Q0, Q1, Q2, Q3, Q4, Q5, Q6, Q7, Q8, Q9, Qa, Qb, Qc, Qd, Qe, Qf, Qg, Qh, Qi, Qj, Bool.false_eq_true, if_false]
            exact ⟨⟨_, rfl⟩, trivial⟩
        · rintro _ H4 ⟨⟨b, rfl⟩, rfl⟩
          simp only [Q0, Q1, Q2, Q3, Q4, Q5, Q6, Q7, Q8, Q9, Qa, Qb, Qc, Qd, Qe, Qf, Qg, Qh, Qi, Qj]
          refine Br_intro (fun hh => ⟨n, rfl, hn, f24⟩) (fun hh => ?_)
          refine ⟨fun vs H' => (∃ b, vs = [.bool b]) ∧ H' = H4, ?_, ?_⟩
          · simp only [ha, hca, byteV, Q0, Q1, Q2, Q3, Q4, Q5, Q6, Q7, Q8, Q9, Qa, Qb, Qc, Qd, Qe, Qf, Qg, Qh, Qi, Qj, Qk, Ql, Qm, Qn, Qo, Qp, Qq, Qr, Qs]
            refine Br_intro (fun hh => ?_) (fun hh => ?_)
            · simp only [Q0, Q1, Q2, Q3, Q4, Q5, Q6, Q7, Q8, Q9, Qa, Qb, Qc, Qd, Qe, Qf, Qg, Qh, Qi, Qj, if_true]
              exact ⟨⟨_, rfl⟩, trivial⟩
            · simp only [Q0, Q1, Q2, Q3, Q4, Q5, Q6, Q7, Q8, Q9, Qa, Qb, Qc, Qd, Qe, Qf, Qg, Qh, Qi, Qj, Bool.false_eq_true, if_false]
              exact ⟨⟨_, rfl⟩, trivial⟩
          · rintro _ H4 ⟨⟨b, rfl⟩, rfl⟩
            have e1 : IntKind.i64.wrap ((n : Int) + 1) = ((n + 1 : Nat) : Int) := by rw [wrap_i64 (by omega) (by omega)]; omega
            simp only [Q0, Q1, Q2, Q3, Q4, Q5, Q6, Q7, Q8, Q9, Qa, Qb, Qc, Qd, Qe, Qf, Qg, Qh, Qi, Qj, Qk, Ql, Qm, Qn, Qo, Qp, Qq, Qr, Qs, e1]
            refine Br_intro (fun hh => ?_) (fun hh => ?_)
            · exact ⟨_, hrl, n, z1, r1, rfl, rfl, hn, hz1, by omega, f24⟩
            · exact ⟨_, hrl, n + 1, z1, r1, rfl, rfl, by omega, hz1, by omega, f24⟩
  · rintro _ H' ⟨n, rfl, hn, f⟩
    exact fin H' n hn f
end Go.Cps
namespace Go.Cps
open Go Go.Proofs
def StrsAt (H : Heap) (b o c : Nat) (l : List (List UInt8)) : Prop := ∃ cells : Array Value, H[b]? = some (.cells cells 9 (0, 0)) ∧ l.length ≤ c ∧ o + c ≤ cells.size ∧ ∀ j, j < l.length → cells[o + j]? = (l[j]?).map strVal
theorem StrsAt.frm {H H' : Heap} {b o c : Nat} {l : List (List UInt8)} {X : List Nat} (h : StrsAt H b o c l) (f : Frm X H H') (hb : b ∉ X) : StrsAt H' b o c l := by
  obtain ⟨cells, h1, h2⟩ := h
  exact ⟨cells, f.get h1 hb, h2⟩
theorem StrsAt.keep {H H' : Heap} {b o c p : Nat} {v : Value} {l : List (List UInt8)} {b2 : Nat} {cells : Array Value} (h : StrsAt H b2 o c l) (hb : H[b]? = some (.cells cells 9 (0, 0))) (h1 : H'[b]? = some (.cells (cells.setIfInBounds p v) 9 (0, 0))) (f : Frm [b] H H') (hp : b2 ≠ b ∨ p < o ∨ o + c ≤ p) : StrsAt H' b2 o c l := by
  by_cases he : b2 = b
  · subst he
    obtain ⟨cs, g1, g2, g3, g4⟩ := h
    rw [hb] at g1
    cases g1
    refine ⟨_, h1, g2, by simpa using g3, fun j hj => ?_⟩
    rw [Array.getElem?_setIfInBounds, if_neg (by omega)]
    exact g4 j hj
  · exact h.frm f (by simpa using he)
theorem StrsAt.elems {H : Heap} {b o c : Nat} {l : List (List UInt8)} (h : StrsAt H b o c l) : cellsH H ⟨b, o, none⟩ 0 l.length = some (l.map strVal) := by
  obtain ⟨cells, g1, g2, g3, g4⟩ := h
  refine (cellsH_getElem _ _ _).2 ⟨by simp, fun j hj => ?_⟩
  rw [cellH_of g1, Nat.zero_add, g4 j hj]
  simp
theorem append_str {H : Heap} {b o c xb xc : Nat} {l : List (List UInt8)} {v : List UInt8} {K : Value → Heap → Prop} (h : StrsAt H b o c l) (hx : cellH H ⟨xb, 0, none⟩ = some (strVal v)) (hl : l.length < 2 ^ 40)
    (hin : ∀ H' cells, H[b]? = some (.cells cells 9 (0, 0)) → H'[b]? = some (.cells (cells.setIfInBounds (o + l.length) (strVal v)) 9 (0, 0)) → Frm [b] H H' → H'.size = H.size → l.length < c → StrsAt H' b o c (l ++ [v]) → K (.slice (some ⟨b, o, none⟩) (l.length + 1) c) H')
    (hout : ∀ H' c', Frm [] H H' → StrsAt H' H.size 0 c' (l ++ [v]) → H'.size = H.size + 1 → K (.slice (some ⟨H.size, 0, none⟩) (l.length + 1) c') H') :
    Append 9 1 16 #[.string ⟨#[]⟩] (.slice (some ⟨b, o, none⟩) l.length c) (.slice (some ⟨xb, 0, none⟩) 1 xc) H K := by
  have he := h.elems
  have hxe : elemsV 1 1 (.slice (some ⟨xb, 0, none⟩) 1 xc) H = some [strVal v] := by
    simp only [elemsV, Nat.mul_one]
    refine (cellsH_getElem _ _ _).2 ⟨rfl, fun j hj => ?_⟩
    have : j = 0 := by omega
    subst this
    simpa using hx
  have hsz : ((l ++ [v]).map strVal).length = l.length + 1 := by simp
  obtain ⟨cells, g1, g2, g3, g4⟩ := h
  refine ⟨_, _, _, 1, _, rfl, rfl, hxe, ?_⟩
  by_cases hroom : l.length + 1 ≤ c
  · left
    refine ⟨hroom, ?_⟩
    have hst := stores_upd [strVal v] H b (o + l.length) 0 cells 9 g1 (by simp; omega) (fun u hu => by simp at hu; subst hu; rfl)
    simp only [storeRow, Nat.mul_one, Q1, hst, Q6, Nat.add_zero, putAt]
    refine hin _ cells g1 (upd_same (lt_of_some g1)) (Frm.upd _ (by simp)) (by simp) (by omega) ⟨_, upd_same (lt_of_some g1), by simp; omega, by simpa using g3, fun j hj => ?_⟩
    simp only [List.length_append, List.length_singleton] at hj
    rw [Array.getElem?_setIfInBounds]
    by_cases hjl : j = l.length
    · subst hjl
      rw [if_pos rfl, if_pos (by omega)]
      simp
    · rw [if_neg (by omega), g4 j (by omega), List.getElem?_append_left (by omega)]
  · right
    have hlt : c < l.length + 1 := by omega
    have hcap := nextslicecap_le hlt
    refine ⟨hlt, by omega, by omega, l.map strVal, ?_, fun c' hc' => ?_⟩
    · simp only [elemsV, Nat.mul_one]; exact he
    · refine hout _ c' (Frm.push _ _ _) ⟨_, push_same _ _, by simp; omega, ?_, fun j hj => ?_⟩ (by simp)
      · simp [zeros, Builtin.zeroCells]; omega
      · rw [List.length_append, List.length_singleton] at hj
        rw [Nat.zero_add, Array.getElem?_append_left (by simp; omega)]
        by_cases hjl : j < l.length
        · rw [Array.getElem?_append_left (by simpa using hjl), List.getElem?_append_left hjl]
          simp
        · have : j = l.length := by omega
          subst this
          rw [Array.getElem?_append_right (by simp)]
          simp
theorem append_str_nil {H : Heap} {xb xc : Nat} {v : List UInt8} {K : Value → Heap → Prop} (hx : cellH H ⟨xb, 0, none⟩ = some (strVal v))
    (hout : ∀ H' c', Frm [] H H' → StrsAt H' H.size 0 c' [v] → H'.size = H.size + 1 → K (.slice (some ⟨H.size, 0, none⟩) 1 c') H') :
    Append 9 1 16 #[.string ⟨#[]⟩] (.slice none 0 0) (.slice (some ⟨xb, 0, none⟩) 1 xc) H K := by
  have hxe : elemsV 1 1 (.slice (some ⟨xb, 0, none⟩) 1 xc) H = some [strVal v] := by
    simp only [elemsV, Nat.mul_one]
    refine (cellsH_getElem _ _ _).2 ⟨rfl, fun j hj => ?_⟩
    have : j = 0 := by omega
    subst this
    simpa using hx
  refine ⟨_, _, _, 1, _, rfl, rfl, hxe, .inr ⟨by omega, by omega, by rw [nextcap0]; omega, [], rfl, fun c' hc' => ?_⟩⟩
  refine hout _ c' (Frm.push _ _ _) ⟨_, push_same _ _, by simp; omega, ?_, fun j hj => ?_⟩ (by simp)
  · simp [zeros, Builtin.zeroCells]; omega
  · simp only [List.length_singleton] at hj
    have : j = 0 := by omega
    subst this
    simp only [Nat.add_zero, List.append_nil, List.getElem?_cons_zero, Option.map_some]
    rw [show (([] : List Value).toArray ++ [strVal v].toArray ++ zeros #[Value.string ⟨#[]⟩] (c' - (0 + 1))) = #[strVal v] ++ zeros #[Value.string ⟨#[]⟩] (c' - (0 + 1)) by simp, Array.getElem?_append_left (by simp)]
    rfl
end Go.Cps
