/-
  A part of the proof: readMIMEHeader: the loop over the lines. textproto.NewReader, populateHeaders, newPart (of raw parts). What the bodies of some functions of the program come to, at heap level, each proved of the program itself. io.Copy out of a bytes.Buffer into another one.
  Conditions: each contract's own.
-/
import Derived.Test.YteajpfckbnfdaaaGreatDoorH4
import Derived.Test.YteajpfckbnfdaaaGreatDoorH12
import Derived.Test.YteajpfckbnfdaaaGreatDoorH18
set_option linter.all false
namespace Go.Cps
open Go Go.Proofs
theorem readHeader_ok {S : Stk} {s : St} {H : Heap} {tr : Nat} {ls : List (List UInt8 × List UInt8)} {q : List UInt8} (ht : TR S tr (.slice none 0 0) H) (htr : tr ∉ S.ids) (h : RdAt S s H) (h4 : Full4 H) (h40 : 1 ∉ S.ids ∧ 1 ≠ tr) (hvt : blk S.v ≠ some tr) (htr0 : tr ≠ 0) (hvs : ∀ x, blk S.v = some x → x < H.size) (hct : S.tbf = 5)
    (hr : s.rest S = linesText ls ++ 13 :: 10 :: q) (hls : ∀ kv ∈ ls, LineOk kv) (hn : ls.length ≤ 110) :
    CallsH Tryz.prog 151 #[.pointer (some ⟨tr, 0, none⟩), .int .i64 10485760, .int .i64 10000] H fun x H' => ∃ m N E s', x = .tuple #[.map (some m), .nilIface] ∧ Ents H' m N E ∧ E.map Ent.hd = hdrOf ls ∧ RdAt S s' H' ∧ s'.rest S = q ∧ Frm (tr :: S.ids) H H' ∧ (∀ x ∈ Ents.blks m E, H.size ≤ x) := by
  have d0 : decide ((10485760 : Int) < 0) = false := by decide
  have htl := lt_of_some ht
  have hidl := h.ids_lt
  have h4l : 1 < H.size := by obtain ⟨tt, v, t, f, h0⟩ := h4; exact lt_of_some h0
  apply s164
  simp only [c164, Qk, Ql, Qm, Qn, Qo, Qp, Qq, Qr, Qs, Q0, Q1, Q2, Q3, Q4, Q5, Q6, Q7, Q8, Q9, Qa, Qb, Qc, Qd, Qe, Qf, Qg, Qh, Qi, Qj, d0]
  refine (upcoming_ok ht htr h).mono ?_
  rintro x H1 ⟨n0, s1, rfl, hn0, h1, hr1, f1⟩
  have ht1 : TR S tr (.slice none 0 0) H1 := f1.get ht htr
  have h41 : Full4 H1 := by obtain ⟨tt, v, t, f, h0⟩ := h4; exact ⟨tt, v, t, f, f1.get h0 h40.1⟩
  refine ⟨fun vs H2 => ∃ (st : Value) (n : Nat) (sb : Option Nat), vs = [st, .int .i64 n] ∧ n ≤ 1000 ∧ Left H2 [] st n sb ∧ Frm [] H1 H2 ∧ ∀ b, sb = some b → H1.size ≤ b ∧ b < H2.size, ?_, ?_⟩
  · simp only [Qk, Ql, Qm, Qn, Qo, Qp, Qq, Qr, Qs, Q0, Q1, Q2, Q3, Q4, Q5, Q6, Q7, Q8, Q9, Qa, Qb, Qc, Qd, Qe, Qf, Qg, Qh, Qi, Qj]
    refine Br_intro (fun hh => ?_) (fun hh => ?_)
    · refine Join_direct ?_
      have d1 : decide ((n0 : Int) > 1000) = false := by simp; omega
      simp only [Qk, Ql, Qm, Qn, Qo, Qp, Qq, Qr, Qs, Q0, Q1, Q2, Q3, Q4, Q5, Q6, Q7, Q8, Q9, Qa, Qb, Qc, Qd, Qe, Qf, Qg, Qh, Qi, Qj, d1]
      refine makeStrs_of hn0 fun H2 f2 z2 hcl => ?_
      obtain ⟨cells, hc, hcs⟩ := hcl
      refine ⟨_, n0, some H1.size, rfl, hn0, ⟨_, rfl, .inr ⟨H1.size, 0, rfl, rfl, ⟨cells, hc, by omega⟩, by simp⟩⟩, f2, ?_⟩
      intro b hb; cases hb; omega
    · have hz : n0 = 0 := by simp at hh; omega
      subst hz
      exact ⟨_, 0, none, rfl, by omega, ⟨none, rfl, .inl rfl⟩, Frm.refl _ _, by simp⟩
  rintro _ H2 ⟨st, n, sb, rfl, hn2, hL2, f2, hsb2⟩
  simp only [Q0, Q1, Q2, Q3, Q4, Q5, Q6, Q7, Q8, Q9, Qa, Qb, Qc, Qd, Qe, Qf, Qg, Qh, Qi, Qj, NewMapH]
  have f3 : Frm [] H2 (H2.push (.map #[] 0)) := Frm.push _ _ _
  have hm3 := mapAt_new H2
  have z3 : (H2.push (.map #[] 0)).size = H2.size + 1 := by simp
  generalize H2.push (.map #[] 0) = H3 at *
  have f13 : Frm [] H1 H3 := f2.trans f3
  have h3 : RdAt S s1 H3 := h1.frm f13 (by simp) (by simp) (by simp)
  have ht3 : TR S tr (.slice none 0 0) H3 := f13.get ht1 (by simp)
  obtain ⟨c0, r0, hc0, hlw, hc32, hc9⟩ := behind_head ls q hls
  have hrest1 : s1.rest S = c0 :: r0 := by rw [hr1, hr, hc0]
  simp only [Q0, Q1, Q2, Q3, Q4, Q5, Q6, Q7, Q8, Q9, Qa, Qb, Qc, Qd, Qe, Qf, Qg, Qh, Qi, Qj, cellH_of ht3]
  refine (peek_ok h3 (n := 1) (by omega)).mono ?_
  rintro x H4 ⟨u, s4, rfl, hpk⟩
  have hlt1 : ¬ (s1.rest S).length < 1 := by rw [hrest1]; simp
  have hub := hpk.bytes
  rw [hrest1] at hub
  have hub' : IsBytes H4 u [c0] := by simpa using hub
  obtain ⟨a0, ha0, hca0⟩ := elem_at hub' (i := 0) (by simp) (by simp)
  rw [show ((0 : Nat) : Int) = 0 from rfl] at ha0
  simp only [Q0, Q1, Q2, Q3, Q4, Q5, Q6, Q7, Q8, Q9, Qa, Qb, Qc, Qd, Qe, Qf, Qg, Qh, Qi, Qj, decide_eq_false hlt1]
  refine ⟨fun vs H' => vs = [.bool false] ∧ H' = H4, ?_, ?_⟩
  · have e1 : nilV2 .eql .nilIface (S.er false) = some (.bool true) := rfl
    have hb32 : (((c0.toNat : Nat) : Int) == 32) = false := by
      have := byte_beq c0 32
      rw [show ((32 : UInt8).toNat : Int) = 32 from rfl] at this
      rw [this]; simpa using hc32
    have hb9 : (((c0.toNat : Nat) : Int) == 9) = false := by
      have := byte_beq c0 9
      rw [show ((9 : UInt8).toNat : Int) = 9 from rfl] at this
      rw [this]; simpa using hc9
    simp only [e1, Q0, Q1, Q2, Q3, Q4, Q5, Q6, Q7, Q8, Q9, Qa, Qb, Qc, Qd, Qe, Qf, Qg, Qh, Qi, Qj, ha0, hca0, List.getElem_cons_zero, byteV, Qk, Ql, Qm, Qn, Qo, Qp, Qq, Qr, Qs, hb32, hb9, Bool.false_eq_true, if_false, if_true, and_self]
  rintro _ H4 ⟨rfl, rfl⟩
  simp only [Q0, Q1, Q2, Q3, Q4, Q5, Q6, Q7, Q8, Q9, Qa, Qb, Qc, Qd, Qe, Qf, Qg, Qh, Qi, Qj]
  have f4 := hpk.frm
  have hsz3 : H.size ≤ H1.size := f1.size
  have hsz13 := f13.size
  have hsz4 := f4.size
  have hm4 : MapAt H4 H2.size [] := hm3.frm f4 (fun hm => by have := hidl _ hm; have := f2.size; omega)
  have hL4 : Left H4 [] st n sb := (hL2.frm f3 (by simp)).frm f4 (fun b hb hm => by have := hidl _ hm; have := (hsb2 b hb).1; omega)
  have ht4 : TR S tr (.slice none 0 0) H4 := f4.get ht3 htr
  have f14 : Frm (tr :: S.ids) H H4 := ((f1.mono (fun x hx => by simp [hx])).trans (f13.mono (by simp))).trans (f4.mono (fun x hx => by simp [hx]))
  refine ⟨fun μ vs H5 => ∃ done todo k st n sb E s5 mem, ls = done ++ todo ∧ μ = todo.length ∧ vs = [.int .i64 mem, .int .i64 (10000 - (done.length : Int)), st] ∧ 10485760 - 1300 * (done.length : Int) ≤ mem ∧ mem ≤ 10485760 ∧ HdAt S tr H.size H5 H2.size done.length E k st n sb s5 ∧ s5.rest S = linesText todo ++ 13 :: 10 :: q ∧ E.map Ent.hd = hdrOf done ∧ Frm (tr :: S.ids) H H5,
    ⟨_, [], ls, none, st, n, sb, [], s4, 10485760, rfl, rfl, by simp, by simp, by simp, ?_, by rw [hpk.rest, hr1, hr], rfl, f14⟩, ?_⟩
  · refine { rd := hpk.rd, tr_ := ⟨_, ht4, rfl⟩, ents := ⟨hm4, by simp, List.Pairwise.nil, by simp⟩, left := hL4, full := ?_, base := f14.size, trB := htl, idB := hidl, vB := hvs, blkB := ?_, sbB := ?_, kB := by simp, htr := htr, hvt := hvt, tr0 := htr0, four := ⟨h40.1, h40.2, h4l⟩ }
    · obtain ⟨tt, v, t, f, h0⟩ := h41
      exact ⟨tt, v, t, f, f4.get (f13.get h0 (by simp)) h40.1⟩
    · intro x hx
      simp only [Ents.blks, List.map_nil, List.mem_singleton] at hx
      subst hx
      exact ⟨by have := f2.size; omega, by simp⟩
    · intro b hb
      have h5 := hsb2 b hb
      exact ⟨by omega, by omega, by simp, by omega⟩
  rintro μ vs H5 ⟨done, todo, k, st, n, sb, E, s5, mem, hdt, rfl, rfl, hmem1, hmem2, hD, hr5, hhd, f5⟩
  clear hL4 hm4 ht4 hub hub' hca0 ha0 hL2 hsb2 hm3 ht3 ht1 h3 h1 hpk f14 f4 f13 f2 f3 f1 z3 hsz13 hsz4 hsz3
  have hdl : done.length + todo.length = ls.length := by rw [hdt]; simp
  obtain ⟨tbuf, ht5, ho5⟩ := hD.tr_
  cases todo with
  | nil =>
    simp only [Q0, Q1, Q2, Q3, Q4, Q5, Q6, Q7, Q8, Q9, Qa, Qb, Qc, Qd, Qe, Qf, Qg, Qh, Qi, Qj]
    refine (contBlank_ok (lim := mem) ht5 hD.rd hD.full hD.four.1 hr5 (by simp at hdl; omega)).mono ?_
    rintro x H6 ⟨u, s6, rfl, h6, hu, hr6, f6, z6⟩
    have e0 : (((0 : Nat) : Int) == 0) = true := by decide
    simp only [Q0, Q1, Q2, Q3, Q4, Q5, Q6, Q7, Q8, Q9, Qa, Qb, Qc, Qd, Qe, Qf, Qg, Qh, Qi, Qj, Qk, Ql, Qm, Qn, Qo, Qp, Qq, Qr, Qs, hu.len, List.length_nil, e0]
    obtain ⟨hE6, _⟩ := hD.ents_frm f6 (fun x hx => .inl (hD.idB x hx))
    refine ⟨H2.size, done.length, E, s6, rfl, hE6, ?_, h6, hr6, f5.trans (f6.mono (fun x hx => by simp [hx])), fun x hx => (hD.blkB x hx).1⟩
    rw [hhd, hdt, List.append_nil]
  | cons kv todo =>
    have hkv : LineOk kv := hls kv (by rw [hdt]; simp)
    obtain ⟨c1, r1, hc1, hlw1, _, _⟩ := behind_head todo q (fun kv' hh => hls kv' (by rw [hdt]; simp [hh]))
    have hr5' : s5.rest S = lineOf kv ++ 13 :: 10 :: c1 :: r1 := by
      rw [hr5, ← hc1]; simp [linesText]
    have hlen := hkv.len
    have hlol : (lineOf kv).length = kv.1.length + kv.2.length + 2 := by simp [lineOf]; omega
    simp only [List.length_cons] at hdl
    have hlim : (10000 : Int) ≤ mem := by omega
    simp only [Q0, Q1, Q2, Q3, Q4, Q5, Q6, Q7, Q8, Q9, Qa, Qb, Qc, Qd, Qe, Qf, Qg, Qh, Qi, Qj]
    refine (contLine_ok (k := k) (p := lineOf kv) (c := c1) (q := r1) ht5 ho5 hD.htr (fun g hg hm => ?_) hD.rd hD.full hD.four.1 hD.hvt (fun g hg hv => ?_) hD.tr0 (fun g hg => ?_) hr5' hkv.no_nl (by omega) (by simp [lineOf]) hlw1 hlim (by omega)).mono ?_
    · have := (hD.kB g hg).1
      rcases List.mem_cons.1 hm with rfl | hm
      · have := hD.trB; omega
      · have := hD.idB g hm; omega
    · have := (hD.kB g hg).1
      have := hD.vB g hv
      omega
    · have := (hD.kB g hg).1
      omega
    rintro x H6 ⟨u, s6, k', rfl, hc6, f6, hk'⟩
    obtain ⟨hE6, hL6⟩ := hD.ents_frm f6 (fun x hx => by
      simp only [List.cons_append, List.mem_cons, List.mem_append, Option.mem_toList] at hx
      rcases hx with rfl | hx | hx
      · exact .inl hD.trB
      · exact .inr (.inl hx)
      · exact .inl (hD.idB x hx))
    have hb6 := hc6.bytes
    rw [trimB_line hkv] at hb6
    have hne6 : ((((kv.1 ++ 58 :: valTail kv.2).length : Nat) : Int) == 0) = false := by rw [beq_eq_false_iff_ne]; simp; omega
    simp only [Q0, Q1, Q2, Q3, Q4, Q5, Q6, Q7, Q8, Q9, Qa, Qb, Qc, Qd, Qe, Qf, Qg, Qh, Qi, Qj, Qk, Ql, Qm, Qn, Qo, Qp, Qq, Qr, Qs, hb6.len, hne6]
    rw [trimB_line hkv] at hc6
    have hsz56 := f6.size
    have hbase := hD.base
    have hkB6 : ∀ g, k' = some g → H.size ≤ g ∧ g < H6.size := by
      intro g hg
      obtain ⟨tb, _, hoe⟩ := hc6.tr_
      rw [hg] at hoe
      obtain ⟨_, cells, _, hgc, _⟩ := hoe
      refine ⟨?_, lt_of_some hgc⟩
      rcases hk' with e | ⟨g', e, hge⟩
      · exact (hD.kB g (by rw [← e, hg])).1
      · rw [hg] at e; cases e; omega
    have hblk6 : ∀ x ∈ Ents.blks H2.size E, H.size ≤ x ∧ k' ≠ some x := by
      intro x hx
      refine ⟨(hD.blkB x hx).1, fun e => ?_⟩
      rcases hk' with e2 | ⟨g', e2, hge⟩
      · exact (hD.blkB x hx).2 (by rw [← e2, e])
      · rw [e] at e2; cases e2
        have := hD.ents.lt x hx
        omega
    have hsb6 : ∀ b, sb = some b → H.size ≤ b ∧ b < H6.size ∧ k' ≠ some b ∧ b ≠ H2.size := by
      intro b hb
      obtain ⟨g1, g2, g3, g4⟩ := hD.sbB b hb
      refine ⟨g1, by omega, fun e => ?_, g4⟩
      rcases hk' with e2 | ⟨g', e2, hge⟩
      · exact g3 (by rw [← e2, e])
      · rw [e] at e2; cases e2
        omega
    have hfull6 : Full4 H6 := by
      obtain ⟨tt, v, t, f, h0⟩ := hD.full
      refine ⟨tt, v, t, f, f6.get h0 (fun hm => ?_)⟩
      simp only [List.cons_append, List.mem_cons, List.mem_append, Option.mem_toList] at hm
      rcases hm with hm | hm | hm
      · exact hD.four.2.1 hm
      · have := (hD.kB 1 hm).1; have := hD.four.2.2; omega
      · exact hD.four.1 hm
    have hD6 : ∀ {H7 : Heap} {s7 : St} {tb : Value} {X : List Nat}, RdAt S s7 H7 → TR S tr tb H7 → OwnE H7 k' tb → Frm X H6 H7 → (∀ x ∈ X, x < H.size ∧ x ∉ [1] ∨ k' = some x) → HdAt S tr H.size H7 H2.size done.length E k' st n sb s7 := by
      intro H7 s7 tb X a1 a2 a3 a4 a5
      have hX : ∀ x ∈ X, x < H.size ∨ k' = some x := fun x hx => by
        rcases a5 x hx with h | h
        · exact .inl h.1
        · exact .inr h
      refine { rd := a1, tr_ := ⟨tb, a2, a3⟩, ents := hE6.frm a4 ?_, left := hL6.frm a4 ?_, full := ?_, base := by have := a4.size; omega, trB := hD.trB, idB := hD.idB, vB := hD.vB, blkB := hblk6, sbB := fun b hb => ?_, kB := fun g hg => ?_, htr := hD.htr, hvt := hD.hvt, tr0 := hD.tr0, four := hD.four }
      · intro x hx hm
        obtain ⟨g1, g2⟩ := hblk6 x hx
        rcases hX x hm with h | h
        · omega
        · exact g2 h
      · intro b hb hm
        obtain ⟨g1, g2, g3, _⟩ := hsb6 b hb
        rcases hX b hm with h | h
        · omega
        · exact g3 h
      · obtain ⟨tt, v, t, f, h0⟩ := hfull6
        refine ⟨tt, v, t, f, a4.get h0 (fun hm => ?_)⟩
        rcases a5 1 hm with h | h
        · exact h.2 (by simp)
        · have := (hkB6 1 h).1; have := hD.four.2.2; omega
      · obtain ⟨g1, g2, g3, g4⟩ := hsb6 b hb
        exact ⟨g1, by have := a4.size; omega, g3, g4⟩
      · obtain ⟨g1, g2⟩ := hkB6 g hg
        exact ⟨g1, by have := a4.size; omega⟩
    have hvl := valTail_len kv.2
    refine keyCut_ok hc6 hD.htr (fun g hg => ?_) hkv.key hkv.toks (by omega) hct fun z s7 H7 h7 hr7 hz7 ht7 hbz f7 => ?_
    · obtain ⟨g1, g2⟩ := hkB6 g hg
      refine ⟨fun hm => ?_, fun hv => ?_, ?_⟩
      · rcases List.mem_cons.1 hm with rfl | hm
        · have := hD.trB; omega
        · have := hD.idB g hm; omega
      · have := hD.vB g hv; omega
      · omega
    obtain ⟨tb7, ht7, ho7⟩ := ht7
    have hD7 : HdAt S tr H.size H7 H2.size done.length E k' st n sb s7 := hD6 h7 ht7 ho7 f7 (fun x hx => by
      simp only [List.mem_append, Option.mem_toList] at hx
      rcases hx with hx | hx
      · exact .inr hx
      · exact .inl ⟨hD.idB x hx, fun e => by rw [List.mem_singleton] at e; exact hD.four.1 (by rw [← e]; exact hx)⟩)
    refine valLoop_ok hz7 (valTail_print hkv.val) (by omega) ?_
    have em : IntKind.i64.wrap (10000 - (done.length : Int) - 1) = 10000 - ((done.length + 1 : Nat) : Int) := by rw [wrap_i64 (by omega) (by omega)]; omega
    have dm : decide ((10000 - ((done.length + 1 : Nat) : Int)) < 0) = false := by simp; omega
    simp only [Qk, Ql, Qm, Qn, Qo, Qp, Qq, Qr, Qs, Q0, Q1, Q2, Q3, Q4, Q5, Q6, Q7, Q8, Q9, Qa, Qb, Qc, Qd, Qe, Qf, Qg, Qh, Qi, Qj, em, dm]
    refine (trimLeft_ok hz7 (fun x hx => ?_) (by omega)).mono ?_
    · rcases hbz with e | e
      · rw [hx] at e
        cases e
        exact lt_of_some h7.hbf
      · rw [hx] at e
        exact (hD7.kB x e.symm).2
    rintro y H8 ⟨hy, f8⟩
    rw [valTail_drop hkv.val] at hy
    obtain ⟨hE8, hL8⟩ := hD7.ents_frm f8 (by simp)
    have h8 : RdAt S s7 H8 := h7.frm f8 (by simp) (by simp) (by simp)
    have ht8 : TR S tr tb7 H8 := f8.get ht7 (by simp)
    have ho8 := ho7.frm f8 (by simp)
    have estr : Value.string ⟨kv.2.toArray⟩ = strVal kv.2 := rfl
    simp only [hy.str, Q6, estr]
    rw [lookup_of und106 hE8.map]
    have hsz8 := f8.size
    have hsz7 := f7.size
    have step : ∀ {H9 : Heap} {E' : List Ent} {st' : Value} {n' : Nat} {X : List Nat}, Ents H9 H2.size (done.length + 1) E' → Left H9 E' st' n' sb → Frm X H8 H9 → (∀ x ∈ X, x ∈ Ents.blks H2.size E ∨ sb = some x) → (∀ x ∈ Ents.blks H2.size E', x ∈ Ents.blks H2.size E ∨ sb = some x ∨ H8.size ≤ x) →
        HdAt S tr H.size H9 H2.size (done.length + 1) E' k' st' n' sb s7 ∧ Frm (tr :: S.ids) H H9 := by
      intro H9 E' st' n' X a1 a2 a3 a4 a5
      have hXB : ∀ x ∈ X, H.size ≤ x ∧ k' ≠ some x := fun x hx => by
        rcases a4 x hx with h | h
        · exact hblk6 x h
        · exact ⟨(hsb6 x h).1, (hsb6 x h).2.2.1⟩
      have hnX : ∀ x, x < H.size → x ∉ X := fun x hx hm => by have := (hXB x hm).1; omega
      refine ⟨{ rd := h8.frm a3 (fun x hx => hnX x (hD.idB x hx)) (fun x hx => hnX x (hD.vB x hx)) (hnX 0 (by omega)), tr_ := ⟨tb7, a3.get ht8 (hnX _ hD.trB), ho8.frm a3 (fun g hg hm => (hXB g hm).2 hg)⟩, ents := a1, left := a2, full := ?_, base := by have := a3.size; omega, trB := hD.trB, idB := hD.idB, vB := hD.vB, blkB := fun x hx => ?_, sbB := fun b hb => ?_, kB := fun g hg => ?_, htr := hD.htr, hvt := hD.hvt, tr0 := hD.tr0, four := hD.four }, ?_⟩
      · obtain ⟨tt, v, t, f, h0⟩ := hD7.full
        exact ⟨tt, v, t, f, a3.get (f8.get h0 (by simp)) (hnX 1 hD.four.2.2)⟩
      · rcases a5 x hx with h | h | h
        · exact hblk6 x h
        · exact ⟨(hsb6 x h).1, (hsb6 x h).2.2.1⟩
        · refine ⟨by omega, fun e => ?_⟩
          have := (hkB6 x e).2
          omega
      · obtain ⟨g1, g2, g3, g4⟩ := hsb6 b hb
        exact ⟨g1, by have := a3.size; omega, g3, g4⟩
      · obtain ⟨g1, g2⟩ := hkB6 g hg
        exact ⟨g1, by have := a3.size; omega⟩
      · refine (((f5.up f6 (fun x hx => ?_)).up f7 (fun x hx => ?_)).up f8 (by simp)).up a3 (fun x hx => .inr (hXB x hx).1)
        · simp only [List.cons_append, List.mem_cons, List.mem_append, Option.mem_toList] at hx ⊢
          rcases hx with hx | hx | hx
          · exact .inl (.inl hx)
          · exact .inr (hD.kB x hx).1
          · exact .inl (.inr hx)
        · simp only [List.mem_append, Option.mem_toList, List.mem_cons] at hx ⊢
          rcases hx with hx | hx
          · exact .inr (hkB6 x hx).1
          · exact .inl (.inr hx)
    have hnx : nilV2 .eql (.slice none 0 0) ((getE (canonG true kv.1) (E.map Ent.pair)).getD (.slice none 0 0)) = some (.bool (getE (canonG true kv.1) (E.map Ent.pair)).isNone) := by
      cases hg : getE (canonG true kv.1) (E.map Ent.pair) with
      | none => rfl
      | some u =>
        obtain ⟨A, e, B, _, _, rfl, _, _⟩ := getE_some hg
        rfl
    have hcl := canonG_length true kv.1
    refine ⟨fun vs H' => H' = H8 ∧ ∃ mem2 : Int, vs = [.int .i64 mem2] ∧ mem - 1201 ≤ mem2 - (kv.1.length : Int) * 0 ∧ mem2 ≤ mem ∧ mem - 200 - (kv.1.length : Int) ≤ mem2, ?_, ?_⟩
    · simp only [hnx, Q0, Q1, Q2, Q3, Q4, Q5, Q6, Q7, Q8, Q9, Qa, Qb, Qc, Qd, Qe, Qf, Qg, Qh, Qi, Qj]
      refine Br_intro (fun hh => ?_) (fun hh => ?_)
      · have e1 : IntKind.i64.wrap (mem - ((kv.1.length : Nat) : Int)) = mem - (kv.1.length : Int) := wrap_i64 (by omega) (by omega)
        have e2 : IntKind.i64.wrap (mem - (kv.1.length : Int) - 200) = mem - (kv.1.length : Int) - 200 := wrap_i64 (by omega) (by omega)
        simp only [lenStr_of, hcl, Q0, Q1, Q2, Q3, Q4, Q5, Q6, Q7, Q8, Q9, Qa, Qb, Qc, Qd, Qe, Qf, Qg, Qh, Qi, Qj, Qk, Ql, Qm, Qn, Qo, Qp, Qq, Qr, Qs, e1, e2]
        exact ⟨trivial, _, rfl, by omega, by omega, by omega⟩
      · exact ⟨trivial, _, rfl, by omega, by omega, by omega⟩
    rintro _ H8 ⟨rfl, mem2, rfl, _, hm1, hm2⟩
    have e3 : IntKind.i64.wrap (mem2 - ((kv.2.length : Nat) : Int)) = mem2 - (kv.2.length : Int) := wrap_i64 (by omega) (by omega)
    have d3 : decide (mem2 - (kv.2.length : Int) < 0) = false := by simp; omega
    simp only [lenStr_of, Q0, Q1, Q2, Q3, Q4, Q5, Q6, Q7, Q8, Q9, Qa, Qb, Qc, Qd, Qe, Qf, Qg, Qh, Qi, Qj, Qk, Ql, Qm, Qn, Qo, Qp, Qq, Qr, Qs, e3, d3]
    refine ⟨fun vs H9 => ∃ st' n' E', vs = [st'] ∧ HdAt S tr H.size H9 H2.size (done.length + 1) E' k' st' n' sb s7 ∧ Frm (tr :: S.ids) H H9 ∧ E'.map Ent.hd = addH (canonG true kv.1) kv.2 (E.map Ent.hd), ?_, ?_⟩
    · refine Join_direct ?_
      simp only [hnx, Q0, Q1, Q2, Q3, Q4, Q5, Q6, Q7, Q8, Q9, Qa, Qb, Qc, Qd, Qe, Qf, Qg, Qh, Qi, Qj]
      obtain ⟨a8, rfl, hl8⟩ := hL8
      have hL8 : Left H8 E (.slice a8 n n) n sb := ⟨a8, rfl, hl8⟩
      have happ : ∀ {K : Heap → Prop}, (∀ E' H', Ents H' H2.size (done.length + 1) E' → E'.map Ent.hd = addH (canonG true kv.1) kv.2 (E.map Ent.hd) → Left H' E' (.slice a8 n n) n sb → Frm (Ents.blks H2.size E) H8 H' → (∀ x ∈ Ents.blks H2.size E', x ∈ Ents.blks H2.size E ∨ H8.size ≤ x) → K H') → _ := fun {K} => appStr_ok (K := K) hE8 hL8 (fun b hb => by have := (hsb6 b hb).2.1; omega) (by omega)
      refine Br_intro (fun hh => ?_) (fun hh => ?_)
      · simp only [Q0, Q1, Q2, Q3, Q4, Q5, Q6, Q7, Q8, Q9, Qa, Qb, Qc, Qd, Qe, Qf, Qg, Qh, Qi, Qj, Qk, Ql, Qm, Qn, Qo, Qp, Qq, Qr, Qs, if_true]
        refine Br_intro (fun hn0 => ?_) (fun hn0 => ?_)
        · refine cutStr_ok hE8 hL8 (by simp at hn0; omega) (by simpa using hh) (fun e => (hsb6 _ e).2.2.2 rfl) fun E' st' H9 g1 g2 g3 g4 g5 g6 => ?_
          obtain ⟨q1, q2⟩ := step g1 g3 g4 (fun x hx => by
            rcases List.mem_cons.1 hx with rfl | hx
            · exact .inl (by simp [Ents.blks])
            · exact .inr (by simpa using hx)) (fun x hx => by
            rcases g6 x hx with h | h
            · exact .inl h
            · exact .inr (.inl h))
          exact ⟨st', n - 1, E', rfl, q1, q2, g2⟩
        · refine happ fun E' H9 g1 g2 g3 g4 g6 => ?_
          obtain ⟨q1, q2⟩ := step g1 g3 g4 (fun x hx => .inl hx) (fun x hx => by
            rcases g6 x hx with h | h
            · exact .inl h
            · exact .inr (.inr h))
          exact ⟨_, n, E', rfl, q1, q2, g2⟩
      · simp only [Q0, Q1, Q2, Q3, Q4, Q5, Q6, Q7, Q8, Q9, Qa, Qb, Qc, Qd, Qe, Qf, Qg, Qh, Qi, Qj, Qk, Ql, Qm, Qn, Qo, Qp, Qq, Qr, Qs, Bool.false_eq_true, if_false]
        refine happ fun E' H9 g1 g2 g3 g4 g6 => ?_
        obtain ⟨q1, q2⟩ := step g1 g3 g4 (fun x hx => .inl hx) (fun x hx => by
          rcases g6 x hx with h | h
          · exact .inl h
          · exact .inr (.inr h))
        exact ⟨_, n, E', rfl, q1, q2, g2⟩
    rintro _ H9 ⟨st', n', E', rfl, hD9, f9, hhd9⟩
    simp only [nilV2_neq_nil, Q0, Q1, Q2, Q3, Q4, Q5, Q6, Q7, Q8, Q9, Qa, Qb, Qc, Qd, Qe, Qf, Qg, Qh, Qi, Qj]
    refine ⟨todo.length, by simp, done ++ [kv], todo, k', st', n', sb, E', s7, mem2 - (kv.2.length : Int), by rw [hdt]; simp, rfl, ?_, ?_, by omega, ?_, ?_, ?_, f9⟩
    · simp
    · simp; omega
    · simpa using hD9
    · rw [hr7, ← hc1]
    · rw [hhd9, hhd, hdrOf, hdrOf, hdrFrom_snoc]
end Go.Cps
namespace Go.Cps
open Go Go.Proofs
theorem Frm.full {X : List Nat} {H H' : Heap} (f : Frm X H H') (h : Full4 H) (hx : 1 ∉ X) : Full4 H' := by
  obtain ⟨tt, v, t, fz, h0⟩ := h
  exact ⟨tt, v, t, fz, f.get h0 hx⟩
theorem newTP_ok {S : Stk} {H : Heap} : CallsH Tryz.prog 92 #[.pointer (some ⟨S.b, 0, none⟩)] H fun x H' => x = .pointer (some ⟨H.size, 0, none⟩) ∧ TR S H.size (.slice none 0 0) H' ∧ Frm [] H H' ∧ H'.size = H.size + 1 := by
  apply s143
  have e : fillV #[(0, 1), (1, 1), (2, 1)] #[(.pointer none), (.pointer none), (.slice none 0 0)] [(0, .pointer (some ⟨S.b, 0, none⟩))] = some #[.pointer (some ⟨S.b, 0, none⟩), .pointer none, .slice none 0 0] := by
    rw [fillV_cons rfl rfl (by simp), fillV_nil]; rfl
  simp only [c143, e, Option.map_some, Q6, New, Value.cells]
  exact ⟨trivial, push_same _ _, Frm.push _ _ _, by simp⟩
theorem store_part {pt : Nat} {P : PF} {mr : Nat} {n total : Nat} {ev rv : Value} {T : TypeId} {H : Heap} {K : Heap → Prop} {v : Value} (h : H[pt]? = some (.cells (ptCells P mr n total ev rv) T (0, 0))) (hv : isOne v = true)
    (hK : ∀ H', H'[pt]? = some (.cells (ptCells { P with hdr := v } mr n total ev rv) T (0, 0)) → Frm [pt] H H' → H'.size = H.size → K H') : Get (store1V (.pointer (some ⟨pt, 0, none⟩)) v H) K := by
  refine Store_of h (by simp [ptCells]) hv fun H' h' f z => hK H' (by simpa [ptCells] using h') f z
theorem populate_ok {S : Stk} {s : St} {H : Heap} {mr tb pt : Nat} {m : MRf} {bd : List UInt8} {P : PF} {T : TypeId} {ls : List (List UInt8 × List UInt8)} {q : List UInt8} (hp : H[pt]? = some (.cells (ptCells P mr 0 0 .nilIface .nilIface) T (0, 0))) (hm : MRAt S mr tb m bd H) (h : RdAt S s H) (h4 : Full4 H) (h40 : 1 ∉ S.ids)
    (hvs : ∀ x, blk S.v = some x → x < H.size) (hct : S.tbf = 5) (hpt : pt ∉ S.ids) (hpv : blk S.v ≠ some pt) (hp0 : pt ≠ 0) (hr : s.rest S = linesText ls ++ 13 :: 10 :: q) (hls : ∀ kv ∈ ls, LineOk kv) (hn : ls.length ≤ 110) :
    CallsH Tryz.prog 64 #[.pointer (some ⟨pt, 0, none⟩), .int .i64 10485760, .int .i64 10000] H fun x H' => ∃ hm' N E s', x = .nilIface ∧ H'[pt]? = some (.cells (ptCells { P with hdr := .map (some hm') } mr 0 0 .nilIface .nilIface) T (0, 0)) ∧ Ents H' hm' N E ∧ E.map Ent.hd = hdrOf ls ∧ RdAt S s' H' ∧ s'.rest S = q ∧ Frm (pt :: S.ids) H H' ∧ (∀ x ∈ Ents.blks hm' E, H.size ≤ x) := by
  have hptl := lt_of_some hp
  have h4l : 1 < H.size := by obtain ⟨tt, v, t, f, h0⟩ := h4; exact lt_of_some h0
  have hidl := h.ids_lt
  apply s114
  simp only [c114, Q0, Q1, Q2, Q3, Q4, Q5, Q6, Q7, Q8, Q9, Qa, Qb, Qc, Qd, Qe, Qf, Qg, Qh, Qi, Qj, cellH_of hp, ptCells, cellH_of hm.hm, MRf.cells, hm.hbr]
  refine newTP_ok.mono ?_
  rintro x H1 ⟨rfl, ht1, f1, z1⟩
  have h1 : RdAt S s H1 := h.frm f1 (by simp) (by simp) (by simp)
  have hp1 := f1.get hp (by simp)
  apply s144
  unfold c144
  apply s158
  unfold c158
  refine (readHeader_ok ht1 (fun hh => by have := hidl _ hh; omega) h1 (f1.full h4 (by simp)) ⟨h40, by omega⟩ (fun hh => by have := hvs _ hh; omega) (by omega) (fun x hx => by have := hvs x hx; omega) hct hr hls hn).mono ?_
  rintro x H2 ⟨hm', N, E, s', rfl, hE, hhd, h2, hr2, f2, hb2⟩
  have hp2 := f2.get hp1 (fun hh => by
    rcases List.mem_cons.1 hh with e | e
    · omega
    · exact hpt e)
  simp only [Q0, Q1, Q2, Q3, Q4, Q5, Q6, Q7, Q8, Q9, Qa, Qb, Qc, Qd, Qe, Qf, Qg, Qh, Qi, Qj]
  refine Join_direct ?_
  simp only [nilV2_eql_nil, Q0, Q1, Q2, Q3, Q4, Q5, Q6, Q7, Q8, Q9, Qa, Qb, Qc, Qd, Qe, Qf, Qg, Qh, Qi, Qj]
  refine store_part hp2 rfl fun H3 hp3 f3 z3 => ?_
  refine Join_direct ?_
  refine Join_direct ?_
  simp only [nilV2_neq_nil, Q0, Q1, Q2, Q3, Q4, Q5, Q6, Q7, Q8, Q9, Qa, Qb, Qc, Qd, Qe, Qf, Qg, Qh, Qi, Qj, Bool.false_eq_true, if_false]
  have hE3 := hE.frm f3 (fun x hx => by have := hb2 x hx; rw [List.mem_singleton]; omega)
  have f02 : Frm (pt :: S.ids) H H2 := (f1.mono (by simp)).up f2 (fun x hx => by
    rcases List.mem_cons.1 hx with rfl | hx
    · exact .inr (Nat.le_refl _)
    · exact .inl (by simp [hx]))
  refine ⟨hm', N, E, s', trivial, hp3, hE3, hhd, h2.frm f3 (fun x hx => ?_) (fun x hx => ?_) ?_, hr2, f02.trans (f3.mono (by simp)), fun x hx => by have := hb2 x hx; omega⟩
  · rw [List.mem_singleton]; rintro rfl; exact hpt hx
  · rw [List.mem_singleton]; rintro rfl; exact hpv hx
  · rw [List.mem_singleton]; exact fun e => hp0 e.symm
def rawEnv (S : Stk) (mr tb : Nat) (m : MRf) (bd : List UInt8) (B : Nat) (ea ua : Addr) (mode : Option (List UInt8)) (pt hm : Nat) : REnv :=
  ⟨S, mr, tb, m, bd, pt, ⟨.map (some hm), .string ⟨#[]⟩, .map none, .iface 128 (.agg #[.pointer (some ⟨pt, 0, none⟩)])⟩, 85, B, ea, ua, mode⟩
def modeTail (bd : List UInt8) (mode : Option (List UInt8)) : List UInt8 := match mode with | some t => nldOf bd ++ t | none => []
structure PR (S : Stk) (mr tb : Nat) (m : MRf) (bd : List UInt8) (B : Nat) (ea ua : Addr) (s : St) (H : Heap) : Prop where
  rd : RdAt S s H
  ma : MRAt S mr tb m bd H
  er : Errs B ea ua H
  bdr : BdR bd
  low : ∀ x ∈ mr :: tb :: S.ids, B ≤ x
  hE : S.Et = 109 ∧ S.Ev = .pointer (some ea)
  tbf : S.tbf = 5
  vlt : ∀ x, blk S.v = some x → x < H.size
  tbl : tb < H.size
  base : B ≤ H.size
theorem PR.ids {S : Stk} {mr tb : Nat} {m : MRf} {bd : List UInt8} {B : Nat} {ea ua : Addr} {s s' : St} {H H' : Heap} (h : PR S mr tb m bd B ea ua s H) (hr : RdAt S s' H') (f : Frm S.ids H H') : PR S mr tb m bd B ea ua s' H' :=
  ⟨hr, h.ma.ids f, h.er.frm f (fun x hx => h.low x (by simp [hx])), h.bdr, h.low, h.hE, h.tbf, fun x hx => Nat.lt_of_lt_of_le (h.vlt x hx) f.size, Nat.lt_of_lt_of_le h.tbl f.size, Nat.le_trans h.base f.size⟩
theorem PR.lt {S : Stk} {mr tb : Nat} {m : MRf} {bd : List UInt8} {B : Nat} {ea ua : Addr} {s : St} {H : Heap} (h : PR S mr tb m bd B ea ua s H) : ∀ x ∈ mr :: tb :: S.ids, x < H.size := by
  intro x hx
  rcases List.mem_cons.1 hx with rfl | hx
  · exact lt_of_some h.ma.hm
  · rcases List.mem_cons.1 hx with rfl | hx
    · exact h.tbl
    · exact h.rd.ids_lt x hx
theorem PR.four {S : Stk} {mr tb : Nat} {m : MRf} {bd : List UInt8} {B : Nat} {ea ua : Addr} {s : St} {H : Heap} (h : PR S mr tb m bd B ea ua s H) : 1 ∉ S.ids := fun hm => by
  have := h.low 1 (by simp [hm])
  have := h.er.b16
  omega
end Go.Cps
namespace Go.Cps
open Go Go.Proofs
set_option maxRecDepth 100000
def c65 (a0 a1 : Value) (H : Heap) (R : Value → Heap → Prop) : Prop :=
  CallsH Tryz.prog 90 #[a0, a1, (.slice none 0 0)] H fun x8 H =>
  Get (extractV x8 0) fun x9 =>
  Get (extractV x8 1) fun x10 =>
  R (.tuple #[x9, x10]) H
def p65 : Plan := .seq (.leaf []) (.seq (.leaf []) (.leaf []))
theorem s65 {a0 a1 : Value} {H : Heap} {R : Value → Heap → Prop} (h : c65 a0 a1 H R) : CallsH Tryz.prog 57 #[a0, a1] H R :=
  callsH_of_eq p65 (fn := Tryz.f57) (c := Tryz.f57.body.getD .skip) (args := [a0, a1]) Tryz.func57 (by kernel_rfl) mixed (by kernel_rfl) (by kernel_rfl) (by kernel_rfl) h
def c88 (a0 a1 a2 : Value) (H : Heap) (R : Value → Heap → Prop) : Prop :=
  ExecV Tryz.prog (Instr.typeAssert a1 39 186 true) H fun x21 H =>
  Get (extractV x21 0) fun x22 =>
  Get (extractV x21 1) fun x23 =>
  Br x23 (
  Invoke Tryz.prog "WriteTo" x22 #[a0] H fun x27 H =>
  Get (extractV x27 0) fun x28 =>
  Get (extractV x27 1) fun x29 =>
  R (.tuple #[x28, x29]) H) (
  ExecV Tryz.prog (Instr.typeAssert a0 60 190 true) H fun x32 H =>
  Get (extractV x32 0) fun x33 =>
  Get (extractV x32 1) fun x34 =>
  Br x34 (
  Invoke Tryz.prog "ReadFrom" x33 #[a1] H fun x38 H =>
  Get (extractV x38 0) fun x39 =>
  Get (extractV x38 1) fun x40 =>
  R (.tuple #[x39, x40]) H) (
  Join (fun K1 =>
  Get (nilV2 .eql (.slice none 0 0) a2) fun x42 =>
  Br x42 (
  Join (fun K2 =>
  ExecV Tryz.prog (Instr.typeAssert a1 39 193 true) H fun x45 H =>
  Get (extractV x45 0) fun x46 =>
  Get (extractV x45 1) fun x47 =>
  Join (fun K3 =>
  Br x47 (
  Fld 1 x46 H fun x54 =>
  Get (arithV .gtr .i64 (.int .i64 32768) x54) fun x55 =>
  Get (pickV (.bool true) x55 (.bool false)) fun x56 =>
  K3 [x56] H) (
  Get (pickV (.bool false) undef (.bool false)) fun x56_1 =>
  K3 [x56_1] H)) fun vs4 H =>
  Br (nth vs4 0) (
  Fld 1 x46 H fun x60 =>
  Get (arithV .lss .i64 x60 (.int .i64 1)) fun x61 =>
  Br x61 (
  K2 [(.int .i64 1)] H) (
  Fld 1 x46 H fun x65 =>
  K2 [x65] H)) (
  K2 [(.int .i64 32768)] H)) fun vs5 H =>
  MakeSlice 5 1 1 #[(.int .u8 0)] (nth vs5 0) (nth vs5 0) H fun x67 H =>
  K1 [x67] H) (
  K1 [a2] H)) fun vs6 H =>
  Join (fun K7 =>
  Loop [(.int .i64 0), .nilIface] H fun K8 vs9 H =>
  Invoke Tryz.prog "Read" a1 #[(nth vs6 0)] H fun x71 H =>
  Get (extractV x71 0) fun x72 =>
  Get (extractV x71 1) fun x73 =>
  Join (fun K10 =>
  Get (arithV .gtr .i64 x72 (.int .i64 0)) fun x75 =>
  Br x75 (
  Get (sliceV 1 (nth vs6 0) (some (.int .i64 0)) (some x72) none) fun x80 =>
  Get (nilV (.func (.method "Write") #[a0] #[])) fun _ =>
  Invoke Tryz.prog "Write" a0 #[x80] H fun x84 H =>
  Get (extractV x84 0) fun x85 =>
  Get (extractV x84 1) fun x86 =>
  Join (fun K11 =>
  Join (fun K12 =>
  Get (arithV .lss .i64 x85 (.int .i64 0)) fun x88 =>
  Br x88 (
  Get (pickV (.bool true) (.bool true) undef) fun x93 =>
  K12 [x93] H) (
  Get (arithV .lss .i64 x72 x85) fun x92 =>
  Get (pickV (.bool false) (.bool true) x92) fun x93_1 =>
  K12 [x93_1] H)) fun vs13 H =>
  Br (nth vs13 0) (
  Get (nilV2 .eql .nilIface x86) fun x95 =>
  Br x95 (
  Get (load1V (.pointer (some ⟨14, 0, none⟩)) H) fun x96 =>
  K11 [(.int .i64 0), x96] H) (
  K11 [(.int .i64 0), x86] H)) (
  K11 [x85, x86] H)) fun vs14 H =>
  Get (arithV .add .i64 (nth vs9 0) (nth vs14 0)) fun x99 =>
  Get (nilV2 .neq .nilIface (nth vs14 1)) fun x101 =>
  Br x101 (
  K7 [x99, (nth vs14 1)] H) (
  Get (arithV .neq .i64 x72 (nth vs14 0)) fun x105 =>
  Br x105 (
  Get (load1V (.pointer (some ⟨15, 0, none⟩)) H) fun x106 =>
  K7 [x99, x106] H) (
  K10 [x99, (nth vs9 1)] H))) (
  K10 [(nth vs9 0), (nth vs9 1)] H)) fun vs15 H =>
  Get (nilV2 .neq .nilIface x73) fun x108 =>
  Br x108 (
  Join (fun K16 =>
  Get (load1V (.pointer (some ⟨0, 0, none⟩)) H) fun x110 =>
  ExecV Tryz.prog (do eqGuard .neq 43 (.tmp 109) (.tmp 110) x73 x110; binOp .neq 43 x73 x110) H fun x111 H =>
  Br x111 (
  K16 [x73] H) (
  K16 [(nth vs15 1)] H)) fun vs17 H =>
  K7 [(nth vs15 0), (nth vs17 0)] H) (
  K8 [(nth vs15 0), (nth vs15 1)] H)) fun vs18 H =>
  R (.tuple #[(nth vs18 0), (nth vs18 1)]) H))
def p88 : Plan := .seq (.leaf []) (.seq (.seq (.leaf []) (.seq (.leaf []) (.cond (.seq (.leaf []) (.leaf [])) (.leaf [])))) (.seq (.seq (.leaf []) (.seq (.leaf []) (.cond (.seq (.leaf []) (.leaf [])) (.leaf [])))) (.join [2] (.seq (.leaf []) (.cond (.seq (.leaf []) (.join [12] (.seq (.leaf []) (.join [56] (.leaf []) (.cond (.seq (.leaf []) (.cond (.leaf []) (.leaf []))) (.leaf [])))) (.leaf []))) (.leaf []))) (.join [6, 7] (.block (.loop [6, 7] (.block (.seq (.leaf []) (.join [6, 7] (.seq (.leaf []) (.cond (.seq (.leaf [0, 1, 2, 3, 4, 5, 6, 7, 8, 9, 10, 11, 12]) (.join [17, 18] (.join [93] (.leaf []) (.cond (.seq (.leaf []) (.seq (.leaf []) (.cond (.leaf []) (.leaf [])))) (.leaf []))) (.seq (.leaf []) (.seq (.seq (.leaf []) (.cond (.seq (.leaf []) (.leaf [])) (.leaf []))) (.seq (.leaf []) (.cond (.seq (.leaf []) (.leaf [])) (.leaf []))))))) (.leaf []))) (.seq (.leaf []) (.cond (.join [7] (.seq (.leaf []) (.cond (.leaf []) (.leaf []))) (.leaf [])) (.leaf [])))))))) (.seq (.leaf []) (.leaf []))))))
theorem s88 {a0 a1 a2 : Value} {H : Heap} {R : Value → Heap → Prop} (h : c88 a0 a1 a2 H R) : CallsH Tryz.prog 90 #[a0, a1, a2] H R :=
  callsH_of_eq p88 (fn := Tryz.f90) (c := Tryz.f90.body.getD .skip) (args := [a0, a1, a2]) Tryz.func90 (by kernel_rfl) mixed (by kernel_rfl) (by kernel_rfl) (by kernel_rfl) h
def c210 (a0 a1 : Value) (H : Heap) (R : Value → Heap → Prop) : Prop :=
  Get (nilV a0) fun x10 =>
  Get (fieldAddrV 2 x10) fun x11 =>
  Get (store1V x11 (.int .i8 0) H) fun H =>
  Join (fun K1 =>
  CallsH Tryz.prog 115 #[a0] H fun x13 H =>
  Get (arithV .gtr .i64 x13 (.int .i64 0)) fun x15 =>
  Br x15 (
  Fld 0 a0 H fun x21 =>
  Fld 1 a0 H fun x25 =>
  Get (sliceV 1 x21 (some x25) none none) fun x26 =>
  Get (nilV (.func (.method "Write") #[a1] #[])) fun _ =>
  Invoke Tryz.prog "Write" a1 #[x26] H fun x30 H =>
  Get (extractV x30 0) fun x31 =>
  Get (extractV x30 1) fun x32 =>
  Join (fun K2 =>
  Get (arithV .gtr .i64 x31 x13) fun x35 =>
  Br x35 (
  Get (some (Value.iface 9 (.string ⟨#[98, 121, 116, 101, 115, 46, 66, 117, 102, 102, 101, 114, 46, 87, 114, 105, 116, 101, 84, 111, 58, 32, 105, 110, 118, 97, 108, 105, 100, 32, 87, 114, 105, 116, 101, 32, 99, 111, 117, 110, 116]⟩))) fun _ =>
  False) (
  K2 [] H)) fun _ H =>
  Fld 1 a0 H fun x40 =>
  Get (arithV .add .i64 x40 x31) fun x42 =>
  Get (nilV a0) fun x43 =>
  Get (fieldAddrV 1 x43) fun x44 =>
  Get (store1V x44 x42 H) fun H =>
  Get (nilV2 .neq .nilIface x32) fun x47 =>
  Br x47 (
  R (.tuple #[x31, x32]) H) (
  Get (arithV .neq .i64 x31 x13) fun x52 =>
  Br x52 (
  Get (load1V (.pointer (some ⟨15, 0, none⟩)) H) fun x54 =>
  R (.tuple #[x31, x54]) H) (
  K1 [x31] H))) (
  K1 [(.int .i64 0)] H)) fun vs4 H =>
  CallsH Tryz.prog 116 #[a0] H fun _ H =>
  R (.tuple #[(nth vs4 0), .nilIface]) H
def p210 : Plan := .seq (.leaf []) (.seq (.leaf []) (.join [4] (.seq (.leaf []) (.seq (.leaf []) (.cond (.seq (.leaf [0, 1, 2, 3, 4, 5, 6, 7, 8, 9, 10, 11, 12, 13, 14, 15, 16, 17, 18]) (.join [] (.seq (.leaf []) (.cond (.leaf []) (.leaf []))) (.seq (.leaf []) (.seq (.leaf []) (.seq (.seq (.leaf []) (.cond (.seq (.leaf []) (.leaf [])) (.leaf []))) (.seq (.leaf []) (.cond (.seq (.leaf [0, 1, 2, 3]) (.leaf [])) (.leaf [])))))))) (.leaf [])))) (.seq (.leaf []) (.seq (.leaf []) (.leaf [])))))
theorem s210 {a0 a1 : Value} {H : Heap} {R : Value → Heap → Prop} (h : c210 a0 a1 H R) : CallsH Tryz.prog 224 #[a0, a1] H R :=
  callsH_of_eq p210 (fn := Tryz.f224) (c := Tryz.f224.body.getD .skip) (args := [a0, a1]) Tryz.func224 (by kernel_rfl) mixed (by kernel_rfl) (by kernel_rfl) (by kernel_rfl) h
def c212 (a0 a1 : Value) (H : Heap) (R : Value → Heap → Prop) : Prop :=
  Fld 1 a0 H fun x9 =>
  Br x9 (
  CallsH Tryz.prog 37 #[(.string ⟨#[109, 117, 108, 116, 105, 112, 97, 114, 116, 58, 32, 99, 97, 110, 39, 116, 32, 119, 114, 105, 116, 101, 32, 116, 111, 32, 102, 105, 110, 105, 115, 104, 101, 100, 32, 112, 97, 114, 116]⟩)] H fun x10 H =>
  R (.tuple #[(.int .i64 0), x10]) H) (
  Fld 0 a0 H fun x15 =>
  Fld 0 x15 H fun x18 =>
  Invoke Tryz.prog "Write" x18 #[a1] H fun x20 H =>
  Get (extractV x20 0) fun x21 =>
  Get (extractV x20 1) fun x22 =>
  Join (fun K1 =>
  Get (nilV2 .neq .nilIface x22) fun x24 =>
  Br x24 (
  Get (nilV a0) fun x27 =>
  Get (fieldAddrV 2 x27) fun x28 =>
  Get (store1V x28 x22 H) fun H =>
  K1 [] H) (
  K1 [] H)) fun _ H =>
  R (.tuple #[x21, x22]) H)
def p212 : Plan := .seq (.leaf []) (.seq (.seq (.leaf []) (.cond (.seq (.leaf []) (.leaf [])) (.leaf []))) (.seq (.leaf []) (.join [] (.seq (.leaf []) (.cond (.leaf []) (.leaf []))) (.leaf []))))
theorem s212 {a0 a1 : Value} {H : Heap} {R : Value → Heap → Prop} (h : c212 a0 a1 H R) : CallsH Tryz.prog 233 #[a0, a1] H R :=
  callsH_of_eq p212 (fn := Tryz.f233) (c := Tryz.f233.body.getD .skip) (args := [a0, a1]) Tryz.func233 (by kernel_rfl) mixed (by kernel_rfl) (by kernel_rfl) (by kernel_rfl) h
end Go.Cps
namespace Go.Cps
open Go Go.Proofs
theorem assertRunW (v : Value) (w : World) : (Instr.typeAssert (.iface 56 v) 39 186 true).run Tryz.prog w = .ok (.tuple #[.iface 56 v, .bool true]) w := by kernel_rfl
section
attribute [local irreducible] Sem.run
theorem tassertW {r : Value} {H : Heap} {K : Value → Heap → Prop} : ExecV Tryz.prog (Instr.typeAssert (.iface 56 r) 39 186 true) H K = K (.tuple #[.iface 56 r, .bool true]) H := ExecV.eq fun w _ => assertRunW r w
end
theorem meth58W : methodRes Tryz.prog 56 "WriteTo" = some 224 := by kernel_rfl
theorem body210 : hasBody Tryz.prog 224 = true := by kernel_rfl
theorem nilV_method {name : String} {t : TypeId} {v : Value} (h : aheadP Tryz.prog t v name = true) : nilV (.func (.method name) #[.iface t v] #[]) = some (.func (.method name) #[.iface t v] #[]) := by
  unfold nilV nilVP
  simp [h]
theorem ahead58W (a : Addr) : aheadP Tryz.prog 56 (.pointer (some a)) "Write" = true := by kernel_rfl
theorem writeTo_ok {b ob : Nat} {k ko : Option Nat} {l lo : List UInt8} {H : Heap} (h : BufAt b k l H) (ho : BufAt ob ko lo H) (hne : b ≠ ob) (hb1 : ko ≠ some b) (hb2 : k ≠ some ob) (hkk : ∀ g, k = some g → ko ≠ some g) (hl : l ≠ []) (hlen : lo.length + l.length < 2 ^ 40) :
    CallsH Tryz.prog 224 #[.pointer (some ⟨b, 0, none⟩), .iface 56 (.pointer (some ⟨ob, 0, none⟩))] H fun x H' => x = .tuple #[.int .i64 l.length, .nilIface] ∧ ∃ k', BufAt ob k' (lo ++ l) H' ∧ Frm (b :: ob :: ko.toList) H H' ∧ (k' = ko ∨ ∃ g, k' = some g ∧ H.size ≤ g) := by
  have hpos : 0 < l.length := List.length_pos_iff.2 hl
  obtain ⟨sl, lr, hbc, hown⟩ := h
  apply s210
  simp only [c210, Q0, Q1, Q2, Q3, Q4, Q5, Q6, Q7, Q8, Q9, Qa, Qb, Qc, Qd, Qe, Qf, Qg, Qh, Qi, Qj]
  refine Store_of hbc (by simp) rfl fun H1 hc1 f1 z1 => ?_
  simp only [Qt, Qu, Qv] at hc1
  have hown1 := hown.frm f1 (fun g hg => by simpa using hown.ne g hg)
  have ho1 := ho.frm f1 (by simpa using hne.symm) (fun g hg => by rw [List.mem_singleton]; rintro rfl; exact hb1 hg)
  obtain ⟨base, c, rfl, hlc, hcm⟩ := hown1.shape
  refine Join_direct ?_
  refine (len_ok hc1 (by omega)).mono ?_
  rintro x H1 ⟨rfl, rfl⟩
  have d0 : decide ((l.length : Int) > 0) = true := by simp; omega
  have s1 : sliceV 1 (.slice base l.length c) (some (.int .i64 0)) none none = some (.slice base l.length c) := by
    have := sliceV_lo (a := base) (n := l.length) (c := c) (size := 1) (lo := 0) (Nat.zero_le _) .i64
    rw [show ((0 : Nat) : Int) = 0 from rfl] at this
    rw [this]
    cases base with
    | none => simp
    | some a => simp [Addr.add]
  have hsb := hown1.bytes
  simp only [Q0, Q1, Q2, Q3, Q4, Q5, Q6, Q7, Q8, Q9, Qa, Qb, Qc, Qd, Qe, Qf, Qg, Qh, Qi, Qj, Qk, Ql, Qm, Qn, Qo, Qp, Qq, Qr, Qs, d0, cellH_of hc1, s1, nilV_method (ahead58W _)]
  refine invoke_of 223 meth58 body209 ?_
  refine (bufWrite_ok ho1 hsb (fun y hy => ?_) hlen).mono ?_
  · rintro rfl
    cases k with
    | none => have := hown1.1; rw [this] at hy; simp [blk] at hy
    | some g =>
      obtain ⟨cells, h1, _⟩ := hown1
      rw [h1] at hy
      simp only [blk, Option.some.injEq] at hy
      exact hb2 (by rw [hy])
  rintro x H2 ⟨rfl, k', ho2, f2, hk'⟩
  have hc2 := f2.get hc1 (fun hm => by
    rcases List.mem_cons.1 hm with h | h
    · exact hne h
    · exact hb1 (by simpa using h))
  have d1 : decide ((l.length : Int) > (l.length : Int)) = false := by simp
  simp only [Q0, Q1, Q2, Q3, Q4, Q5, Q6, Q7, Q8, Q9, Qa, Qb, Qc, Qd, Qe, Qf, Qg, Qh, Qi, Qj, Qk, Ql, Qm, Qn, Qo, Qp, Qq, Qr, Qs, d1]
  refine Join_direct ?_
  have e1 : IntKind.i64.wrap (0 + (l.length : Int)) = (l.length : Int) := by rw [wrap_i64 (by omega) (by omega)]; omega
  simp only [Q0, Q1, Q2, Q3, Q4, Q5, Q6, Q7, Q8, Q9, Qa, Qb, Qc, Qd, Qe, Qf, Qg, Qh, Qi, Qj, Qk, Ql, Qm, Qn, Qo, Qp, Qq, Qr, Qs, cellH_of hc2, e1]
  refine Store_of hc2 (by simp) rfl fun H3 hc3 f3 z3 => ?_
  simp only [Qt, Qu, Qv] at hc3
  have d2 : (((l.length : Nat) : Int) != ((l.length : Nat) : Int)) = false := by simp
  simp only [nilV2_neq_nil, Q0, Q1, Q2, Q3, Q4, Q5, Q6, Q7, Q8, Q9, Qa, Qb, Qc, Qd, Qe, Qf, Qg, Qh, Qi, Qj, Qk, Ql, Qm, Qn, Qo, Qp, Qq, Qr, Qs, d2]
  apply s102
  have s2 : sliceV 1 (.slice base l.length c) none (some (.int .i64 0)) none = some (.slice base 0 c) := sliceV_hi (hi := 0) (Nat.zero_le _) .i64
  simp only [c102, Q0, Q1, Q2, Q3, Q4, Q5, Q6, Q7, Q8, Q9, Qa, Qb, Qc, Qd, Qe, Qf, Qg, Qh, Qi, Qj, cellH_of hc3, s2]
  refine Store_of hc3 (by simp) rfl fun H4 hc4 f4 z4 => ?_
  simp only [Qt, Qu, Qv] at hc4
  refine Store_of hc4 (by simp) rfl fun H5 hc5 f5 z5 => ?_
  simp only [Qt, Qu, Qv] at hc5
  refine Store_of hc5 (by simp) rfl fun H6 hc6 f6 z6 => ?_
  have f36 : Frm [b] H2 H6 := ((f3.trans f4).trans f5).trans f6
  refine ⟨trivial, k', ho2.frm f36 (by simpa using hne.symm) (fun g hg => ?_), ?_, ?_⟩
  · rw [List.mem_singleton]
    rintro rfl
    rcases hk' with h | ⟨g', h, hge⟩
    · exact hb1 (by rw [← h, hg])
    · rw [hg] at h; cases h
      have := lt_of_some hc1
      omega
  · exact ((f1.mono (by simp)).trans (f2.mono (fun x hx => List.mem_cons_of_mem _ hx))).trans (f36.mono (by simp))
  · rcases hk' with h | ⟨g', h, hge⟩
    · exact .inl h
    · exact .inr ⟨g', h, by omega⟩
end Go.Cps
