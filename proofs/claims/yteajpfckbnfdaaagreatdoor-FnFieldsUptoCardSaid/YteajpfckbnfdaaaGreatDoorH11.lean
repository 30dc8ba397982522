/-
  A part of the proof: partReader.Read. The laying of the shelf at this program: bytes.growSlice; its contract at heap level. What the bodies of some functions of the program come to, at heap level, each proved of the program itself. What the bodies of some functions of the program come to, at heap level, each proved of the program itself.
  Conditions: each contract's own.
-/
import Derived.Shelf.Bytes.GrowSlice
import Derived.Test.YteajpfckbnfdaaaGreatDoorH4
import Derived.Test.YteajpfckbnfdaaaGreatDoorH9
import Derived.Test.YteajpfckbnfdaaaGreatDoorH10
set_option linter.all false
namespace Go.Cps
open Go Go.Proofs
theorem RB.push {e : REnv} {b : List UInt8} {n total : Nat} {ev : Sk} {re : Bool} {s : St} {H : Heap} (h : RB e b n total ev re s H) (o : Obj) : RB e b n total ev re s (H.push o) :=
  h.frm (Frm.push [] _ _) (by simp)
theorem RB.klen {e : REnv} {b : List UInt8} {n total : Nat} {ev : Sk} {re : Bool} {s : St} {H : Heap} (h : RB e b n total ev re s H) : s.w - s.r ≤ (b ++ e.tail).length := by
  rw [← h.rest, h.rd.rest_len]; omega
theorem RB.scan {e : REnv} {b : List UInt8} {total k : Nat} {re : Bool} {s : St} {sk : Sk} {H : Heap} (h : RB e b 0 total .go re s H) (ho : ScanOut ((b ++ e.tail).take (s.w - s.r)) (dashOf e.bd) (nldOf e.bd) ((total : Int) == 0) re k sk) :
    k ≤ b.length ∧ k ≤ s.w - s.r ∧ (∀ t, e.mode = some t → sk.norm re ≠ .re ∧ (sk.norm re = .eof → k = b.length)) ∧ (e.mode = none → sk.norm re ≠ .eof) ∧
      (k = 0 → sk.norm re = .go → re = false ∧ s.w - s.r ≤ e.bd.length + 5 ∧ (∀ t, e.mode = some t → s.w - s.r < (b ++ e.tail).length)) := by
  have hk := h.klen
  cases hm : e.mode with
  | some t =>
    obtain ⟨ht, hre, _, _⟩ := h.full t hm
    subst hre
    have ht2 : e.tail = nldOf e.bd ++ t := by simp [REnv.tail, hm]
    rw [ht2, ← List.append_assoc] at ho hk
    obtain ⟨h1, h2, h3, h4⟩ := scan_full h.bdr h.nw ht hk ho
    refine ⟨h1, h2, fun t' _ => ⟨by cases sk <;> simp [Sk.norm], fun hh => h3 (by cases sk <;> simp [Sk.norm] at hh ⊢)⟩, (fun hh => by cases hh), fun hk0 hgo => ?_⟩
    obtain ⟨h5, h6⟩ := h4 (by intro hh; subst hh; simp [Sk.norm] at hgo) hk0
    refine ⟨rfl, h6, fun t' _ => ?_⟩
    rw [ht2, ← List.append_assoc]
    exact h5
  | none =>
    have ht2 : e.tail = [] := by simp [REnv.tail, hm]
    rw [ht2, List.append_nil] at ho hk
    obtain ⟨h1, h2, h3⟩ := scan_cut h.nw hk ho
    refine ⟨by omega, h1, (fun t' hh => by cases hh), fun _ => by cases sk <;> simp [Sk.norm] at h2 ⊢; cases re <;> simp, fun hk0 hgo => ?_⟩
    obtain ⟨rfl, h5⟩ := h3 hk0
    refine ⟨by cases re <;> simp [Sk.norm] at hgo ⊢, h5, (fun t' hh => by cases hh)⟩
theorem partReadAt_ok {e : REnv} {b : List UInt8} {n total : Nat} {ev : Sk} {re : Bool} {s : St} {H : Heap} {a0 : Value} {db o dn dc : Nat} {cs : Array Value} {t : TypeId}
    (ha : Value.cells a0 = #[.pointer (some ⟨e.pt, 0, none⟩)]) (h : RB e b n total ev re s H) (hd : H[db]? = some (.cells cs t (0, 0))) (hdn : o + dn ≤ cs.size) (hdc : dn ≤ dc) (h0 : 0 < dn) (hd38 : dn < 2 ^ 38)
    (hdb : db ∉ e.pt :: e.mr :: e.tb :: e.S.ids) (hdB : e.B ≤ db) (hdv : blk e.S.v ≠ some db) :
    CallsH Tryz.prog 236 #[a0, .slice (some ⟨db, o, none⟩) dn dc] H fun x H' => ∃ (k n' total' : Nat) (ev' : Sk) (re' : Bool) (s' : St), x = .tuple #[.int .i64 k, skV e.E e.U (if n' = 0 then ev' else .go)] ∧ k ≤ dn ∧ k ≤ b.length ∧ RB e (b.drop k) n' total' ev' re' s' H' ∧
      H'[db]? = some (.cells (putAt cs o ((b.take k).map byteV)) t (0, 0)) ∧ Frm (db :: e.pt :: e.S.ids) H H' ∧ (n' = 0 → ev' = .go → 0 < k) ∧ (k = 0 → n' = 0) := by
  have hdp : db ≠ e.pt := fun hh => hdb (by simp [hh])
  have hdi : db ∉ e.S.ids := fun hh => hdb (by simp [hh])
  have hd0 : db ≠ 0 := by have := h.er.b16; omega
  apply s225
  simp only [c225, New, Q0, Q1, Q2, Q3, Q4, Q5, Q6, Q7, Q8, Q9, Qa, Qb, Qc, Qd, Qe, Qf, Qg, Qh, Qi, Qj, ha]
  have hp0 := push_same H (.cells #[.pointer (some ⟨e.pt, 0, none⟩)] 128 (0, 0))
  have hB := h.push (.cells #[.pointer (some ⟨e.pt, 0, none⟩)] 128 (0, 0))
  have hd1 : (H.push (.cells #[.pointer (some ⟨e.pt, 0, none⟩)] 128 (0, 0)))[db]? = some (.cells cs t (0, 0)) := push_old hd
  have hf0 : Frm (db :: e.pt :: e.S.ids) H (H.push (.cells #[.pointer (some ⟨e.pt, 0, none⟩)] 128 (0, 0))) := Frm.push _ _ _
  generalize hH0 : H.push (.cells #[.pointer (some ⟨e.pt, 0, none⟩)] 128 (0, 0)) = H0 at *
  simp only [Q0, Q1, Q2, Q3, Q4, Q5, Q6, Q7, Q8, Q9, Qa, Qb, Qc, Qd, Qe, Qf, Qg, Qh, Qi, Qj, cellH_of hp0, cellH_of hB.hp, ptCells, cellH_of hB.ma.hm, MRf.cells, hB.ma.hbr]
  refine ⟨fun μ vs H1 => ∃ n ev re s, vs = [] ∧ μ = 2 * (((b ++ e.tail).length - (s.w - s.r)) + (if re then 0 else 1)) + (if (n == 0 && ev.isGo) then 1 else 0) ∧ RB e b n total ev re s H1 ∧ Frm (e.pt :: e.S.ids) H0 H1,
    ⟨_, n, ev, re, s, rfl, rfl, hB, Frm.refl _ _⟩, ?_⟩
  clear hB h
  rintro μ vs H1 ⟨n, ev, re, s, rfl, rfl, h1, f1⟩
  have hrl := h1.rd.rest_len
  rw [h1.rest] at hrl
  have hrw := h1.rd.rw
  have hw4 := h1.rd.w4
  have hd2 : H1[db]? = some (.cells cs t (0, 0)) := f1.get hd1 (by
    intro hh
    rcases List.mem_cons.1 hh with hh | hh
    · exact hdp hh
    · exact hdi hh)
  refine ⟨fun vs H' => H' = H1 ∧ vs = [.bool (n == 0 && ev.isGo)], ?_, ?_⟩
  · have z : (((n : Nat) : Int) == 0) = (n == 0) := by
      rw [Bool.eq_iff_iff, beq_iff_eq, beq_iff_eq]; omega
    simp only [Q0, Q1, Q2, Q3, Q4, Q5, Q6, Q7, Q8, Q9, Qa, Qb, Qc, Qd, Qe, Qf, Qg, Qh, Qi, Qj, Qk, Ql, Qm, Qn, Qo, Qp, Qq, Qr, Qs, cellH_of h1.hp, ptCells, z, skV_nil]
    refine Br_intro (fun hh => ?_) (fun hh => ?_) <;> simp only [Q0, Q1, Q2, Q3, Q4, Q5, Q6, Q7, Q8, Q9, Qa, Qb, Qc, Qd, Qe, Qf, Qg, Qh, Qi, Qj, hh, if_true, Bool.false_eq_true, if_false] <;> simp
  · rintro _ H1 ⟨rfl, rfl⟩
    simp only [Q0, Q1, Q2, Q3, Q4, Q5, Q6, Q7, Q8, Q9, Qa, Qb, Qc, Qd, Qe, Qf, Qg, Qh, Qi, Qj]
    refine Br_intro (fun hc => ?_) (fun hc => ?_)
    · -- nothing is known: scan
      simp only [Bool.and_eq_true, beq_iff_eq] at hc
      obtain ⟨rfl, hev⟩ := hc
      have hev' : ev = .go := ev.isGo_iff.1 hev
      subst hev'
      refine (buffered_ok h1.rd).mono ?_
      rintro x H2 ⟨rfl, rfl⟩
      refine (peek_ok h1.rd (n := s.w - s.r) (by omega)).mono ?_
      rintro x H3 ⟨u, s3, rfl, hpk⟩
      obtain ⟨eb, er, ew, ee, ep⟩ := hpk.same (Nat.le_refl _)
      have h3 : RB e b 0 total .go re s3 H3 := h1.step hpk.rd hpk.frm hpk.rest hpk.grown (fun hh => by rw [ep]; exact hh)
      have hwr : s3.w - s3.r = s.w - s.r := by rw [er, ew]
      have hub := hpk.bytes
      rw [h1.rest] at hub
      simp only [Q0, Q1, Q2, Q3, Q4, Q5, Q6, Q7, Q8, Q9, Qa, Qb, Qc, Qd, Qe, Qf, Qg, Qh, Qi, Qj, cellH_of h3.hp, ptCells, cellH_of h3.ma.hm, MRf.cells]
      have hdash := h3.ma.dash
      have hnld := h3.ma.nld
      have hul : ((b ++ e.tail).take (s.w - s.r)).length = s.w - s.r := by rw [List.length_take]; omega
      have hdl := dashOf_length e.bd
      have hnl := nldOf_length e.bd
      have hbl := h1.bdr.len
      have htot := h1.tot
      refine (scan_ok (t := 109) (x := .pointer (some e.ua)) (E := e.E) (re := re) hub hdash hnld (by cases re <;> rfl) h3.er.eof (fun ht => ?_) (by rw [hul]; omega) (by show (nldOf e.bd).length < _; omega) ⟨_, rfl⟩).mono ?_
      · have h5 := h1.t0 (by omega)
        rw [← Bool.not_eq_true, List.isPrefixOf_iff_prefix] at h5 ⊢
        exact fun hh => h5 (hh.trans (List.take_prefix _ _))
      rintro x H4 ⟨rfl, k, sk, rfl, hout⟩
      rw [← hwr] at hout
      obtain ⟨k1, k2, k3, k4, k5⟩ := h3.scan hout
      simp only [Q0, Q1, Q2, Q3, Q4, Q5, Q6, Q7, Q8, Q9, Qa, Qb, Qc, Qd, Qe, Qf, Qg, Qh, Qi, Qj]
      refine h3.put (n' := k) (total' := total) (ev' := .go) (re' := re) (by omega) rfl (by simp only [ptCells, Qt, Qu, Qv]) fun H5 hp5 rd5 ma5 er5 f5 z5 => ?_
      have h5 : RB e b k total .go re s3 H5 := { h3 with rd := rd5, ma := ma5, hp := hp5, er := er5, nb := k1, nk := k2, full := fun t ht => ⟨(h3.full t ht).1, (h3.full t ht).2.1, by simp, by simp⟩ }
      rw [norm_V e re sk]
      refine h5.put (n' := k) (total' := total) (ev' := sk.norm re) (re' := re) (by omega) (skV_one e _) (by simp only [ptCells, Qt, Qu, Qv]) fun H6 hp6 rd6 ma6 er6 f6 z6 => ?_
      have h6 : RB e b k total (sk.norm re) re s3 H6 := { h5 with rd := rd6, ma := ma6, hp := hp6, er := er6, full := fun t ht => ⟨(h3.full t ht).1, (h3.full t ht).2.1, (k3 t ht).1, (k3 t ht).2⟩, cut := fun hc => ⟨k4 hc, (h5.cut hc).2⟩ }
      have f36 : Frm (e.pt :: e.S.ids) H0 H6 := ((f1.trans (hpk.frm.mono (fun x hx => List.mem_cons_of_mem _ hx))).trans (f5.mono (by simp))).trans (f6.mono (by simp))
      refine ⟨fun vs H' => H' = H6 ∧ vs = [.bool (k == 0 && (sk.norm re).isGo)], ?_, ?_⟩
      · have z : (((k : Nat) : Int) == 0) = (k == 0) := by
          rw [Bool.eq_iff_iff, beq_iff_eq, beq_iff_eq]; omega
        simp only [Q0, Q1, Q2, Q3, Q4, Q5, Q6, Q7, Q8, Q9, Qa, Qb, Qc, Qd, Qe, Qf, Qg, Qh, Qi, Qj, Qk, Ql, Qm, Qn, Qo, Qp, Qq, Qr, Qs, cellH_of h6.hp, ptCells, z, skV_nil]
        refine Br_intro (fun hh => ?_) (fun hh => ?_) <;> simp only [Q0, Q1, Q2, Q3, Q4, Q5, Q6, Q7, Q8, Q9, Qa, Qb, Qc, Qd, Qe, Qf, Qg, Qh, Qi, Qj, hh, if_true, Bool.false_eq_true, if_false] <;> simp
      · rintro _ H6 ⟨rfl, rfl⟩
        simp only [Q0, Q1, Q2, Q3, Q4, Q5, Q6, Q7, Q8, Q9, Qa, Qb, Qc, Qd, Qe, Qf, Qg, Qh, Qi, Qj]
        refine Br_intro (fun hc => ?_) (fun hc => ?_)
        · simp only [Bool.and_eq_true, beq_iff_eq] at hc
          obtain ⟨rfl, hnn⟩ := hc
          have hgo : sk.norm re = .go := (Sk.isGo_iff _).1 hnn
          obtain ⟨hre, h100, hfull⟩ := k5 rfl hgo
          subst hre
          rw [hgo] at h6
          have hulen := hub.len
          rw [hul] at hulen
          have e1 : IntKind.i64.wrap (((s.w - s.r : Nat) : Int) + 1) = ((s.w - s.r + 1 : Nat) : Int) := by rw [wrap_i64 (by omega) (by omega)]; omega
          simp only [hulen, Q0, Q1, Q2, Q3, Q4, Q5, Q6, Q7, Q8, Q9, Qa, Qb, Qc, Qd, Qe, Qf, Qg, Qh, Qi, Qj, Qk, Ql, Qm, Qn, Qo, Qp, Qq, Qr, Qs, e1]
          refine (peek_ok h6.rd (n := s.w - s.r + 1) (by omega)).mono ?_
          rintro x H7 ⟨u7, s7, rfl, hp7⟩
          have hrl7 := hp7.rd.rest_len
          rw [hp7.rest, h6.rest] at hrl7
          have hgr := hp7.grown
          have hen := hp7.enough
          rw [h6.rest] at hen
          have h7 : RB e b 0 total .go false s7 H7 := h6.step hp7.rd hp7.frm hp7.rest hp7.grown (fun hh => by
            have := hp7.rd.pl
            have h8 := h6.rd.rest_len
            rw [h6.rest] at h8
            have := h6.rd.rw
            have := hp7.rd.rw
            omega)
          rw [h6.rest]
          simp only [Q0, Q1, Q2, Q3, Q4, Q5, Q6, Q7, Q8, Q9, Qa, Qb, Qc, Qd, Qe, Qf, Qg, Qh, Qi, Qj]
          by_cases hlt : (b ++ e.tail).length < s.w - s.r + 1
          · have hE2 : e.S.er (decide ((b ++ e.tail).length < s.w - s.r + 1)) = .iface 109 (.pointer (some e.ea)) := by
              rw [decide_eq_true hlt, er_true, h7.hE.1, h7.hE.2]
            rw [hE2]
            refine Store_of h7.hp (by simp [ptCells]) rfl fun H8 hb8 f8 z8 => ?_
            simp only [ptCells, Qt, Qu, Qv] at hb8
            obtain ⟨rd8, ma8, er8⟩ := h7.keep f8
            simp only [Q0, Q1, Q2, Q3, Q4, Q5, Q6, Q7, Q8, Q9, Qa, Qb, Qc, Qd, Qe, Qf, Qg, Qh, Qi, Qj, cellH_of hb8, er8.eof.load, eq_same, er8.load16]
            refine Store_of hb8 (by simp) rfl fun H9 hb9 f9 z9 => ?_
            simp only [Qt, Qu, Qv] at hb9
            obtain ⟨rd9, ma9, er9⟩ := h7.keep (f8.trans f9)
            have hnone : e.mode = none := by
              cases hm : e.mode with
              | none => rfl
              | some t => have := hfull t hm; omega
            have h9 : RB e b 0 total .go true s7 H9 := { h7 with rd := rd9, ma := ma9, hp := hb9, er := er9, full := (fun t ht => by rw [hnone] at ht; cases ht), cut := fun _ => ⟨by simp, fun _ => (hp7.ended (by rw [h6.rest]; exact hlt)).1⟩ }
            refine ⟨_, ?_, 0, .go, true, s7, trivial, rfl, h9, ((f36.trans (hp7.frm.mono (fun x hx => List.mem_cons_of_mem _ hx))).trans (f8.mono (by simp))).trans (f9.mono (by simp))⟩
            have := hp7.rd.rw
            simp [Sk.isGo]
            omega
          · have hE2 : e.S.er (decide ((b ++ e.tail).length < s.w - s.r + 1)) = .nilIface := by
              rw [decide_eq_false hlt, er_false]
            rw [hE2]
            refine h7.put (n' := 0) (total' := total) (ev' := .go) (re' := false) (by omega) rfl (by simp only [ptCells, Qt, Qu, Qv]; rfl) fun H8 hp8 rd8 ma8 er8 f8 z8 => ?_
            have h8 : RB e b 0 total .go false s7 H8 := { h7 with rd := rd8, ma := ma8, hp := hp8, er := er8 }
            have hrv : e.rv false = .nilIface := rfl
            simp only [Q0, Q1, Q2, Q3, Q4, Q5, Q6, Q7, Q8, Q9, Qa, Qb, Qc, Qd, Qe, Qf, Qg, Qh, Qi, Qj, cellH_of h8.hp, ptCells, hrv, er8.eof.load, eq_nil]
            refine ⟨_, ?_, 0, .go, false, s7, trivial, rfl, h8, (f36.trans (hp7.frm.mono (fun x hx => List.mem_cons_of_mem _ hx))).trans (f8.mono (by simp))⟩
            have := hp7.rd.rw
            have h4 : min (s.w - s.r + 1) (b ++ e.tail).length ≤ s7.w - s7.r := hen
            simp [Sk.isGo] at hlt ⊢
            rw [List.length_append] at h4
            omega
        · refine ⟨_, ?_, k, _, re, s3, trivial, rfl, h6, f36⟩
          rw [hc, hwr]
          simp [Sk.isGo]
    · have z : ∀ k : Nat, (((k : Nat) : Int) == 0) = (k == 0) := fun k => by
        rw [Bool.eq_iff_iff, beq_iff_eq, beq_iff_eq]; omega
      have f01 : Frm (db :: e.pt :: e.S.ids) H H1 := hf0.trans (f1.mono (fun x hx => List.mem_cons_of_mem _ hx))
      have htot := h1.tot
      simp only [Q0, Q1, Q2, Q3, Q4, Q5, Q6, Q7, Q8, Q9, Qa, Qb, Qc, Qd, Qe, Qf, Qg, Qh, Qi, Qj, Qk, Ql, Qm, Qn, Qo, Qp, Qq, Qr, Qs, cellH_of h1.hp, ptCells, z]
      refine Br_intro (fun hn0 => ?_) (fun hn0 => ?_)
      · have hn : n = 0 := by simpa using hn0
        subst hn
        have hev : ev ≠ .go := by
          rintro rfl
          simp [Sk.isGo] at hc
        exact ⟨0, 0, total, ev, re, s, rfl, Nat.zero_le _, Nat.zero_le _, h1, hd2, f01, fun _ hh => absurd hh hev, fun _ => rfl⟩
      · have hn : 0 < n := by
          rcases Nat.eq_zero_or_pos n with h | h
          · rw [h] at hn0; simp at hn0
          · exact h
        have hnb := h1.nb
        have hnk := h1.nk
        refine ⟨fun vs H' => vs = [.int .i64 ((min dn n : Nat) : Int)] ∧ H' = H1, ?_, ?_⟩
        · refine Br_intro (fun hh => ?_) (fun hh => ?_) <;> simp at hh ⊢ <;> omega
        · rintro _ H1 ⟨rfl, rfl⟩
          generalize hk : min dn n = k
          have hk0 : 0 < k := by omega
          have hkb : k ≤ b.length := by omega
          simp only [Q0, Q1, Q2, Q3, Q4, Q5, Q6, Q7, Q8, Q9, Qa, Qb, Qc, Qd, Qe, Qf, Qg, Qh, Qi, Qj]
          rw [sliceV_hi (by omega), Q6]
          refine (read_ok h1.rd hd2 hdi hdv hd0 (by omega) hk0 (by omega)).mono ?_
          rintro x H2 ⟨s2, rfl, rd2, hr2, he2, hp2, hw2, hrr2, hdb2, f2, z2⟩
          rw [h1.rest] at hr2 hdb2
          rw [List.take_append_of_le_length hkb] at hdb2
          rw [List.drop_append_of_le_length hkb] at hr2
          have hnx : ∀ x ∈ e.pt :: e.mr :: e.tb :: [], x ∉ db :: e.S.ids := by
            intro x hx hm
            rcases List.mem_cons.1 hm with rfl | hm
            · exact hdb (by simp at hx; simp; omega)
            · simp only [List.mem_cons, List.not_mem_nil, or_false] at hx
              rcases hx with rfl | rfl | rfl
              · exact h1.hpt (by simp [hm])
              · exact h1.ma.hmr hm
              · exact h1.ma.ht (by simp [hm])
          have hp2' := f2.get h1.hp (hnx _ (by simp))
          have ma2 := h1.ma.frm f2 (hnx _ (by simp)) (hnx _ (by simp))
          have er2 := h1.er.frm f2 (fun x hx => by
            rcases List.mem_cons.1 hx with rfl | hx
            · exact hdB
            · exact h1.low x (by simp [hx]))
          have e1 : IntKind.i64.wrap ((total : Int) + (k : Int)) = ((total + k : Nat) : Int) := by rw [wrap_i64 (by omega) (by omega)]; omega
          have e2 : IntKind.i64.wrap ((n : Int) - (k : Int)) = ((n - k : Nat) : Int) := by rw [wrap_i64 (by omega) (by omega)]; omega
          simp only [Q0, Q1, Q2, Q3, Q4, Q5, Q6, Q7, Q8, Q9, Qa, Qb, Qc, Qd, Qe, Qf, Qg, Qh, Qi, Qj, Qk, Ql, Qm, Qn, Qo, Qp, Qq, Qr, Qs, cellH_of hp2', ptCells, e1]
          refine Store_of hp2' (by simp [ptCells]) rfl fun H3 hp3 f3 z3 => ?_
          simp only [ptCells, Qt, Qu, Qv] at hp3
          simp only [Q0, Q1, Q2, Q3, Q4, Q5, Q6, Q7, Q8, Q9, Qa, Qb, Qc, Qd, Qe, Qf, Qg, Qh, Qi, Qj, Qk, Ql, Qm, Qn, Qo, Qp, Qq, Qr, Qs, cellH_of hp3, e2]
          refine Store_of hp3 (by simp) rfl fun H4 hp4 f4 z4 => ?_
          simp only [Qt, Qu, Qv] at hp4
          obtain ⟨rd4, ma4, er4⟩ := keep_of rd2 ma2 er2 h1.low h1.hpt h1.hpv (f3.trans f4)
          have hdb4 := (f3.trans f4).get hdb2 (by simpa using hdp)
          have f14 : Frm (db :: e.pt :: e.S.ids) H1 H4 := (f2.mono (fun x hx => by simp at hx ⊢; rcases hx with h | h <;> simp [h])).trans ((f3.trans f4).mono (by simp))
          have h4 : RB e (b.drop k) (n - k) (total + k) ev re s2 H4 :=
            { rd := rd4, ma := ma4, hp := hp4, er := er4, bdr := h1.bdr, rest := hr2, nw := h1.nw.drop k, t0 := fun h => by omega, nb := by rw [List.length_drop]; omega, nk := by omega
              full := fun t ht => ⟨(h1.full t ht).1, (h1.full t ht).2.1, (h1.full t ht).2.2.1, fun hh => by rw [List.length_drop, (h1.full t ht).2.2.2 hh]⟩
              cut := fun hc => ⟨(h1.cut hc).1, fun hh => by rw [hp2]; exact (h1.cut hc).2 hh⟩
              tot := by rw [List.length_drop]; omega
              low := h1.low, hpt := h1.hpt, hpv := h1.hpv, hE := h1.hE }
          simp only [Q0, Q1, Q2, Q3, Q4, Q5, Q6, Q7, Q8, Q9, Qa, Qb, Qc, Qd, Qe, Qf, Qg, Qh, Qi, Qj, Qk, Ql, Qm, Qn, Qo, Qp, Qq, Qr, Qs, cellH_of hp4, z]
          refine Br_intro (fun hh => ?_) (fun hh => ?_)
          · refine ⟨k, n - k, total + k, ev, re, s2, ?_, by omega, hkb, h4, hdb4, f01.trans f14, fun _ _ => hk0, fun hh => by omega⟩
            have : n - k = 0 := by simpa using hh
            rw [if_pos this]
          · refine ⟨k, n - k, total + k, ev, re, s2, ?_, by omega, hkb, h4, hdb4, f01.trans f14, fun _ _ => hk0, fun hh => by omega⟩
            have : n - k ≠ 0 := by simpa using hh
            rw [if_neg this]
            rfl
theorem partRead_ok {e : REnv} {b : List UInt8} {n total : Nat} {ev : Sk} {re : Bool} {s : St} {H : Heap} {a0 : Value} {db dn dc : Nat} {cs : Array Value} {t : TypeId}
    (ha : Value.cells a0 = #[.pointer (some ⟨e.pt, 0, none⟩)]) (h : RB e b n total ev re s H) (hd : H[db]? = some (.cells cs t (0, 0))) (hdn : dn ≤ cs.size) (hdc : dn ≤ dc) (h0 : 0 < dn) (hd38 : dn < 2 ^ 38)
    (hdb : db ∉ e.pt :: e.mr :: e.tb :: e.S.ids) (hdB : e.B ≤ db) (hdv : blk e.S.v ≠ some db) :
    CallsH Tryz.prog 236 #[a0, .slice (some ⟨db, 0, none⟩) dn dc] H fun x H' => ∃ (k n' total' : Nat) (ev' : Sk) (re' : Bool) (s' : St), x = .tuple #[.int .i64 k, skV e.E e.U (if n' = 0 then ev' else .go)] ∧ k ≤ dn ∧ k ≤ b.length ∧ RB e (b.drop k) n' total' ev' re' s' H' ∧
      H'[db]? = some (.cells (putAt cs 0 ((b.take k).map byteV)) t (0, 0)) ∧ Frm (db :: e.pt :: e.S.ids) H H' ∧ (n' = 0 → ev' = .go → 0 < k) ∧ (k = 0 → n' = 0) :=
  partReadAt_ok (o := 0) ha h hd (by omega) hdc h0 hd38 hdb hdB hdv
end Go.Cps
namespace Go.Cps
open Go Go.Proofs Go.Shelf
set_option maxRecDepth 100000
def lay290_ren : Ren := ⟨fun x => match x with | 290 => 117 | 324 => 139 | n => n, fun x => match x with | 37 => 27 | 3 => 3 | 0 => 0 | 4 => 4 | 20 => 20 | 75 => 43 | 5 => 5 | 80 => 49 | 9 => 9 | n => n, fun x => match x with | 14 => 13 | n => n⟩
theorem lay290 : LaysM.n290 Tryz.prog lay290_ren :=
  { mixed := by kernel_rfl,
    f290 := by kernel_rfl,
    f324 := by kernel_rfl,
    t0 := by kernel_rfl,
    a0 := fun _ => by kernel_rfl,
    z0 := fun _ => by kernel_rfl,
    v0 := fun _ => by kernel_rfl,
    t3 := by kernel_rfl,
    a3 := fun _ => by kernel_rfl,
    z3 := fun _ => by kernel_rfl,
    v3 := fun _ => by kernel_rfl,
    t4 := by kernel_rfl,
    a4 := fun _ => by kernel_rfl,
    z4 := fun _ => by kernel_rfl,
    v4 := fun _ => by kernel_rfl,
    t20 := by kernel_rfl,
    a20 := fun _ => by kernel_rfl,
    z20 := fun _ => by kernel_rfl,
    v20 := fun _ => by kernel_rfl,
    t37 := by kernel_rfl,
    a37 := fun _ => by kernel_rfl,
    z37 := fun _ => by kernel_rfl,
    v37 := fun _ => by kernel_rfl,
    t75 := by kernel_rfl,
    a75 := fun _ => by kernel_rfl,
    z75 := fun _ => by kernel_rfl,
    v75 := fun _ => by kernel_rfl,
    g14 := by kernel_rfl,
    t5 := by kernel_rfl,
    a5 := fun _ => by kernel_rfl,
    z5 := fun _ => by kernel_rfl,
    v5 := fun _ => by kernel_rfl,
    t9 := by kernel_rfl,
    a9 := fun _ => by kernel_rfl,
    z9 := fun _ => by kernel_rfl,
    v9 := fun _ => by kernel_rfl,
    t80 := by kernel_rfl,
    a80 := fun _ => by kernel_rfl,
    z80 := fun _ => by kernel_rfl,
    v80 := fun _ => by kernel_rfl,
    i0 := by kernel_rfl,
    i3 := by kernel_rfl,
    i4 := by kernel_rfl,
    i5 := by kernel_rfl,
    i9 := by kernel_rfl,
    i20 := by kernel_rfl,
    i37 := by kernel_rfl,
    i75 := by kernel_rfl,
    i80 := by kernel_rfl,
    m14 := by kernel_rfl }
theorem below_frm {w w' : World} {H : Heap} (hw : w.heap = H) (h : Go.RowKit.Below w.heap.size w w') : Same w w' ∧ Frm [] H w'.heap := by
  subst hw
  exact ⟨⟨h.os, h.tape, h.output⟩, h.size, fun k hk _ => h.block k hk⟩
theorem growSlice_ok {g l c n : Nat} {cur : Array Value} {H : Heap} (hg : H[g]? = some (.cells cur 5 (0, 0))) (hcs : cur.size = c) (hlc : l ≤ c) (hn : 1 ≤ n) (hlim : l + n ≤ 2 ^ 46) (hc2 : c ≤ 2 ^ 46) (h1 : ∀ v ∈ cur.toList.take l, v.oneCell' = true) :
    CallsH Tryz.prog 117 #[.slice (some ⟨g, 0, none⟩) l c, .int .i64 n] H fun x H' => ∃ cap2 cells, x = .slice (some ⟨H.size, 0, none⟩) l cap2 ∧ H'[H.size]? = some (.cells cells 5 (0, 0)) ∧ cells.size = cap2 ∧ cells.toList.take l = cur.toList.take l ∧ l + n ≤ cap2 ∧ cap2 ≤ maxLen ∧ Frm [] H H' := by
  intro w hw
  subst hw
  refine (Any.bytes_growSlice_row lay290 g l c n cur w hg hcs hlc hn (by omega) (by omega) h1).mono ?_
  rintro e w' ⟨cap2, cells, rfl, h2, h3, h4, h5, h6, hb⟩
  obtain ⟨hs, hf⟩ := below_frm rfl hb
  exact ⟨_, rfl, hs, cap2, cells, rfl, h2, h3, h4, h5, h6, hf⟩
theorem growNil_ok {n : Nat} {H : Heap} (hn : 1 ≤ n) (hlim : n ≤ 2 ^ 46) :
    CallsH Tryz.prog 117 #[.slice none 0 0, .int .i64 n] H fun x H' => ∃ cap2 cells, x = .slice (some ⟨H.size, 0, none⟩) 0 cap2 ∧ H'[H.size]? = some (.cells cells 5 (0, 0)) ∧ cells.size = cap2 ∧ n ≤ cap2 ∧ cap2 ≤ maxLen ∧ Frm [] H H' := by
  intro w hw
  subst hw
  refine (Any.bytes_growSlice_nil lay290 n w hn (by omega)).mono ?_
  rintro e w' ⟨cap2, cells, rfl, h2, h3, h4, h6, hb⟩
  obtain ⟨hs, hf⟩ := below_frm rfl hb
  exact ⟨_, rfl, hs, cap2, cells, rfl, h2, h3, h4, h6, hf⟩
end Go.Cps
namespace Go.Cps
open Go Go.Proofs
set_option maxRecDepth 100000
def c30 (a0 : Value) (H : Heap) (R : Value → Heap → Prop) : Prop :=
  Get ((fillV #[(0, 1), (1, 1), (2, 1)] #[.nilIface, (.string ⟨#[]⟩), (.pointer none)] [(0, a0), (1, (.string ⟨#[]⟩))]).map .agg) fun x4 =>
  New (.cells (Value.cells x4) 89 (0, 0)) H fun x5 H =>
  R x5 H
def p30 : Plan := .seq (.leaf []) (.seq (.leaf []) (.leaf []))
theorem s30 {a0 : Value} {H : Heap} {R : Value → Heap → Prop} (h : c30 a0 H R) : CallsH Tryz.prog 21 #[a0] H R :=
  callsH_of_eq p30 (fn := Tryz.f21) (c := Tryz.f21.body.getD .skip) (args := [a0]) Tryz.func21 (by kernel_rfl) mixed (by kernel_rfl) (by kernel_rfl) (by kernel_rfl) h
def c31 (a0 a1 : Value) (H : Heap) (R : Value → Heap → Prop) : Prop :=
  Fld 2 a0 H fun x11 =>
  Get (nilV2 .neq (.pointer none) x11) fun x12 =>
  Br x12 (
  CallsH Tryz.prog 37 #[(.string ⟨#[109, 105, 109, 101, 58, 32, 83, 101, 116, 66, 111, 117, 110, 100, 97, 114, 121, 32, 99, 97, 108, 108, 101, 100, 32, 97, 102, 116, 101, 114, 32, 119, 114, 105, 116, 101]⟩)] H fun x13 H =>
  R x13 H) (
  Join (fun K1 =>
  Get (lenStrV a1) fun x15 =>
  Get (arithV .lss .i64 x15 (.int .i64 1)) fun x16 =>
  Br x16 (
  Get (pickV (.bool true) (.bool true) undef) fun x21 =>
  K1 [x21] H) (
  Get (lenStrV a1) fun x19 =>
  Get (arithV .gtr .i64 x19 (.int .i64 70)) fun x20 =>
  Get (pickV (.bool false) (.bool true) x20) fun x21_1 =>
  K1 [x21_1] H)) fun vs2 H =>
  Br (nth vs2 0) (
  CallsH Tryz.prog 37 #[(.string ⟨#[109, 105, 109, 101, 58, 32, 105, 110, 118, 97, 108, 105, 100, 32, 98, 111, 117, 110, 100, 97, 114, 121, 32, 108, 101, 110, 103, 116, 104]⟩)] H fun x22 H =>
  R x22 H) (
  Get (lenStrV a1) fun x24 =>
  Get (arithV .sub .i64 x24 (.int .i64 1)) fun x25 =>
  ExecV Tryz.prog (Instr.range 9 a1) H fun x27 H =>
  Loop [] H fun K3 _ H =>
  ExecV Tryz.prog (Instr.next x27 true 0) H fun x28 H =>
  Get (extractV x28 0) fun x29 =>
  Br x29 (
  Get (extractV x28 1) fun x30 =>
  Get (extractV x28 2) fun x31 =>
  Join (fun K5 =>
  Get (arithV .leq .i32 (.int .i32 65) x31) fun x33 =>
  Br x33 (
  Get (arithV .leq .i32 x31 (.int .i32 90)) fun x36 =>
  Get (pickV (.bool true) x36 (.bool false)) fun x37 =>
  Br x37 (
  Get (pickV (.bool true) (.bool true) undef) fun x45 =>
  Br x45 (
  Get (pickV (.bool true) (.bool true) undef) fun x53 =>
  K5 [x53] H) (
  Get (arithV .leq .i32 (.int .i32 48) x31) fun x48 =>
  Br x48 (
  Get (arithV .leq .i32 x31 (.int .i32 57)) fun x51 =>
  Get (pickV (.bool true) x51 (.bool false)) fun x52 =>
  Get (pickV (.bool false) (.bool true) x52) fun x53_1 =>
  K5 [x53_1] H) (
  Get (pickV (.bool false) undef (.bool false)) fun x52_1 =>
  Get (pickV (.bool false) (.bool true) x52_1) fun x53_2 =>
  K5 [x53_2] H))) (
  Get (arithV .leq .i32 (.int .i32 97) x31) fun x40 =>
  Br x40 (
  Get (arithV .leq .i32 x31 (.int .i32 122)) fun x43 =>
  Get (pickV (.bool true) x43 (.bool false)) fun x44 =>
  Get (pickV (.bool false) (.bool true) x44) fun x45_1 =>
  Br x45_1 (
  Get (pickV (.bool true) (.bool true) undef) fun x53_3 =>
  K5 [x53_3] H) (
  Get (arithV .leq .i32 (.int .i32 48) x31) fun x48_1 =>
  Br x48_1 (
  Get (arithV .leq .i32 x31 (.int .i32 57)) fun x51_1 =>
  Get (pickV (.bool true) x51_1 (.bool false)) fun x52_2 =>
  Get (pickV (.bool false) (.bool true) x52_2) fun x53_4 =>
  K5 [x53_4] H) (
  Get (pickV (.bool false) undef (.bool false)) fun x52_3 =>
  Get (pickV (.bool false) (.bool true) x52_3) fun x53_5 =>
  K5 [x53_5] H))) (
  Get (pickV (.bool false) undef (.bool false)) fun x44_1 =>
  Get (pickV (.bool false) (.bool true) x44_1) fun x45_2 =>
  Br x45_2 (
  Get (pickV (.bool true) (.bool true) undef) fun x53_6 =>
  K5 [x53_6] H) (
  Get (arithV .leq .i32 (.int .i32 48) x31) fun x48_2 =>
  Br x48_2 (
  Get (arithV .leq .i32 x31 (.int .i32 57)) fun x51_2 =>
  Get (pickV (.bool true) x51_2 (.bool false)) fun x52_4 =>
  Get (pickV (.bool false) (.bool true) x52_4) fun x53_7 =>
  K5 [x53_7] H) (
  Get (pickV (.bool false) undef (.bool false)) fun x52_5 =>
  Get (pickV (.bool false) (.bool true) x52_5) fun x53_8 =>
  K5 [x53_8] H))))) (
  Get (pickV (.bool false) undef (.bool false)) fun x37_1 =>
  Br x37_1 (
  Get (pickV (.bool true) (.bool true) undef) fun x45_3 =>
  Br x45_3 (
  Get (pickV (.bool true) (.bool true) undef) fun x53_9 =>
  K5 [x53_9] H) (
  Get (arithV .leq .i32 (.int .i32 48) x31) fun x48_3 =>
  Br x48_3 (
  Get (arithV .leq .i32 x31 (.int .i32 57)) fun x51_3 =>
  Get (pickV (.bool true) x51_3 (.bool false)) fun x52_6 =>
  Get (pickV (.bool false) (.bool true) x52_6) fun x53_10 =>
  K5 [x53_10] H) (
  Get (pickV (.bool false) undef (.bool false)) fun x52_7 =>
  Get (pickV (.bool false) (.bool true) x52_7) fun x53_11 =>
  K5 [x53_11] H))) (
  Get (arithV .leq .i32 (.int .i32 97) x31) fun x40_1 =>
  Br x40_1 (
  Get (arithV .leq .i32 x31 (.int .i32 122)) fun x43_1 =>
  Get (pickV (.bool true) x43_1 (.bool false)) fun x44_2 =>
  Get (pickV (.bool false) (.bool true) x44_2) fun x45_4 =>
  Br x45_4 (
  Get (pickV (.bool true) (.bool true) undef) fun x53_12 =>
  K5 [x53_12] H) (
  Get (arithV .leq .i32 (.int .i32 48) x31) fun x48_4 =>
  Br x48_4 (
  Get (arithV .leq .i32 x31 (.int .i32 57)) fun x51_4 =>
  Get (pickV (.bool true) x51_4 (.bool false)) fun x52_8 =>
  Get (pickV (.bool false) (.bool true) x52_8) fun x53_13 =>
  K5 [x53_13] H) (
  Get (pickV (.bool false) undef (.bool false)) fun x52_9 =>
  Get (pickV (.bool false) (.bool true) x52_9) fun x53_14 =>
  K5 [x53_14] H))) (
  Get (pickV (.bool false) undef (.bool false)) fun x44_3 =>
  Get (pickV (.bool false) (.bool true) x44_3) fun x45_5 =>
  Br x45_5 (
  Get (pickV (.bool true) (.bool true) undef) fun x53_15 =>
  K5 [x53_15] H) (
  Get (arithV .leq .i32 (.int .i32 48) x31) fun x48_5 =>
  Br x48_5 (
  Get (arithV .leq .i32 x31 (.int .i32 57)) fun x51_5 =>
  Get (pickV (.bool true) x51_5 (.bool false)) fun x52_10 =>
  Get (pickV (.bool false) (.bool true) x52_10) fun x53_16 =>
  K5 [x53_16] H) (
  Get (pickV (.bool false) undef (.bool false)) fun x52_11 =>
  Get (pickV (.bool false) (.bool true) x52_11) fun x53_17 =>
  K5 [x53_17] H)))))) fun vs6 H =>
  Br (nth vs6 0) (
  K3 [] H) (
  Join (fun K7 =>
  Join (fun K8 =>
  Get (arithV .eql .i32 x31 (.int .i32 39)) fun x56 =>
  Br x56 (
  K8 [x56] H) (
  Get (arithV .eql .i32 x31 (.int .i32 40)) fun x57 =>
  Br x57 (
  K8 [x57] H) (
  Get (arithV .eql .i32 x31 (.int .i32 41)) fun x58 =>
  Br x58 (
  K8 [x58] H) (
  Get (arithV .eql .i32 x31 (.int .i32 43)) fun x59 =>
  Br x59 (
  K8 [x59] H) (
  Get (arithV .eql .i32 x31 (.int .i32 95)) fun x60 =>
  Br x60 (
  K8 [x60] H) (
  Get (arithV .eql .i32 x31 (.int .i32 44)) fun x61 =>
  Br x61 (
  K8 [x61] H) (
  Get (arithV .eql .i32 x31 (.int .i32 45)) fun x62 =>
  Br x62 (
  K8 [x62] H) (
  Get (arithV .eql .i32 x31 (.int .i32 46)) fun x63 =>
  Br x63 (
  K8 [x63] H) (
  Get (arithV .eql .i32 x31 (.int .i32 47)) fun x64 =>
  Br x64 (
  K8 [x64] H) (
  Get (arithV .eql .i32 x31 (.int .i32 58)) fun x65 =>
  Br x65 (
  K8 [x65] H) (
  Get (arithV .eql .i32 x31 (.int .i32 61)) fun x66 =>
  Br x66 (
  K8 [x66] H) (
  Get (arithV .eql .i32 x31 (.int .i32 63)) fun x67 =>
  K8 [x67] H)))))))))))) fun vs9 H =>
  Br (nth vs9 0) (
  K3 [] H) (
  Get (arithV .eql .i32 x31 (.int .i32 32)) fun x69 =>
  Br x69 (
  Get (arithV .neq .i64 x30 x25) fun x72 =>
  Br x72 (
  K3 [] H) (
  K7 [] H)) (
  K7 [] H))) fun _ H =>
  CallsH Tryz.prog 37 #[(.string ⟨#[109, 105, 109, 101, 58, 32, 105, 110, 118, 97, 108, 105, 100, 32, 98, 111, 117, 110, 100, 97, 114, 121, 32, 99, 104, 97, 114, 97, 99, 116, 101, 114]⟩)] H fun x73 H =>
  R x73 H)) (
  Get (nilV a0) fun x76 =>
  Get (fieldAddrV 1 x76) fun x77 =>
  Get (store1V x77 a1 H) fun H =>
  R .nilIface H)))
def p31 : Plan := .seq (.leaf []) (.seq (.seq (.leaf []) (.cond (.seq (.leaf []) (.leaf [])) (.leaf []))) (.seq (.join [21] (.leaf []) (.cond (.seq (.leaf []) (.leaf [])) (.leaf []))) (.seq (.leaf []) (.seq (.seq (.leaf []) (.block (.loop [] (.seq (.leaf []) (.seq (.cond (.leaf []) (.leaf [])) (.block (.seq (.leaf []) (.seq (.join [53] (.leaf []) (.cond (.leaf []) (.leaf []))) (.join [] (.seq (.leaf []) (.block (.join [55] (.seq (.leaf []) (.cond (.leaf []) (.seq (.leaf []) (.cond (.leaf []) (.seq (.leaf []) (.cond (.leaf []) (.seq (.leaf []) (.cond (.leaf []) (.seq (.leaf []) (.cond (.leaf []) (.seq (.leaf []) (.cond (.leaf []) (.seq (.leaf []) (.cond (.leaf []) (.seq (.leaf []) (.cond (.leaf []) (.seq (.leaf []) (.cond (.leaf []) (.seq (.leaf []) (.cond (.leaf []) (.seq (.leaf []) (.cond (.leaf []) (.leaf []))))))))))))))))))))))) (.cond (.leaf []) (.seq (.leaf []) (.cond (.seq (.leaf []) (.cond (.leaf []) (.leaf []))) (.leaf []))))))) (.seq (.leaf []) (.leaf []))))))))))) (.seq (.leaf []) (.seq (.leaf []) (.leaf [])))))))
theorem s31 {a0 a1 : Value} {H : Heap} {R : Value → Heap → Prop} (h : c31 a0 a1 H R) : CallsH Tryz.prog 22 #[a0, a1] H R :=
  callsH_of_eq p31 (fn := Tryz.f22) (c := Tryz.f22.body.getD .skip) (args := [a0, a1]) Tryz.func22 (by kernel_rfl) mixed (by kernel_rfl) (by kernel_rfl) (by kernel_rfl) h
def c35 (a0 : Value) (H : Heap) (R : Value → Heap → Prop) : Prop :=
  Join (fun K1 =>
  Fld 2 a0 H fun x9 =>
  Get (nilV2 .neq (.pointer none) x9) fun x10 =>
  Br x10 (
  Fld 2 a0 H fun x14 =>
  CallsH Tryz.prog 42 #[x14] H fun x15 H =>
  Get (nilV2 .neq .nilIface x15) fun x17 =>
  Br x17 (
  R x15 H) (
  Get (nilV a0) fun x20 =>
  Get (fieldAddrV 2 x20) fun x21 =>
  Get (store1V x21 (.pointer none) H) fun H =>
  K1 [] H)) (
  K1 [] H)) fun _ H =>
  Get (nilV a0) fun x24 =>
  Get (fieldAddrV 0 x24) fun x25 =>
  Get (load1V x25 H) fun x26 =>
  Fld 1 a0 H fun x30 =>
  Get (strV .add (.string ⟨#[13, 10, 45, 45]⟩) x30) fun x31 =>
  Get (strV .add x31 (.string ⟨#[45, 45, 13, 10]⟩)) fun x32 =>
  ToBytes 5 x32 H fun x33 H =>
  (load1V x25 H = some x26 ∧ True) ∧
  Get (nilV x26) fun _ =>
  Invoke Tryz.prog "Write" x26 #[x33] H fun x36 H =>
  Get (extractV x36 0) fun _ =>
  Get (extractV x36 1) fun x38 =>
  R x38 H
def p35 : Plan := .seq (.leaf []) (.join [] (.seq (.leaf []) (.cond (.seq (.seq (.leaf []) (.seq (.leaf []) (.cond (.seq (.leaf []) (.leaf [])) (.leaf [])))) (.leaf [])) (.leaf []))) (.seq (.leaf [0, 1, 2, 3, 4, 5, 6, 7, 8, 9, 10, 11, 12, 13, 14, 15, 16, 17, 18]) (.seq (.leaf []) (.leaf []))))
theorem s35 {a0 : Value} {H : Heap} {R : Value → Heap → Prop} (h : c35 a0 H R) : CallsH Tryz.prog 25 #[a0] H R :=
  callsH_of_eq p35 (fn := Tryz.f25) (c := Tryz.f25.body.getD .skip) (args := [a0]) Tryz.func25 (by kernel_rfl) mixed (by kernel_rfl) (by kernel_rfl) (by kernel_rfl) h
def c209 (a0 a1 : Value) (H : Heap) (R : Value → Heap → Prop) : Prop :=
  Get (nilV a0) fun x9 =>
  Get (fieldAddrV 2 x9) fun x10 =>
  Get (store1V x10 (.int .i8 0) H) fun H =>
  Get (lenV a1) fun x14 =>
  CallsH Tryz.prog 85 #[a0, x14] H fun x15 H =>
  Get (extractV x15 0) fun x16 =>
  Get (extractV x15 1) fun x17 =>
  Join (fun K1 =>
  Get (unV .not x17) fun x19 =>
  Br x19 (
  Get (lenV a1) fun x22 =>
  CallsH Tryz.prog 86 #[a0, x22] H fun x23 H =>
  K1 [x23] H) (
  K1 [x16] H)) fun vs2 H =>
  Fld 0 a0 H fun x27 =>
  Get (sliceV 1 x27 (some (nth vs2 0)) none none) fun x29 =>
  Copy 1 x29 a1 H fun x31 H =>
  R (.tuple #[x31, .nilIface]) H
def p209 : Plan := .seq (.leaf []) (.seq (.leaf []) (.seq (.leaf []) (.join [6] (.seq (.leaf []) (.cond (.leaf []) (.leaf []))) (.seq (.leaf []) (.leaf [])))))
theorem s209 {a0 a1 : Value} {H : Heap} {R : Value → Heap → Prop} (h : c209 a0 a1 H R) : CallsH Tryz.prog 223 #[a0, a1] H R :=
  callsH_of_eq p209 (fn := Tryz.f223) (c := Tryz.f223.body.getD .skip) (args := [a0, a1]) Tryz.func223 (by kernel_rfl) mixed (by kernel_rfl) (by kernel_rfl) (by kernel_rfl) h
def c83 (a0 a1 : Value) (H : Heap) (R : Value → Heap → Prop) : Prop :=
  Fld 0 a0 H fun x10 =>
  Get (lenV x10) fun x11 =>
  Fld 0 a0 H fun x16 =>
  Get (capV x16) fun x17 =>
  Get (arithV .sub .i64 x17 x11) fun x19 =>
  Get (arithV .leq .i64 a1 x19) fun x20 =>
  Br x20 (
  Fld 0 a0 H fun x25 =>
  Get (arithV .add .i64 x11 a1) fun x28 =>
  Get (sliceV 1 x25 none (some x28) none) fun x29 =>
  Get (nilV a0) fun x30 =>
  Get (fieldAddrV 0 x30) fun x31 =>
  Get (store1V x31 x29 H) fun H =>
  R (.tuple #[x11, (.bool true)]) H) (
  R (.tuple #[(.int .i64 0), (.bool false)]) H)
def p83 : Plan := .seq (.leaf []) (.seq (.seq (.leaf []) (.seq (.leaf []) (.cond (.seq (.leaf []) (.seq (.leaf []) (.leaf []))) (.leaf [])))) (.seq (.leaf []) (.leaf [])))
theorem s83 {a0 a1 : Value} {H : Heap} {R : Value → Heap → Prop} (h : c83 a0 a1 H R) : CallsH Tryz.prog 85 #[a0, a1] H R :=
  callsH_of_eq p83 (fn := Tryz.f85) (c := Tryz.f85.body.getD .skip) (args := [a0, a1]) Tryz.func85 (by kernel_rfl) mixed (by kernel_rfl) (by kernel_rfl) (by kernel_rfl) h
def c84 (a0 a1 : Value) (H : Heap) (R : Value → Heap → Prop) : Prop :=
  CallsH Tryz.prog 115 #[a0] H fun x10 H =>
  Join (fun K1 =>
  Join (fun K2 =>
  Get (arithV .eql .i64 x10 (.int .i64 0)) fun x12 =>
  Br x12 (
  Fld 1 a0 H fun x17 =>
  Get (arithV .neq .i64 x17 (.int .i64 0)) fun x18 =>
  Get (pickV (.bool true) x18 (.bool false)) fun x19 =>
  K2 [x19] H) (
  Get (pickV (.bool false) undef (.bool false)) fun x19_1 =>
  K2 [x19_1] H)) fun vs3 H =>
  Br (nth vs3 0) (
  CallsH Tryz.prog 116 #[a0] H fun _ H =>
  K1 [] H) (
  K1 [] H)) fun _ H =>
  CallsH Tryz.prog 85 #[a0, a1] H fun x25 H =>
  Get (extractV x25 0) fun x26 =>
  Get (extractV x25 1) fun x27 =>
  Br x27 (
  R x26 H) (
  Join (fun K5 =>
  Fld 0 a0 H fun x33 =>
  Get (nilV2 .eql (.slice none 0 0) x33) fun x34 =>
  Br x34 (
  Get (arithV .leq .i64 a1 (.int .i64 64)) fun x37 =>
  Get (pickV (.bool true) x37 (.bool false)) fun x38 =>
  K5 [x38] H) (
  Get (pickV (.bool false) undef (.bool false)) fun x38_1 =>
  K5 [x38_1] H)) fun vs6 H =>
  Br (nth vs6 0) (
  MakeSlice 5 1 1 #[(.int .u8 0)] a1 (.int .i64 64) H fun x41 H =>
  Get (nilV a0) fun x42 =>
  Get (fieldAddrV 0 x42) fun x43 =>
  Get (store1V x43 x41 H) fun H =>
  R (.int .i64 0) H) (
  Fld 0 a0 H fun x47 =>
  Get (capV x47) fun x48 =>
  Join (fun K7 =>
  Get (arithV .quo .i64 x48 (.int .i64 2)) fun x51 =>
  Get (arithV .sub .i64 x51 x10) fun x53 =>
  Get (arithV .leq .i64 a1 x53) fun x54 =>
  Br x54 (
  Fld 0 a0 H fun x58 =>
  Fld 0 a0 H fun x62 =>
  Fld 1 a0 H fun x66 =>
  Get (sliceV 1 x62 (some x66) none none) fun x67 =>
  Copy 1 x58 x67 H fun _ H =>
  K7 [] H) (
  Get (arithV .sub .i64 (.int .i64 9223372036854775807) x48) fun x71 =>
  Get (arithV .sub .i64 x71 a1) fun x73 =>
  Get (arithV .gtr .i64 x48 x73) fun x74 =>
  Br x74 (
  Get (load1V (.pointer (some ⟨13, 0, none⟩)) H) fun _ =>
  False) (
  Fld 0 a0 H fun x80 =>
  Fld 1 a0 H fun x84 =>
  Get (sliceV 1 x80 (some x84) none none) fun x85 =>
  Fld 1 a0 H fun x89 =>
  Get (arithV .add .i64 x89 a1) fun x91 =>
  CallsH Tryz.prog 117 #[x85, x91] H fun x92 H =>
  Get (nilV a0) fun x93 =>
  Get (fieldAddrV 0 x93) fun x94 =>
  Get (store1V x94 x92 H) fun H =>
  K7 [] H))) fun _ H =>
  Get (nilV a0) fun x96 =>
  Get (fieldAddrV 1 x96) fun x97 =>
  Get (store1V x97 (.int .i64 0) H) fun H =>
  Fld 0 a0 H fun x102 =>
  Get (arithV .add .i64 x10 a1) fun x105 =>
  Get (sliceV 1 x102 none (some x105) none) fun x106 =>
  Get (nilV a0) fun x107 =>
  Get (fieldAddrV 0 x107) fun x108 =>
  Get (store1V x108 x106 H) fun H =>
  R x10 H))
def p84 : Plan := .seq (.leaf []) (.seq (.leaf []) (.join [] (.join [19] (.leaf []) (.cond (.leaf []) (.leaf []))) (.seq (.seq (.leaf []) (.seq (.leaf []) (.cond (.seq (.leaf []) (.leaf [])) (.leaf [])))) (.seq (.join [38] (.leaf []) (.cond (.seq (.leaf []) (.seq (.leaf []) (.leaf []))) (.leaf []))) (.seq (.leaf []) (.join [] (.seq (.leaf []) (.cond (.leaf [0, 1, 2, 3, 4, 5, 6, 7, 8, 9, 10, 11, 12, 13]) (.seq (.leaf []) (.cond (.leaf []) (.leaf [0, 1, 2, 3, 4, 5, 6, 7, 8, 9, 10, 11, 12, 13, 14, 15, 16, 17, 18, 19]))))) (.seq (.leaf []) (.seq (.leaf []) (.seq (.leaf []) (.leaf []))))))))))
theorem s84 {a0 a1 : Value} {H : Heap} {R : Value → Heap → Prop} (h : c84 a0 a1 H R) : CallsH Tryz.prog 86 #[a0, a1] H R :=
  callsH_of_eq p84 (fn := Tryz.f86) (c := Tryz.f86.body.getD .skip) (args := [a0, a1]) Tryz.func86 (by kernel_rfl) mixed (by kernel_rfl) (by kernel_rfl) (by kernel_rfl) h
def c34 (a0 : Value) (H : Heap) (R : Value → Heap → Prop) : Prop :=
  Fld 0 a0 H fun x6 =>
  Fld 1 a0 H fun x10 =>
  Get (sliceV 1 x6 (some x10) none none) fun x11 =>
  R x11 H
def p34 : Plan := .seq (.leaf []) (.seq (.leaf [0, 1, 2, 3, 4, 5, 6, 7, 8, 9]) (.leaf []))
theorem s34 {a0 : Value} {H : Heap} {R : Value → Heap → Prop} (h : c34 a0 H R) : CallsH Tryz.prog 26 #[a0] H R :=
  callsH_of_eq p34 (fn := Tryz.f26) (c := Tryz.f26.body.getD .skip) (args := [a0]) Tryz.func26 (by kernel_rfl) mixed (by kernel_rfl) (by kernel_rfl) (by kernel_rfl) h
end Go.Cps
namespace Go.Cps
open Go Go.Proofs
set_option maxRecDepth 100000
def c101 (a0 : Value) (H : Heap) (R : Value → Heap → Prop) : Prop :=
  Fld 0 a0 H fun x6 =>
  Get (lenV x6) fun x7 =>
  Fld 1 a0 H fun x11 =>
  Get (arithV .sub .i64 x7 x11) fun x12 =>
  R x12 H
def p101 : Plan := .seq (.leaf []) (.seq (.leaf [0, 1, 2, 3, 4, 5, 6, 7, 8, 9, 10]) (.leaf []))
theorem s101 {a0 : Value} {H : Heap} {R : Value → Heap → Prop} (h : c101 a0 H R) : CallsH Tryz.prog 115 #[a0] H R :=
  callsH_of_eq p101 (fn := Tryz.f115) (c := Tryz.f115.body.getD .skip) (args := [a0]) Tryz.func115 (by kernel_rfl) mixed (by kernel_rfl) (by kernel_rfl) (by kernel_rfl) h
def c102 (a0 : Value) (H : Heap) (R : Value → Heap → Prop) : Prop :=
  Fld 0 a0 H fun x6 =>
  Get (sliceV 1 x6 none (some (.int .i64 0)) none) fun x7 =>
  Get (nilV a0) fun x8 =>
  Get (fieldAddrV 0 x8) fun x9 =>
  Get (store1V x9 x7 H) fun H =>
  Get (nilV a0) fun x11 =>
  Get (fieldAddrV 1 x11) fun x12 =>
  Get (store1V x12 (.int .i64 0) H) fun H =>
  Get (nilV a0) fun x14 =>
  Get (fieldAddrV 2 x14) fun x15 =>
  Get (store1V x15 (.int .i8 0) H) fun H =>
  R (.tuple #[]) H
def p102 : Plan := .seq (.leaf []) (.seq (.leaf []) (.leaf []))
theorem s102 {a0 : Value} {H : Heap} {R : Value → Heap → Prop} (h : c102 a0 H R) : CallsH Tryz.prog 116 #[a0] H R :=
  callsH_of_eq p102 (fn := Tryz.f116) (c := Tryz.f116.body.getD .skip) (args := [a0]) Tryz.func116 (by kernel_rfl) mixed (by kernel_rfl) (by kernel_rfl) (by kernel_rfl) h
def c62 (a0 a1 : Value) (H : Heap) (R : Value → Heap → Prop) : Prop :=
  Get (nilV a0) fun x9 =>
  Get (fieldAddrV 2 x9) fun x10 =>
  Get (store1V x10 (.int .i8 0) H) fun H =>
  Get (lenStrV a1) fun x14 =>
  CallsH Tryz.prog 85 #[a0, x14] H fun x15 H =>
  Get (extractV x15 0) fun x16 =>
  Get (extractV x15 1) fun x17 =>
  Join (fun K1 =>
  Get (unV .not x17) fun x19 =>
  Br x19 (
  Get (lenStrV a1) fun x22 =>
  CallsH Tryz.prog 86 #[a0, x22] H fun x23 H =>
  K1 [x23] H) (
  K1 [x16] H)) fun vs2 H =>
  Fld 0 a0 H fun x27 =>
  Get (sliceV 1 x27 (some (nth vs2 0)) none none) fun x29 =>
  Copy 1 x29 a1 H fun x31 H =>
  R (.tuple #[x31, .nilIface]) H
def p62 : Plan := .seq (.leaf []) (.seq (.leaf []) (.seq (.leaf []) (.join [6] (.seq (.leaf []) (.cond (.leaf []) (.leaf []))) (.seq (.leaf []) (.leaf [])))))
theorem s62 {a0 a1 : Value} {H : Heap} {R : Value → Heap → Prop} (h : c62 a0 a1 H R) : CallsH Tryz.prog 54 #[a0, a1] H R :=
  callsH_of_eq p62 (fn := Tryz.f54) (c := Tryz.f54.body.getD .skip) (args := [a0, a1]) Tryz.func54 (by kernel_rfl) mixed (by kernel_rfl) (by kernel_rfl) (by kernel_rfl) h
def c61 (a0 : Value) (H : Heap) (R : Value → Heap → Prop) : Prop :=
  Get (nilV a0) fun x4 =>
  Get (fieldAddrV 1 x4) fun x5 =>
  Get (store1V x5 (.bool true) H) fun H =>
  Fld 2 a0 H fun x9 =>
  R x9 H
def p61 : Plan := .seq (.leaf []) (.seq (.leaf []) (.seq (.leaf []) (.leaf [])))
theorem s61 {a0 : Value} {H : Heap} {R : Value → Heap → Prop} (h : c61 a0 H R) : CallsH Tryz.prog 42 #[a0] H R :=
  callsH_of_eq p61 (fn := Tryz.f42) (c := Tryz.f42.body.getD .skip) (args := [a0]) Tryz.func42 (by kernel_rfl) mixed (by kernel_rfl) (by kernel_rfl) (by kernel_rfl) h
end Go.Cps
