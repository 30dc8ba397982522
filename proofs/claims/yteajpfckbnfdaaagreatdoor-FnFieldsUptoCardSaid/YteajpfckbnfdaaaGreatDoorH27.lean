/-
  A part of the proof: newPart as NextPart calls it, of a part without the encoding; a part whose disposition has been read, closed. NextPart of a form's field; one field more; impl.Fields. impl.Fields over the text of good fields. spec.SameFields of equal lists. FnFields, apart from any world. What the reading of an argument tells of the heap: strings, slices, the structs of this program.
  Conditions: each contract's own.
-/
import Derived.Test.YteajpfckbnfdaaaGreatDoorRows
import Derived.ChangeArms
import Derived.ChangeShapes
import Derived.Test.YteajpfckbnfdaaaGreatDoorH23
import Derived.Test.YteajpfckbnfdaaaGreatDoorH26
set_option linter.all false
namespace Go.Cps
open Go Go.Proofs
set_option maxRecDepth 100000
def encT : List UInt8 := [67, 111, 110, 116, 101, 110, 116, 45, 84, 114, 97, 110, 115, 102, 101, 114, 45, 69, 110, 99, 111, 100, 105, 110, 103]
def qpT : List UInt8 := [113, 117, 111, 116, 101, 100, 45, 112, 114, 105, 110, 116, 97, 98, 108, 101]
theorem encT_tok : ∀ b ∈ encT, tok b.toNat = true := by decide
theorem encT_canon : canonG true encT = encT := by decide
theorem newPartF_ok {S : Stk} {mr tb : Nat} {m : MRf} {bd : List UInt8} {B : Nat} {ea ua : Addr} {s : St} {H : Heap} {mode : Option (List UInt8)} {ls : List (List UInt8 × List UInt8)} {b : List UInt8} (h : PR S mr tb m bd B ea ua s H)
    (hr : s.rest S = linesText ls ++ 13 :: 10 :: (b ++ modeTail bd mode)) (hls : ∀ kv ∈ ls, LineOk kv) (hn : ls.length ≤ 110) (hnw : Nowhere b (nldOf bd)) (ht0 : (dashOf bd).isPrefixOf (b ++ modeTail bd mode) = false) (hfull : ∀ t, mode = some t → FullT t) (htot : b.length < 2 ^ 38)
    (hk : firstOf encT (hdrOf ls) = []) :
    CallsH Tryz.prog 48 #[.pointer (some ⟨mr, 0, none⟩), .bool false, .int .i64 10485760, .int .i64 10000] H fun x H' => ∃ pt hm N E, x = .tuple #[.pointer (some ⟨pt, 0, none⟩), .nilIface] ∧ Ents H' hm N E ∧ Frm S.ids H H' ∧ H.size ≤ pt ∧ pt < H'.size ∧ (∀ x ∈ Ents.blks hm E, H.size ≤ x ∧ x ≠ pt) ∧ E.map Ent.hd = hdrOf ls ∧ ∃ s', RB (rawEnv S mr tb m bd B ea ua mode pt hm) b 0 0 .go false s' H' := by
  have hidl := h.rd.ids_lt
  have hmrl := lt_of_some h.ma.hm
  have h16 := h.er.b16
  have hbase := h.base
  apply s96
  simp only [c96, NewMap]
  have f1 : Frm [] H (H.push (.map #[] 0)) := Frm.push _ _ _
  have z1 : (H.push (.map #[] 0)).size = H.size + 1 := by simp
  generalize H.push (.map #[] 0) = H1 at *
  have e : fillV #[(0, 1), (1, 1), (2, 1), (3, 1), (4, 1), (5, 1), (6, 1), (7, 1), (8, 1)] #[(.map none), (.pointer none), (.string ⟨#[]⟩), (.map none), .nilIface, (.int .i64 0), (.int .i64 0), .nilIface, .nilIface] [(0, .map (some H.size)), (1, .pointer (some ⟨mr, 0, none⟩))] = some (ptCells ⟨.map (some H.size), .string ⟨#[]⟩, .map none, .nilIface⟩ mr 0 0 .nilIface .nilIface) := by
    rw [fillV_cons rfl rfl (by simp), fillV_cons rfl rfl (by simp), fillV_nil]; rfl
  simp only [e, Option.map_some, Q6, New, Value.cells]
  have hp2 := push_same H1 (.cells (ptCells ⟨.map (some H.size), .string ⟨#[]⟩, .map none, .nilIface⟩ mr 0 0 .nilIface .nilIface) 85 (0, 0))
  have f2 : Frm [] H1 (H1.push (.cells (ptCells ⟨.map (some H.size), .string ⟨#[]⟩, .map none, .nilIface⟩ mr 0 0 .nilIface .nilIface) 85 (0, 0))) := Frm.push _ _ _
  have z2 : (H1.push (.cells (ptCells ⟨.map (some H.size), .string ⟨#[]⟩, .map none, .nilIface⟩ mr 0 0 .nilIface .nilIface) 85 (0, 0))).size = H1.size + 1 := by simp
  generalize H1.push (.cells (ptCells ⟨.map (some H.size), .string ⟨#[]⟩, .map none, .nilIface⟩ mr 0 0 .nilIface .nilIface) 85 (0, 0)) = H2 at *
  have f02 : Frm [] H H2 := f1.trans f2
  have h2 : PR S mr tb m bd B ea ua s H2 := h.ids (h.rd.frm f02 (by simp) (by simp) (by simp)) (f02.mono (by simp))
  have hpi : H1.size ∉ S.ids := fun hm => by have := hidl _ hm; omega
  have hpv : blk S.v ≠ some H1.size := fun hm => by have := h.vlt _ hm; omega
  refine (populate_ok hp2 h2.ma h2.rd h2.er.full h2.four h2.vlt h2.tbf hpi hpv (by omega) hr hls hn).mono ?_
  rintro x H3 ⟨hm, N, E, s3, rfl, hp3, hE3, hhd, h3, hr3, f3, hb3⟩
  have hpi2 : H1.size ∉ mr :: tb :: S.ids := fun hmm => by have := h.lt _ hmm; omega
  have hma3 : MRAt S mr tb m bd H3 := h2.ma.frm f3 (fun hmm => by
    rcases List.mem_cons.1 hmm with e | e
    · omega
    · exact h.ma.hmr e) (fun hmm => by
    rcases List.mem_cons.1 hmm with e | e
    · have := h.tbl; omega
    · exact h.ma.ht (by simp [e]))
  have her3 : Errs B ea ua H3 := h2.er.frm f3 (fun x hx => by
    rcases List.mem_cons.1 hx with rfl | hx
    · omega
    · exact h.low x (by simp [hx]))
  simp only [nilV2_neq_nil, Q0, Q1, Q2, Q3, Q4, Q5, Q6, Q7, Q8, Q9, Qa, Qb, Qc, Qd, Qe, Qf, Qg, Qh, Qi, Qj]
  have e2 : fillV #[(0, 1)] #[(.pointer none)] [(0, .pointer (some ⟨H1.size, 0, none⟩))] = some #[.pointer (some ⟨H1.size, 0, none⟩)] := by
    rw [fillV_cons rfl rfl (by simp), fillV_nil]; rfl
  simp only [e2, Option.map_some, Q0, Q1, Q2, Q3, Q4, Q5, Q6, Q7, Q8, Q9, Qa, Qb, Qc, Qd, Qe, Qf, Qg, Qh, Qi, Qj]
  refine Store_of hp3 (by simp [ptCells]) rfl fun H4 hp4 f4 z4 => ?_
  have h4 : RdAt S s3 H4 := h3.frm f4 (fun x hx => by rw [List.mem_singleton]; rintro rfl; exact hpi hx) (fun x hx => by rw [List.mem_singleton]; rintro rfl; exact hpv hx) (by rw [List.mem_singleton]; omega)
  have hsz3 := f3.size
  have hpt4 : hm ≠ H1.size ∧ H.size ≤ hm := by have := hb3 hm (by simp [Ents.blks]); omega
  have hRB : RB (rawEnv S mr tb m bd B ea ua mode H1.size hm) b 0 0 .go false s3 H4 := by
    refine { rd := h4, ma := hma3.frm f4 (by rw [List.mem_singleton]; omega) (by rw [List.mem_singleton]; have := h.tbl; omega), hp := ?_, er := her3.frm f4 (by simp; omega), bdr := h.bdr, rest := ?_, nw := hnw, t0 := fun _ => ?_, nb := Nat.zero_le _, nk := Nat.zero_le _, full := fun t ht => ⟨hfull t ht, rfl, by simp, by simp⟩, cut := fun _ => ⟨by simp, by simp⟩, tot := by simpa using htot, low := fun x hx => ?_, hpt := hpi2, hpv := hpv, hE := h.hE }
    · simp only [ptCells, Qt, Qu, Qv] at hp4
      exact hp4
    · rw [show (rawEnv S mr tb m bd B ea ua mode H1.size hm).S = S from rfl, hr3]
      rfl
    · exact ht0
    · rcases List.mem_cons.1 hx with rfl | hx
      · show B ≤ H1.size; omega
      · exact h.low x hx
  have hE4 : Ents H4 hm N E := hE3.frm f4 (fun x hx => by have := hb3 x hx; rw [List.mem_singleton]; omega)
  have hF4 : Frm S.ids H H4 := ((f02.mono (by simp)).up f3 (fun x hx => by
      rcases List.mem_cons.1 hx with rfl | hx
      · exact .inr (by omega)
      · exact .inl hx)).up f4 (fun x hx => by rw [List.mem_singleton] at hx; subst hx; exact .inr (by omega))
  have hblk : ∀ x ∈ Ents.blks hm E, H.size ≤ x ∧ x ≠ H1.size := fun x hx => by have := hb3 x hx; omega
  have _hpr0 : (rawEnv S mr tb m bd B ea ua mode H1.size hm).P = ⟨.map (some hm), .string ⟨#[]⟩, .map none, .iface 128 (.agg #[.pointer (some ⟨H1.size, 0, none⟩)])⟩ := rfl
  have hc0 : ∀ {H' : Heap} {s'}, RB (rawEnv S mr tb m bd B ea ua mode H1.size hm) b 0 0 .go false s' H' → cellH H' ⟨H1.size, 0, none⟩ = some (.map (some hm)) ∧ cellH H' ⟨H1.size, 4, none⟩ = some (.iface 128 (.agg #[.pointer (some ⟨H1.size, 0, none⟩)])) := fun hh => by
    have h5 := hh.hp
    have h6 : H1.size = (rawEnv S mr tb m bd B ea ua mode H1.size hm).pt := rfl
    rw [← h6] at h5
    exact ⟨by rw [cellH_of h5]; rfl, by rw [cellH_of h5]; rfl⟩
  have hsz4 : H1.size < H4.size := by omega
  have hs4 := hF4.size
  refine ⟨fun _ H' => Ents H' hm N E ∧ Frm S.ids H H' ∧ H1.size < H'.size ∧ ∃ s', RB (rawEnv S mr tb m bd B ea ua mode H1.size hm) b 0 0 .go false s' H', ?_, ?_⟩
  · simp only [Q0, Q1, Q2, Q3, Q4, Q5, Q6, Q7, Q8, Q9, Qa, Qb, Qc, Qd, Qe, Qf, Qg, Qh, Qi, Qj, Bool.not_false, (hc0 hRB).1]
    have hG := hE4.toG (D := []) (by simp)
    refine (get_ok (key := encT) hG (by decide) encT_tok encT_canon).mono ?_
    rintro x H5 ⟨rfl, f5⟩
    have hfirst : firstOf encT ((E.map fun e => (e.hd, e.pair.2)).map (·.1)) = [] := by rw [List.map_map, ← hk, ← hhd]; rfl
    rw [hfirst]
    have hRB5 := hRB.frm f5 (by simp)
    have hE5 := hE4.frm f5 (by simp)
    refine (eqFold_ok (s := []) (t := qpT) (by decide) (.inr ⟨rfl, by decide⟩) (by decide)).mono ?_
    rintro x H6 ⟨rfl, rfl⟩
    have hd : decide (([] : List UInt8) = qpT) = false := by decide
    rw [hd]
    simp only [Q0, Q1, Q2, Q3, Q4, Q5, Q6, Q7, Q8, Q9, Qa, Qb, Qc, Qd, Qe, Qf, Qg, Qh, Qi, Qj]
    exact ⟨hE5, hF4.trans (f5.mono (by simp)), by have := f5.size; omega, s3, hRB5⟩
  · rintro _ H5 ⟨g1, g2, g3, g4⟩
    exact ⟨H1.size, hm, N, E, rfl, g1, g2, by omega, g3, hblk, hhd, g4⟩
def envF (S : Stk) (mr tb : Nat) (m : MRf) (bd : List UInt8) (B : Nat) (ea ua : Addr) (mode : Option (List UInt8)) (pt hm : Nat) (dv qv : Value) : REnv :=
  ⟨S, mr, tb, m, bd, pt, ⟨.map (some hm), dv, qv, .iface 128 (.agg #[.pointer (some ⟨pt, 0, none⟩)])⟩, 85, B, ea, ua, mode⟩
theorem RB.setP {S : Stk} {mr tb : Nat} {m : MRf} {bd : List UInt8} {B : Nat} {ea ua : Addr} {mode : Option (List UInt8)} {pt hm : Nat} {dv qv : Value} {b : List UInt8} {n total : Nat} {ev : Sk} {re : Bool} {s : St} {H H' : Heap}
    (h : RB (rawEnv S mr tb m bd B ea ua mode pt hm) b n total ev re s H) (hp : H'[pt]? = some (.cells (ptCells (envF S mr tb m bd B ea ua mode pt hm dv qv).P mr n total (skV (.iface 109 (.pointer (some ea))) (.iface 109 (.pointer (some ua))) ev) (if re then .iface 109 (.pointer (some ua)) else .nilIface)) 85 (0, 0))) (f : Frm [pt] H H') :
    RB (envF S mr tb m bd B ea ua mode pt hm dv qv) b n total ev re s H' := by
  obtain ⟨h1, h2, h3⟩ := h.keep f
  exact { rd := h1, ma := h2, hp := hp, er := h3, bdr := h.bdr, rest := h.rest, nw := h.nw, t0 := h.t0, nb := h.nb, nk := h.nk, full := h.full, cut := h.cut, tot := h.tot, low := h.low, hpt := h.hpt, hpv := h.hpv, hE := h.hE }
theorem RB.prF {S : Stk} {mr tb : Nat} {m : MRf} {bd : List UInt8} {B : Nat} {ea ua : Addr} {mode : Option (List UInt8)} {pt hm : Nat} {dv qv : Value} {b : List UInt8} {n total : Nat} {ev : Sk} {re : Bool} {s : St} {H : Heap}
    (h : RB (envF S mr tb m bd B ea ua mode pt hm dv qv) b n total ev re s H) (h5 : S.tbf = 5) (hv : ∀ x, blk S.v = some x → x < H.size) (htb : tb < H.size) (hB : B ≤ H.size) : PR S mr tb m bd B ea ua s H :=
  ⟨h.rd, h.ma, h.er, h.bdr, fun x hx => h.low x (by simp only [envF] at hx ⊢; simp only [List.mem_cons] at hx ⊢; exact .inr hx), h.hE, h5, hv, htb, hB⟩
theorem closeF_ok {S : Stk} {mr tb : Nat} {m : MRf} {bd : List UInt8} {B : Nat} {ea ua : Addr} {t : List UInt8} {pt hm : Nat} {dv qv : Value} {total : Nat} {s : St} {H : Heap} (h : RB (envF S mr tb m bd B ea ua (some t) pt hm dv qv) [] 0 total .eof false s H) (h5 : S.tbf = 5) (hv : ∀ x, blk S.v = some x → x < H.size) (htb : tb < H.size) (hB : B ≤ H.size) (hcur : m.cur = .pointer (some ⟨pt, 0, none⟩)) :
    Closes S mr tb m bd B ea ua (nldOf bd ++ t) [pt] H := by
  refine .inr ⟨⟨pt, 0, none⟩, hcur, h.ma.hm, ?_⟩
  have hPR := h.prF h5 hv htb hB
  apply s92
  simp only [c92, Q6]
  apply s108
  simp only [c108, New]
  have f1 : Frm [] H (H.push (.cells (Array.replicate 512 (.int .u8 0)) 153 (0, 0))) := Frm.push _ _ _
  have hd := push_same H (.cells (Array.replicate 512 (.int .u8 0)) 153 (0, 0))
  have h1 := h.push (.cells (Array.replicate 512 (.int .u8 0)) 153 (0, 0))
  have z1 : (H.push (.cells (Array.replicate 512 (.int .u8 0)) 153 (0, 0))).size = H.size + 1 := by simp
  generalize H.push (.cells (Array.replicate 512 (.int .u8 0)) 153 (0, 0)) = H1 at *
  refine ⟨fun n vs H2 => H2 = H1, ⟨0, rfl⟩, ?_⟩
  rintro n vs H1 rfl
  have e1 : arrSliceV 512 1 (.pointer (some ⟨H.size, 0, none⟩)) none none none = some (.slice (some ⟨H.size, 0, none⟩) 512 512) := by simp [arrSliceV, boundsV, boundV, Addr.add]
  simp only [e1, Q0, Q1, Q2, Q3, Q4, Q5, Q6, Q7, Q8, Q9, Qa, Qb, Qc, Qd, Qe, Qf, Qg, Qh, Qi, Qj, nilV_method (ahead116 _)]
  refine invoke_of 218 meth116 body213 ?_
  have hlow : ∀ x ∈ pt :: mr :: tb :: S.ids, x < H.size := fun x hx => by
    rcases List.mem_cons.1 hx with rfl | hx
    · exact lt_of_some h.hp
    · exact hPR.lt x hx
  refine (pRead_ok (e := envF S mr tb m bd B ea ua (some t) pt hm dv qv) (dn := 512) (dc := 512) rfl h1 hd (by simp) (Nat.le_refl _) (by omega) (by omega) (fun hm => by have := hlow _ hm; omega) hB (fun hh => by have := hv _ hh; omega)).mono ?_
  rintro x H2 ⟨k, n', total', ev', re', s', rfl, hk1, hk2, h2, hd2, f2, g1, g2⟩
  have hk0 : k = 0 := by simpa using hk2
  subst hk0
  have hn0 := g2 rfl
  subst hn0
  have hne : ev' ≠ .go := fun e => by have := g1 rfl e; omega
  have hgo : ev'.isGo = false := by rw [← Bool.not_eq_true, Sk.isGo_iff]; exact hne
  simp only [Q0, Q1, Q2, Q3, Q4, Q5, Q6, Q7, Q8, Q9, Qa, Qb, Qc, Qd, Qe, Qf, Qg, Qh, Qi, Qj, if_true, skV_neq, hgo, Bool.not_false]
  have hr2 : s'.rest S = nldOf bd ++ t := by have := h2.rest; simpa [envF, REnv.tail] using this
  exact ⟨s', h2.prF h5 (fun x hx => by have := hv x hx; have := f2.size; omega) (by have := f2.size; omega) (by have := f2.size; omega), hr2, (f1.mono (by simp)).up f2 (fun x hx => by
    rcases List.mem_cons.1 hx with rfl | hx
    · exact .inr (Nat.le_refl _)
    · exact .inl (by simpa [envF] using hx))⟩
end Go.Cps
namespace Go.Cps
open Go Go.Proofs
set_option maxRecDepth 100000
theorem fill3 {z1 z2 z3 a b c : Value} : Instr.fill (fun j => some (j * 3, 3)) ((Array.range (1 * 3)).map ((#[z1, z2, z3] : Array Value)[· % 3]!)) [(0, .agg #[a, b, c])] = some #[a, b, c] := by
  have e0 : (Array.range (1 * 3)) = #[0, 1, 2] := by decide
  rw [e0]
  simp [Instr.fill, Value.cells]
structure GivenF (S : Stk) (mr tb : Nat) (m : MRf) (bd : List UInt8) (B : Nat) (ea ua : Addr) (tl : List UInt8) (p : PartIn) (pt hm : Nat) (E : List Ent) (H0 H : Heap) : Prop where
  rb : ∃ s, RB (rawEnv S mr tb m bd B ea ua (some tl) pt hm) p.2 0 0 .go false s H
  ents : ∃ N, Ents H hm N E
  hd : E.map Ent.hd = hdrOf p.1
  cur : m.cur = .pointer (some ⟨pt, 0, none⟩)
  new : H0.size ≤ pt ∧ pt < H.size
  blks : ∀ x ∈ Ents.blks hm E, H0.size ≤ x ∧ x < H.size ∧ x ≠ pt
  tbf : S.tbf = 5
theorem nextF_ok {S : Stk} {mr tb : Nat} {m : MRf} {bd : List UInt8} {B : Nat} {ea ua : Addr} {H : Heap} {X : List Nat} {pre : List UInt8} {p : PartIn} {tl : List UInt8} (hcl : Closes S mr tb m bd B ea ua (pre ++ (dashOf bd ++ 13 :: 10 :: (partIn p ++ (nldOf bd ++ tl)))) X H) (hb : GoodBd bd)
    (hpre : (m.parts = 0 ∧ pre = []) ∨ (0 < m.parts ∧ m.parts < 2 ^ 40 ∧ pre = [13, 10])) (hp : GoodIn bd p) (hk : firstOf encT (hdrOf p.1) = []) (htl : FullT tl) (hbr : BdR bd) :
    CallsH Tryz.prog 33 #[.pointer (some ⟨mr, 0, none⟩), .bool false, .int .i64 10485760, .int .i64 10000] H fun x H' => ∃ pt hm E m', x = .tuple #[.pointer (some ⟨pt, 0, none⟩), .nilIface] ∧ GivenF S mr tb m' bd B ea ua tl p pt hm E H H' ∧ m'.parts = m.parts + 1 ∧ Frm (mr :: X ++ S.ids) H H' := by
  have hd0 : (dashOf bd).isPrefixOf (p.2 ++ modeTail bd (some tl)) = false := dash_tail hbr hp.dash
  refine next_ok (pre := pre) (r := partIn p ++ (nldOf bd ++ tl)) (by simpa [dashOf] using hcl) hb hpre fun H1 s1 h1 hr1 f1 => ?_
  refine (newPartF_ok h1 (ls := p.1) (b := p.2) (mode := some tl) (by rw [hr1]; simp [partIn, modeTail]) hp.lines hp.few hp.nw hd0 (fun t ht => by cases ht; exact htl) hp.small hk).mono ?_
  rintro x H2 ⟨pt, hm, N, E, rfl, hE, f2, hge, hlt, hblk, hhd, s', hRB⟩
  refine ⟨⟨pt, 0, none⟩, rfl, hRB.ma.hm, fun H3 hm3 f3 z3 => ?_⟩
  have hmrl := lt_of_some h1.ma.hm
  have hs1 := f1.size
  have hs2 := f2.size
  have hE3 := hE.frm f3 (fun x hx => by have := (hblk x hx).1; rw [List.mem_singleton]; omega)
  have hRB3 := hRB.setm (m' := { m with parts := m.parts + 1, cur := .pointer (some ⟨pt, 0, none⟩) }) hm3 f3 ⟨rfl, rfl, rfl, rfl, rfl⟩
  refine ⟨pt, hm, E, { m with parts := m.parts + 1, cur := .pointer (some ⟨pt, 0, none⟩) }, rfl, ⟨⟨s', hRB3⟩, ⟨N, hE3⟩, hhd, rfl, by omega, fun x hx => ?_, h1.tbf⟩, rfl, (f1.trans (f2.mono (fun x hx => by simp [hx]))).trans (f3.mono (by simp))⟩
  have := hblk x hx
  have h4 := hE.lt x hx
  omega
structure GoodFd (bd : List UInt8) (f : FieldL) : Prop where
  good : GoodIn bd (fieldIn f)
  enc : firstOf encT (hdrOf (fieldIn f).1) = []
  disp : firstOf cdKey (hdrOf (fieldIn f).1) = dispOf f
  pname : f.name.all prB = true
  pfile : f.file.all prB = true
  slash : 47 ∉ f.file
  dl : (dispOf f).length < 2 ^ 36
  fl : f.file.length < 2 ^ 40
theorem fieldStep_ok {S : Stk} {mr tb : Nat} {bd : List UInt8} {B : Nat} {ea ua : Addr} {Hs H : Heap} {n : Nat} {rs : List FieldL} {f : FieldL} {tl : List UInt8} {k : Option Nat} {out : Value} {X : List Nat} {m : MRf} {E0 R1 K1 : Value → Heap → Prop} (hgb : GoodBd bd) (hbr : BdR bd)
    (hown : OwnS 3 31 FieldR (X ++ mr :: S.ids) H k out rs) (hcl : Closes S mr tb m bd B ea ua ((if n = 0 then [] else [13, 10]) ++ (dashOf bd ++ 13 :: 10 :: (partIn (fieldIn f) ++ (nldOf bd ++ tl)))) X H) (hnp : m.parts = n) (hfr : Frm (mr :: S.ids) Hs H) (hkB : ∀ g, k = some g → Hs.size ≤ g) (hXB : ∀ x ∈ X, Hs.size ≤ x ∧ x < H.size)
    (hlow : (∀ x ∈ mr :: tb :: S.ids, x < Hs.size) ∧ (∀ x, blk S.v = some x → x < Hs.size) ∧ B ≤ Hs.size) (hB : ∀ x ∈ mr :: S.ids, 7 < x) (hasc : AscAt Hs) (h7 : 7 < Hs.size) (hp : GoodFd bd f) (htl : FullT tl) (hn : n < 2 ^ 35) (hrs : rs.length < 2 ^ 36)
    (hK : ∀ k' out' X' m' H', OwnS 3 31 FieldR (X' ++ mr :: S.ids) H' k' out' (rs ++ [f]) → Closes S mr tb m' bd B ea ua (nldOf bd ++ tl) X' H' → m'.parts = n + 1 → Frm (mr :: S.ids) Hs H' → (∀ g, k' = some g → Hs.size ≤ g) → (∀ x ∈ X', Hs.size ≤ x ∧ x < H'.size) → K1 out' H') :
    CallsH Tryz.prog 16 #[.pointer (some ⟨mr, 0, none⟩)] H fun x18 H =>
    Get (extractV x18 0) fun x19 =>
    Get (extractV x18 1) fun x20 =>
    Get (nilV2 .neq .nilIface x20) fun x22 =>
    Br x22 (
    CallsH Tryz.prog 17 #[x20] H fun x25 H => E0 x25 H) (
    Get (some (Value.iface 41 x19)) fun x28 =>
    CallsH Tryz.prog 18 #[x28] H fun x29 H =>
    Get (extractV x29 0) fun x30 =>
    Get (extractV x29 1) fun x31 =>
    CallsH Tryz.prog 19 #[x19] H fun x34 H =>
    CallsH Tryz.prog 20 #[x19] H fun x36 H =>
    Get ((fillV #[(0, 1), (1, 1), (2, 1)] #[(.string ⟨#[]⟩), (.string ⟨#[]⟩), (.slice none 0 0)] [(0, x34), (1, x36), (2, x30)]).map .agg) fun x38 =>
    Get (Instr.fill (fun j => some (j * 3, 3)) ((Array.range (1 * 3)).map ((#[(.string ⟨#[]⟩), (.string ⟨#[]⟩), (.slice none 0 0)] : Array Value)[· % 3]!)) [(0, x38)]) fun cs => NewSl cs 31 1 H fun x39 H =>
    Append 31 3 56 #[(.string ⟨#[]⟩), (.string ⟨#[]⟩), (.slice none 0 0)] out x39 H fun x40 H =>
    Get (unV .not x31) fun x42 =>
    Br x42 (R1 x40 H) (K1 x40 H)) := by
  have hHs := hfr.size
  apply s59
  unfold c59
  apply s72
  unfold c72
  have hpre : (m.parts = 0 ∧ (if n = 0 then [] else [13, 10]) = ([] : List UInt8)) ∨ (0 < m.parts ∧ m.parts < 2 ^ 40 ∧ (if n = 0 then [] else [13, 10]) = ([13, 10] : List UInt8)) := by
    by_cases h0 : n = 0
    · exact .inl ⟨by omega, by rw [if_pos h0]⟩
    · exact .inr ⟨by omega, by omega, by rw [if_neg h0]⟩
  refine (nextF_ok hcl hgb hpre hp.good hp.enc htl hbr).mono ?_
  rintro x H1 ⟨pt, hm, E, m', rfl, hgv, hm'p, f1⟩
  obtain ⟨s1, hRB⟩ := hgv.rb
  obtain ⟨N, hE⟩ := hgv.ents
  have hnew := hgv.new
  have htbf := hgv.tbf
  simp only [Q0, Q1, Q2, Q3, Q4, Q5, Q6, Q7, Q8, Q9, Qa, Qb, Qc, Qd, Qe, Qf, Qg, Qh, Qi, Qj, nilV2_neq_nil]
  have f1' : Frm (mr :: S.ids) Hs H1 := hfr.up f1 (fun x hx => by
    simp only [List.cons_append, List.mem_cons, List.mem_append] at hx
    rcases hx with rfl | hx | hx
    · exact .inl (by simp)
    · exact .inr (hXB x hx).1
    · exact .inl (by simp [hx]))
  have hs1 := f1'.size
  have hDlt : ∀ x ∈ [pt] ++ mr :: S.ids, x < H1.size := fun x hx => by
    rcases List.mem_append.1 hx with hx | hx
    · rw [List.mem_singleton] at hx; omega
    · have := hlow.1 x (by
        rcases List.mem_cons.1 hx with rfl | hx
        · simp
        · simp [hx])
      omega
  -- what has come before, in the new heap, apart from the new part
  have hown1 : OwnS 3 31 FieldR ([pt] ++ mr :: S.ids) H1 k out rs := by
    have hk : ∀ x ∈ mr :: X ++ S.ids, k ≠ some x := fun x hx e => by
      have := (hown.lt x e).2
      apply this
      simp only [List.cons_append, List.mem_cons, List.mem_append] at hx ⊢
      rcases hx with h | h | h
      · exact .inr (.inl h)
      · exact .inl h
      · exact .inr (.inr h)
    have h0 := hown.new fieldR_ok hnew.1
    have h1 := h0.frm fieldR_ok f1 (fun x hx => ⟨.inl (by
      simp only [List.cons_append, List.mem_cons, List.mem_append] at hx ⊢
      rcases hx with h | h | h
      · exact .inr (.inr (.inl h))
      · exact .inr (.inl h)
      · exact .inr (.inr (.inr h))), hk x hx⟩)
    exact h1.sub fieldR_ok (fun x hx => by
      simp only [List.cons_append, List.nil_append, List.mem_cons, List.mem_append] at hx ⊢
      rcases hx with h | h | h
      · exact .inl h
      · exact .inr (.inr (.inl h))
      · exact .inr (.inr (.inr h)))
  have hkl : ∀ x ∈ k.toList ++ ([pt] ++ mr :: S.ids), x < H1.size := fun x hx => by
    rcases List.mem_append.1 hx with h | h
    · exact (hown1.lt x (by simpa using h)).1
    · exact hDlt x h
  have hv3 : ∀ {H' : Heap}, H1.size ≤ H'.size → (∀ x, blk S.v = some x → x < H'.size) ∧ tb < H'.size ∧ B ≤ H'.size := fun {H'} hh => ⟨fun x hx => by have := hlow.2.1 x hx; omega, by have := hlow.1 tb (by simp); omega, by have := hlow.2.2; omega⟩
  obtain ⟨w1, w2, w3⟩ := hv3 (Nat.le_refl _)
  refine (allRaw_ok hRB w1 w2 w3).mono ?_
  rintro x H2 ⟨kb, bv, d, rfl, hbv, _, hdd, hcl2, f2, hkb⟩
  have hdb := hdd rfl
  subst hdb
  obtain ⟨total, s2, hRB2⟩ := hcl2 tl rfl
  have hs2 := f2.size
  have hids : ∀ x ∈ S.ids, x < Hs.size := fun x hx => hlow.1 x (by simp [hx])
  have hE2 : Ents H2 hm N E := hE.frm f2 (fun x hx hm => by
    have h1 := hgv.blks x hx
    rcases List.mem_cons.1 hm with h | h
    · exact h1.2.2 h
    · have := hids x h; omega)
  have hasc2 : AscAt H2 := (hasc.frm f1' (fun h => by have := hB 7 h; omega)).frm f2 (fun h => by
    rcases List.mem_cons.1 h with h | h
    · omega
    · have := hB 7 (by simp [h]); omega)
  simp only [Q0, Q1, Q2, Q3, Q4, Q5, Q6, Q7, Q8, Q9, Qa, Qb, Qc, Qd, Qe, Qf, Qg, Qh, Qi, Qj]
  have hp2 := hRB2.hp
  refine (formName_ok (f := f) hp2 rfl rfl hE2 (by rw [hgv.hd]; exact hp.disp) hasc2 hp.pname hp.pfile hp.dl).mono ?_
  rintro x H3 ⟨mm, rfl, hp3, hmm3, f3, hmm1, hmm2⟩
  have hs3 := f3.size
  have hRB3 := hRB2.setP (dv := strVal fdT) (qv := .map (some mm)) hp3 f3
  refine (fileName_ok hp3 rfl hmm3 hp.slash hp.fl).mono ?_
  rintro x H3 ⟨rfl, rfl⟩
  have hbv2 : BytV (k.toList ++ ([pt] ++ mr :: S.ids)) H2 bv f.value := hbv.bytV (fun g hg hm => by have h1 := hkb g hg; have h2 := hkl g hm; omega)
  have hbv3 := hbv2.frm f3 (fun x hx => .inl (by rw [List.mem_singleton] at hx; subst hx; simp))
  have hbl : isOne bv = true := hbv3.isOne
  have e1 : fillV #[(0, 1), (1, 1), (2, 1)] #[(.string ⟨#[]⟩), (.string ⟨#[]⟩), (.slice none 0 0)] [(0, strVal f.name), (1, strVal f.file), (2, bv)] = some #[strVal f.name, strVal f.file, bv] := by
    rw [fillV_cons rfl rfl (by simp), fillV_cons rfl rfl (by simp), fillV_cons hbl rfl (by simp), fillV_nil]; rfl
  simp only [Q0, Q1, Q2, Q3, Q4, Q5, Q6, Q7, Q8, Q9, Qa, Qb, Qc, Qd, Qe, Qf, Qg, Qh, Qi, Qj, e1, Option.map_some, fill3, NewSl]
  have f4 : Frm [] H3 (H3.push (.cells #[strVal f.name, strVal f.file, bv] 31 (0, 0))) := Frm.push _ _ _
  have hb4 := push_same H3 (.cells #[strVal f.name, strVal f.file, bv] 31 (0, 0))
  have z4 : (H3.push (.cells #[strVal f.name, strVal f.file, bv] 31 (0, 0))).size = H3.size + 1 := by simp
  generalize H3.push (.cells #[strVal f.name, strVal f.file, bv] 31 (0, 0)) = H4 at *
  have hkX : ∀ x ∈ pt :: S.ids, k ≠ some x := fun x hx e => by
    apply (hown1.lt x e).2
    rcases List.mem_cons.1 hx with hx | hx
    · simp [hx]
    · simp [hx]
  have hown4 := ((hown1.frm fieldR_ok f2 (fun x hx => ⟨.inl (by
    rcases List.mem_cons.1 hx with hx | hx
    · simp [hx]
    · simp [hx]), hkX x hx⟩)).frm fieldR_ok f3 (fun x hx => by
      rw [List.mem_singleton] at hx
      subst hx
      exact ⟨.inl (by simp), hkX _ (by simp)⟩)).frm fieldR_ok f4 (by simp)
  have hptHs : Hs.size ≤ pt := by omega
  have f14 : Frm (mr :: S.ids) Hs H4 := (((f1'.up f2 (fun x hx => by
    rcases List.mem_cons.1 hx with hx | hx
    · exact .inr (by omega)
    · exact .inl (by simp [hx]))).up f3 (fun x hx => by
      rw [List.mem_singleton] at hx
      rw [hx]
      exact .inr hptHs))).trans (f4.mono (by simp))
  have hfv : (fieldIn f).2 = f.value := rfl
  refine append_one fieldR_ok (xs := [strVal f.name, strVal f.file, bv]) (a := f) hown4 (fun i hi => by rw [cellH_of hb4]; simp) rfl ⟨bv, rfl, hbv3.frm f4 (by simp)⟩ rfl (by omega) (by omega) (fun x hx => by have := hDlt x hx; omega) (by omega) fun k' out' H5 hown5 f5 hk5 => ?_
  simp only [Q0, Q1, Q2, Q3, Q4, Q5, Q6, Q7, Q8, Q9, Qa, Qb, Qc, Qd, Qe, Qf, Qg, Qh, Qi, Qj, Bool.not_true, Option.isSome_some]
  refine hK k' out' [pt] m' H5 hown5 ?_ (by omega) (f14.up f5 (fun x hx => .inr (hkB x (by simpa using hx)))) (fun g hg => ?_) (fun x hx => by
    rw [List.mem_singleton] at hx
    subst hx
    have := f5.size
    omega)
  · have hRB5 := hRB3.frm ((f4.mono (by simp)).trans f5) (fun y hy => by
      have hy' : k = some y := by simpa using hy
      have h1 := hkB y hy'
      have h2 := (hown1.lt y hy').2
      refine ⟨by show B ≤ y; have := hlow.2.2; omega, fun hm => ?_, fun e => by have := hlow.2.1 y e; omega⟩
      rcases List.mem_cons.1 hm with hm | hm
      · exact h2 (by rw [hm]; simp [envF])
      · have := hlow.1 y hm; omega)
    have := f5.size
    obtain ⟨q1, q2, q3⟩ := hv3 (H' := H5) (by omega)
    exact closeF_ok hRB5 htbf q1 q2 q3 hgv.cur
  · rcases hk5 with e | ⟨g', e, hge'⟩
    · exact hkB g (by rw [← e, hg])
    · rw [hg] at e; cases e; omega
end Go.Cps
namespace Go.Cps
open Go Go.Proofs
set_option maxRecDepth 100000
theorem fieldsRead_ok {bd : List UInt8} {v : Value} {B : Nat} {ea ua : Addr} {H : Heap} {l : List FieldL} (hv : IsBytes H v (wholeT bd none (l.map fieldIn))) (hE : Errs B ea ua H) (hB : B ≤ H.size) (hasc : AscAt H) (hgb : GoodBd bd) (hbr : BdR bd) (hl : (wholeT bd none (l.map fieldIn)).length < 2 ^ 39)
    (hps : ∀ f ∈ l, GoodFd bd f) (hn : l.length < 2 ^ 34) :
    CallsH Tryz.prog 6 #[v, strVal bd] H fun x H' => ∃ y, x = .tuple #[y, .int .i64 1] ∧ FieldsV [] H' y l ∧ Frm [] H H' := by
  have hlen := hgb.len
  have hb27 := hE.b16
  apply s1006
  unfold c1006
  refine (source_ok hv (by omega)).mono ?_
  rintro x H1 ⟨br, u, rfl, hbr1, hu, f1, hge, hvb, hbs⟩
  have h0 : 0 < H.size := by obtain ⟨t, f, h⟩ := hE.eof; exact lt_of_some h
  refine (newReader_ok hbr1 hu (fun x hx => ⟨(hvb x hx).2.1, (hvb x hx).2.2⟩) (hE.eof.frm f1 (by simp)) (by omega) (by omega) (by omega)).mono ?_
  rintro x H2 ⟨S, s, mr, tb, m, rfl, hrd, hmr, hrest, herr, hparts, hcur, hEt, hEv, f2, hge2, rfl, rfl, h5, htb⟩
  have f12 : Frm [] H H2 := f1.trans f2
  have hge3 : ∀ y ∈ mr :: tb :: S.ids, H.size ≤ y := fun y hy => by
    by_cases hyb : y = S.br
    · omega
    · have := hge2 y hy hyb; have := f1.size; omega
  have h : PR S mr tb m bd B ea ua s H2 := ⟨hrd, hmr, hE.frm f12 (by simp), hbr, fun x hx => by have := hge3 x hx; omega, ⟨hEt, hEv⟩, h5, fun x hx => by have := (hvb x hx).2.2; have := f2.size; omega, htb, by have := f12.size; omega⟩
  have hasc2 := hasc.frm f12 (by simp)
  have hlow : (∀ x ∈ mr :: tb :: S.ids, x < H2.size) ∧ (∀ x, blk S.v = some x → x < H2.size) ∧ B ≤ H2.size := ⟨h.lt, h.vlt, h.base⟩
  have hB7 : ∀ x ∈ mr :: S.ids, 7 < x := fun x hx => by
    have := h.low x (by
      rcases List.mem_cons.1 hx with rfl | hx
      · simp
      · simp [hx])
    omega
  have h7 : 7 < H2.size := by have := hlow.2.2; omega
  have hE2 := h.er
  have hfin : Frm (mr :: S.ids) H2 H2 := Frm.refl _ _
  refine ⟨fun μ vs H1 => ∃ done todo k out X m, l = done ++ todo ∧ μ = todo.length ∧ vs = [out] ∧ OwnS 3 31 FieldR (X ++ mr :: S.ids) H1 k out done ∧
      Closes S mr tb m bd B ea ua ((if done = [] ∧ ¬ todo = [] then [] else [13, 10]) ++ (dashOf bd ++ tailT bd none (todo.map fieldIn))) X H1 ∧ m.parts = done.length ∧ Frm (mr :: S.ids) H2 H1 ∧ (∀ g, k = some g → H2.size ≤ g) ∧ ∀ x ∈ X, H2.size ≤ x ∧ x < H1.size,
    ⟨_, [], l, none, _, [], m, rfl, rfl, rfl, ⟨rfl, rfl⟩, .inl ⟨hcur, s, h, ?_⟩, by simpa using hparts, Frm.refl _ _, by simp, by simp⟩, ?_⟩
  · rw [hrest, wholeT]
    by_cases he : l = []
    · subst he; simp [tail_pre]
    · have he' : ¬ (l.map fieldIn = [] ∧ (none : Option PartIn) = none) := by simpa using he
      rw [if_neg he', if_pos ⟨rfl, he⟩]; rfl
  clear h hrest hparts hcur hrd hmr hfin
  rintro μ vs H3 ⟨done, todo, k, out, X, m, hdt, rfl, rfl, hown, hcl, hnp, hfr, hkB, hXB⟩
  have hdl : done.length + todo.length = l.length := by rw [hdt]; simp
  simp only [Q9]
  cases todo with
  | nil =>
    rw [List.append_nil] at hdt
    obtain rfl : done = l := hdt.symm
    rw [if_neg (by simp)] at hcl
    apply s59
    unfold c59
    apply s72
    unfold c72
    refine (nextPart_end (by simpa [dashOf, tailT] using hcl) hgb).mono ?_
    rintro x H4 ⟨rfl, f4, s4, h4⟩
    simp only [Q0, Q1, Q2, Q3, Q4, Q5, Q6, Q7, Q8, Q9, Qa, Qb, Qc, Qd, Qe, Qf, Qg, Qh, Qi, Qj, nilV2_neq_iface]
    refine (state_end h4.er.eof).mono ?_
    rintro x H5 ⟨rfl, rfl⟩
    have hown2 := hown.frm fieldR_ok f4 (fun x hx => ⟨.inl (by
      simp only [List.mem_append, List.mem_cons] at hx ⊢
      rcases hx with h | h
      · exact .inl h
      · exact .inr (.inr h)), fun e => (hown.lt x e).2 (by
      simp only [List.mem_append, List.mem_cons] at hx ⊢
      rcases hx with h | h
      · exact .inl h
      · exact .inr (.inr h))⟩)
    have ff : Frm (mr :: S.ids) H2 H5 := hfr.up f4 (fun x hx => by
      rcases List.mem_append.1 hx with hx | hx
      · exact .inr (hXB x hx).1
      · exact .inl (by simp [hx]))
    refine ⟨out, rfl, (hown2.slV fieldR_ok).sub fieldR_ok (by simp), f12.up ff (fun x hx => .inr (hge3 x ?_))⟩
    rcases List.mem_cons.1 hx with rfl | hx
    · simp
    · simp [hx]
  | cons p todo =>
    refine fieldStep_ok (ea := ea) (ua := ua) (tl := tailT bd none (todo.map fieldIn)) (n := done.length) hgb hbr hown ?_ hnp hfr hkB hXB hlow hB7 hasc2 h7 (hps p (by rw [hdt]; simp)) (tailT_full _ _ _) (by omega) (by omega) fun k' out' X' m' H' g1 g4 g5 g6 g7 g8 => ?_
    · by_cases h0 : done = []
      · subst h0
        simpa [tailT] using hcl
      · have h1 : ¬ done.length = 0 := fun e => h0 (List.eq_nil_of_length_eq_zero e)
        rw [if_neg h1]
        rw [if_neg (by simp [h0])] at hcl
        simpa [tailT] using hcl
    · refine ⟨todo.length, by simp, done ++ [p], todo, k', out', X', m', by rw [hdt]; simp, rfl, rfl, g1, ?_, ?_, g6, g7, g8⟩
      · rw [if_neg (by simp), ← tail_pre]; exact g4
      · rw [g5]; simp
end Go.Cps
namespace Go.Cps
open Go Go.Proofs
theorem sameFields_ok {v u : Value} {l : List FieldL} {H : Heap} (hv : FieldsV [] H v l) (hu : FieldsV [] H u l) (hl : l.length < 2 ^ 40) : CallsH Tryz.prog 8 #[v, u] H fun x H' => x = .bool true ∧ Frm [] H H' := by
  apply s1008
  have hne : arithV .neq .i64 (.int .i64 (l.length : Nat)) (.int .i64 (l.length : Nat)) = some (.bool false) := by simp [Qk, Ql, Qm, Qn, Qo, Qp, Qq, Qr, Qs]
  simp only [c1008, hv.len, hu.len, hne, Q0, Q1, Q2, Q3, Q4, Q5, Q6, Q7, Q8, Q9, Qa, Qb, Qc, Qd, Qe, Qf, Qg, Qh, Qi, Qj]
  refine ⟨fun μ vs H' => ∃ i : Nat, vs = [.int .i64 i] ∧ μ = l.length - i ∧ i ≤ l.length ∧ Frm [] H H', ⟨_, 0, rfl, rfl, Nat.zero_le _, Frm.refl _ _⟩, ?_⟩
  rintro μ vs H1 ⟨i, rfl, rfl, hi, f1⟩
  simp only [Q0, Q1, Q2, Q3, Q4, Q5, Q6, Q7, Q8, Q9, Qa, Qb, Qc, Qd, Qe, Qf, Qg, Qh, Qi, Qj, Qk, Ql, Qm, Qn, Qo, Qp, Qq, Qr, Qs, dec_lt]
  refine Br_intro (fun hlt => ?_) (fun hlt => ⟨trivial, f1⟩)
  have hlt' : i < l.length := by simpa using hlt
  obtain ⟨a, vs, ha, hlo, _, hR, _⟩ := (hv.frm fieldR_ok f1 (by simp)).elem hlt'
  obtain ⟨z, rfl, hz⟩ := field_shape hR
  simp only [ha, Q6, hlo]
  refine local3 (K := fun x5 H => _) rfl rfl hz.isOne fun H2 hb2 f2 z2 => ?_
  have f12 := f1.trans f2
  obtain ⟨b, us, hb, _, _, hS, hc⟩ := (hu.frm fieldR_ok f12 (by simp)).elem hlt'
  obtain ⟨y, rfl, hy⟩ := field_shape hS
  have c0 : cellH H2 (b.add 0) = some (strVal l[i].name) := hc 0 (by omega)
  have c1 : cellH H2 (b.add 1) = some (strVal l[i].file) := hc 1 (by omega)
  have c2 : cellH H2 (b.add 2) = some y := hc 2 (by omega)
  have d0 : load1V (.pointer (some ⟨H1.size, 0, none⟩)) H2 = some (strVal l[i].name) := by rw [Qf, cellH_of hb2]; rfl
  have d1 : load1V (.pointer (some ⟨H1.size, 1, none⟩)) H2 = some (strVal l[i].file) := by rw [Qf, cellH_of hb2]; rfl
  have d2 : load1V (.pointer (some ⟨H1.size, 2, none⟩)) H2 = some z := by rw [Qf, cellH_of hb2]; rfl
  have e0 : ∀ t : List UInt8, strV .neq (strVal t) (strVal t) = some (.bool false) := fun t => by rw [strV_neq']; simp
  refine ⟨fun vs H' => vs = [.bool false] ∧ H' = H2, ?_, ?_⟩
  · simp only [Q0, Q1, Q2, Q3, Q4, Q5, Q6, Q7, Q8, Q9, Qa, Qb, Qc, Qd, Qe, Qf, Qg, Qh, Qi, Qj, d0, d1, d2, hb, c0, c1, c2, e0, Bool.false_eq_true, if_false, cellH_of hb2, List.getElem?_toArray, List.getElem?_cons_zero, List.getElem?_cons_succ]
    refine (equal_ok (hz.frm f2 (by simp)).1 hy.1).mono ?_
    rintro x H3 ⟨rfl, rfl⟩
    simp only [beq_self_eq_true, Q0, Q1, Q2, Q3, Q4, Q5, Q6, Q7, Q8, Q9, Qa, Qb, Qc, Qd, Qe, Qf, Qg, Qh, Qi, Qj, Bool.not_true, Bool.false_eq_true, if_false, and_self]
  · rintro _ H3 ⟨rfl, rfl⟩
    simp only [Q0, Q1, Q2, Q3, Q4, Q5, Q6, Q7, Q8, Q9, Qa, Qb, Qc, Qd, Qe, Qf, Qg, Qh, Qi, Qj, inc_i64 (show i < 2 ^ 62 by omega)]
    exact ⟨_, by omega, i + 1, rfl, rfl, hlt', f12⟩
end Go.Cps
namespace Go.Cps
open Go Go.Proofs
set_option maxRecDepth 100000
theorem hdr_field (f : FieldL) : hdrOf (linesOf (fieldHead f)) = fieldHead f := by
  unfold fieldHead
  split
  · simp [linesOf, hdrOf, hdrFrom, addH, cd_canon]
  · simp [linesOf, hdrOf, hdrFrom, addH, cd_canon, ct_canon, cd_ne_ct]
theorem GoodField.fd {bd : List UInt8} {f : FieldL} (h : GoodField bd f) (hl : f.value.length < 2 ^ 38) : GoodFd bd f where
  good := h.inn hl
  enc := by
    show firstOf encT (hdrOf (linesOf (fieldHead f))) = []
    rw [hdr_field]
    have h1 : ¬ cdKey = encT := by decide
    have h2 : ¬ ctKey = encT := by decide
    unfold fieldHead
    split <;> simp [firstOf, h1, h2]
  disp := by
    show firstOf cdKey (hdrOf (linesOf (fieldHead f))) = dispOf f
    rw [hdr_field]
    unfold fieldHead
    split <;> simp [firstOf]
  pname := h.pname
  pfile := h.pfile
  slash := h.slash
  dl := by have := disp_len h.name h.file; omega
  fl := by have := h.file; omega
theorem fnFields_ok {B : Nat} {ea ua : Addr} {v : Value} {bd : List UInt8} {l : List FieldL} {H : Heap} (hv : FieldsV [] H v l) (hE : Errs B ea ua H) (hB : B ≤ H.size) (hasc : AscAt H) (hbl : bd.length < 2 ^ 38) (hn : l.length ≤ 2 ^ 24) (hs : (l.map (·.value.length)).sum < 2 ^ 34)
    (hlf : ∀ f ∈ l, f.name.length < 2 ^ 33 ∧ f.file.length < 2 ^ 33) :
    CallsH Tryz.prog 3 #[v, strVal bd] H fun x H' => x = .bool true ∧ Frm [] H H' := by
  have hvl : ∀ f ∈ l, f.value.length < 2 ^ 34 := fun f hf => Nat.lt_of_le_of_lt (le_sum hf) hs
  apply s1003
  unfold c1003
  refine ⟨fun vs H' => ∃ b : Bool, vs = [.bool b] ∧ Frm [] H H', ?_, ?_⟩
  · refine (fits7_ok hv (by omega)).mono ?_
    rintro x H1 ⟨⟨r, rfl⟩, f1⟩
    simp only [Q0, Q1, Q2, Q3, Q4, Q5, Q6, Q7, Q8, Q9, Qa, Qb, Qc, Qd, Qe, Qf, Qg, Qh, Qi, Qj]
    refine Br_intro (fun _ => ⟨_, rfl, f1⟩) (fun _ => ?_)
    simp only [Q0, Q1, Q2, Q3, Q4, Q5, Q6, Q7, Q8, Q9, Qa, Qb, Qc, Qd, Qe, Qf, Qg, Qh, Qi, Qj, Qk, Ql, Qm, Qn, Qo, Qp, Qq, Qr, Qs, lenStr_of]
    exact ⟨_, rfl, f1⟩
  rintro _ H1 ⟨b, rfl, f1⟩
  simp only [Q0, Q1, Q2, Q3, Q4, Q5, Q6, Q7, Q8, Q9, Qa, Qb, Qc, Qd, Qe, Qf, Qg, Qh, Qi, Qj]
  refine Br_intro (fun _ => ⟨trivial, f1⟩) (fun _ => ?_)
  simp only [Q0, Q1, Q2, Q3, Q4, Q5, Q6, Q7, Q8, Q9, Qa, Qb, Qc, Qd, Qe, Qf, Qg, Qh, Qi, Qj, Qk, Ql, Qm, Qn, Qo, Qp, Qq, Qr, Qs, lenStr_of]
  refine Br_intro (fun _ => ⟨trivial, f1⟩) (fun _ => ?_)
  refine (fields_ok (hv.frm fieldR_ok f1 (by simp)) (by omega) (by omega) (fun f hf => ⟨by have := hlf f hf; omega, by have := hlf f hf; omega, by have := hvl f hf; omega⟩)).mono ?_
  rintro x H2 ⟨r, rfl, hr, f2⟩
  simp only [Q0, Q1, Q2, Q3, Q4, Q5, Q6, Q7, Q8, Q9, Qa, Qb, Qc, Qd, Qe, Qf, Qg, Qh, Qi, Qj]
  refine Br_intro (fun _ => ⟨trivial, f1.trans f2⟩) (fun hr0 => ?_)
  obtain ⟨hg, hbd⟩ := hr (by simpa using hr0)
  have hok := okBd_iff hbd
  have hlen := hok.len
  have hpos := hok.pos
  have f12 := f1.trans f2
  have hwl : (wholeT bd none (l.map fieldIn)).length < 2 ^ 36 := by
    have := whole_len hg
    have h2 : l.length * (1010 + bd.length) ≤ 2 ^ 24 * 1080 := Nat.mul_le_mul hn (by omega)
    omega
  refine (form_ok (hv.frm fieldR_ok f12 (by simp)) hok hwl (by omega) (fun f hf => ⟨(hlf f hf).1, (hg f hf).pname, (hlf f hf).2, (hg f hf).pfile⟩)).mono ?_
  rintro x H3 ⟨hx, f3⟩
  have f13 := f12.trans f3
  have hgb : GoodBd bd := ⟨by intro h0; rw [h0] at hpos; simp at hpos, bd_no_nl hok, by omega⟩
  have hbr : BdR bd := ⟨bd_no_cr hok, by omega⟩
  refine (fieldsRead_ok hx (hE.frm f13 (by simp)) (Nat.le_trans hB f13.size) (hasc.frm f13 (by simp)) hgb hbr (by omega) (fun f hf => (hg f hf).fd (by have := hvl f hf; omega)) (by omega)).mono ?_
  rintro x H4 ⟨y, rfl, hy, f4⟩
  have f14 := f13.trans f4
  have ho : ((1 : Int) == 1) = true := by decide
  simp only [Q0, Q1, Q2, Q3, Q4, Q5, Q6, Q7, Q8, Q9, Qa, Qb, Qc, Qd, Qe, Qf, Qg, Qh, Qi, Qj]
  refine ⟨fun vs H' => vs = [.bool true] ∧ Frm [] H H', ?_, ?_⟩
  · simp only [Q0, Q1, Q2, Q3, Q4, Q5, Q6, Q7, Q8, Q9, Qa, Qb, Qc, Qd, Qe, Qf, Qg, Qh, Qi, Qj, Qk, Ql, Qm, Qn, Qo, Qp, Qq, Qr, Qs, if_true, ho]
    refine (sameFields_ok hy (hv.frm fieldR_ok f14 (by simp)) (by omega)).mono ?_
    rintro x H6 ⟨rfl, f6⟩
    simp only [Q0, Q1, Q2, Q3, Q4, Q5, Q6, Q7, Q8, Q9, Qa, Qb, Qc, Qd, Qe, Qf, Qg, Qh, Qi, Qj, if_true]
    exact ⟨trivial, f14.trans f6⟩
  · rintro _ H' ⟨rfl, hfr⟩
    exact ⟨rfl, hfr⟩
end Go.Cps
namespace Go.Proofs.YteajpfckbnfdaaaGreatDoor
open Go Go.Cps
theorem bulk_pos {H : Type} (d : DataW H) : 1 ≤ Rows.uptoBulk d := by
  cases d with
  | lit l => cases l <;> simp [Rows.uptoBulk]
  | nil => simp [Rows.uptoBulk]
  | ptr d => simp [Rows.uptoBulk]
  | slice elems spare => simp [Rows.uptoBulk]
  | agg parts => simp [Rows.uptoBulk]
  | iface t d => simp [Rows.uptoBulk]
  | map entries => simp [Rows.uptoBulk]
  | held h => simp [Rows.uptoBulk]
section
variable {H : Type} {enc : TypeId × Value → H} {P : Program} {w : World} {base : Nat} {held : Bool}
theorem cells_some {a : Addr} {n : Nat} {cs : List Value} (h : w.cells? base a n = some cs) : cs.length = n ∧ ∀ i, i < n → cellH w.heap (a.add i) = cs[i]? := by
  unfold World.cells? at h
  split at h
  · refine ⟨by simpa using mapM_some_length h, fun i hi => ?_⟩
    have := mapM_some_get h i i (by simp [hi])
    rw [← this]
    rfl
  · cases h
theorem cell_some {a : Addr} {H : Heap} {v : Value} (h : cellH H a = some v) : a.spot = none ∧ a.block < H.size := by
  unfold cellH at h
  split at h
  · rename_i c t f hb
    refine ⟨?_, lt_of_some hb⟩
    cases hs : a.spot with
    | none => rfl
    | some k => simp [hs] at h
  · cases h
theorem open_sl {α : Type} {k : Nat} {R : List Nat → Heap → α → List Value → Prop} {size : α → Nat} {t e : TypeId} {fuel : Nat} {cs : List Value} {x : DataW H × List MemPlace} (ht : P.underlying t = some (.slice e)) (hw : P.cellsOf e = k) (hk : 0 < k)
    (hel : ∀ fuel cs x, cs.length = k → DataW.trod enc P w base (fun _ => true) held fuel e cs = some x → ∃ a : α, R [] w.heap a cs ∧ size a ≤ Rows.uptoBulk x.1)
    (h : DataW.trod enc P w base (fun _ => true) held fuel t cs = some x) :
    ∃ v l, cs = [v] ∧ SlV k R [] w.heap v l ∧ (l.map size).sum + 1 ≤ Rows.uptoBulk x.1 ∧ l.length + 1 ≤ Rows.uptoBulk x.1 := by
  rcases DataW.trod_slice ht h with ⟨rfl, rfl⟩ | ⟨a, len, cap, elems, rest, n, rfl, rfl, rfl, hb, hlc, hcm, hlen, hels, hrest, _⟩
  · exact ⟨_, [], rfl, .inr ⟨_, rfl, rfl⟩, by simp [Rows.uptoBulk], by simp [Rows.uptoBulk]⟩
  obtain ⟨hrl, hrs⟩ := hrest rfl
  rw [hw] at hels hrs
  by_cases hc0 : cap = 0
  · have h0 : len = 0 := by omega
    subst hc0 h0
    have he0 : elems = [] := List.eq_nil_of_length_eq_zero hlen
    exact ⟨_, [], rfl, .inr ⟨some a, rfl, rfl⟩, by simp [Rows.uptoBulk], by simp [Rows.uptoBulk]⟩
  have hval : ∃ v, cellH w.heap (a.add 0) = some v := by
    by_cases h0 : len = 0
    · have h1 := hrs 0 (by omega)
      rw [List.getElem?_eq_getElem (by omega)] at h1
      obtain ⟨vs, hc, _⟩ := Option.bind_eq_some_iff.1 h1
      obtain ⟨hvl, hvc⟩ := cells_some hc
      have := hvc 0 hk
      rw [List.getElem?_eq_getElem (by omega)] at this
      exact ⟨_, by simpa [h0, Addr.add] using this⟩
    · have h1 := hels 0 (by omega)
      rw [List.getElem?_eq_getElem (by omega)] at h1
      obtain ⟨vs, hc, _⟩ := Option.bind_eq_some_iff.1 h1
      obtain ⟨hvl, hvc⟩ := cells_some hc
      have := hvc 0 hk
      rw [List.getElem?_eq_getElem (by omega)] at this
      exact ⟨_, by simpa [Addr.add] using this⟩
  obtain ⟨v0, hv0⟩ := hval
  obtain ⟨hsp, hlt⟩ := cell_some hv0
  rw [add_zero] at hsp hlt
  obtain ⟨b, o, sp⟩ := a
  simp only at hsp hlt
  subst hsp
  have hex : ∀ m, m ≤ len → ∃ l : List α, l.length = m ∧ (l.map size).sum ≤ Rows.uptoBulkAll ((elems.map (·.1)).take m) ∧ ∀ j (hj : j < l.length), ∃ vs : List Value, vs.length = k ∧ R [] w.heap l[j] vs ∧ ∀ i, i < k → cellH w.heap ⟨b, o + (j * k + i), none⟩ = vs[i]? := by
    intro m
    induction m with
    | zero => exact fun _ => ⟨[], rfl, by simp [Rows.uptoBulkAll], fun j hj => absurd hj (by simp)⟩
    | succ m ih =>
      intro hm
      obtain ⟨l, hl, hs, hg⟩ := ih (by omega)
      have hel1 := hels m (by omega)
      rw [List.getElem?_eq_getElem (by omega)] at hel1
      obtain ⟨vs, hc, hd⟩ := Option.bind_eq_some_iff.1 hel1
      obtain ⟨hvl, hvc⟩ := cells_some hc
      obtain ⟨y, hR, hsz⟩ := hel _ _ _ hvl hd
      refine ⟨l ++ [y], by simp [hl], ?_, fun j hj => ?_⟩
      · rw [List.take_succ_eq_append_getElem (by simp; omega), List.map_append, List.sum_append]
        have happ : ∀ (p q : List (DataW H)), Rows.uptoBulkAll (p ++ q) = Rows.uptoBulkAll p + Rows.uptoBulkAll q := by
          intro p q
          induction p with
          | nil => simp [Rows.uptoBulkAll]
          | cons c p ih => simp only [List.cons_append, Rows.uptoBulkAll, ih]; omega
        rw [happ]
        simp only [List.map_cons, List.map_nil, List.sum_cons, List.sum_nil, List.getElem_map, Rows.uptoBulkAll]
        omega
      · by_cases hjm : j < l.length
        · rw [List.getElem_append_left hjm]
          exact hg j hjm
        · have hje : j = l.length := by simp at hj; omega
          subst hje
          refine ⟨vs, hvl, by simpa using hR, fun i hi => ?_⟩
          rw [hl, ← hvc i hi]
          rw [Q1, Q1, Nat.add_assoc]
  obtain ⟨l, hl, hs, hg⟩ := hex len (Nat.le_refl _)
  rw [List.take_of_length_le (by simp; omega)] at hs
  have hll : ∀ (p : List (DataW H)), p.length ≤ Rows.uptoBulkAll p := by
    intro p
    induction p with
    | nil => simp [Rows.uptoBulkAll]
    | cons c p ih => have := bulk_pos c; simp only [List.length_cons, Rows.uptoBulkAll]; omega
  have hl2 := hll (elems.map (·.1))
  rw [List.length_map] at hl2
  refine ⟨_, l, rfl, ?_, by simp only [Rows.uptoBulk]; omega, by simp only [Rows.uptoBulk]; omega⟩
  refine .inl ⟨b, o, cap, by rw [hl], by omega, by simp, hlt, fun j hj => ?_⟩
  obtain ⟨vs, h1, h2, h3⟩ := hg j hj
  exact ⟨vs, h1, h2, h3⟩
def ByteR (_ : List Nat) (_ : Heap) (b : UInt8) (vs : List Value) : Prop := vs = [byteV b]
theorem bytV_of {D : List Nat} {H : Heap} {v : Value} {l : List UInt8} (h : SlV 1 ByteR D H v l) : BytV D H v l := by
  rcases h with ⟨b, o, c, rfl, h1, h2, h3, h4⟩ | ⟨a, rfl, rfl⟩
  · refine ⟨.inl ⟨b, o, c, rfl, h1, fun j hj => ?_⟩, fun _ b' hb => ?_⟩
    · obtain ⟨vs, _, g2, g3⟩ := h4 j hj
      have := g3 0 (by omega)
      rw [show vs = [byteV l[j]] from g2] at this
      rw [List.getElem?_eq_getElem hj]
      simpa using this
    · simp only [blk, Option.some.injEq] at hb
      subst hb
      exact ⟨h2, h3⟩
  · exact ⟨.inr ⟨a, rfl, rfl⟩, fun h => absurd rfl h⟩
theorem open_bytes {t e : TypeId} {fuel : Nat} {cs : List Value} {x : DataW H × List MemPlace} (ht : P.underlying t = some (.slice e)) (he : P.underlying e = some (.int .u8)) (hw : P.cellsOf e = 1)
    (h : DataW.trod enc P w base (fun _ => true) held fuel t cs = some x) : ∃ v l, cs = [v] ∧ BytV [] w.heap v l ∧ l.length + 1 ≤ Rows.uptoBulk x.1 := by
  obtain ⟨v, l, h1, h2, _, h4⟩ := open_sl (R := ByteR) (size := fun _ => 1) ht hw (by omega) (fun fuel cs x hcs hx => by
    obtain ⟨n, rfl, rfl, hn⟩ := DataW.trod_int he hx
    refine ⟨UInt8.ofNat n.toNat, ?_, bulk_pos _⟩
    have hb : 0 ≤ n ∧ n ≤ 255 := by simpa [Lit.wf, IntKind.min, IntKind.max, IntKind.signed, IntKind.bits] using hn
    show [Value.int .u8 n] = [byteV _]
    have : (UInt8.ofNat n.toNat).toNat = n.toNat := by
      rw [UInt8.toNat_ofNat']
      omega
    simp only [byteV, this]
    congr 2
    omega) h
  exact ⟨v, l, h1, bytV_of h2, h4⟩
theorem open_str {t : TypeId} {fuel : Nat} {cs : List Value} {x : DataW H × List MemPlace} (ht : P.underlying t = some .string)
    (h : DataW.trod enc P w base (fun _ => true) held fuel t cs = some x) : ∃ l : List UInt8, cs = [Cps.strVal l] ∧ l.length + 1 ≤ Rows.uptoBulk x.1 := by
  obtain ⟨s, rfl, rfl, _⟩ := DataW.trod_string ht h
  exact ⟨s.data.toList, by cases s; simp [Cps.strVal], by simp [Rows.uptoBulk]⟩
end
end Go.Proofs.YteajpfckbnfdaaaGreatDoor
