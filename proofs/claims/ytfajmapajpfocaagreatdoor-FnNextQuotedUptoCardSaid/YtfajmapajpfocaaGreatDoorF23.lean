/-
  A part of the proof: textproto.NewReader, populateHeaders, newPart (of raw parts). What the bodies of some functions of the program come to, at heap level, each proved of the program itself. io.Copy out of a bytes.Buffer into another one. nextPart in general: the current part is closed, lines are read up to a delimiter.
  Conditions: each contract's own.
-/
import Derived.Test.YtfajmapajpfocaaGreatDoorF4
import Derived.Test.YtfajmapajpfocaaGreatDoorF8
import Derived.Test.YtfajmapajpfocaaGreatDoorF12
import Derived.Test.YtfajmapajpfocaaGreatDoorF22
set_option linter.all false
namespace Go.Cps
open Go Go.Proofs
theorem Frm.full {X : List Nat} {H H' : Heap} (f : Frm X H H') (h : Full4 H) (hx : 4 ∉ X) : Full4 H' := by
  obtain ⟨tt, v, t, fz, h0⟩ := h
  exact ⟨tt, v, t, fz, f.get h0 hx⟩
theorem newTP_ok {S : Stk} {H : Heap} : CallsH Tryz.prog 143 #[.pointer (some ⟨S.b, 0, none⟩)] H fun x H' => x = .pointer (some ⟨H.size, 0, none⟩) ∧ TR S H.size (.slice none 0 0) H' ∧ Frm [] H H' ∧ H'.size = H.size + 1 := by
  apply s143
  have e : fillV #[(0, 1), (1, 1), (2, 1)] #[(.pointer none), (.pointer none), (.slice none 0 0)] [(0, .pointer (some ⟨S.b, 0, none⟩))] = some #[.pointer (some ⟨S.b, 0, none⟩), .pointer none, .slice none 0 0] := by
    rw [fillV_cons rfl rfl (by simp), fillV_nil]; rfl
  simp only [c143, e, Option.map_some, Q6, New, Value.cells]
  exact ⟨trivial, push_same _ _, Frm.push _ _ _, by simp⟩
theorem store_part {pt : Nat} {P : PF} {mr : Nat} {n total : Nat} {ev rv : Value} {T : TypeId} {H : Heap} {K : Heap → Prop} {v : Value} (h : H[pt]? = some (.cells (ptCells P mr n total ev rv) T (0, 0))) (hv : isOne v = true)
    (hK : ∀ H', H'[pt]? = some (.cells (ptCells { P with hdr := v } mr n total ev rv) T (0, 0)) → Frm [pt] H H' → H'.size = H.size → K H') : Get (store1V (.pointer (some ⟨pt, 0, none⟩)) v H) K := by
  refine Store_of h (by simp [ptCells]) hv fun H' h' f z => hK H' (by simpa [ptCells] using h') f z
theorem populate_ok {S : Stk} {s : St} {H : Heap} {mr tb pt : Nat} {m : MRf} {bd : List UInt8} {P : PF} {T : TypeId} {ls : List (List UInt8 × List UInt8)} {q : List UInt8} (hp : H[pt]? = some (.cells (ptCells P mr 0 0 .nilIface .nilIface) T (0, 0))) (hm : MRAt S mr tb m bd H) (h : RdAt S s H) (h4 : Full4 H) (h40 : 4 ∉ S.ids)
    (hvs : ∀ x, blk S.v = some x → x < H.size) (hct : S.tbf = 5) (hpt : pt ∉ S.ids) (hpv : blk S.v ≠ some pt) (hp0 : pt ≠ 0) (hr : s.rest S = linesText ls ++ 13 :: 10 :: q) (hls : ∀ kv ∈ ls, LineOk kv) (hn : ls.length ≤ 110) :
    CallsH Tryz.prog 114 #[.pointer (some ⟨pt, 0, none⟩), .int .i64 10485760, .int .i64 10000] H fun x H' => ∃ hm' N E s', x = .nilIface ∧ H'[pt]? = some (.cells (ptCells { P with hdr := .map (some hm') } mr 0 0 .nilIface .nilIface) T (0, 0)) ∧ Ents H' hm' N E ∧ E.map Ent.hd = hdrOf ls ∧ RdAt S s' H' ∧ s'.rest S = q ∧ Frm (pt :: S.ids) H H' ∧ (∀ x ∈ Ents.blks hm' E, H.size ≤ x) := by
  have hptl := lt_of_some hp
  have h4l : 4 < H.size := by obtain ⟨tt, v, t, f, h0⟩ := h4; exact lt_of_some h0
  have hidl := h.ids_lt
  apply s114
  simp only [c114, Q0, Q1, Q2, Q3, Q4, Q5, Q6, Q7, Q8, Q9, Qa, Qb, Qc, Qd, Qe, Qf, Qg, Qh, Qi, Qj, cellH_of hp, ptCells, cellH_of hm.hm, MRf.cells, hm.hbr]
  refine newTP_ok.mono ?_
  rintro x H1 ⟨rfl, ht1, f1, z1⟩
  have h1 : RdAt S s H1 := h.frm f1 (by simp) (by simp) (by simp)
  have hp1 := f1.get hp (by simp)
  apply s144
  unfold c144
  apply s158
  unfold c158
  refine (readHeader_ok ht1 (fun hh => by have := hidl _ hh; omega) h1 (f1.full h4 (by simp)) ⟨h40, by omega⟩ (fun hh => by have := hvs _ hh; omega) (by omega) (fun x hx => by have := hvs x hx; omega) hct hr hls hn).mono ?_
  rintro x H2 ⟨hm', N, E, s', rfl, hE, hhd, h2, hr2, f2, hb2⟩
  have hp2 := f2.get hp1 (fun hh => by
    rcases List.mem_cons.1 hh with e | e
    · omega
    · exact hpt e)
  simp only [Q0, Q1, Q2, Q3, Q4, Q5, Q6, Q7, Q8, Q9, Qa, Qb, Qc, Qd, Qe, Qf, Qg, Qh, Qi, Qj]
  refine Join_direct ?_
  simp only [nilV2_eql_nil, Q0, Q1, Q2, Q3, Q4, Q5, Q6, Q7, Q8, Q9, Qa, Qb, Qc, Qd, Qe, Qf, Qg, Qh, Qi, Qj]
  refine store_part hp2 rfl fun H3 hp3 f3 z3 => ?_
  refine Join_direct ?_
  refine Join_direct ?_
  simp only [nilV2_neq_nil, Q0, Q1, Q2, Q3, Q4, Q5, Q6, Q7, Q8, Q9, Qa, Qb, Qc, Qd, Qe, Qf, Qg, Qh, Qi, Qj, Bool.false_eq_true, if_false]
  have hE3 := hE.frm f3 (fun x hx => by have := hb2 x hx; rw [List.mem_singleton]; omega)
  have f02 : Frm (pt :: S.ids) H H2 := (f1.mono (by simp)).up f2 (fun x hx => by
    rcases List.mem_cons.1 hx with rfl | hx
    · exact .inr (Nat.le_refl _)
    · exact .inl (by simp [hx]))
  refine ⟨hm', N, E, s', trivial, hp3, hE3, hhd, h2.frm f3 (fun x hx => ?_) (fun x hx => ?_) ?_, hr2, f02.trans (f3.mono (by simp)), fun x hx => by have := hb2 x hx; omega⟩
  · rw [List.mem_singleton]; rintro rfl; exact hpt hx
  · rw [List.mem_singleton]; rintro rfl; exact hpv hx
  · rw [List.mem_singleton]; exact fun e => hp0 e.symm
def rawEnv (S : Stk) (mr tb : Nat) (m : MRf) (bd : List UInt8) (B : Nat) (ea ua : Addr) (mode : Option (List UInt8)) (pt hm : Nat) : REnv :=
  ⟨S, mr, tb, m, bd, pt, ⟨.map (some hm), .string ⟨#[]⟩, .map none, .iface 189 (.agg #[.pointer (some ⟨pt, 0, none⟩)])⟩, 148, B, ea, ua, mode⟩
def modeTail (bd : List UInt8) (mode : Option (List UInt8)) : List UInt8 := match mode with | some t => nldOf bd ++ t | none => []
structure PR (S : Stk) (mr tb : Nat) (m : MRf) (bd : List UInt8) (B : Nat) (ea ua : Addr) (s : St) (H : Heap) : Prop where
  rd : RdAt S s H
  ma : MRAt S mr tb m bd H
  er : Errs B ea ua H
  bdr : BdR bd
  low : ∀ x ∈ mr :: tb :: S.ids, B ≤ x
  hE : S.Et = 138 ∧ S.Ev = .pointer (some ea)
  tbf : S.tbf = 5
  vlt : ∀ x, blk S.v = some x → x < H.size
  tbl : tb < H.size
  base : B ≤ H.size
theorem PR.ids {S : Stk} {mr tb : Nat} {m : MRf} {bd : List UInt8} {B : Nat} {ea ua : Addr} {s s' : St} {H H' : Heap} (h : PR S mr tb m bd B ea ua s H) (hr : RdAt S s' H') (f : Frm S.ids H H') : PR S mr tb m bd B ea ua s' H' :=
  ⟨hr, h.ma.ids f, h.er.frm f (fun x hx => h.low x (by simp [hx])), h.bdr, h.low, h.hE, h.tbf, fun x hx => Nat.lt_of_lt_of_le (h.vlt x hx) f.size, Nat.lt_of_lt_of_le h.tbl f.size, Nat.le_trans h.base f.size⟩
theorem PR.lt {S : Stk} {mr tb : Nat} {m : MRf} {bd : List UInt8} {B : Nat} {ea ua : Addr} {s : St} {H : Heap} (h : PR S mr tb m bd B ea ua s H) : ∀ x ∈ mr :: tb :: S.ids, x < H.size := by
  intro x hx
  rcases List.mem_cons.1 hx with rfl | hx
  · exact lt_of_some h.ma.hm
  · rcases List.mem_cons.1 hx with rfl | hx
    · exact h.tbl
    · exact h.rd.ids_lt x hx
theorem PR.four {S : Stk} {mr tb : Nat} {m : MRf} {bd : List UInt8} {B : Nat} {ea ua : Addr} {s : St} {H : Heap} (h : PR S mr tb m bd B ea ua s H) : 4 ∉ S.ids := fun hm => by
  have := h.low 4 (by simp [hm])
  have := h.er.b16
  omega
theorem newPart_ok {S : Stk} {mr tb : Nat} {m : MRf} {bd : List UInt8} {B : Nat} {ea ua : Addr} {s : St} {H : Heap} {mode : Option (List UInt8)} {ls : List (List UInt8 × List UInt8)} {b : List UInt8} (h : PR S mr tb m bd B ea ua s H)
    (hr : s.rest S = linesText ls ++ 13 :: 10 :: (b ++ modeTail bd mode)) (hls : ∀ kv ∈ ls, LineOk kv) (hn : ls.length ≤ 110) (hnw : Nowhere b (nldOf bd)) (ht0 : (dashOf bd).isPrefixOf (b ++ modeTail bd mode) = false) (hfull : ∀ t, mode = some t → FullT t) (htot : b.length < 2 ^ 38) :
    CallsH Tryz.prog 96 #[.pointer (some ⟨mr, 0, none⟩), .bool true, .int .i64 10485760, .int .i64 10000] H fun x H' => ∃ pt hm N E s', x = .tuple #[.pointer (some ⟨pt, 0, none⟩), .nilIface] ∧ RB (rawEnv S mr tb m bd B ea ua mode pt hm) b 0 0 .go false s' H' ∧ Ents H' hm N E ∧ E.map Ent.hd = hdrOf ls ∧ Frm S.ids H H' ∧ H.size ≤ pt ∧ pt < H'.size ∧ (∀ x ∈ Ents.blks hm E, H.size ≤ x ∧ x ≠ pt) := by
  have hidl := h.rd.ids_lt
  have hmrl := lt_of_some h.ma.hm
  have h16 := h.er.b16
  have hbase := h.base
  apply s96
  simp only [c96, NewMap]
  have f1 : Frm [] H (H.push (.map #[] 0)) := Frm.push _ _ _
  have z1 : (H.push (.map #[] 0)).size = H.size + 1 := by simp
  generalize H.push (.map #[] 0) = H1 at *
  have e : fillV #[(0, 1), (1, 1), (2, 1), (3, 1), (4, 1), (5, 1), (6, 1), (7, 1), (8, 1)] #[(.map none), (.pointer none), (.string ⟨#[]⟩), (.map none), .nilIface, (.int .i64 0), (.int .i64 0), .nilIface, .nilIface] [(0, .map (some H.size)), (1, .pointer (some ⟨mr, 0, none⟩))] = some (ptCells ⟨.map (some H.size), .string ⟨#[]⟩, .map none, .nilIface⟩ mr 0 0 .nilIface .nilIface) := by
    rw [fillV_cons rfl rfl (by simp), fillV_cons rfl rfl (by simp), fillV_nil]; rfl
  simp only [e, Option.map_some, Q6, New, Value.cells]
  have hp2 := push_same H1 (.cells (ptCells ⟨.map (some H.size), .string ⟨#[]⟩, .map none, .nilIface⟩ mr 0 0 .nilIface .nilIface) 148 (0, 0))
  have f2 : Frm [] H1 (H1.push (.cells (ptCells ⟨.map (some H.size), .string ⟨#[]⟩, .map none, .nilIface⟩ mr 0 0 .nilIface .nilIface) 148 (0, 0))) := Frm.push _ _ _
  have z2 : (H1.push (.cells (ptCells ⟨.map (some H.size), .string ⟨#[]⟩, .map none, .nilIface⟩ mr 0 0 .nilIface .nilIface) 148 (0, 0))).size = H1.size + 1 := by simp
  generalize H1.push (.cells (ptCells ⟨.map (some H.size), .string ⟨#[]⟩, .map none, .nilIface⟩ mr 0 0 .nilIface .nilIface) 148 (0, 0)) = H2 at *
  have f02 : Frm [] H H2 := f1.trans f2
  have h2 : PR S mr tb m bd B ea ua s H2 := h.ids (h.rd.frm f02 (by simp) (by simp) (by simp)) (f02.mono (by simp))
  have hpi : H1.size ∉ S.ids := fun hm => by have := hidl _ hm; omega
  have hpv : blk S.v ≠ some H1.size := fun hm => by have := h.vlt _ hm; omega
  refine (populate_ok hp2 h2.ma h2.rd h2.er.full h2.four h2.vlt h2.tbf hpi hpv (by omega) hr hls hn).mono ?_
  rintro x H3 ⟨hm, N, E, s3, rfl, hp3, hE3, hhd, h3, hr3, f3, hb3⟩
  have hpi2 : H1.size ∉ mr :: tb :: S.ids := fun hmm => by have := h.lt _ hmm; omega
  have hma3 : MRAt S mr tb m bd H3 := h2.ma.frm f3 (fun hmm => by
    rcases List.mem_cons.1 hmm with e | e
    · omega
    · exact h.ma.hmr e) (fun hmm => by
    rcases List.mem_cons.1 hmm with e | e
    · have := h.tbl; omega
    · exact h.ma.ht (by simp [e]))
  have her3 : Errs B ea ua H3 := h2.er.frm f3 (fun x hx => by
    rcases List.mem_cons.1 hx with rfl | hx
    · omega
    · exact h.low x (by simp [hx]))
  simp only [nilV2_neq_nil, Q0, Q1, Q2, Q3, Q4, Q5, Q6, Q7, Q8, Q9, Qa, Qb, Qc, Qd, Qe, Qf, Qg, Qh, Qi, Qj]
  have e2 : fillV #[(0, 1)] #[(.pointer none)] [(0, .pointer (some ⟨H1.size, 0, none⟩))] = some #[.pointer (some ⟨H1.size, 0, none⟩)] := by
    rw [fillV_cons rfl rfl (by simp), fillV_nil]; rfl
  simp only [e2, Option.map_some, Q0, Q1, Q2, Q3, Q4, Q5, Q6, Q7, Q8, Q9, Qa, Qb, Qc, Qd, Qe, Qf, Qg, Qh, Qi, Qj]
  refine Store_of hp3 (by simp [ptCells]) rfl fun H4 hp4 f4 z4 => ?_
  refine Join_direct ?_
  simp only [Q0, Q1, Q2, Q3, Q4, Q5, Q6, Q7, Q8, Q9, Qa, Qb, Qc, Qd, Qe, Qf, Qg, Qh, Qi, Qj, Bool.not_true]
  have h4 : RdAt S s3 H4 := h3.frm f4 (fun x hx => by rw [List.mem_singleton]; rintro rfl; exact hpi hx) (fun x hx => by rw [List.mem_singleton]; rintro rfl; exact hpv hx) (by rw [List.mem_singleton]; omega)
  have hsz3 := f3.size
  refine ⟨H1.size, hm, N, E, s3, rfl, ?_, hE3.frm f4 (fun x hx => by have := hb3 x hx; rw [List.mem_singleton]; omega), hhd, ?_, by omega, by omega, fun x hx => by have := hb3 x hx; omega⟩
  · refine { rd := h4, ma := hma3.frm f4 (by rw [List.mem_singleton]; omega) (by rw [List.mem_singleton]; have := h.tbl; omega), hp := ?_, er := her3.frm f4 (by simp; omega), bdr := h.bdr, rest := ?_, nw := hnw, t0 := fun _ => ?_, nb := Nat.zero_le _, nk := Nat.zero_le _, full := fun t ht => ⟨hfull t ht, rfl, by simp, by simp⟩, cut := fun _ => ⟨by simp, by simp⟩, tot := by simpa using htot, low := fun x hx => ?_, hpt := hpi2, hpv := hpv, hE := h.hE }
    · simp only [ptCells, Qt, Qu, Qv] at hp4
      exact hp4
    · rw [show (rawEnv S mr tb m bd B ea ua mode H1.size hm).S = S from rfl, hr3]
      rfl
    · exact ht0
    · rcases List.mem_cons.1 hx with rfl | hx
      · show B ≤ H1.size; omega
      · exact h.low x hx
  · exact ((f02.mono (by simp)).up f3 (fun x hx => by
      rcases List.mem_cons.1 hx with rfl | hx
      · exact .inr (by omega)
      · exact .inl hx)).up f4 (fun x hx => by rw [List.mem_singleton] at hx; subst hx; exact .inr (by omega))
end Go.Cps
namespace Go.Cps
open Go Go.Proofs
set_option maxRecDepth 100000
def c65 (a0 a1 : Value) (H : Heap) (R : Value → Heap → Prop) : Prop :=
  CallsH Tryz.prog 88 #[a0, a1, (.slice none 0 0)] H fun x8 H =>
  Get (extractV x8 0) fun x9 =>
  Get (extractV x8 1) fun x10 =>
  R (.tuple #[x9, x10]) H
def p65 : Plan := .seq (.leaf []) (.seq (.leaf []) (.leaf []))
theorem s65 {a0 a1 : Value} {H : Heap} {R : Value → Heap → Prop} (h : c65 a0 a1 H R) : CallsH Tryz.prog 65 #[a0, a1] H R :=
  callsH_of_eq p65 (fn := Tryz.f65) (c := Tryz.f65.body.getD .skip) (args := [a0, a1]) Tryz.func65 (by kernel_rfl) mixed (by kernel_rfl) (by kernel_rfl) (by kernel_rfl) h
def c88 (a0 a1 a2 : Value) (H : Heap) (R : Value → Heap → Prop) : Prop :=
  ExecV Tryz.prog (Instr.typeAssert a1 77 172 true) H fun x21 H =>
  Get (extractV x21 0) fun x22 =>
  Get (extractV x21 1) fun x23 =>
  Br x23 (
  Invoke Tryz.prog "WriteTo" x22 #[a0] H fun x27 H =>
  Get (extractV x27 0) fun x28 =>
  Get (extractV x27 1) fun x29 =>
  R (.tuple #[x28, x29]) H) (
  ExecV Tryz.prog (Instr.typeAssert a0 63 176 true) H fun x32 H =>
  Get (extractV x32 0) fun x33 =>
  Get (extractV x32 1) fun x34 =>
  Br x34 (
  Invoke Tryz.prog "ReadFrom" x33 #[a1] H fun x38 H =>
  Get (extractV x38 0) fun x39 =>
  Get (extractV x38 1) fun x40 =>
  R (.tuple #[x39, x40]) H) (
  Join (fun K1 =>
  Get (nilV2 .eql (.slice none 0 0) a2) fun x42 =>
  Br x42 (
  Join (fun K2 =>
  ExecV Tryz.prog (Instr.typeAssert a1 77 179 true) H fun x45 H =>
  Get (extractV x45 0) fun x46 =>
  Get (extractV x45 1) fun x47 =>
  Join (fun K3 =>
  Br x47 (
  Fld 1 x46 H fun x54 =>
  Get (arithV .gtr .i64 (.int .i64 32768) x54) fun x55 =>
  Get (pickV (.bool true) x55 (.bool false)) fun x56 =>
  K3 [x56] H) (
  Get (pickV (.bool false) undef (.bool false)) fun x56_1 =>
  K3 [x56_1] H)) fun vs4 H =>
  Br (nth vs4 0) (
  Fld 1 x46 H fun x60 =>
  Get (arithV .lss .i64 x60 (.int .i64 1)) fun x61 =>
  Br x61 (
  K2 [(.int .i64 1)] H) (
  Fld 1 x46 H fun x65 =>
  K2 [x65] H)) (
  K2 [(.int .i64 32768)] H)) fun vs5 H =>
  MakeSlice 5 1 1 #[(.int .u8 0)] (nth vs5 0) (nth vs5 0) H fun x67 H =>
  K1 [x67] H) (
  K1 [a2] H)) fun vs6 H =>
  Join (fun K7 =>
  Loop [(.int .i64 0), .nilIface] H fun K8 vs9 H =>
  Invoke Tryz.prog "Read" a1 #[(nth vs6 0)] H fun x71 H =>
  Get (extractV x71 0) fun x72 =>
  Get (extractV x71 1) fun x73 =>
  Join (fun K10 =>
  Get (arithV .gtr .i64 x72 (.int .i64 0)) fun x75 =>
  Br x75 (
  Get (sliceV 1 (nth vs6 0) (some (.int .i64 0)) (some x72) none) fun x80 =>
  Get (nilV (.func (.method "Write") #[a0] #[])) fun _ =>
  Invoke Tryz.prog "Write" a0 #[x80] H fun x84 H =>
  Get (extractV x84 0) fun x85 =>
  Get (extractV x84 1) fun x86 =>
  Join (fun K11 =>
  Join (fun K12 =>
  Get (arithV .lss .i64 x85 (.int .i64 0)) fun x88 =>
  Br x88 (
  Get (pickV (.bool true) (.bool true) undef) fun x93 =>
  K12 [x93] H) (
  Get (arithV .lss .i64 x72 x85) fun x92 =>
  Get (pickV (.bool false) (.bool true) x92) fun x93_1 =>
  K12 [x93_1] H)) fun vs13 H =>
  Br (nth vs13 0) (
  Get (nilV2 .eql .nilIface x86) fun x95 =>
  Br x95 (
  Get (load1V (.pointer (some ⟨2, 0, none⟩)) H) fun x96 =>
  K11 [(.int .i64 0), x96] H) (
  K11 [(.int .i64 0), x86] H)) (
  K11 [x85, x86] H)) fun vs14 H =>
  Get (arithV .add .i64 (nth vs9 0) (nth vs14 0)) fun x99 =>
  Get (nilV2 .neq .nilIface (nth vs14 1)) fun x101 =>
  Br x101 (
  K7 [x99, (nth vs14 1)] H) (
  Get (arithV .neq .i64 x72 (nth vs14 0)) fun x105 =>
  Br x105 (
  Get (load1V (.pointer (some ⟨3, 0, none⟩)) H) fun x106 =>
  K7 [x99, x106] H) (
  K10 [x99, (nth vs9 1)] H))) (
  K10 [(nth vs9 0), (nth vs9 1)] H)) fun vs15 H =>
  Get (nilV2 .neq .nilIface x73) fun x108 =>
  Br x108 (
  Join (fun K16 =>
  Get (load1V (.pointer (some ⟨0, 0, none⟩)) H) fun x110 =>
  ExecV Tryz.prog (do eqGuard .neq 60 (.tmp 109) (.tmp 110) x73 x110; binOp .neq 60 x73 x110) H fun x111 H =>
  Br x111 (
  K16 [x73] H) (
  K16 [(nth vs15 1)] H)) fun vs17 H =>
  K7 [(nth vs15 0), (nth vs17 0)] H) (
  K8 [(nth vs15 0), (nth vs15 1)] H)) fun vs18 H =>
  R (.tuple #[(nth vs18 0), (nth vs18 1)]) H))
def p88 : Plan := .seq (.leaf []) (.seq (.seq (.leaf []) (.seq (.leaf []) (.cond (.seq (.leaf []) (.leaf [])) (.leaf [])))) (.seq (.seq (.leaf []) (.seq (.leaf []) (.cond (.seq (.leaf []) (.leaf [])) (.leaf [])))) (.join [2] (.seq (.leaf []) (.cond (.seq (.leaf []) (.join [12] (.seq (.leaf []) (.join [56] (.leaf []) (.cond (.seq (.leaf []) (.cond (.leaf []) (.leaf []))) (.leaf [])))) (.leaf []))) (.leaf []))) (.join [6, 7] (.block (.loop [6, 7] (.block (.seq (.leaf []) (.join [6, 7] (.seq (.leaf []) (.cond (.seq (.leaf [0, 1, 2, 3, 4, 5, 6, 7, 8, 9, 10, 11, 12]) (.join [17, 18] (.join [93] (.leaf []) (.cond (.seq (.leaf []) (.seq (.leaf []) (.cond (.leaf []) (.leaf [])))) (.leaf []))) (.seq (.leaf []) (.seq (.seq (.leaf []) (.cond (.seq (.leaf []) (.leaf [])) (.leaf []))) (.seq (.leaf []) (.cond (.seq (.leaf []) (.leaf [])) (.leaf []))))))) (.leaf []))) (.seq (.leaf []) (.cond (.join [7] (.seq (.leaf []) (.cond (.leaf []) (.leaf []))) (.leaf [])) (.leaf [])))))))) (.seq (.leaf []) (.leaf []))))))
theorem s88 {a0 a1 a2 : Value} {H : Heap} {R : Value → Heap → Prop} (h : c88 a0 a1 a2 H R) : CallsH Tryz.prog 88 #[a0, a1, a2] H R :=
  callsH_of_eq p88 (fn := Tryz.f88) (c := Tryz.f88.body.getD .skip) (args := [a0, a1, a2]) Tryz.func88 (by kernel_rfl) mixed (by kernel_rfl) (by kernel_rfl) (by kernel_rfl) h
def c210 (a0 a1 : Value) (H : Heap) (R : Value → Heap → Prop) : Prop :=
  Get (nilV a0) fun x10 =>
  Get (fieldAddrV 2 x10) fun x11 =>
  Get (store1V x11 (.int .i8 0) H) fun H =>
  Join (fun K1 =>
  CallsH Tryz.prog 101 #[a0] H fun x13 H =>
  Get (arithV .gtr .i64 x13 (.int .i64 0)) fun x15 =>
  Br x15 (
  Fld 0 a0 H fun x21 =>
  Fld 1 a0 H fun x25 =>
  Get (sliceV 1 x21 (some x25) none none) fun x26 =>
  Get (nilV (.func (.method "Write") #[a1] #[])) fun _ =>
  Invoke Tryz.prog "Write" a1 #[x26] H fun x30 H =>
  Get (extractV x30 0) fun x31 =>
  Get (extractV x30 1) fun x32 =>
  Join (fun K2 =>
  Get (arithV .gtr .i64 x31 x13) fun x35 =>
  Br x35 (
  Get (some (Value.iface 9 (.string ⟨#[98, 121, 116, 101, 115, 46, 66, 117, 102, 102, 101, 114, 46, 87, 114, 105, 116, 101, 84, 111, 58, 32, 105, 110, 118, 97, 108, 105, 100, 32, 87, 114, 105, 116, 101, 32, 99, 111, 117, 110, 116]⟩))) fun _ =>
  False) (
  K2 [] H)) fun _ H =>
  Fld 1 a0 H fun x40 =>
  Get (arithV .add .i64 x40 x31) fun x42 =>
  Get (nilV a0) fun x43 =>
  Get (fieldAddrV 1 x43) fun x44 =>
  Get (store1V x44 x42 H) fun H =>
  Get (nilV2 .neq .nilIface x32) fun x47 =>
  Br x47 (
  R (.tuple #[x31, x32]) H) (
  Get (arithV .neq .i64 x31 x13) fun x52 =>
  Br x52 (
  Get (load1V (.pointer (some ⟨3, 0, none⟩)) H) fun x54 =>
  R (.tuple #[x31, x54]) H) (
  K1 [x31] H))) (
  K1 [(.int .i64 0)] H)) fun vs4 H =>
  CallsH Tryz.prog 102 #[a0] H fun _ H =>
  R (.tuple #[(nth vs4 0), .nilIface]) H
def p210 : Plan := .seq (.leaf []) (.seq (.leaf []) (.join [4] (.seq (.leaf []) (.seq (.leaf []) (.cond (.seq (.leaf [0, 1, 2, 3, 4, 5, 6, 7, 8, 9, 10, 11, 12, 13, 14, 15, 16, 17, 18]) (.join [] (.seq (.leaf []) (.cond (.leaf []) (.leaf []))) (.seq (.leaf []) (.seq (.leaf []) (.seq (.seq (.leaf []) (.cond (.seq (.leaf []) (.leaf [])) (.leaf []))) (.seq (.leaf []) (.cond (.seq (.leaf [0, 1, 2, 3]) (.leaf [])) (.leaf [])))))))) (.leaf [])))) (.seq (.leaf []) (.seq (.leaf []) (.leaf [])))))
theorem s210 {a0 a1 : Value} {H : Heap} {R : Value → Heap → Prop} (h : c210 a0 a1 H R) : CallsH Tryz.prog 210 #[a0, a1] H R :=
  callsH_of_eq p210 (fn := Tryz.f210) (c := Tryz.f210.body.getD .skip) (args := [a0, a1]) Tryz.func210 (by kernel_rfl) mixed (by kernel_rfl) (by kernel_rfl) (by kernel_rfl) h
def c212 (a0 a1 : Value) (H : Heap) (R : Value → Heap → Prop) : Prop :=
  Fld 1 a0 H fun x9 =>
  Br x9 (
  CallsH Tryz.prog 60 #[(.string ⟨#[109, 117, 108, 116, 105, 112, 97, 114, 116, 58, 32, 99, 97, 110, 39, 116, 32, 119, 114, 105, 116, 101, 32, 116, 111, 32, 102, 105, 110, 105, 115, 104, 101, 100, 32, 112, 97, 114, 116]⟩)] H fun x10 H =>
  R (.tuple #[(.int .i64 0), x10]) H) (
  Fld 0 a0 H fun x15 =>
  Fld 0 x15 H fun x18 =>
  Invoke Tryz.prog "Write" x18 #[a1] H fun x20 H =>
  Get (extractV x20 0) fun x21 =>
  Get (extractV x20 1) fun x22 =>
  Join (fun K1 =>
  Get (nilV2 .neq .nilIface x22) fun x24 =>
  Br x24 (
  Get (nilV a0) fun x27 =>
  Get (fieldAddrV 2 x27) fun x28 =>
  Get (store1V x28 x22 H) fun H =>
  K1 [] H) (
  K1 [] H)) fun _ H =>
  R (.tuple #[x21, x22]) H)
def p212 : Plan := .seq (.leaf []) (.seq (.seq (.leaf []) (.cond (.seq (.leaf []) (.leaf [])) (.leaf []))) (.seq (.leaf []) (.join [] (.seq (.leaf []) (.cond (.leaf []) (.leaf []))) (.leaf []))))
theorem s212 {a0 a1 : Value} {H : Heap} {R : Value → Heap → Prop} (h : c212 a0 a1 H R) : CallsH Tryz.prog 212 #[a0, a1] H R :=
  callsH_of_eq p212 (fn := Tryz.f212) (c := Tryz.f212.body.getD .skip) (args := [a0, a1]) Tryz.func212 (by kernel_rfl) mixed (by kernel_rfl) (by kernel_rfl) (by kernel_rfl) h
end Go.Cps
namespace Go.Cps
open Go Go.Proofs
theorem assertRunW (v : Value) (w : World) : (Instr.typeAssert (.iface 58 v) 77 172 true).run Tryz.prog w = .ok (.tuple #[.iface 58 v, .bool true]) w := by kernel_rfl
section
attribute [local irreducible] Sem.run
theorem tassertW {r : Value} {H : Heap} {K : Value → Heap → Prop} : ExecV Tryz.prog (Instr.typeAssert (.iface 58 r) 77 172 true) H K = K (.tuple #[.iface 58 r, .bool true]) H := ExecV.eq fun w _ => assertRunW r w
end
theorem meth58W : methodRes Tryz.prog 58 "WriteTo" = some 210 := by kernel_rfl
theorem body210 : hasBody Tryz.prog 210 = true := by kernel_rfl
theorem nilV_method {name : String} {t : TypeId} {v : Value} (h : aheadP Tryz.prog t v name = true) : nilV (.func (.method name) #[.iface t v] #[]) = some (.func (.method name) #[.iface t v] #[]) := by
  unfold nilV nilVP
  simp [h]
theorem ahead58W (a : Addr) : aheadP Tryz.prog 58 (.pointer (some a)) "Write" = true := by kernel_rfl
theorem writeTo_ok {b ob : Nat} {k ko : Option Nat} {l lo : List UInt8} {H : Heap} (h : BufAt b k l H) (ho : BufAt ob ko lo H) (hne : b ≠ ob) (hb1 : ko ≠ some b) (hb2 : k ≠ some ob) (hkk : ∀ g, k = some g → ko ≠ some g) (hl : l ≠ []) (hlen : lo.length + l.length < 2 ^ 40) :
    CallsH Tryz.prog 210 #[.pointer (some ⟨b, 0, none⟩), .iface 58 (.pointer (some ⟨ob, 0, none⟩))] H fun x H' => x = .tuple #[.int .i64 l.length, .nilIface] ∧ ∃ k', BufAt ob k' (lo ++ l) H' ∧ Frm (b :: ob :: ko.toList) H H' ∧ (k' = ko ∨ ∃ g, k' = some g ∧ H.size ≤ g) := by
  have hpos : 0 < l.length := List.length_pos_iff.2 hl
  obtain ⟨sl, lr, hbc, hown⟩ := h
  apply s210
  simp only [c210, Q0, Q1, Q2, Q3, Q4, Q5, Q6, Q7, Q8, Q9, Qa, Qb, Qc, Qd, Qe, Qf, Qg, Qh, Qi, Qj]
  refine Store_of hbc (by simp) rfl fun H1 hc1 f1 z1 => ?_
  simp only [Qt, Qu, Qv] at hc1
  have hown1 := hown.frm f1 (fun g hg => by simpa using hown.ne g hg)
  have ho1 := ho.frm f1 (by simpa using hne.symm) (fun g hg => by rw [List.mem_singleton]; rintro rfl; exact hb1 hg)
  obtain ⟨base, c, rfl, hlc, hcm⟩ := hown1.shape
  refine Join_direct ?_
  refine (len_ok hc1 (by omega)).mono ?_
  rintro x H1 ⟨rfl, rfl⟩
  have d0 : decide ((l.length : Int) > 0) = true := by simp; omega
  have s1 : sliceV 1 (.slice base l.length c) (some (.int .i64 0)) none none = some (.slice base l.length c) := by
    have := sliceV_lo (a := base) (n := l.length) (c := c) (size := 1) (lo := 0) (Nat.zero_le _) .i64
    rw [show ((0 : Nat) : Int) = 0 from rfl] at this
    rw [this]
    cases base with
    | none => simp
    | some a => simp [Addr.add]
  have hsb := hown1.bytes
  simp only [Q0, Q1, Q2, Q3, Q4, Q5, Q6, Q7, Q8, Q9, Qa, Qb, Qc, Qd, Qe, Qf, Qg, Qh, Qi, Qj, Qk, Ql, Qm, Qn, Qo, Qp, Qq, Qr, Qs, d0, cellH_of hc1, s1, nilV_method (ahead58W _)]
  refine invoke_of 209 meth58 body209 ?_
  refine (bufWrite_ok ho1 hsb (fun y hy => ?_) hlen).mono ?_
  · rintro rfl
    cases k with
    | none => have := hown1.1; rw [this] at hy; simp [blk] at hy
    | some g =>
      obtain ⟨cells, h1, _⟩ := hown1
      rw [h1] at hy
      simp only [blk, Option.some.injEq] at hy
      exact hb2 (by rw [hy])
  rintro x H2 ⟨rfl, k', ho2, f2, hk'⟩
  have hc2 := f2.get hc1 (fun hm => by
    rcases List.mem_cons.1 hm with h | h
    · exact hne h
    · exact hb1 (by simpa using h))
  have d1 : decide ((l.length : Int) > (l.length : Int)) = false := by simp
  simp only [Q0, Q1, Q2, Q3, Q4, Q5, Q6, Q7, Q8, Q9, Qa, Qb, Qc, Qd, Qe, Qf, Qg, Qh, Qi, Qj, Qk, Ql, Qm, Qn, Qo, Qp, Qq, Qr, Qs, d1]
  refine Join_direct ?_
  have e1 : IntKind.i64.wrap (0 + (l.length : Int)) = (l.length : Int) := by rw [wrap_i64 (by omega) (by omega)]; omega
  simp only [Q0, Q1, Q2, Q3, Q4, Q5, Q6, Q7, Q8, Q9, Qa, Qb, Qc, Qd, Qe, Qf, Qg, Qh, Qi, Qj, Qk, Ql, Qm, Qn, Qo, Qp, Qq, Qr, Qs, cellH_of hc2, e1]
  refine Store_of hc2 (by simp) rfl fun H3 hc3 f3 z3 => ?_
  simp only [Qt, Qu, Qv] at hc3
  have d2 : (((l.length : Nat) : Int) != ((l.length : Nat) : Int)) = false := by simp
  simp only [nilV2_neq_nil, Q0, Q1, Q2, Q3, Q4, Q5, Q6, Q7, Q8, Q9, Qa, Qb, Qc, Qd, Qe, Qf, Qg, Qh, Qi, Qj, Qk, Ql, Qm, Qn, Qo, Qp, Qq, Qr, Qs, d2]
  apply s102
  have s2 : sliceV 1 (.slice base l.length c) none (some (.int .i64 0)) none = some (.slice base 0 c) := sliceV_hi (hi := 0) (Nat.zero_le _) .i64
  simp only [c102, Q0, Q1, Q2, Q3, Q4, Q5, Q6, Q7, Q8, Q9, Qa, Qb, Qc, Qd, Qe, Qf, Qg, Qh, Qi, Qj, cellH_of hc3, s2]
  refine Store_of hc3 (by simp) rfl fun H4 hc4 f4 z4 => ?_
  simp only [Qt, Qu, Qv] at hc4
  refine Store_of hc4 (by simp) rfl fun H5 hc5 f5 z5 => ?_
  simp only [Qt, Qu, Qv] at hc5
  refine Store_of hc5 (by simp) rfl fun H6 hc6 f6 z6 => ?_
  have f36 : Frm [b] H2 H6 := ((f3.trans f4).trans f5).trans f6
  refine ⟨trivial, k', ho2.frm f36 (by simpa using hne.symm) (fun g hg => ?_), ?_, ?_⟩
  · rw [List.mem_singleton]
    rintro rfl
    rcases hk' with h | ⟨g', h, hge⟩
    · exact hb1 (by rw [← h, hg])
    · rw [hg] at h; cases h
      have := lt_of_some hc1
      omega
  · exact ((f1.mono (by simp)).trans (f2.mono (fun x hx => List.mem_cons_of_mem _ hx))).trans (f36.mono (by simp))
  · rcases hk' with h | ⟨g', h, hge⟩
    · exact .inl h
    · exact .inr ⟨g', h, by omega⟩
end Go.Cps
namespace Go.Cps
open Go Go.Proofs
def Closes (S : Stk) (mr tb : Nat) (m : MRf) (bd : List UInt8) (B : Nat) (ea ua : Addr) (r : List UInt8) (X : List Nat) (H : Heap) : Prop :=
  (m.cur = .pointer none ∧ ∃ s, PR S mr tb m bd B ea ua s H ∧ s.rest S = r) ∨
  ∃ p, m.cur = .pointer (some p) ∧ H[mr]? = some (.cells m.cells 127 (0, 0)) ∧ CallsH Tryz.prog 92 #[.pointer (some p)] H fun _ H' => ∃ s, PR S mr tb m bd B ea ua s H' ∧ s.rest S = r ∧ Frm (X ++ S.ids) H H'
theorem delim_line {bd : List UInt8} : delimLine ([45, 45] ++ bd ++ [13, 10]) ([45, 45] ++ bd) [13, 10] = true := by
  simp only [delimLine, prefix_self, List.drop_left, Bool.true_and]
  decide
theorem PR.parts {S : Stk} {mr tb : Nat} {m : MRf} {bd : List UInt8} {B : Nat} {ea ua : Addr} {s : St} {H H' : Heap} {v : Int} (h : PR S mr tb m bd B ea ua s H) (hm : H'[mr]? = some (.cells { m with parts := v }.cells 127 (0, 0))) (f : Frm [mr] H H') (hz : H'.size = H.size) : PR S mr tb { m with parts := v } bd B ea ua s H' := by
  have hne : ∀ x ∈ S.ids, x ∉ [mr] := fun x hx => by rw [List.mem_singleton]; rintro rfl; exact h.ma.hmr hx
  have htb : tb ∉ [mr] := by rw [List.mem_singleton]; intro e; exact h.ma.ht (by simp [e])
  have ma := h.ma
  refine ⟨h.rd.frm f hne (fun x hx => by rw [List.mem_singleton]; rintro rfl; exact ma.hv hx) (by rw [List.mem_singleton]; exact fun e => ma.h0 e.symm), ?_, h.er.frm f (fun x hx => h.low x (by simp at hx; simp [hx])), h.bdr, h.low, h.hE, h.tbf, fun x hx => by have := h.vlt x hx; omega, by have := h.tbl; omega, by have := h.base; omega⟩
  exact { hm := hm, hbr := ma.hbr, nl := ma.nl.frm f (fun x hx => by rw [ma.bl.1] at hx; cases hx; exact htb), nld := ma.nld.frm f (fun x hx => by rw [ma.bl.2.1] at hx; cases hx; exact htb), dd := ma.dd.frm f (fun x hx => by rw [ma.bl.2.2.1] at hx; cases hx; exact htb), dash := ma.dash.frm f (fun x hx => by rw [ma.bl.2.2.2] at hx; cases hx; exact htb), bl := ma.bl, ht := ma.ht, hmr := ma.hmr, hv := ma.hv, h0 := ma.h0 }
theorem next_ok {S : Stk} {mr tb : Nat} {m : MRf} {bd : List UInt8} {B : Nat} {ea ua : Addr} {H : Heap} {X : List Nat} {raw a2 a3 : Value} {pre r : List UInt8} {R : Value → Heap → Prop} (hcl : Closes S mr tb m bd B ea ua (pre ++ ([45, 45] ++ bd ++ [13, 10] ++ r)) X H) (hb : GoodBd bd)
    (hpre : (m.parts = 0 ∧ pre = []) ∨ (0 < m.parts ∧ m.parts < 2 ^ 40 ∧ pre = [13, 10]))
    (hnew : ∀ H1 s1, PR S mr tb { m with parts := m.parts + 1 } bd B ea ua s1 H1 → s1.rest S = r → Frm (mr :: X ++ S.ids) H H1 → CallsH Tryz.prog 96 #[.pointer (some ⟨mr, 0, none⟩), raw, a2, a3] H1 fun x H2 => ∃ p, x = .tuple #[.pointer (some p), .nilIface] ∧ H2[mr]? = some (.cells { m with parts := m.parts + 1 }.cells 127 (0, 0)) ∧
      ∀ H3, H3[mr]? = some (.cells { m with parts := m.parts + 1, cur := .pointer (some p) }.cells 127 (0, 0)) → Frm [mr] H2 H3 → H3.size = H2.size → R (.tuple #[.pointer (some p), .nilIface]) H3) :
    CallsH Tryz.prog 71 #[.pointer (some ⟨mr, 0, none⟩), raw, a2, a3] H R := by
  apply s71
  unfold c71
  refine ⟨fun _ H1 => ∃ s, PR S mr tb m bd B ea ua s H1 ∧ s.rest S = pre ++ ([45, 45] ++ bd ++ [13, 10] ++ r) ∧ Frm (X ++ S.ids) H H1, ?_, ?_⟩
  · rcases hcl with ⟨hc, s, hPR, hr⟩ | ⟨p, hc, hmr, hclose⟩
    · simp only [Q0, Q1, Q2, Q3, Q4, Q5, Q6, Q7, Q8, Q9, Qa, Qb, Qc, Qd, Qe, Qf, Qg, Qh, Qi, Qj, cellH_of hPR.ma.hm, MRf.cells, hc, nilV2_neq_ptr, Option.isNone_none, Bool.not_true]
      exact ⟨s, hPR, hr, Frm.refl _ _⟩
    · simp only [Q0, Q1, Q2, Q3, Q4, Q5, Q6, Q7, Q8, Q9, Qa, Qb, Qc, Qd, Qe, Qf, Qg, Qh, Qi, Qj, cellH_of hmr, MRf.cells, hc, nilV2_neq_ptr, Option.isNone_some, Bool.not_false]
      exact hclose
  rintro _ H1 ⟨s, h1, hr1, f1⟩
  have hstr : strV .eql (.string ⟨([45, 45] ++ bd).toArray⟩) (.string ⟨#[45, 45]⟩) = some (.bool false) := by
    rw [strV_eql, toList_mk, show (⟨#[45, 45]⟩ : ByteArray).toList = [45, 45] from toList_mk [45, 45], dash_ne hb.ne]
  simp only [Q0, Q1, Q2, Q3, Q4, Q5, Q6, Q7, Q8, Q9, Qa, Qb, Qc, Qd, Qe, Qf, Qg, Qh, Qi, Qj, cellH_of h1.ma.hm, MRf.cells, h1.ma.dash.str, hstr]
  refine ⟨fun n vs H2 => ∃ s2 f, vs = [.bool f] ∧ PR S mr tb m bd B ea ua s2 H2 ∧ Frm (X ++ S.ids) H H2 ∧ ((n = 1 ∧ f = false ∧ 0 < m.parts ∧ s2.rest S = [13, 10] ++ ([45, 45] ++ bd ++ [13, 10] ++ r)) ∨ (n = 0 ∧ s2.rest S = [45, 45] ++ bd ++ [13, 10] ++ r)), ?_, ?_⟩
  · rcases hpre with ⟨h0, rfl⟩ | ⟨h0, _, rfl⟩
    · exact ⟨0, s, false, rfl, h1, f1, .inr ⟨rfl, by simpa using hr1⟩⟩
    · exact ⟨1, s, false, rfl, h1, f1, .inl ⟨rfl, rfl, h0, hr1⟩⟩
  clear h1 hr1 f1
  rintro n vs H1 ⟨s1, f, rfl, h1, f1, hcase⟩
  have hE : ∀ {H2 s2}, RdAt S s2 H2 → cellH H2 ⟨0, 0, none⟩ = some (.iface 138 (.pointer (some ea))) := fun {H2 s2} h2 => by rw [← h1.hE.1, ← h1.hE.2]; exact h2.hE.load
  have hbr := h1.ma.hbr
  simp only [Q0, Q1, Q2, Q3, Q4, Q5, Q6, Q7, Q8, Q9, Qa, Qb, Qc, Qd, Qe, Qf, Qg, Qh, Qi, Qj, cellH_of h1.ma.hm, MRf.cells, hbr]
  rcases hcase with ⟨rfl, rfl, hpos, hr1⟩ | ⟨rfl, hr1⟩
  · refine (line_ok (p := [13]) (q := [45, 45] ++ bd ++ [13, 10] ++ r) h1.rd (by rw [hr1]; simp) (by decide) (by decide)).mono ?_
    rintro x H2 ⟨u, s2, rfl, h2, hu, hr2, hub, f2, z2⟩
    have m2 := h1.ma.ids f2
    have e2 := hE h2
    simp only [Q0, Q1, Q2, Q3, Q4, Q5, Q6, Q7, Q8, Q9, Qa, Qb, Qc, Qd, Qe, Qf, Qg, Qh, Qi, Qj]
    refine Join_direct ?_
    simp only [e2, Q6, eq_nil, Q0, Q1, Q2, Q3, Q4, Q5, Q6, Q7, Q8, Q9, Qa, Qb, Qc, Qd, Qe, Qf, Qg, Qh, Qi, Qj, Bool.false_eq_true, if_false, nilV2_neq_nil]
    refine (isDelim_ok m2.hm hu m2.dash m2.nl (by
      rw [List.drop_eq_nil_of_le (by simp)]; simp)).mono ?_
    rintro x H3 ⟨rfl, rfl⟩
    have d1 : delimLine ([13] ++ [10]) ([45, 45] ++ bd) [13, 10] = false := delim_blank
    rw [d1, Q8]
    refine (isFinal_ok m2.hm hu m2.dd m2.nl).mono ?_
    rintro x H4 ⟨rfl, rfl⟩
    have d2 : finalLine ([13] ++ [10]) ([45, 45] ++ bd ++ [45, 45]) [13, 10] = false := final_blank
    have d3 : (m.parts == 0) = false := by rw [beq_eq_false_iff_ne]; omega
    rw [d2]
    simp only [Q0, Q1, Q2, Q3, Q4, Q5, Q6, Q7, Q8, Q9, Qa, Qb, Qc, Qd, Qe, Qf, Qg, Qh, Qi, Qj, Qk, Ql, Qm, Qn, Qo, Qp, Qq, Qr, Qs, cellH_of m2.hm, MRf.cells, d3]
    refine (equal_ok hu m2.nl).mono ?_
    rintro x H5 ⟨rfl, rfl⟩
    have d4 : (([13] ++ [10] : List UInt8) == [13, 10]) = true := by decide
    simp only [d4, Q0, Q1, Q2, Q3, Q4, Q5, Q6, Q7, Q8, Q9, Qa, Qb, Qc, Qd, Qe, Qf, Qg, Qh, Qi, Qj]
    exact ⟨0, by omega, s2, true, rfl, h1.ids h2 f2, f1.trans (f2.mono (fun x hx => by simp [hx])), .inr ⟨rfl, hr2⟩⟩
  · refine (line_ok (p := [45, 45] ++ bd ++ [13]) (q := r) h1.rd (by rw [hr1]; simp) (by have := hb.nl; simp; exact this) (by have := hb.len; simp; omega)).mono ?_
    rintro x H2 ⟨u, s2, rfl, h2, hu, hr2, hub, f2, z2⟩
    have m2 := h1.ma.ids f2
    have e2 := hE h2
    have eu : [45, 45] ++ bd ++ [13] ++ [10] = [45, 45] ++ bd ++ [13, 10] := by simp
    rw [eu] at hu
    simp only [Q0, Q1, Q2, Q3, Q4, Q5, Q6, Q7, Q8, Q9, Qa, Qb, Qc, Qd, Qe, Qf, Qg, Qh, Qi, Qj]
    refine Join_direct ?_
    simp only [e2, Q6, eq_nil, Q0, Q1, Q2, Q3, Q4, Q5, Q6, Q7, Q8, Q9, Qa, Qb, Qc, Qd, Qe, Qf, Qg, Qh, Qi, Qj, Bool.false_eq_true, if_false, nilV2_neq_nil]
    refine (isDelim_ok m2.hm hu m2.dash m2.nl (by
      rw [List.drop_left]; decide)).mono ?_
    rintro x H3 ⟨rfl, rfl⟩
    rw [delim_line, Q7]
    have hparts : 0 ≤ m.parts ∧ m.parts < 2 ^ 40 := by rcases hpre with ⟨h, _⟩ | ⟨h, h', _⟩ <;> omega
    have ew : IntKind.i64.wrap (m.parts + 1) = m.parts + 1 := wrap_i64 (by omega) (by omega)
    simp only [Q0, Q1, Q2, Q3, Q4, Q5, Q6, Q7, Q8, Q9, Qa, Qb, Qc, Qd, Qe, Qf, Qg, Qh, Qi, Qj, Qk, Ql, Qm, Qn, Qo, Qp, Qq, Qr, Qs, cellH_of m2.hm, MRf.cells, ew]
    have hm2 := m2.hm
    refine Store_of hm2 (by simp [MRf.cells]) rfl fun H4 hm4 f4 z4 => ?_
    have hm4' : H4[mr]? = some (.cells { m with parts := m.parts + 1 }.cells 127 (0, 0)) := by simpa [MRf.cells] using hm4
    have h4 : PR S mr tb { m with parts := m.parts + 1 } bd B ea ua s2 H4 := (h1.ids h2 f2).parts hm4' f4 z4
    have f14 : Frm (mr :: X ++ S.ids) H H4 := ((f1.mono (fun x hx => by simp at hx; simp; exact .inr hx)).trans (f2.mono (fun x hx => by simp [hx]))).trans (f4.mono (by simp))
    refine (hnew H4 s2 h4 hr2 f14).mono ?_
    rintro x H5 ⟨p, rfl, hm5, hR⟩
    simp only [Q0, Q1, Q2, Q3, Q4, Q5, Q6, Q7, Q8, Q9, Qa, Qb, Qc, Qd, Qe, Qf, Qg, Qh, Qi, Qj, nilV2_neq_nil]
    refine Store_of hm5 (by simp [MRf.cells]) rfl fun H6 hm6 f6 z6 => ?_
    exact hR H6 (by simpa [MRf.cells] using hm6) f6 z6
theorem nextPart_end {S : Stk} {mr tb : Nat} {m : MRf} {bd : List UInt8} {B : Nat} {ea ua : Addr} {H : Heap} {X : List Nat} {raw a2 a3 : Value} (hcl : Closes S mr tb m bd B ea ua ([13, 10] ++ ([45, 45] ++ bd ++ [45, 45, 13, 10])) X H) (hb : GoodBd bd) :
    CallsH Tryz.prog 71 #[.pointer (some ⟨mr, 0, none⟩), raw, a2, a3] H fun x H' => x = .tuple #[.pointer none, .iface 138 (.pointer (some ea))] ∧ Frm (X ++ S.ids) H H' ∧ ∃ s, PR S mr tb m bd B ea ua s H' := by
  apply s71
  unfold c71
  refine ⟨fun _ H1 => ∃ s, PR S mr tb m bd B ea ua s H1 ∧ s.rest S = [13, 10] ++ ([45, 45] ++ bd ++ [45, 45, 13, 10]) ∧ Frm (X ++ S.ids) H H1, ?_, ?_⟩
  · rcases hcl with ⟨hc, s, hPR, hr⟩ | ⟨p, hc, hmr, hclose⟩
    · simp only [Q0, Q1, Q2, Q3, Q4, Q5, Q6, Q7, Q8, Q9, Qa, Qb, Qc, Qd, Qe, Qf, Qg, Qh, Qi, Qj, cellH_of hPR.ma.hm, MRf.cells, hc, nilV2_neq_ptr, Option.isNone_none, Bool.not_true]
      exact ⟨s, hPR, hr, Frm.refl _ _⟩
    · simp only [Q0, Q1, Q2, Q3, Q4, Q5, Q6, Q7, Q8, Q9, Qa, Qb, Qc, Qd, Qe, Qf, Qg, Qh, Qi, Qj, cellH_of hmr, MRf.cells, hc, nilV2_neq_ptr, Option.isNone_some, Bool.not_false]
      exact hclose
  rintro _ H1 ⟨s, h1, hr1, f1⟩
  have hstr : strV .eql (.string ⟨([45, 45] ++ bd).toArray⟩) (.string ⟨#[45, 45]⟩) = some (.bool false) := by
    rw [strV_eql, toList_mk, show (⟨#[45, 45]⟩ : ByteArray).toList = [45, 45] from toList_mk [45, 45], dash_ne hb.ne]
  simp only [Q0, Q1, Q2, Q3, Q4, Q5, Q6, Q7, Q8, Q9, Qa, Qb, Qc, Qd, Qe, Qf, Qg, Qh, Qi, Qj, cellH_of h1.ma.hm, MRf.cells, h1.ma.dash.str, hstr]
  refine ⟨fun n vs H2 => ∃ s2 f, vs = [.bool f] ∧ PR S mr tb m bd B ea ua s2 H2 ∧ Frm (X ++ S.ids) H H2 ∧ ((n = 1 ∧ f = false ∧ s2.rest S = [13, 10] ++ ([45, 45] ++ bd ++ [45, 45, 13, 10])) ∨ (n = 0 ∧ s2.rest S = [45, 45] ++ bd ++ [45, 45, 13, 10])), ⟨1, s, false, rfl, h1, f1, .inl ⟨rfl, rfl, hr1⟩⟩, ?_⟩
  clear h1 hr1 f1
  rintro n vs H1 ⟨s1, f, rfl, h1, f1, hcase⟩
  have hE : ∀ {H2 s2}, RdAt S s2 H2 → cellH H2 ⟨0, 0, none⟩ = some (.iface 138 (.pointer (some ea))) := fun {H2 s2} h2 => by rw [← h1.hE.1, ← h1.hE.2]; exact h2.hE.load
  have hbr := h1.ma.hbr
  simp only [Q0, Q1, Q2, Q3, Q4, Q5, Q6, Q7, Q8, Q9, Qa, Qb, Qc, Qd, Qe, Qf, Qg, Qh, Qi, Qj, cellH_of h1.ma.hm, MRf.cells, hbr]
  rcases hcase with ⟨rfl, rfl, hr1⟩ | ⟨rfl, hr1⟩
  · refine (line_ok (p := [13]) (q := [45, 45] ++ bd ++ [45, 45, 13, 10]) h1.rd (by rw [hr1]; simp) (by decide) (by decide)).mono ?_
    rintro x H2 ⟨u, s2, rfl, h2, hu, hr2, hub, f2, z2⟩
    have m2 := h1.ma.ids f2
    have e2 := hE h2
    simp only [Q0, Q1, Q2, Q3, Q4, Q5, Q6, Q7, Q8, Q9, Qa, Qb, Qc, Qd, Qe, Qf, Qg, Qh, Qi, Qj]
    refine Join_direct ?_
    simp only [e2, Q6, eq_nil, Q0, Q1, Q2, Q3, Q4, Q5, Q6, Q7, Q8, Q9, Qa, Qb, Qc, Qd, Qe, Qf, Qg, Qh, Qi, Qj, Bool.false_eq_true, if_false, nilV2_neq_nil]
    refine (isDelim_ok m2.hm hu m2.dash m2.nl (by
      rw [List.drop_eq_nil_of_le (by simp)]; simp)).mono ?_
    rintro x H3 ⟨rfl, rfl⟩
    have d1 : delimLine ([13] ++ [10]) ([45, 45] ++ bd) [13, 10] = false := delim_blank
    rw [d1, Q8]
    refine (isFinal_ok m2.hm hu m2.dd m2.nl).mono ?_
    rintro x H4 ⟨rfl, rfl⟩
    have d2 : finalLine ([13] ++ [10]) ([45, 45] ++ bd ++ [45, 45]) [13, 10] = false := final_blank
    rw [d2]
    simp only [Q0, Q1, Q2, Q3, Q4, Q5, Q6, Q7, Q8, Q9, Qa, Qb, Qc, Qd, Qe, Qf, Qg, Qh, Qi, Qj, Qk, Ql, Qm, Qn, Qo, Qp, Qq, Qr, Qs, cellH_of m2.hm, MRf.cells]
    have hf12 : Frm (X ++ S.ids) H H4 := f1.trans (f2.mono (fun x hx => by simp [hx]))
    refine Br_intro (fun _ => ⟨0, by omega, s2, false, rfl, h1.ids h2 f2, hf12, .inr ⟨rfl, hr2⟩⟩) (fun _ => ?_)
    refine (equal_ok hu m2.nl).mono ?_
    rintro x H5 ⟨rfl, rfl⟩
    have d4 : (([13] ++ [10] : List UInt8) == [13, 10]) = true := by decide
    simp only [d4, Q0, Q1, Q2, Q3, Q4, Q5, Q6, Q7, Q8, Q9, Qa, Qb, Qc, Qd, Qe, Qf, Qg, Qh, Qi, Qj]
    exact ⟨0, by omega, s2, true, rfl, h1.ids h2 f2, hf12, .inr ⟨rfl, hr2⟩⟩
  · refine (line_ok (p := [45, 45] ++ bd ++ [45, 45, 13]) (q := []) h1.rd (by rw [hr1]; simp) (by have := hb.nl; simp; exact this) (by have := hb.len; simp; omega)).mono ?_
    rintro x H2 ⟨u, s2, rfl, h2, hu, hr2, hub, f2, z2⟩
    have m2 := h1.ma.ids f2
    have e2 := hE h2
    have eu : [45, 45] ++ bd ++ [45, 45, 13] ++ [10] = [45, 45] ++ bd ++ [45, 45, 13, 10] := by simp
    rw [eu] at hu
    simp only [Q0, Q1, Q2, Q3, Q4, Q5, Q6, Q7, Q8, Q9, Qa, Qb, Qc, Qd, Qe, Qf, Qg, Qh, Qi, Qj]
    refine Join_direct ?_
    simp only [e2, Q6, eq_nil, Q0, Q1, Q2, Q3, Q4, Q5, Q6, Q7, Q8, Q9, Qa, Qb, Qc, Qd, Qe, Qf, Qg, Qh, Qi, Qj, Bool.false_eq_true, if_false, nilV2_neq_nil]
    refine (isDelim_ok m2.hm hu m2.dash m2.nl (by
      rw [List.drop_left]; decide)).mono ?_
    rintro x H3 ⟨rfl, rfl⟩
    rw [delim_end, Q8]
    refine (isFinal_ok m2.hm hu m2.dd m2.nl).mono ?_
    rintro x H4 ⟨rfl, rfl⟩
    rw [final_end]
    simp only [Q0, Q1, Q2, Q3, Q4, Q5, Q6, Q7, Q8, Q9, Qa, Qb, Qc, Qd, Qe, Qf, Qg, Qh, Qi, Qj, e2]
    exact ⟨trivial, f1.trans (f2.mono (fun x hx => by simp [hx])), s2, h1.ids h2 f2⟩
end Go.Cps
