/-
  A part of the proof: bufio.Reader.Read out of the buffer; LastIndexByte; matchAfterPrefix; bytesIndex. matchAfterPrefix and scanUntilBoundary. The plain law of scanning for a delimiter: no program in sight. The body of a part: partReader.Read.
  Conditions: each contract's own.
-/
import Derived.Test.YteajpfckbnfdaaaGreatDoorH9
set_option linter.all false
namespace Go.Cps
open Go Go.Proofs
theorem read_ok {S : Stk} {s : St} {H : Heap} {db o n dc : Nat} {cs : Array Value} {t : TypeId} (h : RdAt S s H) (hd : H[db]? = some (.cells cs t (0, 0))) (hdb : db ∉ S.ids) (hdv : blk S.v ≠ some db) (hd0 : db ≠ 0) (ho : o + n ≤ cs.size) (h0 : 0 < n) (hn : n ≤ s.w - s.r) :
    CallsH Tryz.prog 226 #[.pointer (some ⟨S.b, 0, none⟩), .slice (some ⟨db, o, none⟩) n dc] H fun x H' => ∃ s', x = .tuple #[.int .i64 n, .nilIface] ∧ RdAt S s' H' ∧ s'.rest S = (s.rest S).drop n ∧ s'.err = s.err ∧ s'.pos = s.pos ∧ s'.w = s.w ∧ s'.r = s.r + n ∧
      H'[db]? = some (.cells (putAt cs o (((s.rest S).take n).map byteV)) t (0, 0)) ∧ Frm (db :: S.ids) H H' ∧ H'.size = H.size := by
  have hrw := h.rw
  have hw4 := h.w4
  have hbl := h.bufd_len
  have hbfd : db ≠ S.bf := fun e => hdb (by simp [Stk.ids, e])
  have hbd : db ≠ S.b := fun e => hdb (by simp [Stk.ids, e])
  apply s215
  have hz : (((n : Nat) : Int) == 0) = false := by rw [beq_eq_false_iff_ne]; omega
  simp only [c215, Q0, Q1, Q2, Q3, Q4, Q5, Q6, Q7, Q8, Q9, Qa, Qb, Qc, Qd, Qe, Qf, Qg, Qh, Qi, Qj, Qk, Ql, Qm, Qn, Qo, Qp, Qq, Qr, Qs, hz]
  refine Join_direct ?_
  have hne : (((s.r : Nat) : Int) == ((s.w : Nat) : Int)) = false := by rw [beq_eq_false_iff_ne]; omega
  obtain ⟨y, hy, hyb, hyk, _⟩ := h.part' (i := s.r) (j := s.w) hrw hw4
  simp only [Q0, Q1, Q2, Q3, Q4, Q5, Q6, Q7, Q8, Q9, Qa, Qb, Qc, Qd, Qe, Qf, Qg, Qh, Qi, Qj, Qk, Ql, Qm, Qn, Qo, Qp, Qq, Qr, Qs, cellH_of h.hb, bufCells, hne, hy]
  refine copy_of hd hyb (by omega) ?_
  have hml : ((s.buf.take s.w).drop s.r).length = s.w - s.r := hbl
  have hmin : min ((s.buf.take s.w).drop s.r).length n = n := by omega
  rw [hmin]
  generalize hH1 : upd H db _ = H1
  have f1 : Frm [db] H H1 := by rw [← hH1]; exact Frm.upd _ (by simp)
  have z1 : H1.size = H.size := by rw [← hH1]; simp
  have hd1 : H1[db]? = some (.cells (putAt cs o (((s.buf.take s.w).drop s.r).take n |>.map byteV)) t (0, 0)) := by rw [← hH1]; exact upd_same (lt_of_some hd)
  have h1 : RdAt S s H1 := h.frm f1 (fun x hx => by
    rw [List.mem_singleton]
    intro e
    exact hdb (e ▸ hx)) (fun x hx => by
    rw [List.mem_singleton]
    intro e
    exact hdv (by rw [hx, e])) (by
    rw [List.mem_singleton]
    intro e
    exact hd0 e.symm)
  have e1 : IntKind.i64.wrap ((s.r : Int) + (n : Int)) = ((s.r + n : Nat) : Int) := by rw [wrap_i64 (by omega) (by omega)]; omega
  simp only [Q0, Q1, Q2, Q3, Q4, Q5, Q6, Q7, Q8, Q9, Qa, Qb, Qc, Qd, Qe, Qf, Qg, Qh, Qi, Qj, Qk, Ql, Qm, Qn, Qo, Qp, Qq, Qr, Qs, cellH_of h1.hb, bufCells, e1]
  refine h1.store { s with r := s.r + n } (by omega) rfl (by simp only [bufCells, Qt, Qu, Qv]) rfl rfl rfl rfl (by simp only []; omega) hw4 h.he fun H2 h2 f2 z2 => ?_
  have e2 : IntKind.i64.wrap (((s.r + n : Nat) : Int) - 1) = ((s.r + n - 1 : Nat) : Int) := by rw [wrap_i64 (by omega) (by omega)]; omega
  have hlt : s.r + n - 1 < s.buf.length := by rw [h.blen]; omega
  have hcell : cellH H2 ⟨S.bf, s.r + n - 1, none⟩ = some (byteV s.buf[s.r + n - 1]) := by
    rw [cellH_of h2.hbf]
    simp [List.getElem?_eq_getElem hlt]
  have hel : elemAddrV 1 (.slice (some ⟨S.bf, 0, none⟩) 4096 4096) (.int .i64 ((s.r + n - 1 : Nat) : Int)) = some (.pointer (some ⟨S.bf, s.r + n - 1, none⟩)) := by
    rw [elemAddr_of (by omega) (by omega)]
    simp
  simp only [Q0, Q1, Q2, Q3, Q4, Q5, Q6, Q7, Q8, Q9, Qa, Qb, Qc, Qd, Qe, Qf, Qg, Qh, Qi, Qj, Qk, Ql, Qm, Qn, Qo, Qp, Qq, Qr, Qs, cellH_of h2.hb, bufCells, e2, hel, hcell, byteV]
  refine h2.store { s with r := s.r + n, lb := IntKind.i64.wrap ((s.buf[s.r + n - 1].toNat : Nat) : Int) } (by omega) rfl (by simp only [bufCells, Qt, Qu, Qv]) rfl rfl rfl rfl (by simp only []; omega) hw4 h.he fun H3 h3 f3 z3 => ?_
  refine h3.store { s with r := s.r + n, lb := IntKind.i64.wrap ((s.buf[s.r + n - 1].toNat : Nat) : Int), lr := -1 } (by omega) rfl (by simp only [bufCells, Qt, Qu, Qv]) rfl rfl rfl rfl (by simp only []; omega) hw4 h.he fun H4 h4 f4 z4 => ?_
  have f24 : Frm S.ids H1 H4 := (f2.trans f3).trans f4
  refine ⟨_, trivial, h4, ?_, rfl, rfl, rfl, rfl, ?_, (f1.mono (by simp)).trans (f24.mono (fun x hx => List.mem_cons_of_mem _ hx)), by omega⟩
  · rw [St.rest_eq S s, List.drop_append_of_le_length (by omega), St.rest]
    simp only []
    rw [St.bufd, List.drop_drop]
  · rw [f24.get hd1 hdb]
    rw [St.rest_eq S s, List.take_append_of_le_length (by omega)]
    rfl
def First (buf pat : List UInt8) (i : Nat) : Prop := i + pat.length ≤ buf.length ∧ (buf.drop i).take pat.length = pat ∧ ∀ j, j < i → (buf.drop j).take pat.length ≠ pat
def Nowhere (buf pat : List UInt8) : Prop := ∀ i, i + pat.length ≤ buf.length → (buf.drop i).take pat.length ≠ pat
theorem bytesIndex_ok {v u : Value} {buf pat : List UInt8} {H : Heap} (hv : IsBytes H v buf) (hu : IsBytes H u pat) (hl : buf.length < 2 ^ 40) (hp : pat.length < 2 ^ 40) :
    CallsH Tryz.prog 239 #[v, u] H fun x H' => H' = H ∧ ((x = .int .i64 (-1) ∧ Nowhere buf pat) ∨ ∃ i : Nat, x = .int .i64 i ∧ First buf pat i) := by
  apply s228
  unfold c228
  refine ⟨fun n vs H' => ∃ i : Nat, vs = [.int .i64 i] ∧ n = buf.length + 1 - i ∧ i ≤ buf.length + 1 ∧ H' = H ∧ ∀ j, j < i → (buf.drop j).take pat.length ≠ pat, ⟨_, 0, rfl, rfl, Nat.zero_le _, rfl, fun j hj => by omega⟩, ?_⟩
  rintro n vs H ⟨i, rfl, rfl, hi, rfl, hno⟩
  have e1 : IntKind.i64.wrap ((i : Int) + (pat.length : Int)) = ((i + pat.length : Nat) : Int) := by rw [wrap_i64 (by omega) (by omega)]; omega
  have dd : ∀ a b : Nat, decide ((a : Int) ≤ (b : Int)) = decide (a ≤ b) := fun a b => by simp
  simp only [hv.len, hu.len, Q0, Q1, Q2, Q3, Q4, Q5, Q6, Q7, Q8, Q9, Qa, Qb, Qc, Qd, Qe, Qf, Qg, Qh, Qi, Qj, Qk, Ql, Qm, Qn, Qo, Qp, Qq, Qr, Qs, e1, dd]
  refine Br_intro (fun hle => ?_) (fun hle => ?_)
  · have hle' : i + pat.length ≤ buf.length := by simpa using hle
    have hsub : ∃ y, sliceV 1 v (some (.int .i64 i)) (some (.int .i64 ((i + pat.length : Nat) : Int))) none = some y ∧ IsBytes H y ((buf.drop i).take pat.length) := by
      rcases hv with ⟨b, o, c, rfl, hc, hcell⟩ | ⟨a', rfl, rfl⟩
      · have e := IsBytes.sub (lo := i) (hi := i + pat.length) (.inl ⟨b, o, c, rfl, hc, hcell⟩) (by omega) hle'
        refine ⟨_, sliceV_of (by omega) (by omega) .i64 .i64, ?_⟩
        rw [List.drop_take, show i + pat.length - i = pat.length by omega] at e
        simpa [apply_ite] using e
      · simp only [List.length_nil] at hle'
        have h1 : i = 0 := by omega
        have h2 : pat.length = 0 := by omega
        rw [h1, h2]
        exact ⟨.slice a' 0 0, by cases a' <;> rfl, .inr ⟨a', rfl, rfl⟩⟩
    obtain ⟨y, hy, hyb⟩ := hsub
    have e2 : IntKind.i64.wrap ((i : Int) + 1) = ((i + 1 : Nat) : Int) := by rw [wrap_i64 (by omega) (by omega)]; omega
    simp only [hy, Q6, hyb.str, hu.str, strV_eql, toList_mk, Q0, Q1, Q2, Q3, Q4, Q5, Q6, Q7, Q8, Q9, Qa, Qb, Qc, Qd, Qe, Qf, Qg, Qh, Qi, Qj, Qk, Ql, Qm, Qn, Qo, Qp, Qq, Qr, Qs, e2]
    refine Br_intro (fun he => ?_) (fun he => ?_)
    · exact ⟨trivial, .inr ⟨i, rfl, hle', by simpa using he, hno⟩⟩
    · refine ⟨_, by omega, i + 1, rfl, rfl, by omega, trivial, fun j hj => ?_⟩
      by_cases hji : j = i
      · subst hji
        simpa using he
      · exact hno j (by omega)
  · refine ⟨trivial, .inl ⟨trivial, fun j hj => hno j ?_⟩⟩
    simp only [decide_eq_false_iff_not] at hle
    omega
def Last (buf : List UInt8) (c : UInt8) (i : Nat) : Prop := buf[i]? = some c ∧ ∀ j, i < j → buf[j]? ≠ some c
theorem lastIndex_ok {v : Value} {buf : List UInt8} {c : UInt8} {H : Heap} (hv : IsBytes H v buf) (hl : buf.length < 2 ^ 40) :
    CallsH Tryz.prog 240 #[v, byteV c] H fun x H' => H' = H ∧ ((x = .int .i64 (-1) ∧ c ∉ buf) ∨ ∃ i : Nat, x = .int .i64 i ∧ Last buf c i) := by
  apply s229
  unfold c229
  apply s230
  have e0 : IntKind.i64.wrap ((buf.length : Int) - 1) = (buf.length : Int) - 1 := wrap_i64 (by omega) (by omega)
  simp only [c230, hv.len, Q0, Q1, Q2, Q3, Q4, Q5, Q6, Q7, Q8, Q9, Qa, Qb, Qc, Qd, Qe, Qf, Qg, Qh, Qi, Qj, Qk, Ql, Qm, Qn, Qo, Qp, Qq, Qr, Qs, e0]
  refine ⟨fun n vs H' => ∃ i : Nat, vs = [.int .i64 ((i : Int) - 1)] ∧ n = i ∧ i ≤ buf.length ∧ H' = H ∧ ∀ j, i ≤ j → buf[j]? ≠ some c, ⟨_, buf.length, rfl, rfl, Nat.le_refl _, rfl, fun j hj => by rw [List.getElem?_eq_none hj]; simp⟩, ?_⟩
  rintro i vs H ⟨_, rfl, rfl, hi, rfl, hno⟩
  simp only [Q0, Q1, Q2, Q3, Q4, Q5, Q6, Q7, Q8, Q9, Qa, Qb, Qc, Qd, Qe, Qf, Qg, Qh, Qi, Qj, Qk, Ql, Qm, Qn, Qo, Qp, Qq, Qr, Qs]
  refine Br_intro (fun h0 => ?_) (fun h0 => ?_)
  · have h0' : 0 < i := by simp at h0; omega
    rcases hv with ⟨b, o, cp, rfl, hc, hcell⟩ | ⟨_, _, hn⟩
    · have hlt : i - 1 < buf.length := by omega
      have hcl := hcell (i - 1) hlt
      rw [List.getElem?_eq_getElem hlt] at hcl
      rw [elemAddr_of (by omega) (by omega)]
      have e1 : ((i : Int) - 1).toNat * 1 = i - 1 := by omega
      have e2 : IntKind.i64.wrap ((i : Int) - 1 - 1) = ((i - 1 : Nat) : Int) - 1 := by rw [wrap_i64 (by omega) (by omega)]; omega
      simp only [Q0, Q1, Q2, Q3, Q4, Q5, Q6, Q7, Q8, Q9, Qa, Qb, Qc, Qd, Qe, Qf, Qg, Qh, Qi, Qj, e1, hcl, Option.map_some, byteV, Qk, Ql, Qm, Qn, Qo, Qp, Qq, Qr, Qs, byte_beq, e2]
      refine Br_intro (fun he => ?_) (fun he => ?_)
      · refine ⟨trivial, .inr ⟨i - 1, ?_, ?_, fun j hj => hno j (by omega)⟩⟩
        · congr 1
          omega
        · rw [List.getElem?_eq_getElem hlt]
          congr 1
          simpa using he
      · refine ⟨i - 1, by omega, i - 1, rfl, rfl, by omega, trivial, fun j hj => ?_⟩
        by_cases hji : j = i - 1
        · subst hji
          rw [List.getElem?_eq_getElem hlt]
          simpa using he
        · exact hno j (by omega)
    · subst hn
      simp at hi
      omega
  · refine ⟨trivial, .inl ⟨trivial, fun hm => ?_⟩⟩
    simp only [decide_eq_false_iff_not] at h0
    obtain ⟨j, hj, he⟩ := List.getElem_of_mem hm
    exact hno j (by omega) (by rw [List.getElem?_eq_getElem hj, he])
end Go.Cps
namespace Go.Cps
open Go Go.Proofs
def mat (q : List UInt8) (re : Bool) : Int := match q with
  | [] => if re then 1 else 0
  | c :: r => if c == 32 || c == 9 || c == 13 || c == 10 then 1 else if c == 45 then (match r with
    | [] => if re then -1 else 0
    | d :: _ => if d == 45 then 1 else -1) else -1
theorem elem_at {H : Heap} {v : Value} {l : List UInt8} (h : IsBytes H v l) {i : Nat} (hi : i < l.length) (hl : l.length < 2 ^ 40) : ∃ a, elemAddrV 1 v (.int .i64 i) = some (.pointer (some a)) ∧ cellH H a = some (byteV l[i]) := by
  rcases h with ⟨b, o, c, rfl, hc, hcell⟩ | ⟨_, _, rfl⟩
  · refine ⟨⟨b, o + i, none⟩, ?_, ?_⟩
    · rw [elemAddr_of (by omega) (by omega)]; simp
    · rw [hcell i hi, List.getElem?_eq_getElem hi]; rfl
  · simp at hi
theorem nilV2_neq_opt (rv : Value) (re : Bool) (t : TypeId) (x : Value) (h : rv = if re then .iface t x else .nilIface) : nilV2 .neq .nilIface rv = some (.bool re) := by
  subst h; cases re <;> rfl
theorem match_ok {v u rv : Value} {p q : List UInt8} {re : Bool} {t : TypeId} {x : Value} {H : Heap} (hv : IsBytes H v (p ++ q)) (hu : IsBytes H u p) (hr : rv = if re then .iface t x else .nilIface) (hl : (p ++ q).length < 2 ^ 39) :
    CallsH Tryz.prog 238 #[v, u, rv] H fun y H' => y = .int .i64 (mat q re) ∧ H' = H := by
  have hrn := nilV2_neq_opt rv re t x hr
  have hl2 : p.length + q.length < 2 ^ 39 := by simpa using hl
  apply s227
  simp only [c227, hv.len, hu.len, Q0, Q1, Q2, Q3, Q4, Q5, Q6, Q7, Q8, Q9, Qa, Qb, Qc, Qd, Qe, Qf, Qg, Qh, Qi, Qj, Qk, Ql, Qm, Qn, Qo, Qp, Qq, Qr, Qs, hrn]
  have e0 : ((((p ++ q).length : Nat) : Int) == ((p.length : Nat) : Int)) = q.isEmpty := by
    cases q with
    | nil => simp
    | cons c r => rw [beq_eq_false_iff_ne.2 (by simp; omega)]; rfl
  rw [e0]
  cases q with
  | nil =>
    simp only [List.isEmpty_nil, Q7]
    refine Br_intro (fun h => ?_) (fun h => ?_) <;> simp [mat, h]
  | cons c r =>
    simp only [List.isEmpty_cons, Q8]
    obtain ⟨a, ha, hca⟩ := elem_at hv (i := p.length) (by simp) (by omega)
    have hc : (p ++ c :: r)[p.length]'(by simp) = c := by simp
    rw [hc] at hca
    simp only [ha, Q0, Q1, Q2, Q3, Q4, Q5, Q6, Q7, Q8, Q9, Qa, Qb, Qc, Qd, Qe, Qf, Qg, Qh, Qi, Qj, hca, byteV, Qk, Ql, Qm, Qn, Qo, Qp, Qq, Qr, Qs]
    have b32 : ((c.toNat : Int) == 32) = (c == 32) := byte_beq c 32
    have b9 : ((c.toNat : Int) == 9) = (c == 9) := byte_beq c 9
    have b13 : ((c.toNat : Int) == 13) = (c == 13) := byte_beq c 13
    have b10 : ((c.toNat : Int) == 10) = (c == 10) := byte_beq c 10
    have b45 : ((c.toNat : Int) == 45) = (c == 45) := byte_beq c 45
    simp only [b32, b9, b13, b10, b45]
    refine ⟨fun vs H' => vs = [.bool (c == 32 || c == 9 || c == 13 || c == 10)] ∧ H' = H, ?_, ?_⟩
    · repeat' (first | refine Br_intro (fun h1 => ?_) (fun h1 => ?_) | simp only [Q0, Q1, Q2, Q3, Q4, Q5, Q6, Q7, Q8, Q9, Qa, Qb, Qc, Qd, Qe, Qf, Qg, Qh, Qi, Qj, Bool.false_eq_true, if_false, if_true])
      all_goals simp_all
    · rintro _ H ⟨rfl, rfl⟩
      simp only [Q0, Q1, Q2, Q3, Q4, Q5, Q6, Q7, Q8, Q9, Qa, Qb, Qc, Qd, Qe, Qf, Qg, Qh, Qi, Qj]
      refine Br_intro (fun h1 => ?_) (fun h1 => ?_)
      · simp only [mat, h1, if_true, and_self]
      · refine Join_direct ?_
        refine Br_intro (fun h2 => ?_) (fun h2 => ?_)
        · have e1 : IntKind.i64.wrap ((p.length : Int) + 1) = ((p.length + 1 : Nat) : Int) := by rw [wrap_i64 (by omega) (by omega)]; omega
          simp only [e1]
          have e2 : ((((p ++ c :: r).length : Nat) : Int) == ((p.length + 1 : Nat) : Int)) = r.isEmpty := by
            cases r with
            | nil => simp
            | cons d r => rw [beq_eq_false_iff_ne.2 (by simp; omega)]; rfl
          rw [e2]
          cases r with
          | nil =>
            simp only [List.isEmpty_nil, Q7]
            refine Br_intro (fun h => ?_) (fun h => ?_) <;> simp [mat, h1, h2, h]
          | cons d r =>
            simp only [List.isEmpty_cons, Q8]
            obtain ⟨a2, ha2, hca2⟩ := elem_at hv (i := p.length + 1) (by simp) (by omega)
            have hd : (p ++ c :: d :: r)[p.length + 1]'(by simp) = d := by simp [List.getElem_append_right]
            rw [hd] at hca2
            have bd : ((d.toNat : Int) == 45) = (d == 45) := byte_beq d 45
            simp only [ha2, Q0, Q1, Q2, Q3, Q4, Q5, Q6, Q7, Q8, Q9, Qa, Qb, Qc, Qd, Qe, Qf, Qg, Qh, Qi, Qj, hca2, byteV, Qk, Ql, Qm, Qn, Qo, Qp, Qq, Qr, Qs, bd]
            refine Br_intro (fun h => ?_) (fun h => ?_) <;> simp [mat, h1, h2, h]
        · simp [mat, h1, h2]
theorem mat_cases (q : List UInt8) (re : Bool) : mat q re = -1 ∨ mat q re = 0 ∨ mat q re = 1 := by
  unfold mat
  split
  · cases re <;> simp
  · split
    · simp
    · split
      · split
        · cases re <;> simp
        · split <;> simp
      · simp
inductive Sk where
  | go | eof | re
def skV (E rv : Value) : Sk → Value
  | .go => .nilIface
  | .eof => E
  | .re => rv
inductive ScanOut (buf dash nld : List UInt8) (t0 re : Bool) : Nat → Sk → Prop where
  | pre : t0 = true → buf.isPrefixOf dash = true → ScanOut buf dash nld t0 re 0 .re
  | miss (i : Nat) : First buf nld i → mat (buf.drop (i + nld.length)) re = -1 → ScanOut buf dash nld t0 re (i + nld.length) .go
  | wait (i : Nat) : First buf nld i → mat (buf.drop (i + nld.length)) re = 0 → ScanOut buf dash nld t0 re i .go
  | stop (i : Nat) : First buf nld i → mat (buf.drop (i + nld.length)) re = 1 → ScanOut buf dash nld t0 re i .eof
  | npre : Nowhere buf nld → buf.isPrefixOf nld = true → ScanOut buf dash nld t0 re 0 .re
  | part (i : Nat) : Nowhere buf nld → buf.isPrefixOf nld = false → Last buf 13 i → (buf.drop i).isPrefixOf nld = true → ScanOut buf dash nld t0 re i .go
  | all : Nowhere buf nld → buf.isPrefixOf nld = false → (∀ i, Last buf 13 i → (buf.drop i).isPrefixOf nld = false) → ScanOut buf dash nld t0 re buf.length .re
theorem last_unique {l : List UInt8} {c : UInt8} {i j : Nat} (h1 : Last l c i) (h2 : Last l c j) : i = j := by
  rcases Nat.lt_trichotomy i j with h | h | h
  · exact absurd h2.1 (h1.2 j h)
  · exact h
  · exact absurd h1.1 (h2.2 i h)
theorem scan_ok {v d n rv : Value} {buf dash nld : List UInt8} {total : Int} {re : Bool} {t : TypeId} {x E : Value} {H : Heap} (hv : IsBytes H v buf) (hd : IsBytes H d dash) (hn : IsBytes H n nld) (hr : rv = if re then .iface t x else .nilIface)
    (hE : EOFat H E) (hnd : total = 0 → dash.isPrefixOf buf = false) (hl : buf.length < 2 ^ 38) (hnl : nld.length < 2 ^ 38) (hn0 : ∃ r, nld = 13 :: r) :
    CallsH Tryz.prog 237 #[v, d, n, .int .i64 total, rv] H fun y H' => H' = H ∧ ∃ k s, y = .tuple #[.int .i64 (k : Nat), skV E rv s] ∧ ScanOut buf dash nld (total == 0) re k s := by
  apply s226
  unfold c226
  have main : ∀ H', H' = H → (Join (fun K5 =>
      CallsH Tryz.prog 239 #[v, n] H' fun x38 H =>
      Get (arithV .geq .i64 x38 (.int .i64 0)) fun x40 =>
      Br x40 (
      Get (sliceV 1 v (some x38) none none) fun x43 =>
      CallsH Tryz.prog 238 #[x43, n, rv] H fun x46 H =>
      Get (arithV .eql .i64 x46 (.int .i64 (-1))) fun x48 =>
      Br x48 (
      Get (lenV n) fun x51 =>
      Get (arithV .add .i64 x38 x51) fun x52 =>
      (H = H' ∧ ∃ k s, Value.tuple #[x52, .nilIface] = .tuple #[.int .i64 (k : Nat), skV E rv s] ∧ ScanOut buf dash nld (total == 0) re k s)) (
      Get (arithV .eql .i64 x46 (.int .i64 0)) fun x54 =>
      Br x54 (
      (H = H' ∧ ∃ k s, Value.tuple #[x38, .nilIface] = .tuple #[.int .i64 (k : Nat), skV E rv s] ∧ ScanOut buf dash nld (total == 0) re k s)) (
      Get (arithV .eql .i64 x46 (.int .i64 1)) fun x57 =>
      Br x57 (
      Get (load1V (.pointer (some ⟨0, 0, none⟩)) H) fun x59 =>
      (H = H' ∧ ∃ k s, Value.tuple #[x38, x59] = .tuple #[.int .i64 (k : Nat), skV E rv s] ∧ ScanOut buf dash nld (total == 0) re k s)) (
      K5 [] H)))) (
      K5 [] H)) fun _ H =>
      CallsH Tryz.prog 28 #[n, v] H fun x62 H =>
      Br x62 (
      (H = H' ∧ ∃ k s, Value.tuple #[.int .i64 0, rv] = .tuple #[.int .i64 (k : Nat), skV E rv s] ∧ ScanOut buf dash nld (total == 0) re k s)) (
      Get (elemAddrV 1 n (.int .i64 0)) fun x66 =>
      Get (load1V x66 H) fun x67 =>
      CallsH Tryz.prog 240 #[v, x67] H fun x68 H =>
      Join (fun K7 =>
      Get (arithV .geq .i64 x68 (.int .i64 0)) fun x70 =>
      Br x70 (
      Get (sliceV 1 v (some x68) none none) fun x75 =>
      CallsH Tryz.prog 28 #[n, x75] H fun x76 H =>
      Get (pickV (.bool true) x76 (.bool false)) fun x77 =>
      K7 [x77] H) (
      Get (pickV (.bool false) undef (.bool false)) fun x77_1 =>
      K7 [x77_1] H)) fun vs8 H =>
      Br (nth vs8 0) (
      (H = H' ∧ ∃ k s, Value.tuple #[x68, .nilIface] = .tuple #[.int .i64 (k : Nat), skV E rv s] ∧ ScanOut buf dash nld (total == 0) re k s)) (
      Get (lenV v) fun x80 =>
      (H = H' ∧ ∃ k s, Value.tuple #[x80, rv] = .tuple #[.int .i64 (k : Nat), skV E rv s] ∧ ScanOut buf dash nld (total == 0) re k s)))) := by
    rintro H rfl
    refine ⟨fun _ H1 => H1 = H ∧ Nowhere buf nld, ?_, ?_⟩
    · refine (bytesIndex_ok hv hn (by omega) (by omega)).mono ?_
      rintro y H1 ⟨rfl, ⟨rfl, hno⟩ | ⟨i, rfl, hf⟩⟩
      · have dneg : decide ((-1 : Int) ≥ 0) = false := by decide
        simp only [Qk, Ql, Qm, Qn, Qo, Qp, Qq, Qr, Qs, Q0, Q1, Q2, Q3, Q4, Q5, Q6, Q7, Q8, Q9, Qa, Qb, Qc, Qd, Qe, Qf, Qg, Qh, Qi, Qj, dneg]
        exact ⟨trivial, hno⟩
      · have dpos : decide ((i : Int) ≥ 0) = true := by simp
        have hile : i ≤ buf.length := by have := hf.1; omega
        obtain ⟨y, hy, hyb⟩ := hv.from' hile .i64
        simp only [Qk, Ql, Qm, Qn, Qo, Qp, Qq, Qr, Qs, Q0, Q1, Q2, Q3, Q4, Q5, Q6, Q7, Q8, Q9, Qa, Qb, Qc, Qd, Qe, Qf, Qg, Qh, Qi, Qj, dpos, hy]
        have hsplit : buf.drop i = nld ++ buf.drop (i + nld.length) := by
          rw [← List.drop_drop]
          conv => lhs; rw [← List.take_append_drop nld.length (buf.drop i)]
          rw [hf.2.1]
        rw [hsplit] at hyb
        refine (match_ok hyb hn hr (by rw [← hsplit]; simp; omega)).mono ?_
        rintro z H2 ⟨rfl, rfl⟩
        have e1 : IntKind.i64.wrap ((i : Int) + (nld.length : Int)) = ((i + nld.length : Nat) : Int) := by rw [wrap_i64 (by omega) (by omega)]; omega
        simp only [Qk, Ql, Qm, Qn, Qo, Qp, Qq, Qr, Qs, Q0, Q1, Q2, Q3, Q4, Q5, Q6, Q7, Q8, Q9, Qa, Qb, Qc, Qd, Qe, Qf, Qg, Qh, Qi, Qj, hn.len, e1, Qf, hE.load]
        rcases mat_cases (buf.drop (i + nld.length)) re with hm | hm | hm <;> rw [hm] <;> simp only [Q0, Q1, Q2, Q3, Q4, Q5, Q6, Q7, Q8, Q9, Qa, Qb, Qc, Qd, Qe, Qf, Qg, Qh, Qi, Qj, show ((-1 : Int) == -1) = true from rfl, show ((0 : Int) == -1) = false from rfl, show ((0 : Int) == 0) = true from rfl, show ((1 : Int) == -1) = false from rfl, show ((1 : Int) == 0) = false from rfl, show ((1 : Int) == 1) = true from rfl]
        · exact ⟨trivial, _, .go, rfl, .miss i hf hm⟩
        · exact ⟨trivial, _, .go, rfl, .wait i hf hm⟩
        · exact ⟨trivial, _, .eof, rfl, .stop i hf hm⟩
    · rintro _ H1 ⟨rfl, hno⟩
      refine (hasPrefix_ok hn hv).mono ?_
      rintro y H2 ⟨rfl, rfl⟩
      refine Br_intro (fun hp => ⟨rfl, 0, .re, rfl, .npre hno hp⟩) (fun hp => ?_)
      obtain ⟨r, hr0⟩ := hn0
      obtain ⟨a, ha, hca⟩ := elem_at hn (i := 0) (by rw [hr0]; simp) (by omega)
      have h13 : nld[0]'(by rw [hr0]; simp) = 13 := by subst hr0; rfl
      rw [h13] at hca
      rw [show ((0 : Nat) : Int) = 0 from rfl] at ha
      simp only [ha, Q0, Q1, Q2, Q3, Q4, Q5, Q6, Q7, Q8, Q9, Qa, Qb, Qc, Qd, Qe, Qf, Qg, Qh, Qi, Qj, hca]
      refine (lastIndex_ok hv (by omega)).mono ?_
      rintro y H3 ⟨rfl, ⟨rfl, hno13⟩ | ⟨i, rfl, hlast⟩⟩
      · have dneg : decide ((-1 : Int) ≥ 0) = false := by decide
        refine Join_direct ?_
        simp only [Qk, Ql, Qm, Qn, Qo, Qp, Qq, Qr, Qs, Q0, Q1, Q2, Q3, Q4, Q5, Q6, Q7, Q8, Q9, Qa, Qb, Qc, Qd, Qe, Qf, Qg, Qh, Qi, Qj, dneg, Bool.false_eq_true, if_false, hv.len]
        exact ⟨trivial, _, .re, rfl, .all hno hp fun i hi => absurd (List.mem_of_getElem? hi.1) hno13⟩
      · have dpos : decide ((i : Int) ≥ 0) = true := by simp
        have hile : i < buf.length := by
          rcases Nat.lt_or_ge i buf.length with h | h
          · exact h
          · have := hlast.1; rw [List.getElem?_eq_none h] at this; cases this
        obtain ⟨y, hy, hyb⟩ := hv.from' (Nat.le_of_lt hile) .i64
        refine ⟨fun vs H' => vs = [.bool ((buf.drop i).isPrefixOf nld)] ∧ H' = H3, ?_, ?_⟩
        · simp only [Qk, Ql, Qm, Qn, Qo, Qp, Qq, Qr, Qs, Q0, Q1, Q2, Q3, Q4, Q5, Q6, Q7, Q8, Q9, Qa, Qb, Qc, Qd, Qe, Qf, Qg, Qh, Qi, Qj, dpos, hy]
          refine (hasPrefix_ok hn hyb).mono ?_
          rintro z H4 ⟨rfl, rfl⟩
          simp only [Q0, Q1, Q2, Q3, Q4, Q5, Q6, Q7, Q8, Q9, Qa, Qb, Qc, Qd, Qe, Qf, Qg, Qh, Qi, Qj, if_true, and_self]
        · rintro _ H3 ⟨rfl, rfl⟩
          simp only [Q0, Q1, Q2, Q3, Q4, Q5, Q6, Q7, Q8, Q9, Qa, Qb, Qc, Qd, Qe, Qf, Qg, Qh, Qi, Qj, hv.len]
          refine Br_intro (fun hpp => ⟨trivial, _, .go, rfl, .part i hno hp hlast hpp⟩) (fun hpp => ⟨trivial, _, .re, rfl, .all hno hp fun j hj => by rw [last_unique hj hlast]; exact hpp⟩)
  refine ⟨fun _ H' => H' = H, ?_, ?_⟩
  · simp only [Qk, Ql, Qm, Qn, Qo, Qp, Qq, Qr, Qs, Q0, Q1, Q2, Q3, Q4, Q5, Q6, Q7, Q8, Q9, Qa, Qb, Qc, Qd, Qe, Qf, Qg, Qh, Qi, Qj]
    refine Br_intro (fun h0 => ?_) (fun h0 => trivial)
    have ht0 : total = 0 := by simpa using h0
    refine ⟨fun _ H' => H' = H, ?_, ?_⟩
    · refine (hasPrefix_ok hv hd).mono ?_
      rintro y H1 ⟨rfl, rfl⟩
      rw [hnd ht0, Q8]
    · rintro _ H1 rfl
      refine (hasPrefix_ok hd hv).mono ?_
      rintro y H2 ⟨rfl, rfl⟩
      refine Br_intro (fun hp => ⟨rfl, 0, .re, rfl, .pre h0 hp⟩) (fun hp => rfl)
  · rintro _ H1 hH
    subst hH
    exact main H1 rfl
end Go.Cps
namespace Go.Cps
open Go Go.Proofs
structure BdR (bd : List UInt8) : Prop where
  cr : 13 ∉ bd
  len : bd.length < 100
def nldOf (bd : List UInt8) : List UInt8 := [13, 10, 45, 45] ++ bd
def dashOf (bd : List UInt8) : List UInt8 := [45, 45] ++ bd
theorem nldOf_length (bd : List UInt8) : (nldOf bd).length = bd.length + 4 := by simp [nldOf]
theorem dashOf_length (bd : List UInt8) : (dashOf bd).length = bd.length + 2 := by simp [dashOf]
theorem nld_cr {bd : List UInt8} (h : BdR bd) {i : Nat} (hi : (nldOf bd)[i]? = some 13) : i = 0 := by
  unfold nldOf at hi
  match i with
  | 0 => rfl
  | 1 => simp at hi
  | 2 => simp at hi
  | 3 => simp at hi
  | i + 4 =>
    rw [show [13, 10, 45, 45] ++ bd = 13 :: 10 :: 45 :: 45 :: bd from rfl] at hi
    simp only [List.getElem?_cons_succ] at hi
    exact absurd (List.mem_of_getElem? hi) h.cr
theorem nld_zero (bd : List UInt8) : (nldOf bd)[0]? = some 13 := rfl
theorem dash_nocr {bd : List UInt8} (h : BdR bd) : 13 ∉ dashOf bd := by
  unfold dashOf
  intro hm
  simp only [List.cons_append, List.nil_append, List.mem_cons] at hm
  rcases hm with hm | hm | hm
  · cases hm
  · cases hm
  · exact h.cr hm
theorem at_of_take {l p : List UInt8} {i : Nat} (h : (l.drop i).take p.length = p) {j : Nat} (hj : j < p.length) : l[i + j]? = p[j]? := by
  have : ((l.drop i).take p.length)[j]? = p[j]? := by rw [h]
  rw [List.getElem?_take, if_pos hj, List.getElem?_drop] at this
  exact this
theorem take_of_at {l p : List UInt8} {i : Nat} (h : ∀ j, j < p.length → l[i + j]? = p[j]?) : (l.drop i).take p.length = p := by
  apply List.ext_getElem?
  intro j
  rw [List.getElem?_take]
  by_cases hj : j < p.length
  · rw [if_pos hj, List.getElem?_drop, h j hj]
  · rw [if_neg hj, List.getElem?_eq_none (by omega)]
theorem occ_full {bd b t : List UInt8} (hbd : BdR bd) (hb : Nowhere b (nldOf bd)) {i : Nat} (h : ((b ++ nldOf bd ++ t).drop i).take (nldOf bd).length = nldOf bd) : b.length ≤ i := by
  rcases Nat.lt_or_ge i b.length with hlt | hge
  · exfalso
    have hL := nldOf_length bd
    by_cases hin : i + (nldOf bd).length ≤ b.length
    · apply hb i hin
      apply take_of_at
      intro j hj
      have := at_of_take h hj
      rw [List.append_assoc, List.getElem?_append_left (by omega)] at this
      exact this
    · -- it would meet the CR of the delimiter behind
      have hj : b.length - i < (nldOf bd).length := by omega
      have h1 := at_of_take h hj
      rw [show i + (b.length - i) = b.length by omega, List.append_assoc, List.getElem?_append_right (Nat.le_refl _), Nat.sub_self, List.getElem?_append_left (by omega), nld_zero] at h1
      have := nld_cr hbd h1.symm
      omega
  · exact hge
structure FullT (t : List UInt8) : Prop where
  len : 2 ≤ t.length
  two : ∀ k, 1 < k → Go.Cps.mat (t.take k) false = 1
  go : ∀ k, k ≤ 1 → Go.Cps.mat (t.take k) false = 0 ∨ Go.Cps.mat (t.take k) false = 1
theorem fullT_crlf (r : List UInt8) : FullT (13 :: 10 :: r) := by
  refine ⟨by simp, ?_, ?_⟩
  · intro k hk
    match k with
    | k + 2 => rfl
  · intro k hk
    match k with
    | 0 => exact .inl rfl
    | 1 => exact .inr rfl
theorem fullT_end (r : List UInt8) : FullT (45 :: 45 :: r) := by
  refine ⟨by simp, ?_, ?_⟩
  · intro k hk
    match k with
    | k + 2 => rfl
  · intro k hk
    match k with
    | 0 => exact .inl rfl
    | 1 => exact .inl rfl
theorem FullT.ok {t : List UInt8} (h : FullT t) (k : Nat) : mat (t.take k) false = 1 ∨ (mat (t.take k) false = 0 ∧ k ≤ 1) := by
  by_cases hk : k ≤ 1
  · rcases h.go k hk with h | h
    · exact .inr ⟨h, hk⟩
    · exact .inl h
  · exact .inl (h.two k (by omega))
theorem first_full {bd b t : List UInt8} {k i : Nat} (hbd : BdR bd) (hb : Nowhere b (nldOf bd)) (hf : First ((b ++ nldOf bd ++ t).take k) (nldOf bd) i) : i = b.length ∧ b.length + (nldOf bd).length ≤ k := by
  obtain ⟨h1, h2, h3⟩ := hf
  have hk : i + (nldOf bd).length ≤ k := by rw [List.length_take] at h1; omega
  have h4 : b.length ≤ i := by
    apply occ_full (t := t) hbd hb
    apply take_of_at
    intro j hj
    have := at_of_take h2 hj
    rw [List.getElem?_take, if_pos (by omega)] at this
    exact this
  refine ⟨?_, by omega⟩
  rcases Nat.lt_or_ge b.length i with hlt | hge
  · exfalso
    apply h3 b.length hlt
    apply take_of_at
    intro j hj
    rw [List.getElem?_take, if_pos (by omega), List.append_assoc, List.getElem?_append_right (by omega), List.getElem?_append_left (by omega)]
    congr 1
    omega
  · omega
theorem nowhere_full {bd b t : List UInt8} {k : Nat} (hn : Nowhere ((b ++ nldOf bd ++ t).take k) (nldOf bd)) (hk : k ≤ (b ++ nldOf bd ++ t).length) : k < b.length + (nldOf bd).length := by
  rcases Nat.lt_or_ge k (b.length + (nldOf bd).length) with h | h
  · exact h
  · exfalso
    apply hn b.length (by rw [List.length_take]; omega)
    apply take_of_at
    intro j hj
    rw [List.getElem?_take, if_pos (by omega), List.append_assoc, List.getElem?_append_right (by omega), List.getElem?_append_left (by omega)]
    congr 1
    omega
theorem last_full {bd b t : List UInt8} {k i : Nat} (hbd : BdR bd) (hk : b.length < k) (hk2 : k < b.length + (nldOf bd).length) (hl : Last ((b ++ nldOf bd ++ t).take k) 13 i) : i = b.length := by
  have hb0 : ((b ++ nldOf bd ++ t).take k)[b.length]? = some 13 := by
    rw [List.getElem?_take, if_pos hk, List.append_assoc, List.getElem?_append_right (Nat.le_refl _), Nat.sub_self, List.getElem?_append_left (by rw [nldOf_length]; omega), nld_zero]
  rcases Nat.lt_trichotomy i b.length with h | h | h
  · exact absurd hb0 (hl.2 _ h)
  · exact h
  · exfalso
    have h1 := hl.1
    rw [List.getElem?_take] at h1
    by_cases hik : i < k
    · rw [if_pos hik, List.append_assoc, List.getElem?_append_right (by omega), List.getElem?_append_left (by omega)] at h1
      have := nld_cr hbd h1
      omega
    · rw [if_neg hik] at h1; cases h1
theorem scan_full {bd b t : List UInt8} {k n : Nat} {t0 : Bool} {s : Sk} (hbd : BdR bd) (hb : Nowhere b (nldOf bd)) (ht : FullT t) (hk : k ≤ (b ++ nldOf bd ++ t).length)
    (h : ScanOut ((b ++ nldOf bd ++ t).take k) (dashOf bd) (nldOf bd) t0 false n s) :
    n ≤ b.length ∧ n ≤ k ∧ (s = .eof → n = b.length) ∧ (s ≠ .eof → n = 0 → k < (b ++ nldOf bd ++ t).length ∧ k ≤ bd.length + 5) := by
  have hL := nldOf_length bd
  have hD := dashOf_length bd
  have ht2 := ht.len
  have hrl : (b ++ nldOf bd ++ t).length = b.length + (bd.length + 4) + t.length := by simp only [List.length_append, hL]
  have hbl : ((b ++ nldOf bd ++ t).take k).length = k := by rw [List.length_take]; omega
  have hmt : ∀ i, First ((b ++ nldOf bd ++ t).take k) (nldOf bd) i → i = b.length ∧ b.length + (nldOf bd).length ≤ k ∧ ((b ++ nldOf bd ++ t).take k).drop (i + (nldOf bd).length) = t.take (k - (b.length + (nldOf bd).length)) := by
    intro i hf
    obtain ⟨rfl, h2⟩ := first_full hbd hb hf
    refine ⟨rfl, h2, ?_⟩
    rw [List.drop_take, show b.length + (nldOf bd).length = (b ++ nldOf bd).length by simp, List.drop_left]
  cases h with
  | pre h0 hp =>
    refine ⟨Nat.zero_le _, Nat.zero_le _, (fun h => by cases h), fun _ _ => ?_⟩
    have hle : k ≤ bd.length + 2 := by
      have := (List.isPrefixOf_iff_prefix.1 hp).length_le
      omega
    exact ⟨by omega, by omega⟩
  | miss i hf hm =>
    obtain ⟨_, _, h3⟩ := hmt i hf
    rw [h3] at hm
    rcases ht.ok (k - (b.length + (nldOf bd).length)) with h | ⟨h, _⟩ <;> rw [h] at hm <;> cases hm
  | wait _ hf hm =>
    obtain ⟨rfl, h2, h3⟩ := hmt _ hf
    rw [h3] at hm
    refine ⟨Nat.le_refl _, by omega, (fun h => by cases h), fun _ hn => ?_⟩
    rcases ht.ok (k - (b.length + (nldOf bd).length)) with h | ⟨_, h⟩
    · rw [h] at hm; cases hm
    · exact ⟨by omega, by omega⟩
  | stop _ hf hm =>
    obtain ⟨rfl, h2, h3⟩ := hmt _ hf
    exact ⟨Nat.le_refl _, by omega, fun _ => rfl, fun h => absurd rfl h⟩
  | npre hno hp =>
    refine ⟨Nat.zero_le _, Nat.zero_le _, (fun h => by cases h), fun _ _ => ?_⟩
    have hle : k ≤ bd.length + 4 := by
      have := (List.isPrefixOf_iff_prefix.1 hp).length_le
      omega
    exact ⟨by omega, by omega⟩
  | part i hno hp hl hpp =>
    have hk2 := nowhere_full hno hk
    have hik : n < k := by
      rcases Nat.lt_or_ge n k with h | h
      · exact h
      · have := hl.1; rw [List.getElem?_eq_none (by omega)] at this; cases this
    have hib : n ≤ b.length := by
      rcases Nat.lt_or_ge b.length k with h | h
      · rw [last_full hbd h hk2 hl]; exact Nat.le_refl _
      · omega
    refine ⟨hib, by omega, (fun h => by cases h), fun _ h0 => ?_⟩
    rw [h0, List.drop_zero] at hpp
    rw [hpp] at hp; cases hp
  | all hno hp hl =>
    have hk2 := nowhere_full hno hk
    rw [hbl]
    have hkb : k ≤ b.length := by
      rcases Nat.lt_or_ge b.length k with h | h
      · exfalso
        have hb0 : Last ((b ++ nldOf bd ++ t).take k) 13 b.length := by
          refine ⟨?_, fun j hj he => ?_⟩
          · rw [List.getElem?_take, if_pos h, List.append_assoc, List.getElem?_append_right (Nat.le_refl _), Nat.sub_self, List.getElem?_append_left (by omega), nld_zero]
          · rw [List.getElem?_take] at he
            by_cases hjk : j < k
            · rw [if_pos hjk, List.append_assoc, List.getElem?_append_right (by omega), List.getElem?_append_left (by omega)] at he
              have := nld_cr hbd he
              omega
            · rw [if_neg hjk] at he; cases he
        have h1 := hl _ hb0
        have h2 : ((b ++ nldOf bd ++ t).take k).drop b.length = (nldOf bd).take (k - b.length) := by
          rw [List.drop_take, List.append_assoc, List.drop_left, List.take_append_of_le_length (by omega)]
        rw [h2] at h1
        have h3 : ((nldOf bd).take (k - b.length)).isPrefixOf (nldOf bd) = true := by
          rw [List.isPrefixOf_iff_prefix]; exact List.take_prefix _ _
        rw [h3] at h1; cases h1
      · exact h
    refine ⟨hkb, Nat.le_refl _, (fun h => by cases h), fun _ h0 => ?_⟩
    subst h0
    simp [List.isPrefixOf] at hp
theorem scan_cut {bd b : List UInt8} {k n : Nat} {t0 re : Bool} {s : Sk} (hb : Nowhere b (nldOf bd)) (hk : k ≤ b.length)
    (h : ScanOut (b.take k) (dashOf bd) (nldOf bd) t0 re n s) : n ≤ k ∧ s ≠ .eof ∧ (n = 0 → s = .re ∧ k ≤ bd.length + 5) := by
  have hL := nldOf_length bd
  have hD := dashOf_length bd
  have hbl : (b.take k).length = k := by rw [List.length_take]; omega
  have hno : ∀ i, ¬ First (b.take k) (nldOf bd) i := by
    rintro i ⟨h1, h2, _⟩
    rw [hbl] at h1
    apply hb i (by omega)
    apply take_of_at
    intro j hj
    have := at_of_take h2 hj
    rw [List.getElem?_take, if_pos (by omega)] at this
    exact this
  cases h with
  | pre h0 hp =>
    refine ⟨Nat.zero_le _, by simp, fun _ => ⟨rfl, ?_⟩⟩
    have := (List.isPrefixOf_iff_prefix.1 hp).length_le
    omega
  | miss i hf hm => exact absurd hf (hno i)
  | wait i hf hm => exact absurd hf (hno _)
  | stop i hf hm => exact absurd hf (hno _)
  | npre hno hp =>
    refine ⟨Nat.zero_le _, by simp, fun _ => ⟨rfl, ?_⟩⟩
    have := (List.isPrefixOf_iff_prefix.1 hp).length_le
    omega
  | part i hno hp hl hpp =>
    refine ⟨?_, by simp, fun h0 => ?_⟩
    · rcases Nat.lt_or_ge n k with h | h
      · omega
      · have := hl.1; rw [List.getElem?_eq_none (by omega)] at this; cases this
    · rw [h0, List.drop_zero] at hpp
      rw [hpp] at hp; cases hp
  | all hno hp hl =>
    rw [hbl]
    refine ⟨Nat.le_refl _, by simp, fun h0 => ?_⟩
    subst h0
    simp [List.isPrefixOf] at hp
end Go.Cps
namespace Go.Cps
open Go Go.Proofs
structure Errs (B : Nat) (ea ua : Addr) (H : Heap) : Prop where
  eof : EOFat H (.iface 109 (.pointer (some ea)))
  uef : ∃ t f, H[27]? = some (.cells #[.iface 109 (.pointer (some ua))] t f)
  ne : ea ≠ ua
  be : ea.block < B ∧ ∃ cs t, H[ea.block]? = some (.cells cs t (0, 0))
  bu : ua.block < B ∧ ∃ cs t, H[ua.block]? = some (.cells cs t (0, 0))
  b16 : 27 < B
  full : ∃ tt v t f, H[1]? = some (.cells #[.iface tt v] t f)
theorem Errs.frm {B : Nat} {ea ua : Addr} {H H' : Heap} {X : List Nat} (h : Errs B ea ua H) (f : Frm X H H') (hx : ∀ x ∈ X, B ≤ x) : Errs B ea ua H' := by
  have hn : ∀ k, k < B → k ∉ X := fun k hk hm => by have := hx k hm; omega
  have h16 := h.b16
  obtain ⟨h1, cs1, t1, g1⟩ := h.be
  obtain ⟨h2, cs2, t2, g2⟩ := h.bu
  obtain ⟨t3, f3, g3⟩ := h.uef
  exact ⟨h.eof.frm f (hn 0 (by omega)), ⟨t3, f3, f.get g3 (hn 27 h16)⟩, h.ne, ⟨h1, cs1, t1, f.get g1 (hn _ h1)⟩, ⟨h2, cs2, t2, f.get g2 (hn _ h2)⟩, h16, by obtain ⟨tt, v, t, fz, hf⟩ := h.full; exact ⟨tt, v, t, fz, f.get hf (hn 1 (by omega))⟩⟩
theorem Errs.load16 {B : Nat} {ea ua : Addr} {H : Heap} (h : Errs B ea ua H) : cellH H ⟨27, 0, none⟩ = some (.iface 109 (.pointer (some ua))) := by
  obtain ⟨t, f, h⟩ := h.uef
  rw [cellH_of h]; rfl
structure PF where
  hdr : Value
  disp : Value
  params : Value
  r : Value
def ptCells (P : PF) (mr : Nat) (n total : Nat) (ev rv : Value) : Array Value := #[P.hdr, .pointer (some ⟨mr, 0, none⟩), P.disp, P.params, P.r, .int .i64 n, .int .i64 total, ev, rv]
structure REnv where
  S : Stk
  mr : Nat
  tb : Nat
  m : MRf
  bd : List UInt8
  pt : Nat
  P : PF
  TP : TypeId
  B : Nat
  ea : Addr
  ua : Addr
  mode : Option (List UInt8)
def REnv.tail (e : REnv) : List UInt8 := match e.mode with | some t => nldOf e.bd ++ t | none => []
def REnv.E (e : REnv) : Value := .iface 109 (.pointer (some e.ea))
def REnv.U (e : REnv) : Value := .iface 109 (.pointer (some e.ua))
def REnv.rv (e : REnv) (re : Bool) : Value := if re then .iface 109 (.pointer (some e.ua)) else .nilIface
structure RB (e : REnv) (b : List UInt8) (n total : Nat) (ev : Sk) (re : Bool) (s : St) (H : Heap) : Prop where
  rd : RdAt e.S s H
  ma : MRAt e.S e.mr e.tb e.m e.bd H
  hp : H[e.pt]? = some (.cells (ptCells e.P e.mr n total (skV e.E e.U ev) (e.rv re)) e.TP (0, 0))
  er : Errs e.B e.ea e.ua H
  bdr : BdR e.bd
  rest : s.rest e.S = b ++ e.tail
  nw : Nowhere b (nldOf e.bd)
  t0 : total = 0 → (dashOf e.bd).isPrefixOf (b ++ e.tail) = false
  nb : n ≤ b.length
  nk : n ≤ s.w - s.r
  full : ∀ t, e.mode = some t → FullT t ∧ re = false ∧ ev ≠ .re ∧ (ev = .eof → n = b.length)
  cut : e.mode = none → ev ≠ .eof ∧ (re = true → s.pos = e.S.l.length)
  tot : total + b.length < 2 ^ 38
  low : ∀ x ∈ e.pt :: e.mr :: e.tb :: e.S.ids, e.B ≤ x
  hpt : e.pt ∉ e.mr :: e.tb :: e.S.ids
  hpv : blk e.S.v ≠ some e.pt
  hE : e.S.Et = 109 ∧ e.S.Ev = .pointer (some e.ea)
theorem RB.frm {e : REnv} {b : List UInt8} {n total : Nat} {ev : Sk} {re : Bool} {s : St} {H H' : Heap} {X : List Nat} (h : RB e b n total ev re s H) (f : Frm X H H') (hx : ∀ x ∈ X, e.B ≤ x ∧ x ∉ e.pt :: e.mr :: e.tb :: e.S.ids ∧ blk e.S.v ≠ some x) : RB e b n total ev re s H' := by
  have hn : ∀ x ∈ e.pt :: e.mr :: e.tb :: e.S.ids, x ∉ X := fun x hm hX => (hx x hX).2.1 hm
  have h0 : 0 ∉ X := fun hX => by
    have := (hx 0 hX).1
    have := h.er.b16
    omega
  exact { h with rd := h.rd.frm f (fun x hm => hn x (by simp [hm])) (fun x hm hX => (hx x hX).2.2 hm) h0, ma := h.ma.frm f (hn _ (by simp)) (hn _ (by simp)), hp := f.get h.hp (hn _ (by simp)), er := h.er.frm f (fun x hX => (hx x hX).1) }
theorem RB.step {e : REnv} {b : List UInt8} {n total : Nat} {ev : Sk} {re : Bool} {s s' : St} {H H' : Heap} (h : RB e b n total ev re s H) (hrd : RdAt e.S s' H') (f : Frm e.S.ids H H') (hr : s'.rest e.S = s.rest e.S) (hk : s.w - s.r ≤ s'.w - s'.r) (hpos : s.pos = e.S.l.length → s'.pos = e.S.l.length) : RB e b n total ev re s' H' := by
  have hnp : e.pt ∉ e.S.ids := fun hm => h.hpt (by simp [hm])
  exact { h with rd := hrd, ma := h.ma.ids f, hp := f.get h.hp hnp, er := h.er.frm f (fun x hm => h.low x (by simp [hm])), rest := hr.trans h.rest, nk := by have := h.nk; omega, cut := fun hc => ⟨(h.cut hc).1, fun hre => hpos ((h.cut hc).2 hre)⟩ }
theorem RB.put {e : REnv} {b : List UInt8} {n total : Nat} {ev : Sk} {re : Bool} {s : St} {H : Heap} {o : Nat} {v : Value} {K : Heap → Prop} (h : RB e b n total ev re s H) (ho : o < 9) (hv : isOne v = true) {n' total' : Nat} {ev' : Sk} {re' : Bool}
    (hc : (ptCells e.P e.mr n total (skV e.E e.U ev) (e.rv re)).setIfInBounds o v = ptCells e.P e.mr n' total' (skV e.E e.U ev') (e.rv re'))
    (hk : ∀ H', H'[e.pt]? = some (.cells (ptCells e.P e.mr n' total' (skV e.E e.U ev') (e.rv re')) e.TP (0, 0)) → RdAt e.S s H' → MRAt e.S e.mr e.tb e.m e.bd H' → Errs e.B e.ea e.ua H' → Frm [e.pt] H H' → H'.size = H.size → K H') :
    Get (store1V (.pointer (some ⟨e.pt, o, none⟩)) v H) K := by
  refine Store_of h.hp (by simpa [ptCells] using ho) hv fun H1 hb1 f1 z1 => ?_
  rw [hc] at hb1
  have h1 : e.pt ∉ e.S.ids := fun hm => h.hpt (by simp [hm])
  have h2 : e.pt ≠ e.mr := fun hm => h.hpt (by simp [hm])
  have h3 : e.pt ≠ e.tb := fun hm => h.hpt (by simp [hm])
  have h4 : e.B ≤ e.pt := h.low _ (by simp)
  have := h.er.b16
  refine hk H1 hb1 (h.rd.frm f1 (fun x hm => ?_) (fun x hm => ?_) (by simp; omega)) (h.ma.frm f1 (by simpa using h2.symm) (by simpa using h3.symm)) (h.er.frm f1 (fun x hm => by simp at hm; omega)) f1 z1
  · rw [List.mem_singleton]; intro he; exact h1 (he ▸ hm)
  · rw [List.mem_singleton]; intro he; exact h.hpv (by rw [hm, he])
theorem keep_of {e : REnv} {s : St} {H H' : Heap} (rd : RdAt e.S s H) (ma : MRAt e.S e.mr e.tb e.m e.bd H) (er : Errs e.B e.ea e.ua H) (low : ∀ x ∈ e.pt :: e.mr :: e.tb :: e.S.ids, e.B ≤ x) (hpt : e.pt ∉ e.mr :: e.tb :: e.S.ids) (hpv : blk e.S.v ≠ some e.pt)
    (f1 : Frm [e.pt] H H') : RdAt e.S s H' ∧ MRAt e.S e.mr e.tb e.m e.bd H' ∧ Errs e.B e.ea e.ua H' := by
  have h1 : e.pt ∉ e.S.ids := fun hm => hpt (by simp [hm])
  have h2 : e.pt ≠ e.mr := fun hm => hpt (by simp [hm])
  have h3 : e.pt ≠ e.tb := fun hm => hpt (by simp [hm])
  have h4 : e.B ≤ e.pt := low _ (by simp)
  have := er.b16
  refine ⟨rd.frm f1 (fun x hm => ?_) (fun x hm => ?_) (by simp; omega), ma.frm f1 (by simpa using h2.symm) (by simpa using h3.symm), er.frm f1 (fun x hm => by simp at hm; omega)⟩
  · rw [List.mem_singleton]; intro he; exact h1 (he ▸ hm)
  · rw [List.mem_singleton]; intro he; exact hpv (by rw [hm, he])
theorem RB.keep {e : REnv} {b : List UInt8} {n total : Nat} {ev : Sk} {re : Bool} {s : St} {H H' : Heap} (h : RB e b n total ev re s H) (f1 : Frm [e.pt] H H') : RdAt e.S s H' ∧ MRAt e.S e.mr e.tb e.m e.bd H' ∧ Errs e.B e.ea e.ua H' :=
  keep_of h.rd h.ma h.er h.low h.hpt h.hpv f1
def Sk.norm (re : Bool) : Sk → Sk
  | .re => if re then .re else .go
  | x => x
theorem norm_V (e : REnv) (re : Bool) (s : Sk) : skV e.E (e.rv re) s = skV e.E e.U (s.norm re) := by
  cases s <;> cases re <;> rfl
theorem skV_one (e : REnv) (s : Sk) : isOne (skV e.E e.U s) = true := by cases s <;> rfl
def Sk.isGo : Sk → Bool
  | .go => true
  | _ => false
theorem Sk.isGo_iff (s : Sk) : s.isGo = true ↔ s = .go := by cases s <;> simp [Sk.isGo]
theorem skV_nil (e : REnv) (s : Sk) : nilV2 .eql .nilIface (skV e.E e.U s) = some (.bool s.isGo) := by cases s <;> rfl
theorem skV_neq (e : REnv) (s : Sk) : nilV2 .neq .nilIface (skV e.E e.U s) = some (.bool (!s.isGo)) := by cases s <;> rfl
theorem Nowhere.drop {b p : List UInt8} (h : Nowhere b p) (m : Nat) : Nowhere (b.drop m) p := by
  intro i hi hh
  rw [List.length_drop] at hi
  rw [List.drop_drop] at hh
  by_cases hm : m ≤ b.length
  · exact h (m + i) (by omega) hh
  · have : p.length = 0 := by omega
    have hp : p = [] := List.eq_nil_of_length_eq_zero this
    subst hp
    exact h 0 (by simp) (by simp)
end Go.Cps
