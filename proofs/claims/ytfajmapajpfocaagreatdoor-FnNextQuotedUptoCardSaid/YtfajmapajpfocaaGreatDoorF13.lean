/-
  A part of the proof: ReadSlice of the second bufio.Reader. A range over a string of ASCII; SetBoundary of a boundary that is taken.
  Conditions: each contract's own.
-/
import Derived.Laws.RangeString
import Derived.Test.YtfajmapajpfocaaGreatDoorF12
set_option linter.all false
namespace Go.Cps
open Go Go.Proofs
theorem QAt.bufd_len {e : REnv} {F : QF} {t : QSt} {H : Heap} (h : QAt e F t H) : t.bufd.length = t.w - t.r := by
  have := h.blen; have := h.w4
  simp [QSt.bufd]; omega
structure Line2 (e : REnv) (F : QF) (t t' : QSt) (u : Value) (H H' : Heap) : Prop where
  qa : QAt e F t' H'
  line : IsBytes H' u (t.rest.take (lineLen t.rest))
  rest : t'.rest = t.rest.drop (lineLen t.rest)
  rng : Rng2 u F.bf t'.r
  ended : nl? t.rest = none → t'.ev = .eof ∧ t'.x = []
  frm : Frm (F.ids e) H H'
theorem readSlice2_ok {e : REnv} {F : QF} {t : QSt} {H : Heap} (h : QAt e F t H) (hn : nl? t.rest = none → t.rest.length < 4096) (hs : ∀ j, nl? t.rest = some j → j < 4096) :
    CallsH Tryz.prog 93 #[.pointer (some ⟨F.b, 0, none⟩), .int .u8 10] H fun x H' => ∃ u t', x = .tuple #[u, e.er (nl? t.rest).isNone] ∧ Line2 e F t t' u H H' := by
  apply s93
  unfold c93
  refine ⟨fun vs H1 => ∃ u t1, vs = [u, e.er (nl? t.rest).isNone] ∧ Line2 e F t t1 u H H1, ?_, ?_⟩
  · refine ⟨fun n vs H1 => ∃ t1 k, vs = [.nilIface, .int .i64 (k : Nat)] ∧ n = (t.rest.length - (t1.w - t1.r)) + (if t1.err then 0 else 1) ∧ QAt e F t1 H1 ∧ t1.rest = t.rest ∧ k ≤ t1.w - t1.r ∧ nl? (t1.bufd.take k) = none ∧ Frm (F.ids e) H H1,
      ⟨_, t, 0, rfl, rfl, h, rfl, Nat.zero_le _, rfl, Frm.refl _ _⟩, ?_⟩
    rintro n vs H1 ⟨t1, k, rfl, rfl, h1, hr, hk, hnk, f1⟩
    have hrw := h1.rw
    have hw4 := h1.w4
    have hlen := h1.bufd_len
    have e0 : IntKind.i64.wrap ((t1.r : Int) + (k : Int)) = ((t1.r + k : Nat) : Int) := by rw [wrap_i64 (by omega) (by omega)]; omega
    obtain ⟨u, hu, hub, _⟩ := h1.part (i := t1.r + k) (j := t1.w) (by omega) hw4
    have hdk : (t1.buf.take t1.w).drop (t1.r + k) = t1.bufd.drop k := by rw [QSt.bufd, List.drop_drop]
    rw [hdk] at hub
    simp only [Q0, Q1, Q2, Q3, Q4, Q5, Q6, Q7, Q8, Q9, Qa, Qb, Qc, Qd, Qe, Qf, Qg, Qh, Qi, Qj, Qk, Ql, Qm, Qn, Qo, Qp, Qq, Qr, Qs, cellH_of h1.hb, qCells, e0, hu]
    refine (indexByte_ok hub 10).mono ?_
    rintro x H2 ⟨rfl, rfl⟩
    rw [idx_eq]
    have hsplit : t1.rest = t1.bufd.take k ++ (t1.bufd.drop k ++ t1.x) := by rw [← List.append_assoc, List.take_append_drop]; rfl
    have hkl : (t1.bufd.take k).length = k := by simp; omega
    cases hi : nl? (t1.bufd.drop k) with
    | some i =>
      have hi2 := nl?_lt hi
      rw [List.length_drop] at hi2
      have hnl : nl? t1.rest = some (i + k) := by
        rw [hsplit, nl?_append_none hnk, nl?_append_some hi, hkl]; rfl
      have hd : decide ((i : Int) ≥ 0) = true := by simp
      have e1 : IntKind.i64.wrap ((i : Int) + (k : Int)) = ((i + k : Nat) : Int) := by rw [wrap_i64 (by omega) (by omega)]; omega
      have e2 : IntKind.i64.wrap ((t1.r : Int) + ((i + k : Nat) : Int)) = ((t1.r + (i + k) : Nat) : Int) := by rw [wrap_i64 (by omega) (by omega)]; omega
      have e3 : IntKind.i64.wrap (((t1.r + (i + k) : Nat) : Int) + 1) = ((t1.r + (i + k) + 1 : Nat) : Int) := by rw [wrap_i64 (by omega) (by omega)]; omega
      have e4 : IntKind.i64.wrap (((i + k : Nat) : Int) + 1) = ((i + k + 1 : Nat) : Int) := by rw [wrap_i64 (by omega) (by omega)]; omega
      have e5 : IntKind.i64.wrap ((t1.r : Int) + ((i + k + 1 : Nat) : Int)) = ((t1.r + (i + k + 1) : Nat) : Int) := by rw [wrap_i64 (by omega) (by omega)]; omega
      obtain ⟨y, hy, hyb, hyr⟩ := h1.part (i := t1.r) (j := t1.r + (i + k) + 1) (by omega) (by omega)
      simp only [Q0, Q1, Q2, Q3, Q4, Q5, Q6, Q7, Q8, Q9, Qa, Qb, Qc, Qd, Qe, Qf, Qg, Qh, Qi, Qj, Qk, Ql, Qm, Qn, Qo, Qp, Qq, Qr, Qs, hd, e1, e2, e3, e4, e5, hy, cellH_of h1.hb, qCells]
      refine h1.store { t1 with r := t1.r + (i + k + 1) } (by omega) rfl (by simp only [qCells, Qt, Qu, Qv]) rfl ⟨rfl, rfl, rfl, rfl, rfl, rfl⟩ (by simp only []; omega) hw4 h1.he fun H3 h3 f3 z3 => ?_
      have hll : lineLen t.rest = i + k + 1 := by rw [← hr, lineLen, hnl]
      have hline : (t1.buf.take (t1.r + (i + k) + 1)).drop t1.r = t.rest.take (i + k + 1) := by
        rw [← hr, QSt.rest, List.take_append_of_le_length (by omega), QSt.bufd, List.drop_take, List.drop_take, List.take_take]
        congr 1
        omega
      rw [hline] at hyb
      refine ⟨y, _, by rw [← hr, hnl]; rfl, h3, ?_, ?_, hyr, (fun hh => by rw [← hr, hnl] at hh; cases hh), f1.trans (f3.mono (by simp [QF.ids]))⟩
      · rw [hll]
        exact hyb.frm f3 (fun b hb => by
          obtain ⟨o, n, c, rfl, _⟩ := hyr
          simp only [blk_slice, Option.map_some, Option.some.injEq] at hb
          rw [List.mem_singleton, ← hb]
          exact h1.ne.symm)
      · rw [hll, ← hr, QSt.rest, QSt.rest, List.drop_append_of_le_length (by omega), QSt.bufd, QSt.bufd]
        simp only []
        rw [List.drop_drop]
    | none =>
      have hd : decide ((-1 : Int) ≥ 0) = false := by decide
      have hbn : nl? t1.bufd = none := by
        rw [← List.take_append_drop k t1.bufd, nl?_append_none hnk, hi]; rfl
      simp only [Q0, Q1, Q2, Q3, Q4, Q5, Q6, Q7, Q8, Q9, Qa, Qb, Qc, Qd, Qe, Qf, Qg, Qh, Qi, Qj, Qk, Ql, Qm, Qn, Qo, Qp, Qq, Qr, Qs, hd, cellH_of h1.hb, qCells, neq_qer]
      refine Br_intro (fun he => ?_) (fun he => ?_)
      · obtain ⟨hev, hx⟩ := h1.he he
        have hrb : t1.rest = t1.bufd := by rw [QSt.rest, hx, List.append_nil]
        obtain ⟨y, hy, hyb, hyr⟩ := h1.part (i := t1.r) (j := t1.w) hrw hw4
        simp only [hy, Q6]
        refine h1.store { t1 with r := t1.w } (by omega) rfl (by simp only [qCells, Qt, Qu, Qv]) rfl ⟨rfl, rfl, rfl, rfl, rfl, rfl⟩ (by simp only []; omega) hw4 h1.he fun H3 h3 f3 z3 => ?_
        refine (readErr2_ok h3).mono ?_
        rintro x H4 ⟨rfl, h4, f4, z4⟩
        have hnr : nl? t.rest = none := by rw [← hr, hrb, hbn]
        have hll : lineLen t.rest = t.rest.length := by rw [lineLen, hnr]
        refine ⟨y, _, by rw [hnr]; simp only [he]; rfl, h4, ?_, ?_, hyr, fun _ => ⟨hev, hx⟩, f1.trans ((f3.trans f4).mono (by simp [QF.ids]))⟩
        · rw [hll, List.take_length, ← hr, hrb]
          exact hyb.frm (f3.trans f4) (fun b hb => by
            obtain ⟨o, n, c, rfl, _⟩ := hyr
            simp only [blk_slice, Option.map_some, Option.some.injEq] at hb
            rw [List.mem_singleton, ← hb]
            exact h1.ne.symm)
        · rw [hll, List.drop_length, QSt.rest, QSt.bufd]
          simp only [hx, List.append_nil]
          rw [List.drop_eq_nil_of_le]
          simp; omega
      · refine (buffered2_ok h1).mono ?_
        rintro x H3 ⟨rfl, rfl⟩
        have hlt : t1.w - t1.r < 4096 := by
          cases hnr : nl? t.rest with
          | none =>
            have := hn hnr
            rw [← hr, QSt.rest, List.length_append] at this
            omega
          | some j =>
            have h2 := hs j hnr
            rw [← hr, QSt.rest, nl?_append_none hbn] at hnr
            cases hq : nl? t1.x with
            | none => rw [hq] at hnr; simp at hnr
            | some q =>
              rw [hq] at hnr
              simp only [Option.map_some, Option.some.injEq] at hnr
              omega
        have hd2 : decide (((t1.w - t1.r : Nat) : Int) ≥ ((4096 : Nat) : Int)) = false := by simp; omega
        have e6 : IntKind.i64.wrap ((t1.w : Int) - (t1.r : Int)) = ((t1.w - t1.r : Nat) : Int) := by rw [wrap_i64 (by omega) (by omega)]; omega
        refine ⟨⟨by rw [cellH_of h1.hb]; simp only [qCells, Q0, Q1, Q2, Q3, Q4, Q5, Q6, Q7, Q8, Q9, Qa, Qb, Qc, Qd, Qe, Qf, Qg, Qh, Qi, Qj], trivial⟩, ?_⟩
        simp only [Q0, Q1, Q2, Q3, Q4, Q5, Q6, Q7, Q8, Q9, Qa, Qb, Qc, Qd, Qe, Qf, Qg, Qh, Qi, Qj, Qk, Ql, Qm, Qn, Qo, Qp, Qq, Qr, Qs, hd2, cellH_of h1.hb, qCells, e6]
        refine (fill2_ok h1 he hlt).mono ?_
        rintro _ H4 ⟨t2, h2, hf, f2⟩
        have hr2 : t2.rest = t.rest := hf.rest.trans hr
        have hl2 := h2.bufd_len
        have hle : t2.w - t2.r ≤ t.rest.length := by rw [← hr2, QSt.rest, List.length_append]; omega
        have hr0 := hf.r0
        have hwle := hf.wle
        refine ⟨_, ?_, t2, t1.w - t1.r, rfl, rfl, h2, hr2, ?_, ?_, f1.trans f2⟩
        · rcases hf.how with hh | ⟨hh, hh2⟩
          · simp only [hh, he, Bool.false_eq_true, if_false, if_true]; omega
          · simp only [hh, he, Bool.false_eq_true, if_false]; omega
        · omega
        · have hkeep := hf.keep
          rw [QSt.bufd, hr0, List.drop_zero, List.take_take, Nat.min_eq_left hwle, hkeep]
          exact hbn
  · rintro _ H1 ⟨u, t1, rfl, hL⟩
    have hlen := hL.line.len
    simp only [Q0, Q1, Q2, Q3, Q4, Q5, Q6, Q7, Q8, Q9, Qa, Qb, Qc, Qd, Qe, Qf, Qg, Qh, Qi, Qj, Qk, Ql, Qm, Qn, Qo, Qp, Qq, Qr, Qs, hlen]
    generalize hm : (t.rest.take (lineLen t.rest)) = m at *
    have hm4 : m.length ≤ 4096 := by
      rw [← hm, List.length_take]
      unfold lineLen
      cases hnr : nl? t.rest with
      | none => have := hn hnr; simp only []; omega
      | some j => have := hs j hnr; simp only []; omega
    have e1 : IntKind.i64.wrap ((m.length : Int) - 1) = (m.length : Int) - 1 := wrap_i64 (by omega) (by omega)
    rw [e1]
    refine ⟨fun _ H2 => ∃ t2, Line2 e F t t2 u H H2, ?_, ?_⟩
    · refine Br_intro (fun h0 => ?_) (fun h0 => ⟨t1, hL⟩)
      have h0' : 0 < m.length := by simp at h0; omega
      rcases hL.line with ⟨bb, o, c, rfl, hc, hcell⟩ | ⟨_, _, he⟩
      · rw [hm] at hcell hc
        have hbk : bb = F.bf := by
          obtain ⟨o', n', c', he, _⟩ := hL.rng
          cases he; rfl
        have hcl := hcell (m.length - 1) (by omega)
        rw [List.getElem?_eq_getElem (by omega)] at hcl
        rw [hm, elemAddr_of (by omega) (by omega)]
        have e2 : ((m.length : Int) - 1).toNat * 1 = m.length - 1 := by omega
        simp only [Q0, Q1, Q2, Q3, Q4, Q5, Q6, Q7, Q8, Q9, Qa, Qb, Qc, Qd, Qe, Qf, Qg, Qh, Qi, Qj, Qk, Ql, Qm, Qn, Qo, Qp, Qq, Qr, Qs, e2, hcl, Option.map_some, byteV]
        refine hL.qa.store { t1 with lb := IntKind.i64.wrap (((m[m.length - 1]'(by omega)).toNat : Nat) : Int) } (by omega) rfl (by simp only [qCells, Qt, Qu, Qv]) rfl ⟨rfl, rfl, rfl, rfl, rfl, rfl⟩ hL.qa.rw hL.qa.w4 hL.qa.he fun H3 h3 f3 z3 => ?_
        refine h3.store { t1 with lb := IntKind.i64.wrap (((m[m.length - 1]'(by omega)).toNat : Nat) : Int), lr := -1 } (by omega) rfl (by simp only [qCells, Qt, Qu, Qv]) rfl ⟨rfl, rfl, rfl, rfl, rfl, rfl⟩ hL.qa.rw hL.qa.w4 hL.qa.he fun H4 h4 f4 z4 => ?_
        refine ⟨_, h4, ?_, ?_, ?_, hL.ended, hL.frm.trans ((f3.trans f4).mono (by simp [QF.ids]))⟩
        · have hline := hL.line
          rw [hm] at hline ⊢
          exact hline.frm (f3.trans f4) (fun b hb => by
            simp only [blk_slice, Option.map_some, Option.some.injEq] at hb
            rw [List.mem_singleton, ← hb, hbk]
            exact hL.qa.ne.symm)
        · have := hL.rest
          exact this
        · have hq := hL.rng
          rw [hm] at hq
          exact hq
      · rw [hm] at he
        rw [he] at h0'
        simp at h0'
    · rintro _ H2 ⟨t2, hL2⟩
      exact ⟨u, t2, rfl, hL2⟩
end Go.Cps
namespace Go.Cps
open Go Go.Proofs
theorem ExecV.eq' {P : Program} {s : Sem Value} {H H' : Heap} {K : Value → Heap → Prop} {v : Value} (h : ∀ w, w.heap = H → ∃ w', s.run P w = .ok v w' ∧ Same w w' ∧ w'.heap = H') : ExecV P s H K = K v H' := by
  apply propext
  unfold ExecV
  constructor
  · intro hh
    have h1 := hh (at_ H) rfl
    obtain ⟨w', h2, _, h3⟩ := h (at_ H) rfl
    generalize s.run P (at_ H) = q at *
    subst h2
    rw [← h3]
    exact h1.2
  · intro hk w hw
    obtain ⟨w', h2, hs, h3⟩ := h w hw
    generalize s.run P w = q at *
    subst h2
    exact ⟨hs, by rw [h3]; exact hk⟩
theorem und9 : Tryz.prog.underlying 9 = some .string := by kernel_rfl
theorem range_str {s : ByteArray} {H : Heap} {K : Value → Heap → Prop} : ExecV Tryz.prog (Instr.range 9 (.string s)) H K = K (.pointer (some ⟨H.size, 0, none⟩)) (H.push (.stringIter s 0)) := by
  apply ExecV.eq'
  intro w hw
  subst hw
  exact ⟨_, run_range_string w 9 s und9, ⟨rfl, rfl, rfl⟩, rfl⟩
theorem next_str {s : ByteArray} {pos r : Nat} {H : Heap} {K : Value → Heap → Prop} (hr : H[r]? = some (.stringIter s pos)) (h : pos < s.size) (ha : (s[pos]'h).toNat < 128) :
    ExecV Tryz.prog (Instr.next (.pointer (some ⟨r, 0, none⟩)) true 0) H K = K (.tuple #[.bool true, .int .i64 pos, .int .i32 (s[pos]'h).toNat]) (upd H r (.stringIter s (pos + 1))) := by
  apply ExecV.eq'
  intro w hw
  subst hw
  refine ⟨{ w with heap := upd w.heap r (.stringIter s (pos + 1)) }, ?_, ⟨rfl, rfl, rfl⟩, rfl⟩
  simp only [Instr.next, getObj, setObj, Sem.run_bind, Sem.run, hr, Result.andThen, h, if_true, decode_ascii s pos h ha]
  simp [goInt, Sem.run, hr, upd, lt_of_some hr]
theorem next_end {s : ByteArray} {pos r : Nat} {H : Heap} {K : Value → Heap → Prop} (hr : H[r]? = some (.stringIter s pos)) (h : ¬ pos < s.size) :
    ExecV Tryz.prog (Instr.next (.pointer (some ⟨r, 0, none⟩)) true 0) H K = K (.tuple #[.bool false]) H := by
  apply ExecV.eq
  intro w hw
  subst hw
  simp [Instr.next, getObj, Sem.run, hr, h]
def alnum (n : Int) : Bool := (65 ≤ n && n ≤ 90) || (97 ≤ n && n ≤ 122) || (48 ≤ n && n ≤ 57)
def punct (n : Int) : Bool := n == 39 || n == 40 || n == 41 || n == 43 || n == 95 || n == 44 || n == 45 || n == 46 || n == 47 || n == 58 || n == 61 || n == 63
def bchar (b : UInt8) : Bool := alnum b.toNat || punct b.toNat || b == 32
structure BdOk (l : List UInt8) : Prop where
  chars : ∀ b ∈ l, bchar b = true
  pos : 0 < l.length
  len : l.length ≤ 70
  last : l[l.length - 1]? ≠ some 32
theorem bchar_ascii {b : UInt8} (h : bchar b = true) : b.toNat < 128 := by
  simp only [bchar, alnum, punct, Bool.or_eq_true, Bool.and_eq_true, decide_eq_true_eq, beq_iff_eq] at h
  rcases h with (h | h) | h
  · omega
  · omega
  · subst h; decide
def WrAt (wr : Nat) (w : Value) (bd : List UInt8) (last : Value) (H : Heap) : Prop := H[wr]? = some (.cells #[w, strVal bd, last] 105 (0, 0))
theorem newWriter_ok {w : Value} {H : Heap} (hw : isOne w = true) : CallsH Tryz.prog 30 #[w] H fun x H' => x = .pointer (some ⟨H.size, 0, none⟩) ∧ H' = H.push (.cells #[w, strVal [], .pointer none] 105 (0, 0)) := by
  apply s30
  have e : fillV #[(0, 1), (1, 1), (2, 1)] #[.nilIface, (.string ⟨#[]⟩), (.pointer none)] [(0, w), (1, (.string ⟨#[]⟩))] = some #[w, .string ⟨#[]⟩, .pointer none] := by
    rw [fillV_cons hw rfl (by simp), fillV_cons rfl rfl (by simp), fillV_nil]; rfl
  simp only [c30, e, Option.map_some, Q6, New, Value.cells]
  exact ⟨trivial, rfl⟩
theorem setBoundary_ok {wr : Nat} {w : Value} {bd0 bd : List UInt8} {H : Heap} (h : WrAt wr w bd0 (.pointer none) H) (hb : BdOk bd) :
    CallsH Tryz.prog 31 #[.pointer (some ⟨wr, 0, none⟩), strVal bd] H fun x H' => x = .nilIface ∧ WrAt wr w bd (.pointer none) H' ∧ Frm [wr] H H' := by
  have hpos := hb.pos
  have hlen := hb.len
  have hsz : (⟨bd.toArray⟩ : ByteArray).size = bd.length := bstr_size bd
  apply s31
  have hl : lenStrV (strVal bd) = some (.int .i64 bd.length) := by simp [strVal, bstr_size]
  simp only [c31, Q0, Q1, Q2, Q3, Q4, Q5, Q6, Q7, Q8, Q9, Qa, Qb, Qc, Qd, Qe, Qf, Qg, Qh, Qi, Qj, Qk, Ql, Qm, Qn, Qo, Qp, Qq, Qr, Qs, cellH_of h, nilV2_neq_ptr, Option.isNone_none, Bool.not_true, hl]
  refine Join_direct ?_
  have d1 : decide ((bd.length : Int) < 1) = false := by simp; omega
  have d2 : decide ((bd.length : Int) > 70) = false := by simp; omega
  have e1 : IntKind.i64.wrap ((bd.length : Int) - 1) = (bd.length : Int) - 1 := wrap_i64 (by omega) (by omega)
  simp only [Q0, Q1, Q2, Q3, Q4, Q5, Q6, Q7, Q8, Q9, Qa, Qb, Qc, Qd, Qe, Qf, Qg, Qh, Qi, Qj, Qk, Ql, Qm, Qn, Qo, Qp, Qq, Qr, Qs, d1, d2, Bool.false_eq_true, if_false, e1]
  rw [strVal, range_str]
  have h0 : (H.push (.stringIter ⟨bd.toArray⟩ 0))[wr]? = some (.cells #[w, strVal bd0, .pointer none] 105 (0, 0)) := push_old h
  refine ⟨fun n vs H' => ∃ pos, vs = [] ∧ n = bd.length - pos ∧ pos ≤ bd.length ∧ H'[H.size]? = some (.stringIter ⟨bd.toArray⟩ pos) ∧ H'[wr]? = some (.cells #[w, strVal bd0, .pointer none] 105 (0, 0)) ∧ Frm [] H H',
    ⟨_, 0, rfl, rfl, Nat.zero_le _, push_same _ _, h0, Frm.push _ _ _⟩, ?_⟩
  rintro n vs H1 ⟨pos, rfl, rfl, hp, hit, hw1, f1⟩
  by_cases hlt : pos < bd.length
  · have hbp : (⟨bd.toArray⟩ : ByteArray)[pos]'(by rw [hsz]; exact hlt) = bd[pos] := rfl
    have hch := hb.chars _ (List.getElem_mem hlt)
    rw [next_str hit (by rw [hsz]; exact hlt) (by rw [hbp]; exact bchar_ascii hch), hbp]
    generalize hH2 : upd H1 H.size (.stringIter ⟨bd.toArray⟩ (pos + 1)) = H2
    have f2 : Frm [H.size] H1 H2 := by rw [← hH2]; exact Frm.upd _ (by simp)
    have hit2 : H2[H.size]? = some (.stringIter ⟨bd.toArray⟩ (pos + 1)) := by rw [← hH2]; exact upd_same (lt_of_some hit)
    have hne : wr ≠ H.size := by have := lt_of_some h; omega
    have hw2 := f2.get hw1 (by simpa using hne)
    have f12 : Frm [] H H2 := ⟨Nat.le_trans f1.size f2.size, fun k hk hn => by rw [f2.same k (Nat.lt_of_lt_of_le hk f1.size) (by simp; omega), f1.same k hk hn]⟩
    have hround : ∃ m, m < bd.length - pos ∧ ∃ pos', True ∧ m = bd.length - pos' ∧ pos' ≤ bd.length ∧ H2[H.size]? = some (.stringIter ⟨bd.toArray⟩ pos') ∧ H2[wr]? = some (.cells #[w, strVal bd0, .pointer none] 105 (0, 0)) ∧ Frm [] H H2 :=
      ⟨_, by omega, pos + 1, trivial, rfl, hlt, hit2, hw2, f12⟩
    generalize hcv : ((bd[pos].toNat : Nat) : Int) = c
    simp only [Q0, Q1, Q2, Q3, Q4, Q5, Q6, Q7, Q8, Q9, Qa, Qb, Qc, Qd, Qe, Qf, Qg, Qh, Qi, Qj, Qk, Ql, Qm, Qn, Qo, Qp, Qq, Qr, Qs]
    refine ⟨fun vs H' => vs = [.bool (alnum c)] ∧ H' = H2, ?_, ?_⟩
    · refine Br_intro (fun h1 => ?_) (fun h1 => ?_) <;> simp only [Q0, Q1, Q2, Q3, Q4, Q5, Q6, Q7, Q8, Q9, Qa, Qb, Qc, Qd, Qe, Qf, Qg, Qh, Qi, Qj, Bool.false_eq_true, if_false, if_true] <;> repeat' (first | refine Br_intro (fun h2 => ?_) (fun h2 => ?_) | simp only [Q0, Q1, Q2, Q3, Q4, Q5, Q6, Q7, Q8, Q9, Qa, Qb, Qc, Qd, Qe, Qf, Qg, Qh, Qi, Qj, Qk, Ql, Qm, Qn, Qo, Qp, Qq, Qr, Qs, Bool.false_eq_true, if_false, if_true])
      all_goals (simp only [decide_eq_true_eq, decide_eq_false_iff_not] at *; try simp only [List.cons.injEq, Value.bool.injEq, and_true]; rw [Bool.eq_iff_iff]; simp only [alnum, Bool.or_eq_true, Bool.and_eq_true, decide_eq_true_eq, true_iff, false_iff, eq_self, Bool.false_eq_true]; omega)
    · rintro _ H2 ⟨rfl, rfl⟩
      simp only [Q0, Q1, Q2, Q3, Q4, Q5, Q6, Q7, Q8, Q9, Qa, Qb, Qc, Qd, Qe, Qf, Qg, Qh, Qi, Qj]
      refine Br_intro (fun h1 => hround) (fun h1 => ?_)
      refine ⟨fun _ _ => False, ?_, fun _ _ h => h.elim⟩
      refine ⟨fun vs H' => vs = [.bool (punct c)] ∧ H' = H2, ?_, ?_⟩
      · simp only [Q0, Q1, Q2, Q3, Q4, Q5, Q6, Q7, Q8, Q9, Qa, Qb, Qc, Qd, Qe, Qf, Qg, Qh, Qi, Qj, Qk, Ql, Qm, Qn, Qo, Qp, Qq, Qr, Qs]
        repeat' (first | refine Br_intro (fun h2 => ?_) (fun h2 => ?_) | simp only [Q0, Q1, Q2, Q3, Q4, Q5, Q6, Q7, Q8, Q9, Qa, Qb, Qc, Qd, Qe, Qf, Qg, Qh, Qi, Qj, Qk, Ql, Qm, Qn, Qo, Qp, Qq, Qr, Qs])
        all_goals (try simp only [beq_iff_eq, beq_eq_false_iff_ne] at *; try simp only [List.cons.injEq, Value.bool.injEq, and_true]; rw [Bool.eq_iff_iff]; simp only [punct, Bool.or_eq_true, beq_iff_eq]; omega)
      · rintro _ H2 ⟨rfl, rfl⟩
        simp only [Q0, Q1, Q2, Q3, Q4, Q5, Q6, Q7, Q8, Q9, Qa, Qb, Qc, Qd, Qe, Qf, Qg, Qh, Qi, Qj]
        refine Br_intro (fun h2 => hround) (fun h2 => ?_)
        have hc32 : c = 32 := by
          simp only [bchar, Bool.or_eq_true, beq_iff_eq, hcv, h1, h2, Bool.false_eq_true, false_or] at hch
          rw [← hcv, hch]; rfl
        have hne2 : pos ≠ bd.length - 1 := by
          intro e
          apply hb.last
          rw [← e, List.getElem?_eq_getElem hlt]
          congr 1
          apply UInt8.toNat_inj.1
          have : (32 : UInt8).toNat = 32 := rfl
          omega
        have d3 : ((pos : Int) != (bd.length : Int) - 1) = true := by simp; omega
        simp only [Qk, Ql, Qm, Qn, Qo, Qp, Qq, Qr, Qs, Q0, Q1, Q2, Q3, Q4, Q5, Q6, Q7, Q8, Q9, Qa, Qb, Qc, Qd, Qe, Qf, Qg, Qh, Qi, Qj, hc32, beq_self_eq_true, d3]
        exact hround
  · rw [next_end hit (by rw [hsz]; exact hlt)]
    simp only [Q0, Q1, Q2, Q3, Q4, Q5, Q6, Q7, Q8, Q9, Qa, Qb, Qc, Qd, Qe, Qf, Qg, Qh, Qi, Qj]
    refine Store_of hw1 (by simp) rfl fun H2 hb2 f2 z2 => ?_
    simp only [Qt, Qu, Qv] at hb2
    exact ⟨trivial, hb2, (f1.mono (by simp)).trans f2⟩
end Go.Cps
