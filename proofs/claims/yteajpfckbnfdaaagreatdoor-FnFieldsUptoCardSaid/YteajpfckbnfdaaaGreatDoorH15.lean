/-
  A part of the proof: ReadByte, UnreadByte; skipSpace ahead of a byte that is no blank. canonicalMIMEHeaderKey of a token: it turns the bytes in place. What the bodies of some functions of the program come to, at heap level, each proved of the program itself. bytes.TrimLeft with the cutset of a space and a tab.
  Conditions: each contract's own.
-/
import Derived.Test.YteajpfckbnfdaaaGreatDoorH4
import Derived.Test.YteajpfckbnfdaaaGreatDoorH14
set_option linter.all false
namespace Go.Cps
open Go Go.Proofs
theorem RdAt.setBuf {S : Stk} {s : St} {H : Heap} (h : RdAt S s H) {o : Nat} {c : UInt8} {K : Heap → Prop} (ho : o < 4096)
    (hk : ∀ H', RdAt S { s with buf := s.buf.set o c } H' → Frm [S.bf] H H' → H'.size = H.size → K H') : Get (store1V (.pointer (some ⟨S.bf, o, none⟩)) (byteV c) H) K := by
  obtain ⟨n1, n2, n3, n4, n5, n6⟩ := h.ne
  have hbl := h.blen
  refine Store_of h.hbf (by simp [hbl]; omega) rfl fun H1 hb1 f1 z1 => ?_
  have e : (s.buf.map byteV).toArray.setIfInBounds o (byteV c) = ((s.buf.set o c).map byteV).toArray := by
    rw [List.setIfInBounds_toArray, List.map_set]
  rw [e] at hb1
  have ff : Frm S.ids H H1 := f1.mono (by simp [Stk.ids])
  exact hk H1 { h with hb := f1.get h.hb (by simpa using n1), hbf := hb1, hst := f1.get h.hst (by simpa using n4.symm), hbr := f1.get h.hbr (by simpa using n5.symm), hv := h.hv.frm ff h.d2, hE := h.hE.frm ff h.d0, blen := by simp only [List.length_set]; exact h.blen } f1 z1
theorem readByte_ok {S : Stk} {s : St} {H : Heap} {c : UInt8} {q : List UInt8} (h : RdAt S s H) (hr : s.rest S = c :: q) :
    CallsH Tryz.prog 197 #[.pointer (some ⟨S.b, 0, none⟩)] H fun x H' => ∃ s', x = .tuple #[byteV c, .nilIface] ∧ RdAt S s' H' ∧ s'.rest S = q ∧ s'.lb = c.toNat ∧ 0 < s'.r ∧ s'.buf[s'.r - 1]? = some c ∧ Frm S.ids H H' ∧ H'.size = H.size := by
  apply s184
  simp only [c184, Q0, Q1, Q2, Q3, Q4, Q5, Q6, Q7, Q8, Q9, Qa, Qb, Qc, Qd, Qe, Qf, Qg, Qh, Qi, Qj]
  refine h.store { s with lr := -1 } (by omega) rfl (by simp only [bufCells, Qt, Qu, Qv]) rfl rfl rfl rfl h.rw h.w4 h.he fun H1 h1 f1 z1 => ?_
  refine ⟨fun n vs H' => ∃ s1, vs = [] ∧ n = (if s1.r == s1.w then 1 else 0) ∧ RdAt S s1 H' ∧ s1.rest S = c :: q ∧ Frm S.ids H H' ∧ H'.size = H.size, ⟨_, _, rfl, rfl, h1, hr, f1, z1⟩, ?_⟩
  clear h1 f1 z1 h hr
  rintro n vs H1 ⟨s1, rfl, rfl, h1, hr, f1, z1⟩
  have hrw := h1.rw
  have hw4 := h1.w4
  have hrl := h1.rest_len
  have hbl := h1.bufd_len
  rw [hr] at hrl
  simp only [List.length_cons] at hrl
  have eb : (((s1.r : Nat) : Int) == ((s1.w : Nat) : Int)) = (s1.r == s1.w) := by
    rw [Bool.eq_iff_iff, beq_iff_eq, beq_iff_eq]; omega
  simp only [Q0, Q1, Q2, Q3, Q4, Q5, Q6, Q7, Q8, Q9, Qa, Qb, Qc, Qd, Qe, Qf, Qg, Qh, Qi, Qj, Qk, Ql, Qm, Qn, Qo, Qp, Qq, Qr, Qs, cellH_of h1.hb, bufCells, eb, neq_er]
  refine Br_intro (fun he => ?_) (fun he => ?_)
  · have he' : s1.r = s1.w := by simpa using he
    have herr : s1.err = false := by
      cases hh : s1.err with
      | false => rfl
      | true => have := h1.he hh; omega
    rw [herr, Q8]
    refine (fill_ok h1 herr (by omega)).mono ?_
    rintro _ H2 ⟨s2, h2, hf, f2, z2⟩
    have hr0 := hf.r0
    refine ⟨_, ?_, s2, trivial, rfl, h2, hf.rest.trans hr, f1.trans f2, by omega⟩
    have : s2.r ≠ s2.w := by
      rcases hf.how with ⟨_, _, hh⟩ | ⟨hp, _, _⟩
      · omega
      · omega
    rw [he]
    simp [this]
  · have he' : s1.r ≠ s1.w := by simpa using he
    have hlt : s1.r < s1.buf.length := by rw [h1.blen]; omega
    have hc : s1.buf[s1.r] = c := by
      have h5 : s1.bufd[0]? = some c := by
        have : (s1.rest S)[0]? = some c := by rw [hr]; rfl
        rw [St.rest_eq, List.getElem?_append_left (by omega)] at this
        exact this
      rw [St.bufd, List.getElem?_drop, List.getElem?_take, if_pos (by omega), Nat.add_zero, List.getElem?_eq_getElem hlt] at h5
      exact Option.some.inj h5
    have hcell : cellH H1 ⟨S.bf, s1.r, none⟩ = some (byteV c) := by
      rw [cellH_of h1.hbf]
      simp [List.getElem?_eq_getElem hlt, hc]
    have hel : elemAddrV 1 (.slice (some ⟨S.bf, 0, none⟩) 4096 4096) (.int .i64 (s1.r : Nat)) = some (.pointer (some ⟨S.bf, s1.r, none⟩)) := by
      rw [elemAddr_of (by omega) (by omega)]
      simp
    have e1 : IntKind.i64.wrap ((s1.r : Int) + 1) = ((s1.r + 1 : Nat) : Int) := by rw [wrap_i64 (by omega) (by omega)]; omega
    have hcl := c.toNat_lt
    have e2 : IntKind.i64.wrap ((c.toNat : Nat) : Int) = ((c.toNat : Nat) : Int) := wrap_i64 (by omega) (by omega)
    simp only [hel, hcell, Q0, Q1, Q2, Q3, Q4, Q5, Q6, Q7, Q8, Q9, Qa, Qb, Qc, Qd, Qe, Qf, Qg, Qh, Qi, Qj, e1]
    refine h1.store { s1 with r := s1.r + 1 } (by omega) rfl (by simp only [bufCells, Qt, Qu, Qv]) rfl rfl rfl rfl (by simp only []; omega) hw4 h1.he fun H2 h2 f2 z2 => ?_
    simp only [byteV, Qk, Ql, Qm, Qn, Qo, Qp, Qq, Qr, Qs, Q0, Q1, Q2, Q3, Q4, Q5, Q6, Q7, Q8, Q9, Qa, Qb, Qc, Qd, Qe, Qf, Qg, Qh, Qi, Qj, e2]
    refine h2.store { s1 with r := s1.r + 1, lb := ((c.toNat : Nat) : Int) } (by omega) rfl (by simp only [bufCells, Qt, Qu, Qv]) rfl rfl rfl rfl (by simp only []; omega) hw4 h1.he fun H3 h3 f3 z3 => ?_
    refine ⟨_, trivial, h3, ?_, rfl, by simp, ?_, (f1.trans f2).trans f3, by omega⟩
    · rw [St.rest_eq] at hr
      have h6 : s1.bufd = c :: s1.bufd.drop 1 := by
        have h7 : s1.bufd[0]? = some c := by
          have : (s1.rest S)[0]? = some c := by rw [St.rest_eq, hr]; rfl
          rw [St.rest_eq, List.getElem?_append_left (by omega)] at this
          exact this
        cases hb : s1.bufd with
        | nil => rw [hb] at h7; cases h7
        | cons a r => rw [hb] at h7; cases h7; rfl
      rw [h6, List.cons_append] at hr
      have h8 := List.tail_eq_of_cons_eq hr
      rw [St.rest]
      simp only []
      rw [← h8, St.bufd, List.drop_drop]
    · simp only [Nat.add_sub_cancel]
      rw [List.getElem?_eq_getElem hlt, hc]
theorem unreadByte_ok {S : Stk} {s : St} {H : Heap} {c : UInt8} (h : RdAt S s H) (hlb : s.lb = c.toNat) (hr0 : 0 < s.r) (hc : s.buf[s.r - 1]? = some c) :
    CallsH Tryz.prog 198 #[.pointer (some ⟨S.b, 0, none⟩)] H fun x H' => ∃ s', x = .nilIface ∧ RdAt S s' H' ∧ s'.rest S = c :: s.rest S ∧ Frm S.ids H H' ∧ H'.size = H.size := by
  have hrw := h.rw
  have hw4 := h.w4
  have hcl := c.toNat_lt
  apply s185
  unfold c185
  refine ⟨fun vs H' => vs = [.bool false] ∧ H' = H, ?_, ?_⟩
  · have d1 : decide (s.lb < 0) = false := by simp; omega
    have d2 : (((s.r : Nat) : Int) == 0) = false := by rw [beq_eq_false_iff_ne]; omega
    simp only [Q0, Q1, Q2, Q3, Q4, Q5, Q6, Q7, Q8, Q9, Qa, Qb, Qc, Qd, Qe, Qf, Qg, Qh, Qi, Qj, Qk, Ql, Qm, Qn, Qo, Qp, Qq, Qr, Qs, cellH_of h.hb, bufCells, d1, d2, Bool.false_eq_true, if_false, and_self]
  · rintro _ H ⟨rfl, rfl⟩
    simp only [Q0, Q1, Q2, Q3, Q4, Q5, Q6, Q7, Q8, Q9, Qa, Qb, Qc, Qd, Qe, Qf, Qg, Qh, Qi, Qj]
    have d3 : decide (((s.r : Nat) : Int) > 0) = true := by simp; omega
    have e1 : IntKind.i64.wrap ((s.r : Int) - 1) = ((s.r - 1 : Nat) : Int) := by rw [wrap_i64 (by omega) (by omega)]; omega
    refine Join_direct ?_
    simp only [Q0, Q1, Q2, Q3, Q4, Q5, Q6, Q7, Q8, Q9, Qa, Qb, Qc, Qd, Qe, Qf, Qg, Qh, Qi, Qj, Qk, Ql, Qm, Qn, Qo, Qp, Qq, Qr, Qs, cellH_of h.hb, bufCells, d3, e1]
    refine h.store { s with r := s.r - 1 } (by omega) rfl (by simp only [bufCells, Qt, Qu, Qv]) rfl rfl rfl rfl (by simp only []; omega) hw4 h.he fun H1 h1 f1 z1 => ?_
    have hel : elemAddrV 1 (.slice (some ⟨S.bf, 0, none⟩) 4096 4096) (.int .i64 ((s.r - 1 : Nat) : Int)) = some (.pointer (some ⟨S.bf, s.r - 1, none⟩)) := by
      rw [elemAddr_of (by omega) (by omega)]
      simp
    have e2 : IntKind.u8.wrap s.lb = ((c.toNat : Nat) : Int) := by rw [hlb]; exact wrap_u8 (by omega) (by omega)
    simp only [Q0, Q1, Q2, Q3, Q4, Q5, Q6, Q7, Q8, Q9, Qa, Qb, Qc, Qd, Qe, Qf, Qg, Qh, Qi, Qj, Qk, Ql, Qm, Qn, Qo, Qp, Qq, Qr, Qs, cellH_of h1.hb, bufCells, hel, e2]
    refine h1.setBuf (c := c) (by omega) fun H2 h2 f2 z2 => ?_
    have hset : s.buf.set (s.r - 1) c = s.buf := by
      apply List.ext_getElem?
      intro i
      rw [List.getElem?_set]
      split
      · rename_i hi
        split
        · rw [← hi, hc]
        · rename_i h9; rw [List.getElem?_eq_none (by omega)]
      · rfl
    simp only [hset] at h2
    refine h2.store { s with r := s.r - 1, lb := -1 } (by omega) rfl (by simp only [bufCells, Qt, Qu, Qv]) rfl rfl rfl rfl (by simp only []; omega) hw4 h.he fun H3 h3 f3 z3 => ?_
    refine h3.store { s with r := s.r - 1, lb := -1, lr := -1 } (by omega) rfl (by simp only [bufCells, Qt, Qu, Qv]) rfl rfl rfl rfl (by simp only []; omega) hw4 h.he fun H4 h4 f4 z4 => ?_
    refine ⟨_, trivial, h4, ?_, ((f1.trans (f2.mono (by simp [Stk.ids]))).trans f3).trans f4, by omega⟩
    show (s.buf.take s.w).drop (s.r - 1) ++ S.l.drop s.pos = c :: ((s.buf.take s.w).drop s.r ++ S.l.drop s.pos)
    have hlt : s.r - 1 < (s.buf.take s.w).length := by rw [List.length_take, h.blen]; omega
    have hx : (s.buf.take s.w)[s.r - 1] = c := by
      rw [List.getElem_take]
      have h7 : s.buf[s.r - 1]? = some (s.buf[s.r - 1]'(by rw [h.blen]; omega)) := List.getElem?_eq_getElem (by rw [h.blen]; omega)
      rw [h7] at hc
      exact Option.some.inj hc
    rw [List.drop_eq_getElem_cons hlt, show s.r - 1 + 1 = s.r by omega, List.cons_append, hx]
theorem skipSpace_ok {S : Stk} {s : St} {H : Heap} {tr : Nat} {tbuf : Value} {c : UInt8} {q : List UInt8} (ht : TR S tr tbuf H) (htr : tr ∉ S.ids) (h : RdAt S s H) (hr : s.rest S = c :: q) (hc : lws c = false) :
    CallsH Tryz.prog 188 #[.pointer (some ⟨tr, 0, none⟩)] H fun x H' => ∃ s', x = .int .i64 0 ∧ RdAt S s' H' ∧ s'.rest S = c :: q ∧ Frm S.ids H H' ∧ H'.size = H.size := by
  apply s177
  unfold c177
  refine Join_direct ?_
  refine ⟨fun n vs H' => vs = [.int .i64 0] ∧ H' = H, ⟨0, rfl, rfl⟩, ?_⟩
  rintro n vs H ⟨rfl, rfl⟩
  simp only [Q0, Q1, Q2, Q3, Q4, Q5, Q6, Q7, Q8, Q9, Qa, Qb, Qc, Qd, Qe, Qf, Qg, Qh, Qi, Qj, cellH_of ht]
  refine (readByte_ok h hr).mono ?_
  rintro x H1 ⟨s1, rfl, h1, hr1, hlb, hr0, hcb, f1, z1⟩
  have ht1 := f1.get ht htr
  simp only [Q0, Q1, Q2, Q3, Q4, Q5, Q6, Q7, Q8, Q9, Qa, Qb, Qc, Qd, Qe, Qf, Qg, Qh, Qi, Qj, nilV2_neq_nil]
  have b32 : ((c.toNat : Int) != 32) = (c != 32) := by
    have := byte_beq c 32
    rw [show (((32 : UInt8).toNat : Nat) : Int) = 32 from rfl] at this
    rw [bne, bne, this]
  have b9 : ((c.toNat : Int) != 9) = (c != 9) := by
    have := byte_beq c 9
    rw [show (((9 : UInt8).toNat : Nat) : Int) = 9 from rfl] at this
    rw [bne, bne, this]
  have h32 : (c != 32) = true := by simp [lws] at hc; simp [hc]
  have h9 : (c != 9) = true := by simp [lws] at hc; simp [hc]
  refine Join_direct ?_
  simp only [byteV, Qk, Ql, Qm, Qn, Qo, Qp, Qq, Qr, Qs, Q0, Q1, Q2, Q3, Q4, Q5, Q6, Q7, Q8, Q9, Qa, Qb, Qc, Qd, Qe, Qf, Qg, Qh, Qi, Qj, b32, b9, h32, h9, if_true, cellH_of ht1]
  refine (unreadByte_ok h1 hlb hr0 hcb).mono ?_
  rintro x H2 ⟨s2, rfl, h2, hr2, f2, z2⟩
  exact ⟨s2, trivial, h2, by rw [hr2, hr1], f1.trans f2, by omega⟩
end Go.Cps
namespace Go.Cps
open Go Go.Proofs
def canon1 (up : Bool) (c : UInt8) : UInt8 := if up && (97 ≤ c && c ≤ 122) then c - 32 else if !up && (65 ≤ c && c ≤ 90) then c + 32 else c
def canonG : Bool → List UInt8 → List UInt8
  | _, [] => []
  | up, c :: r => canon1 up c :: canonG (canon1 up c == 45) r
theorem canonG_length : ∀ (up : Bool) (l : List UInt8), (canonG up l).length = l.length
  | _, [] => rfl
  | up, c :: r => by simp [canonG, canonG_length _ r]
theorem putAt_append (cs : Array Value) (o : Nat) (a b : List Value) : putAt (putAt cs o a) (o + a.length) b = putAt cs o (a ++ b) := by
  induction a generalizing cs o with
  | nil => simp [putAt]
  | cons v r ih =>
    simp only [putAt, List.length_cons, List.cons_append]
    rw [show o + (r.length + 1) = (o + 1) + r.length by omega, ih]
def canonI (up : Bool) (n : Int) : Int := if up && (decide (97 ≤ n) && decide (n ≤ 122)) then n - 32 else if !up && (decide (65 ≤ n) && decide (n ≤ 90)) then n + 32 else n
theorem canon1_table : ([true, false].all fun up => (List.range 256).all fun n => canonI up n == ((canon1 up (UInt8.ofNat n)).toNat : Int)) = true := by kernel_rfl
theorem canon1_eq (up : Bool) (c : UInt8) : canonI up c.toNat = (canon1 up c).toNat := by
  have h := List.all_eq_true.1 canon1_table up (by cases up <;> simp)
  have h2 := List.all_eq_true.1 h c.toNat (List.mem_range.2 c.toNat_lt)
  rw [beq_iff_eq] at h2
  rw [h2]
  simp
theorem canonKey_ok {g o c : Nat} {cs : Array Value} {t : TypeId} {key : List UInt8} {H : Heap} (hg : H[g]? = some (.cells cs t (0, 0))) (hk : ∀ j, j < key.length → cs[o + j]? = (key[j]?).map byteV) (hle : o + key.length ≤ cs.size) (hc : key.length ≤ c) (h0 : key ≠ []) (htok : ∀ b ∈ key, tok b.toNat = true) (hl : key.length < 2 ^ 30) :
    CallsH Tryz.prog 84 #[.slice (some ⟨g, o, none⟩) key.length c] H fun x H' => x = .tuple #[strVal (canonG true key), .bool true] ∧ H'[g]? = some (.cells (putAt cs o ((canonG true key).map byteV)) t (0, 0)) ∧ Frm [g] H H' ∧ H'.size = H.size := by
  have hpos : 0 < key.length := List.length_pos_iff.2 h0
  have hne : (((key.length : Nat) : Int) == 0) = false := by rw [beq_eq_false_iff_ne]; omega
  have dd : ∀ a b : Nat, decide ((a : Int) < (b : Int)) = decide (a < b) := fun a b => by simp
  apply s120
  simp only [c120, Q0, Q1, Q2, Q3, Q4, Q5, Q6, Q7, Q8, Q9, Qa, Qb, Qc, Qd, Qe, Qf, Qg, Qh, Qi, Qj, Qk, Ql, Qm, Qn, Qo, Qp, Qq, Qr, Qs, hne]
  refine ⟨fun n vs H' => ∃ i : Nat, vs = [.bool false, .int .i64 i] ∧ n = key.length - i ∧ i ≤ key.length ∧ H' = H, ⟨_, 0, rfl, rfl, Nat.zero_le _, rfl⟩, ?_⟩
  rintro n vs H ⟨i, rfl, rfl, hi, rfl⟩
  simp only [Q0, Q1, Q2, Q3, Q4, Q5, Q6, Q7, Q8, Q9, Qa, Qb, Qc, Qd, Qe, Qf, Qg, Qh, Qi, Qj, Qk, Ql, Qm, Qn, Qo, Qp, Qq, Qr, Qs, dd]
  refine Br_intro (fun hlt => ?_) (fun hlt => ?_)
  · have hlt' : i < key.length := by simpa using hlt
    have hcell : cellH H ⟨g, o + i, none⟩ = some (byteV key[i]) := by
      rw [cellH_of hg, hk i hlt', List.getElem?_eq_getElem hlt']; rfl
    have e1 : IntKind.i64.wrap ((i : Int) + 1) = ((i + 1 : Nat) : Int) := by rw [wrap_i64 (by omega) (by omega)]; omega
    refine ⟨fun vs H' => vs = [.bool false] ∧ H' = H, ?_, ?_⟩
    · rw [elemAddr_of (by omega) (by omega)]
      simp only [Q0, Q1, Q2, Q3, Q4, Q5, Q6, Q7, Q8, Q9, Qa, Qb, Qc, Qd, Qe, Qf, Qg, Qh, Qi, Qj, Int.toNat_natCast, Nat.mul_one, hcell]
      refine fieldByte_ok.mono ?_
      rintro x H' ⟨rfl, rfl⟩
      rw [htok _ (List.getElem_mem hlt'), Q7]
      exact ⟨trivial, rfl⟩
    · rintro _ H ⟨rfl, rfl⟩
      simp only [Q0, Q1, Q2, Q3, Q4, Q5, Q6, Q7, Q8, Q9, Qa, Qb, Qc, Qd, Qe, Qf, Qg, Qh, Qi, Qj, e1]
      exact ⟨_, by omega, i + 1, rfl, rfl, hlt', trivial⟩
  · refine ⟨fun n vs H' => ∃ (i : Nat) (up : Bool) (d r : List UInt8), vs = [.bool up, .int .i64 i] ∧ n = key.length - i ∧ i ≤ key.length ∧ canonG true key = d ++ canonG up r ∧ d.length = i ∧ r = key.drop i ∧
        H'[g]? = some (.cells (putAt cs o (d.map byteV)) t (0, 0)) ∧ Frm [g] H H' ∧ H'.size = H.size,
      ⟨_, 0, true, [], key, rfl, rfl, Nat.zero_le _, rfl, rfl, rfl, hg, Frm.refl _ _, rfl⟩, ?_⟩
    rintro n vs H1 ⟨i, up, d, r, rfl, rfl, hi, hcan, hd, hr, hg1, f1, z1⟩
    simp only [Q0, Q1, Q2, Q3, Q4, Q5, Q6, Q7, Q8, Q9, Qa, Qb, Qc, Qd, Qe, Qf, Qg, Qh, Qi, Qj, Qk, Ql, Qm, Qn, Qo, Qp, Qq, Qr, Qs, dd]
    refine Br_intro (fun hlt => ?_) (fun hlt => ?_)
    · have hlt' : i < key.length := by simpa using hlt
      have hr2 : r = key[i] :: key.drop (i + 1) := by rw [hr]; exact List.drop_eq_getElem_cons hlt'
      generalize hb : key[i] = b at *
      have hcell : cellH H1 ⟨g, o + i, none⟩ = some (byteV b) := by
        rw [cellH_of hg1, putAt_get _ _ _ _ (by simp; omega), if_neg (by simp; omega), hk i hlt', List.getElem?_eq_getElem hlt', hb]; rfl
      have e1 : IntKind.i64.wrap ((i : Int) + 1) = ((i + 1 : Nat) : Int) := by rw [wrap_i64 (by omega) (by omega)]; omega
      have hblt := b.toNat_lt
      rw [elemAddr_of (by omega) (by omega)]
      simp only [Q0, Q1, Q2, Q3, Q4, Q5, Q6, Q7, Q8, Q9, Qa, Qb, Qc, Qd, Qe, Qf, Qg, Qh, Qi, Qj, Int.toNat_natCast, Nat.mul_one, hcell, byteV]
      have hci := canon1_eq up b
      generalize hn : ((b.toNat : Nat) : Int) = m at *
      refine ⟨fun vs H' => vs = [.int .u8 (canonI up m)] ∧ H' = H1, ?_, ?_⟩
      · refine ⟨fun vs H' => vs = [.bool (up && (decide (97 ≤ m) && decide (m ≤ 122)))] ∧ H' = H1, ?_, ?_⟩
        · cases up <;> simp only [Q0, Q1, Q2, Q3, Q4, Q5, Q6, Q7, Q8, Q9, Qa, Qb, Qc, Qd, Qe, Qf, Qg, Qh, Qi, Qj, Qk, Ql, Qm, Qn, Qo, Qp, Qq, Qr, Qs, Bool.false_eq_true, if_false, if_true]
          · simp
          · refine Br_intro (fun h1 => ?_) (fun h1 => ?_) <;> simp [h1]
        · rintro _ H1 ⟨rfl, rfl⟩
          simp only [Q0, Q1, Q2, Q3, Q4, Q5, Q6, Q7, Q8, Q9, Qa, Qb, Qc, Qd, Qe, Qf, Qg, Qh, Qi, Qj]
          refine Br_intro (fun h1 => ?_) (fun h1 => ?_)
          · have h1' : 97 ≤ m ∧ m ≤ 122 := by simp at h1; omega
            have e3 : IntKind.u8.wrap (m - 32) = m - 32 := wrap_u8 (by omega) (by omega)
            simp only [Qk, Ql, Qm, Qn, Qo, Qp, Qq, Qr, Qs, Q0, Q1, Q2, Q3, Q4, Q5, Q6, Q7, Q8, Q9, Qa, Qb, Qc, Qd, Qe, Qf, Qg, Qh, Qi, Qj, e3, canonI, h1, if_true, and_self]
          · refine ⟨fun vs H' => vs = [.bool (!up && (decide (65 ≤ m) && decide (m ≤ 90)))] ∧ H' = H1, ?_, ?_⟩
            · cases up <;> simp only [Q0, Q1, Q2, Q3, Q4, Q5, Q6, Q7, Q8, Q9, Qa, Qb, Qc, Qd, Qe, Qf, Qg, Qh, Qi, Qj, Qk, Ql, Qm, Qn, Qo, Qp, Qq, Qr, Qs, Bool.false_eq_true, if_false, if_true, Bool.not_true, Bool.not_false]
              · refine Br_intro (fun h1 => ?_) (fun h1 => ?_) <;> simp [h1]
              · simp
            · rintro _ H1 ⟨rfl, rfl⟩
              simp only [Q0, Q1, Q2, Q3, Q4, Q5, Q6, Q7, Q8, Q9, Qa, Qb, Qc, Qd, Qe, Qf, Qg, Qh, Qi, Qj]
              refine Br_intro (fun h2 => ?_) (fun h2 => ?_)
              · have h2' : 65 ≤ m ∧ m ≤ 90 := by simp at h2; omega
                have e3 : IntKind.u8.wrap (m + 32) = m + 32 := wrap_u8 (by omega) (by omega)
                simp only [Qk, Ql, Qm, Qn, Qo, Qp, Qq, Qr, Qs, Q0, Q1, Q2, Q3, Q4, Q5, Q6, Q7, Q8, Q9, Qa, Qb, Qc, Qd, Qe, Qf, Qg, Qh, Qi, Qj, e3, canonI, h1, h2, if_true, Bool.false_eq_true, if_false, and_self]
              · simp only [Q0, Q1, Q2, Q3, Q4, Q5, Q6, Q7, Q8, Q9, Qa, Qb, Qc, Qd, Qe, Qf, Qg, Qh, Qi, Qj, canonI, h1, h2, Bool.false_eq_true, if_false, and_self]
      · rintro _ H1 ⟨rfl, rfl⟩
        simp only [Q0, Q1, Q2, Q3, Q4, Q5, Q6, Q7, Q8, Q9, Qa, Qb, Qc, Qd, Qe, Qf, Qg, Qh, Qi, Qj]
        rw [hci]
        refine Store_of hg1 (by simp; omega) rfl fun H2 hg2 f2 z2 => ?_
        have b45 : (((canon1 up b).toNat : Int) == 45) = (canon1 up b == 45) := byte_beq _ 45
        simp only [Qk, Ql, Qm, Qn, Qo, Qp, Qq, Qr, Qs, Q0, Q1, Q2, Q3, Q4, Q5, Q6, Q7, Q8, Q9, Qa, Qb, Qc, Qd, Qe, Qf, Qg, Qh, Qi, Qj, b45, e1]
        refine ⟨_, by omega, i + 1, canon1 up b == 45, d ++ [canon1 up b], key.drop (i + 1), rfl, rfl, hlt', ?_, by simp [hd], rfl, ?_, f1.trans f2, by omega⟩
        · rw [hcan, hr2, canonG]; simp
        · rw [hg2]
          have : (putAt cs o (d.map byteV)).setIfInBounds (o + i) (.int .u8 (canon1 up b).toNat) = putAt cs o ((d ++ [canon1 up b]).map byteV) := by
            rw [List.map_append, ← putAt_append]
            simp only [List.map_cons, List.map_nil, putAt, List.length_map, hd]
            rfl
          rw [this]
    · have hik : i = key.length := by
        simp only [decide_eq_false_iff_not] at hlt
        omega
      have hrn : r = [] := by rw [hr, hik, List.drop_length]
      rw [hrn] at hcan
      simp only [canonG, List.append_nil] at hcan
      have hx : IsBytes H1 (.slice (some ⟨g, o, none⟩) key.length c) (canonG true key) := by
        have hcl := canonG_length true key
        refine .inl ⟨g, o, c, by rw [hcl], by rw [hcl]; exact hc, fun j hj => ?_⟩
        rw [hcl] at hj
        rw [cellH_of hg1, putAt_get _ _ _ _ (by simp; omega), if_pos ⟨by omega, by simp; omega⟩, ← hcan]
        simp
      simp only [hx.str, Q6]
      exact ⟨rfl, by rw [hcan]; exact hg1, f1, z1⟩
end Go.Cps
namespace Go.Cps
open Go Go.Proofs
set_option maxRecDepth 100000
def c180 (a0 : Value) (H : Heap) (R : Value → Heap → Prop) : Prop :=
  New (.cells (Array.replicate 256 (.bool false)) 278 (0, 0)) H fun x2 H =>
  Loop [(.int .i64 0)] H fun K1 vs2 H =>
  Get (lenStrV a0) fun x8 =>
  Get (arithV .lss .i64 (nth vs2 0) x8) fun x9 =>
  Br x9 (
  Get (strIndexV a0 (nth vs2 0)) fun x14 =>
  Get (arithV .geq .u8 x14 (.int .u8 128)) fun x16 =>
  Br x16 (
  Get (loadNV 256 x2 H) fun x17 =>
  Get (storeNV 256 x2 x17 H) fun H =>
  Get (loadNV 256 x2 H) fun r2 =>
  R (.tuple #[r2, (.bool false)]) H) (
  Get (arrAddrV 256 1 x2 x14) fun x19 =>
  Get (store1V x19 (.bool true) H) fun H =>
  Get (arithV .add .i64 (nth vs2 0) (.int .i64 1)) fun x11 =>
  K1 [x11] H)) (
  Get (loadNV 256 x2 H) fun x20 =>
  Get (storeNV 256 x2 x20 H) fun H =>
  Get (loadNV 256 x2 H) fun r2 =>
  R (.tuple #[r2, (.bool true)]) H)
def p180 : Plan := .seq (.leaf []) (.seq (.seq (.leaf []) (.block (.loop [4] (.seq (.seq (.leaf []) (.cond (.leaf []) (.leaf []))) (.seq (.block (.seq (.leaf []) (.seq (.seq (.leaf []) (.cond (.seq (.leaf []) (.leaf [])) (.leaf []))) (.leaf [])))) (.leaf [])))))) (.seq (.leaf []) (.leaf [])))
theorem s180 {a0 : Value} {H : Heap} {R : Value → Heap → Prop} (h : c180 a0 H R) : CallsH Tryz.prog 191 #[a0] H R :=
  callsH_of_eq p180 (fn := Tryz.f191) (c := Tryz.f191.body.getD .skip) (args := [a0]) Tryz.func191 (by kernel_rfl) mixed (by kernel_rfl) (by kernel_rfl) (by kernel_rfl) h
def c181 (a0 a1 : Value) (H : Heap) (R : Value → Heap → Prop) : Prop :=
  Join (fun K1 =>
  Loop [a0] H fun K2 vs3 H =>
  Get (lenV (nth vs3 0)) fun x6 =>
  Get (arithV .gtr .i64 x6 (.int .i64 0)) fun x7 =>
  Br x7 (
  Get (elemAddrV 1 (nth vs3 0) (.int .i64 0)) fun x10 =>
  Get (load1V x10 H) fun x11 =>
  CallsH Tryz.prog 199 #[a1, x11] H fun x12 H =>
  Get (unV .not x12) fun x13 =>
  Br x13 (
  K1 [(nth vs3 0)] H) (
  Get (sliceV 1 (nth vs3 0) (some (.int .i64 1)) none none) fun x15 =>
  K2 [x15] H)) (
  K1 [(nth vs3 0)] H)) fun vs4 H =>
  Get (lenV (nth vs4 0)) fun x17 =>
  Get (arithV .eql .i64 x17 (.int .i64 0)) fun x18 =>
  Br x18 (
  R (.slice none 0 0) H) (
  R (nth vs4 0) H)
def p181 : Plan := .seq (.leaf []) (.join [0] (.block (.loop [0] (.seq (.seq (.leaf []) (.cond (.leaf []) (.leaf []))) (.block (.seq (.seq (.leaf []) (.cond (.leaf []) (.leaf []))) (.leaf [])))))) (.seq (.seq (.leaf []) (.cond (.seq (.leaf []) (.leaf [])) (.leaf []))) (.seq (.leaf []) (.leaf []))))
theorem s181 {a0 a1 : Value} {H : Heap} {R : Value → Heap → Prop} (h : c181 a0 a1 H R) : CallsH Tryz.prog 192 #[a0, a1] H R :=
  callsH_of_eq p181 (fn := Tryz.f192) (c := Tryz.f192.body.getD .skip) (args := [a0, a1]) Tryz.func192 (by kernel_rfl) mixed (by kernel_rfl) (by kernel_rfl) (by kernel_rfl) h
def c186 (a0 a1 : Value) (H : Heap) (R : Value → Heap → Prop) : Prop :=
  Get (nilV a0) fun x7 =>
  Get (arrAddrV 256 1 x7 a1) fun x8 =>
  Get (load1V x8 H) fun x9 =>
  R x9 H
def p186 : Plan := .seq (.leaf []) (.seq (.leaf []) (.leaf []))
theorem s186 {a0 a1 : Value} {H : Heap} {R : Value → Heap → Prop} (h : c186 a0 a1 H R) : CallsH Tryz.prog 199 #[a0, a1] H R :=
  callsH_of_eq p186 (fn := Tryz.f199) (c := Tryz.f199.body.getD .skip) (args := [a0, a1]) Tryz.func199 (by kernel_rfl) mixed (by kernel_rfl) (by kernel_rfl) (by kernel_rfl) h
end Go.Cps
namespace Go.Cps
open Go Go.Proofs
theorem cellsH_all {H : Heap} {b : Nat} {cs : Array Value} {t : TypeId} {f : Nat × Nat} (h : H[b]? = some (.cells cs t f)) : cellsH H ⟨b, 0, none⟩ 0 cs.size = some cs.toList := by
  refine (cellsH_getElem _ _ _).2 ⟨by simp, fun j hj => ?_⟩
  rw [cellH_of h]
  simp
theorem loadNV_of {H : Heap} {b : Nat} {cs : Array Value} {t : TypeId} {f : Nat × Nat} (h : H[b]? = some (.cells cs t f)) {n : Nat} (hn : cs.size = n) : loadNV n (.pointer (some ⟨b, 0, none⟩)) H = some (.agg cs) := by
  subst hn
  simp [loadNV, cellsH_all h]
theorem putAt_all {cs vs : Array Value} (h : cs.size = vs.size) : putAt cs 0 vs.toList = vs := by
  apply Array.ext_getElem?
  intro i
  rw [putAt_get _ _ _ _ (by simp; omega)]
  by_cases hi : i < vs.size
  · rw [if_pos ⟨Nat.zero_le _, by simpa using hi⟩]; simp
  · rw [if_neg (by simp; omega), Array.getElem?_eq_none (by omega), Array.getElem?_eq_none (by omega)]
theorem storeNV_of {H : Heap} {b : Nat} {cs vs : Array Value} {t : TypeId} (h : H[b]? = some (.cells cs t (0, 0))) {n : Nat} (hn : vs.size = n) (hs : cs.size = n) (h1 : ∀ v ∈ vs, isOne v = true) : storeNV n (.pointer (some ⟨b, 0, none⟩)) (.agg vs) H = some (upd H b (.cells vs t (0, 0))) := by
  subst hn
  have := stores_upd vs.toList H b 0 0 cs t h (by simp; omega) (fun v hv => h1 v (by simpa using hv))
  rw [Nat.zero_add, putAt_all hs] at this
  simp only [storeNV, if_true]
  exact this
theorem upd_self {H : Heap} {b : Nat} {o : Obj} (h : H[b]? = some o) : upd H b o = H := by
  apply Array.ext_getElem?
  intro k
  by_cases hk : b = k
  · subst hk; rw [upd_same (lt_of_some h), h]
  · rw [upd_ne hk]
def zzB (n : Nat) : Array Value := Array.replicate n (.bool false)
theorem zzB_size (n : Nat) : (zzB n).size = n := by simp [zzB]
theorem zzB_get (n i : Nat) : (zzB n)[i]? = if i < n then some (.bool false) else none := by simp [zzB, Array.getElem?_replicate]
def asZ : Array Value := zzB 256
def asI (i : Nat) : Array Value := match i with
  | 0 => asZ
  | 1 => asZ.setIfInBounds 32 (.bool true)
  | _ => (asZ.setIfInBounds 32 (.bool true)).setIfInBounds 9 (.bool true)
theorem asZ_size : asZ.size = 256 := zzB_size 256
theorem asI_size (i : Nat) : (asI i).size = 256 := by
  match i with
  | 0 => exact asZ_size
  | 1 => exact (Array.size_setIfInBounds ..).trans asZ_size
  | i + 2 => exact ((Array.size_setIfInBounds ..).trans (Array.size_setIfInBounds ..)).trans asZ_size
def AllOne (cs : Array Value) : Prop := ∀ (j : Nat) v, cs[j]? = some v → isOne v = true
theorem AllOne.set {cs : Array Value} (h : AllOne cs) (o : Nat) {v : Value} (hv : isOne v = true) : AllOne (cs.setIfInBounds o v) := by
  intro j u hj
  rw [Array.getElem?_setIfInBounds] at hj
  split at hj
  · split at hj
    · cases hj; exact hv
    · cases hj
  · exact h j u hj
theorem AllOne.mem {cs : Array Value} (h : AllOne cs) : ∀ v ∈ cs, isOne v = true := by
  intro v hv
  obtain ⟨j, hj, rfl⟩ := Array.getElem_of_mem hv
  exact h j _ (Array.getElem?_eq_getElem hj)
theorem zzB_one (n : Nat) : AllOne (zzB n) := by
  intro j v hj
  rw [zzB_get] at hj
  split at hj
  · cases hj; rfl
  · cases hj
theorem asZ_one : AllOne asZ := zzB_one 256
theorem rep_asZ : Array.replicate 256 (Value.bool false) = asZ := rfl
theorem asI_one (i : Nat) : ∀ v ∈ asI i, isOne v = true := by
  match i with
  | 0 => exact asZ_one.mem
  | 1 => exact (asZ_one.set 32 rfl).mem
  | i + 2 => exact ((asZ_one.set 32 rfl).set 9 rfl).mem
theorem asI_get (c : UInt8) : (asI 2)[c.toNat]? = some (.bool (lws c)) := by
  have hlt := c.toNat_lt
  have h32 : (32 = c.toNat) ↔ c = 32 := ⟨fun h => UInt8.toNat_inj.1 h.symm, fun h => by subst h; rfl⟩
  have h9 : (9 = c.toNat) ↔ c = 9 := ⟨fun h => UInt8.toNat_inj.1 h.symm, fun h => by subst h; rfl⟩
  have hz := asZ_size
  show ((asZ.setIfInBounds 32 (.bool true)).setIfInBounds 9 (.bool true))[c.toNat]? = _
  rw [Array.getElem?_setIfInBounds, Array.getElem?_setIfInBounds, Array.size_setIfInBounds, hz]
  by_cases a9 : c = 9
  · rw [if_pos (h9.2 a9), if_pos (by omega), a9]; rfl
  · rw [if_neg (fun h => a9 (h9.1 h))]
    by_cases a32 : c = 32
    · rw [if_pos (h32.2 a32), if_pos (by omega), a32]; rfl
    · rw [if_neg (fun h => a32 (h32.1 h)), asZ, zzB_get, if_pos (by omega)]
      have hf : lws c = false := by simp [lws, a9, a32]
      rw [hf]
theorem makeSet_ok {H : Heap} : CallsH Tryz.prog 191 #[.string ⟨#[32, 9]⟩] H fun x H' => x = .tuple #[.agg (asI 2), .bool true] ∧ Frm [] H H' := by
  apply s180
  simp only [c180, New]
  have hb := push_same H (.cells asZ 278 (0, 0))
  have f0 : Frm [] H (H.push (.cells asZ 278 (0, 0))) := Frm.push _ _ _
  rw [rep_asZ]
  generalize H.push (.cells asZ 278 (0, 0)) = H0 at *
  have hl : lenStrV (.string ⟨#[32, 9]⟩) = some (.int .i64 2) := rfl
  have i0 : strIndexV (.string ⟨#[32, 9]⟩) (.int .i64 ((0 : Nat) : Int)) = some (.int .u8 32) := rfl
  have i1 : strIndexV (.string ⟨#[32, 9]⟩) (.int .i64 ((1 : Nat) : Int)) = some (.int .u8 9) := rfl
  refine ⟨fun n vs H' => ∃ i : Nat, vs = [.int .i64 i] ∧ n = 2 - i ∧ i ≤ 2 ∧ H'[H.size]? = some (.cells (asI i) 278 (0, 0)) ∧ Frm [] H H', ⟨_, 0, rfl, rfl, by omega, hb, f0⟩, ?_⟩
  rintro n vs H1 ⟨i, rfl, rfl, hi, hb1, f1⟩
  simp only [hl, Q0, Q1, Q2, Q3, Q4, Q5, Q6, Q7, Q8, Q9, Qa, Qb, Qc, Qd, Qe, Qf, Qg, Qh, Qi, Qj, Qk, Ql, Qm, Qn, Qo, Qp, Qq, Qr, Qs]
  refine Br_intro (fun hlt => ?_) (fun hlt => ?_)
  · have hlt' : i < 2 := by simp at hlt; omega
    have step : ∀ (c : Nat) (hc : c < 128) (hs : (asI i).setIfInBounds c (.bool true) = asI (i + 1)), Get (arithV .geq .u8 (.int .u8 (c : Int)) (.int .u8 128)) fun x16 =>
        Br x16 (
        Get (loadNV 256 (.pointer (some ⟨H.size, 0, none⟩)) H1) fun x17 =>
        Get (storeNV 256 (.pointer (some ⟨H.size, 0, none⟩)) x17 H1) fun H2 =>
        Get (loadNV 256 (.pointer (some ⟨H.size, 0, none⟩)) H2) fun r2 =>
        (Value.tuple #[r2, (.bool false)] = .tuple #[.agg (asI 2), .bool true] ∧ Frm [] H H2)) (
        Get (arrAddrV 256 1 (.pointer (some ⟨H.size, 0, none⟩)) (.int .u8 (c : Int))) fun x19 =>
        Get (store1V x19 (.bool true) H1) fun H2 =>
        Get (arithV .add .i64 (.int .i64 i) (.int .i64 1)) fun x11 =>
        ∃ m, m < 2 - i ∧ ∃ i' : Nat, [x11] = [.int .i64 i'] ∧ m = 2 - i' ∧ i' ≤ 2 ∧ H2[H.size]? = some (.cells (asI i') 278 (0, 0)) ∧ Frm [] H H2) := by
      intro c hc hs
      have d : decide ((c : Int) ≥ 128) = false := by simp; omega
      have ha : arrAddrV 256 1 (.pointer (some ⟨H.size, 0, none⟩)) (.int .u8 (c : Int)) = some (.pointer (some ⟨H.size, c, none⟩)) := by
        simp only [arrAddrV]
        rw [if_pos ⟨by omega, by omega⟩]
        simp
      have e1 : IntKind.i64.wrap ((i : Int) + 1) = ((i + 1 : Nat) : Int) := by rw [wrap_i64 (by omega) (by omega)]; omega
      simp only [Qk, Ql, Qm, Qn, Qo, Qp, Qq, Qr, Qs, Q0, Q1, Q2, Q3, Q4, Q5, Q6, Q7, Q8, Q9, Qa, Qb, Qc, Qd, Qe, Qf, Qg, Qh, Qi, Qj, d, ha]
      refine Store_of hb1 (by rw [asI_size]; omega) rfl fun H2 hb2 f2 z2 => ?_
      rw [hs] at hb2
      simp only [e1]
      exact ⟨_, by omega, i + 1, rfl, rfl, by omega, hb2, ⟨by have := f1.size; omega, fun k hk hn => by rw [f2.same k (by have := f1.size; omega) (by simp; omega), f1.same k hk hn]⟩⟩
    have hcase : i = 0 ∨ i = 1 := by omega
    rcases hcase with rfl | rfl
    · rw [i0, Q6]
      have hs := step 32 (by omega) rfl
      rw [show (((32 : Nat)) : Int) = 32 from rfl] at hs
      simp only [Qk, Ql, Qm, Qn, Qo, Qp, Qq, Qr, Qs, Q0, Q1, Q2, Q3, Q4, Q5, Q6, Q7, Q8, Q9, Qa, Qb, Qc, Qd, Qe, Qf, Qg, Qh, Qi, Qj] at hs ⊢
      exact hs
    · rw [i1, Q6]
      have hs := step 9 (by omega) rfl
      rw [show (((9 : Nat)) : Int) = 9 from rfl] at hs
      simp only [Qk, Ql, Qm, Qn, Qo, Qp, Qq, Qr, Qs, Q0, Q1, Q2, Q3, Q4, Q5, Q6, Q7, Q8, Q9, Qa, Qb, Qc, Qd, Qe, Qf, Qg, Qh, Qi, Qj] at hs ⊢
      exact hs
  · have hi2 : i = 2 := by simp only [decide_eq_false_iff_not] at hlt; omega
    subst hi2
    rw [loadNV_of hb1 (asI_size 2), Q6, storeNV_of hb1 (asI_size 2) (asI_size 2) (asI_one 2), upd_self hb1, Q6, loadNV_of hb1 (asI_size 2), Q6]
    exact ⟨rfl, f1⟩
theorem contains_ok {b : Nat} {c : UInt8} {t : TypeId} {H : Heap} (h : H[b]? = some (.cells (asI 2) t (0, 0))) : CallsH Tryz.prog 199 #[.pointer (some ⟨b, 0, none⟩), byteV c] H fun x H' => x = .bool (lws c) ∧ H' = H := by
  have hlt := c.toNat_lt
  apply s186
  have ha : arrAddrV 256 1 (.pointer (some ⟨b, 0, none⟩)) (byteV c) = some (.pointer (some ⟨b, c.toNat, none⟩)) := by
    simp only [arrAddrV, byteV]
    rw [if_pos ⟨by omega, by omega⟩]
    simp
  simp only [c186, Qe, Q6, ha, Qf, cellH_of h, asI_get, and_self]
theorem trimLeft_ok {v : Value} {l : List UInt8} {H : Heap} (hv : IsBytes H v l) (hb : ∀ x, blk v = some x → x < H.size) (hl : l.length < 2 ^ 40) :
    CallsH Tryz.prog 175 #[v, .string ⟨#[32, 9]⟩] H fun x H' => IsBytes H' x (l.dropWhile lws) ∧ Frm [] H H' := by
  apply s172
  have hsz : strV .eql (.string ⟨#[32, 9]⟩) (.string ⟨#[]⟩) = some (.bool false) := by
    rw [strV_eql, show (⟨#[32, 9]⟩ : ByteArray).toList = [32, 9] from toList_mk [32, 9], show (⟨#[]⟩ : ByteArray).toList = [] from toList_mk []]; rfl
  have hl2 : lenStrV (.string ⟨#[32, 9]⟩) = some (.int .i64 2) := rfl
  have ez : (((l.length : Nat) : Int) == 0) = l.isEmpty := by
    cases l with
    | nil => rfl
    | cons a r => rw [beq_eq_false_iff_ne.2 (by simp; omega)]; rfl
  simp only [c172, hv.len, Q0, Q1, Q2, Q3, Q4, Q5, Q6, Q7, Q8, Q9, Qa, Qb, Qc, Qd, Qe, Qf, Qg, Qh, Qi, Qj, Qk, Ql, Qm, Qn, Qo, Qp, Qq, Qr, Qs, ez]
  refine Br_intro (fun h0 => ?_) (fun h0 => ?_)
  · have : l = [] := by simpa using h0
    subst this
    exact ⟨.inr ⟨_, rfl, rfl⟩, Frm.refl _ _⟩
  simp only [hsz, hl2, Q0, Q1, Q2, Q3, Q4, Q5, Q6, Q7, Q8, Q9, Qa, Qb, Qc, Qd, Qe, Qf, Qg, Qh, Qi, Qj, Qk, Ql, Qm, Qn, Qo, Qp, Qq, Qr, Qs]
  refine Join_direct ?_
  simp only [Q0, Q1, Q2, Q3, Q4, Q5, Q6, Q7, Q8, Q9, Qa, Qb, Qc, Qd, Qe, Qf, Qg, Qh, Qi, Qj, Bool.false_eq_true, if_false, show ((2 : Int) == 1) = false from rfl]
  refine makeSet_ok.mono ?_
  rintro x H1 ⟨rfl, f1⟩
  simp only [Q0, Q1, Q2, Q3, Q4, Q5, Q6, Q7, Q8, Q9, Qa, Qb, Qc, Qd, Qe, Qf, Qg, Qh, Qi, Qj, New]
  rw [rep_asZ]
  have hb1 := push_same H1 (.cells asZ 278 (0, 0))
  rw [storeNV_of hb1 (asI_size 2) (asI_size 0) (asI_one 2), Q6]
  have f2 : Frm [] H1 (upd (H1.push (.cells asZ 278 (0, 0))) H1.size (.cells (asI 2) 278 (0, 0))) := ⟨by simp, fun k hk _ => by
    rw [upd_ne (by omega), Array.getElem?_push, if_neg (by omega)]⟩
  have hb2 : (upd (H1.push (.cells asZ 278 (0, 0))) H1.size (.cells (asI 2) 278 (0, 0)))[H1.size]? = some (.cells (asI 2) 278 (0, 0)) := upd_same (by simp)
  generalize upd (H1.push (.cells asZ 278 (0, 0))) H1.size (.cells (asI 2) 278 (0, 0)) = H2 at *
  have hv2 : IsBytes H2 v l := hv.frm (f1.trans f2) (by simp)
  apply CallsH.mono (K := fun x H' => IsBytes H' x (l.dropWhile lws) ∧ H' = H2)
  · apply s181
    unfold c181
    refine ⟨fun vs H' => ∃ u, vs = [u] ∧ IsBytes H2 u (l.dropWhile lws) ∧ H' = H2, ?_, ?_⟩
    · refine ⟨fun n vs H' => ∃ u m, vs = [u] ∧ n = m.length ∧ H' = H2 ∧ IsBytes H2 u m ∧ m.dropWhile lws = l.dropWhile lws ∧ m.length ≤ l.length, ⟨_, v, l, rfl, rfl, rfl, hv2, rfl, Nat.le_refl _⟩, ?_⟩
      rintro n vs H3 ⟨u, m, rfl, rfl, rfl, hu, hm, hml⟩
      simp only [hu.len, Q0, Q1, Q2, Q3, Q4, Q5, Q6, Q7, Q8, Q9, Qa, Qb, Qc, Qd, Qe, Qf, Qg, Qh, Qi, Qj, Qk, Ql, Qm, Qn, Qo, Qp, Qq, Qr, Qs]
      refine Br_intro (fun hp => ?_) (fun hp => ?_)
      · have hp' : 0 < m.length := by simpa using hp
        obtain ⟨a, ha, hca⟩ := elem_at hu (i := 0) hp' (by omega)
        rw [show ((0 : Nat) : Int) = 0 from rfl] at ha
        simp only [ha, Q0, Q1, Q2, Q3, Q4, Q5, Q6, Q7, Q8, Q9, Qa, Qb, Qc, Qd, Qe, Qf, Qg, Qh, Qi, Qj, hca]
        refine (contains_ok hb2).mono ?_
        rintro x H4 ⟨rfl, rfl⟩
        cases m with
        | nil => simp at hp'
        | cons c r =>
          simp only [List.getElem_cons_zero, Q0, Q1, Q2, Q3, Q4, Q5, Q6, Q7, Q8, Q9, Qa, Qb, Qc, Qd, Qe, Qf, Qg, Qh, Qi, Qj]
          refine Br_intro (fun hc => ?_) (fun hc => ?_)
          · refine ⟨u, rfl, ?_, trivial⟩
            rw [← hm, List.dropWhile_cons, if_neg (by simpa using hc)]
            exact hu
          · obtain ⟨y, hy, hyb⟩ := hu.from' (lo := 1) (by simp) .i64
            rw [show ((1 : Nat) : Int) = 1 from rfl] at hy
            simp only [hy, Q0, Q1, Q2, Q3, Q4, Q5, Q6, Q7, Q8, Q9, Qa, Qb, Qc, Qd, Qe, Qf, Qg, Qh, Qi, Qj]
            refine ⟨_, by simp, y, r, rfl, rfl, trivial, by simpa using hyb, ?_, by simp at hml; omega⟩
            rw [← hm, List.dropWhile_cons, if_pos (by simpa using hc)]
      · have : m = [] := by
          cases m with
          | nil => rfl
          | cons a r => simp at hp
        subst this
        exact ⟨u, rfl, by rw [← hm]; exact hu, trivial⟩
    · rintro _ H3 ⟨u, rfl, hu, rfl⟩
      simp only [Q0, Q1, Q2, Q3, Q4, Q5, Q6, Q7, Q8, Q9, Qa, Qb, Qc, Qd, Qe, Qf, Qg, Qh, Qi, Qj, Qk, Ql, Qm, Qn, Qo, Qp, Qq, Qr, Qs, hu.len]
      refine Br_intro (fun h1 => ?_) (fun h1 => ⟨hu, trivial⟩)
      have : l.dropWhile lws = [] := List.eq_nil_of_length_eq_zero (by simpa using h1)
      rw [this]
      exact ⟨.inr ⟨_, rfl, rfl⟩, trivial⟩
  · rintro x H3 ⟨hx, rfl⟩
    exact ⟨hx, f1.trans f2⟩
end Go.Cps
