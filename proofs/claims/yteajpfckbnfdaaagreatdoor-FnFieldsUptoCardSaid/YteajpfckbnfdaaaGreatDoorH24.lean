/-
  A part of the proof: Small functions over strings: slices of a string, tokens, prefixes, cut at the first occurrence, the base of a path. What the bodies of some functions of the program come to, at heap level, each proved of the program itself.
  Conditions: each contract's own.
-/
import Derived.Test.YteajpfckbnfdaaaGreatDoorH4
import Derived.Test.YteajpfckbnfdaaaGreatDoorH23
set_option linter.all false
namespace Go.Cps
open Go Go.Proofs
theorem strVal_extract (l : List UInt8) (i j : Nat) : (⟨l.toArray⟩ : ByteArray).extract i j = ⟨((l.take j).drop i).toArray⟩ := by
  apply ByteArray.ext
  rw [ByteArray.data_extract]
  simp [List.extract_eq_drop_take, List.drop_take]
theorem strSlice_to {l : List UInt8} {i : Nat} (h : i ≤ l.length) (k : IntKind) : strSliceV (strVal l) none (some (.int k i)) = some (strVal (l.take i)) := by
  have e1 : boundV (some (.int k i)) l.length l.length = some i := by simp [boundV]; omega
  have e2 : boundV none 0 i = some 0 := rfl
  have e0 : boundV none l.length l.length = some l.length := by simp [boundV]
  simp only [strSliceV, strVal, bstr_size, boundsV, e0, e1, e2, strVal_extract, List.drop_zero]
theorem strSlice_from {l : List UInt8} {i : Nat} (h : i ≤ l.length) (k : IntKind) : strSliceV (strVal l) (some (.int k i)) none = some (strVal (l.drop i)) := by
  have e1 : boundV none l.length l.length = some l.length := by simp [boundV]
  have e2 : boundV (some (.int k i)) 0 l.length = some i := by simp [boundV]; omega
  simp only [strSliceV, strVal, bstr_size, boundsV, e1, e2, strVal_extract, List.take_length]
theorem strSlice_mid {l : List UInt8} {i j : Nat} (h : i ≤ j) (hj : j ≤ l.length) (k k' : IntKind) : strSliceV (strVal l) (some (.int k i)) (some (.int k' j)) = some (strVal ((l.take j).drop i)) := by
  have e0 : boundV none l.length l.length = some l.length := by simp [boundV]
  have e1 : boundV (some (.int k' j)) l.length l.length = some j := by simp [boundV]; omega
  have e2 : boundV (some (.int k i)) 0 j = some i := by simp [boundV]; omega
  simp only [strSliceV, strVal, bstr_size, boundsV, e0, e1, e2, strVal_extract]
def tokG (n : Int) : Bool := alnum n || n == 33 || n == 35 || n == 36 || n == 37 || n == 38 || n == 39 || n == 42 || n == 43 || n == 45 || n == 46 || n == 94 || n == 95 || n == 96 || n == 123 || n == 124 || n == 125 || n == 126
def tspG (n : Int) : Bool := n == 40 || n == 41 || n == 60 || n == 62 || n == 64 || n == 44 || n == 59 || n == 58 || n == 92 || n == 34 || n == 47 || n == 91 || n == 93 || n == 63 || n == 61
def g131 (n : Nat) : Option Value :=
  (shiftV .shl .u64 (.int .u64 1) (.int .u8 n)).bind fun x4 =>
  (arithV .and .u64 x4 (.int .u64 288068722172624896)).bind fun x5 =>
  (arithV .sub .u8 (.int .u8 n) (.int .u8 64)).bind fun x7 =>
  (shiftV .shl .u64 (.int .u64 1) x7).bind fun x8 =>
  (arithV .and .u64 x8 (.int .u64 9223372035915251710)).bind fun x9 =>
  (arithV .or .u64 x5 x9).bind fun x10 =>
  (arithV .neq .u64 x10 (.int .u64 0))
theorem u131 : ((List.range 256).all fun n => isB (g131 n) (tokG n)) = true := by kernel_rfl
theorem isTok_ok {b : UInt8} {H : Heap} : CallsH Tryz.prog 131 #[byteV b] H fun x H' => x = .bool (tokG b.toNat) ∧ H' = H := by
  apply s1131
  have h : g131 b.toNat = some (.bool (tokG b.toNat)) := isB_eq (List.all_eq_true.1 u131 b.toNat (List.mem_range.2 b.toNat_lt))
  unfold g131 at h
  simp only [Option.bind_eq_some_iff] at h
  obtain ⟨x4, h4, x5, h5, x7, h7, x8, h8, x9, h9, x10, h10, h11⟩ := h
  exact ⟨x4, h4, x5, h5, x7, h7, x8, h8, x9, h9, x10, h10, _, h11, rfl, rfl⟩
def g135 (n : Nat) : Option Value :=
  (shiftV .shl .u64 (.int .u64 1) (.int .u8 n)).bind fun x4 =>
  (arithV .and .u64 x4 (.int .u64 18158675342946992128)).bind fun x5 =>
  (arithV .sub .u8 (.int .u8 n) (.int .u8 64)).bind fun x7 =>
  (shiftV .shl .u64 (.int .u64 1) x7).bind fun x8 =>
  (arithV .and .u64 x8 (.int .u64 939524097)).bind fun x9 =>
  (arithV .or .u64 x5 x9).bind fun x10 =>
  (arithV .neq .u64 x10 (.int .u64 0))
theorem u135 : ((List.range 256).all fun n => isB (g135 n) (tspG n)) = true := by kernel_rfl
theorem isTsp_ok {b : UInt8} {H : Heap} : CallsH Tryz.prog 135 #[byteV b] H fun x H' => x = .bool (tspG b.toNat) ∧ H' = H := by
  apply s1135
  have h : g135 b.toNat = some (.bool (tspG b.toNat)) := isB_eq (List.all_eq_true.1 u135 b.toNat (List.mem_range.2 b.toNat_lt))
  unfold g135 at h
  simp only [Option.bind_eq_some_iff] at h
  obtain ⟨x4, h4, x5, h5, x7, h7, x8, h8, x9, h9, x10, h10, h11⟩ := h
  exact ⟨x4, h4, x5, h5, x7, h7, x8, h8, x9, h9, x10, h10, _, h11, rfl, rfl⟩
theorem conTok_ok {p q : List UInt8} {H : Heap} (hp : ∀ b ∈ p, tokG b.toNat = true) (hq : ∀ b r, q = b :: r → tokG b.toNat = false) (hl : (p ++ q).length < 2 ^ 40) :
    CallsH Tryz.prog 104 #[strVal (p ++ q)] H fun x H' => x = .tuple #[strVal p, strVal q] ∧ H' = H := by
  apply s1104
  simp only [c1104, lenStr_of, Q6]
  refine ⟨fun μ vs H' => ∃ i : Nat, vs = [.int .i64 i] ∧ μ = p.length - i ∧ i ≤ p.length ∧ H' = H, ⟨_, 0, rfl, rfl, Nat.zero_le _, rfl⟩, ?_⟩
  rintro μ vs H ⟨i, rfl, rfl, hi, rfl⟩
  simp only [Q0, Q1, Q2, Q3, Q4, Q5, Q6, Q7, Q8, Q9, Qa, Qb, Qc, Qd, Qe, Qf, Qg, Qh, Qi, Qj, Qk, Ql, Qm, Qn, Qo, Qp, Qq, Qr, Qs, dec_lt]
  refine Br_intro (fun hlt => ?_) (fun hlt => ?_)
  · have hlt' : i < (p ++ q).length := by simpa using hlt
    simp only [strIndex_of hlt', Q6]
    refine isTok_ok.mono ?_
    rintro x H ⟨rfl, rfl⟩
    simp only [Q0, Q1, Q2, Q3, Q4, Q5, Q6, Q7, Q8, Q9, Qa, Qb, Qc, Qd, Qe, Qf, Qg, Qh, Qi, Qj]
    refine Br_intro (fun h1 => ?_) (fun h1 => ?_)
    · have hip : i = p.length := by
        apply Classical.byContradiction
        intro hne
        have hip : i < p.length := by omega
        rw [List.getElem_append_left hip, hp _ (List.getElem_mem hip)] at h1
        cases h1
      subst hip
      simp only [strSlice_to (l := p ++ q) (i := p.length) (by simp), strSlice_from (l := p ++ q) (i := p.length) (by simp), List.take_left, List.drop_left, Q0, Q1, Q2, Q3, Q4, Q5, Q6, Q7, Q8, Q9, Qa, Qb, Qc, Qd, Qe, Qf, Qg, Qh, Qi, Qj]
      exact ⟨trivial, trivial⟩
    · have hip : i < p.length := by
        apply Classical.byContradiction
        intro hne
        have hip : i = p.length := by omega
        subst hip
        cases q with
        | nil => simp at hlt'
        | cons b r =>
          have := hq b r rfl
          rw [show (p ++ b :: r)[p.length]'hlt' = b from by simp, this] at h1
          cases h1
      simp only [inc_i64 (show i < 2 ^ 62 by omega), Q0, Q1, Q2, Q3, Q4, Q5, Q6, Q7, Q8, Q9, Qa, Qb, Qc, Qd, Qe, Qf, Qg, Qh, Qi, Qj]
      exact ⟨_, by omega, i + 1, rfl, rfl, hip, trivial⟩
  · have : ¬ i < (p ++ q).length := by simpa using hlt
    have hq0 : q = [] := by
      cases q with
      | nil => rfl
      | cons b r => simp at this; omega
    subst hq0
    rw [List.append_nil]
    exact ⟨rfl, trivial⟩
theorem hasPrefS_ok {l p : List UInt8} {H : Heap} : CallsH Tryz.prog 156 #[strVal l, strVal p] H fun x H' => x = .bool (p.isPrefixOf l) ∧ H' = H := by
  apply s1156
  unfold c1156
  refine ⟨fun vs H' => vs = [.bool (p.isPrefixOf l)] ∧ H' = H, ?_, ?_⟩
  · simp only [lenStr_of, Q0, Q1, Q2, Q3, Q4, Q5, Q6, Q7, Q8, Q9, Qa, Qb, Qc, Qd, Qe, Qf, Qg, Qh, Qi, Qj, Qk, Ql, Qm, Qn, Qo, Qp, Qq, Qr, Qs]
    refine Br_intro (fun h1 => ?_) (fun h1 => ?_)
    · have h1' : p.length ≤ l.length := by simpa using h1
      simp only [strSlice_to h1', strV_eql', Q0, Q1, Q2, Q3, Q4, Q5, Q6, Q7, Q8, Q9, Qa, Qb, Qc, Qd, Qe, Qf, Qg, Qh, Qi, Qj, if_true, and_true, List.cons.injEq, Value.bool.injEq]
      rw [Bool.eq_iff_iff, List.isPrefixOf_iff_prefix, decide_eq_true_eq, List.prefix_iff_eq_take]
      exact eq_comm
    · have h1' : ¬ p.length ≤ l.length := by simpa using h1
      have hf : p.isPrefixOf l = false := by
        rw [← Bool.not_eq_true, List.isPrefixOf_iff_prefix]
        intro hh
        exact h1' hh.length_le
      simp only [Q0, Q1, Q2, Q3, Q4, Q5, Q6, Q7, Q8, Q9, Qa, Qb, Qc, Qd, Qe, Qf, Qg, Qh, Qi, Qj, Bool.false_eq_true, if_false, hf, and_self]
  · rintro _ H' ⟨rfl, rfl⟩
    simp only [Q0, Q1, Q2, Q3, Q4, Q5, Q6, Q7, Q8, Q9, Qa, Qb, Qc, Qd, Qe, Qf, Qg, Qh, Qi, Qj, and_self]
theorem cutPref_ok {l p : List UInt8} {H : Heap} : CallsH Tryz.prog 105 #[strVal l, strVal p] H fun x H' => x = .tuple #[strVal (if p.isPrefixOf l then l.drop p.length else l), .bool (p.isPrefixOf l)] ∧ H' = H := by
  apply s1105
  unfold c1105
  have h2 : CallsH Tryz.prog 132 #[strVal l, strVal p] H fun x H' => x = .tuple #[strVal (if p.isPrefixOf l then l.drop p.length else l), .bool (p.isPrefixOf l)] ∧ H' = H := by
    apply s1132
    unfold c1132
    refine hasPrefS_ok.mono ?_
    rintro x H ⟨rfl, rfl⟩
    simp only [Q0, Q1, Q2, Q3, Q4, Q5, Q6, Q7, Q8, Q9, Qa, Qb, Qc, Qd, Qe, Qf, Qg, Qh, Qi, Qj]
    refine Br_intro (fun h1 => ?_) (fun h1 => ?_)
    · have h1' : p.isPrefixOf l = false := by simpa using h1
      rw [h1']; exact ⟨rfl, trivial⟩
    · have h1' : p.isPrefixOf l = true := by simpa using h1
      have hle := (List.isPrefixOf_iff_prefix.1 h1').length_le
      simp only [lenStr_of, Q6, strSlice_from hle, h1', if_true]
      exact ⟨trivial, trivial⟩
  refine h2.mono ?_
  rintro x H ⟨rfl, rfl⟩
  simp only [Q0, Q1, Q2, Q3, Q4, Q5, Q6, Q7, Q8, Q9, Qa, Qb, Qc, Qd, Qe, Qf, Qg, Qh, Qi, Qj, and_self]
theorem cutAt_ok {p q : List UInt8} {c : UInt8} {H : Heap} (hp : c ∉ p) (hl : (p ++ c :: q).length < 2 ^ 40) : CallsH Tryz.prog 68 #[strVal (p ++ c :: q), strVal [c]] H fun x H' => x = .tuple #[strVal p, strVal q, .bool true] ∧ H' = H := by
  apply s1068
  unfold c1068
  have h2 : CallsH Tryz.prog 97 #[strVal (p ++ c :: q), strVal [c]] H fun x H' => x = .int .i64 p.length ∧ H' = H := by
    apply s1097
    unfold c1097
    refine ⟨fun μ vs H' => ∃ i : Nat, vs = [.int .i64 i] ∧ μ = p.length - i ∧ i ≤ p.length ∧ H' = H, ⟨_, 0, rfl, rfl, Nat.zero_le _, rfl⟩, ?_⟩
    rintro μ vs H ⟨i, rfl, rfl, hi, rfl⟩
    have hl' : p.length + (q.length + 1) < 2 ^ 40 := by simpa using hl
    have e1 : IntKind.i64.wrap ((i : Int) + (([c] : List UInt8).length : Int)) = ((i + 1 : Nat) : Int) := inc_i64 (by omega)
    have e2 : decide (((i + 1 : Nat) : Int) ≤ ((p ++ c :: q).length : Int)) = true := by simp; omega
    simp only [lenStr_of, Q0, Q1, Q2, Q3, Q4, Q5, Q6, Q7, Q8, Q9, Qa, Qb, Qc, Qd, Qe, Qf, Qg, Qh, Qi, Qj, Qk, Ql, Qm, Qn, Qo, Qp, Qq, Qr, Qs, e1, e2, strSlice_mid (l := p ++ c :: q) (i := i) (j := i + 1) (by omega) (by simp; omega), strV_eql']
    have hg : ((p ++ c :: q).take (i + 1)).drop i = [(p ++ c :: q)[i]'(by simp; omega)] := by
      rw [List.take_succ_eq_append_getElem (by simp; omega)]
      rw [List.drop_append_of_le_length (by simp; omega), List.drop_eq_nil_of_le (by simp; omega)]
      rfl
    rw [hg]
    refine Br_intro (fun h1 => ?_) (fun h1 => ?_)
    · have h1' : (p ++ c :: q)[i]'(by simp; omega) = c := by simpa using h1
      have hip : i = p.length := by
        apply Classical.byContradiction
        intro hne
        have hip : i < p.length := by omega
        rw [List.getElem_append_left hip] at h1'
        exact hp (h1' ▸ List.getElem_mem hip)
      subst hip
      exact ⟨rfl, trivial⟩
    · have hip : i < p.length := by
        apply Classical.byContradiction
        intro hne
        have hip : i = p.length := by omega
        subst hip
        simp at h1
      simp only [inc_i64 (show i < 2 ^ 62 by omega), Q0, Q1, Q2, Q3, Q4, Q5, Q6, Q7, Q8, Q9, Qa, Qb, Qc, Qd, Qe, Qf, Qg, Qh, Qi, Qj]
      exact ⟨_, by omega, i + 1, rfl, rfl, hip, trivial⟩
  refine h2.mono ?_
  rintro x H ⟨rfl, rfl⟩
  have hl' : p.length + (q.length + 1) < 2 ^ 40 := by simpa using hl
  have e0 : decide ((p.length : Int) ≥ 0) = true := by simp
  have e1 : IntKind.i64.wrap ((p.length : Int) + (([c] : List UInt8).length : Int)) = ((p.length + 1 : Nat) : Int) := inc_i64 (by omega)
  have hd : (p ++ c :: q).drop (p.length + 1) = q := by
    rw [show p ++ c :: q = (p ++ [c]) ++ q by simp, show p.length + 1 = (p ++ [c]).length by simp, List.drop_left]
  simp only [Q0, Q1, Q2, Q3, Q4, Q5, Q6, Q7, Q8, Q9, Qa, Qb, Qc, Qd, Qe, Qf, Qg, Qh, Qi, Qj, Qk, Ql, Qm, Qn, Qo, Qp, Qq, Qr, Qs, e0, strSlice_to (l := p ++ c :: q) (i := p.length) (by simp), lenStr_of, e1, strSlice_from (l := p ++ c :: q) (i := p.length + 1) (by simp), List.take_left, hd]
  exact ⟨trivial, trivial⟩
theorem cutNone_ok {p : List UInt8} {c : UInt8} {H : Heap} (hp : c ∉ p) (hl : p.length < 2 ^ 40) : CallsH Tryz.prog 68 #[strVal p, strVal [c]] H fun x H' => x = .tuple #[strVal p, strVal [], .bool false] ∧ H' = H := by
  apply s1068
  unfold c1068
  have h2 : CallsH Tryz.prog 97 #[strVal p, strVal [c]] H fun x H' => x = .int .i64 (-1) ∧ H' = H := by
    apply s1097
    unfold c1097
    refine ⟨fun μ vs H' => ∃ i : Nat, vs = [.int .i64 i] ∧ μ = p.length + 1 - i ∧ i ≤ p.length ∧ H' = H, ⟨_, 0, rfl, rfl, Nat.zero_le _, rfl⟩, ?_⟩
    rintro μ vs H ⟨i, rfl, rfl, hi, rfl⟩
    have e1 : IntKind.i64.wrap ((i : Int) + (([c] : List UInt8).length : Int)) = ((i + 1 : Nat) : Int) := inc_i64 (by omega)
    have e2 : decide (((i + 1 : Nat) : Int) ≤ (p.length : Int)) = decide (i < p.length) := by simp; omega
    simp only [lenStr_of, Q0, Q1, Q2, Q3, Q4, Q5, Q6, Q7, Q8, Q9, Qa, Qb, Qc, Qd, Qe, Qf, Qg, Qh, Qi, Qj, Qk, Ql, Qm, Qn, Qo, Qp, Qq, Qr, Qs, e1, e2]
    refine Br_intro (fun h0 => ?_) (fun h0 => ⟨trivial, trivial⟩)
    have h0' : i < p.length := by simpa using h0
    simp only [strSlice_mid (l := p) (i := i) (j := i + 1) (by omega) (by omega), strV_eql', Q6]
    have hg : (p.take (i + 1)).drop i = [p[i]] := by
      rw [List.take_succ_eq_append_getElem h0']
      rw [List.drop_append_of_le_length (by simp; omega), List.drop_eq_nil_of_le (by simp; omega)]
      rfl
    rw [hg]
    have hne : decide ([p[i]] = [c]) = false := by
      rw [decide_eq_false_iff_not]
      intro hh
      simp only [List.cons.injEq, and_true] at hh
      exact hp (hh ▸ List.getElem_mem h0')
    simp only [hne, Q0, Q1, Q2, Q3, Q4, Q5, Q6, Q7, Q8, Q9, Qa, Qb, Qc, Qd, Qe, Qf, Qg, Qh, Qi, Qj, Qk, Ql, Qm, Qn, Qo, Qp, Qq, Qr, Qs, inc_i64 (show i < 2 ^ 62 by omega)]
    exact ⟨_, by omega, i + 1, rfl, rfl, h0', trivial⟩
  refine h2.mono ?_
  rintro x H ⟨rfl, rfl⟩
  have e0 : decide ((-1 : Int) ≥ 0) = false := by decide
  simp only [Q0, Q1, Q2, Q3, Q4, Q5, Q6, Q7, Q8, Q9, Qa, Qb, Qc, Qd, Qe, Qf, Qg, Qh, Qi, Qj, Qk, Ql, Qm, Qn, Qo, Qp, Qq, Qr, Qs, e0]
  exact ⟨rfl, trivial⟩
end Go.Cps
namespace Go.Cps
open Go Go.Proofs
set_option maxRecDepth 100000
def c1069 (a0 : Value) (H : Heap) (R : Value → Heap → Prop) : Prop :=
  ToBytes 5 a0 H fun x8 H =>
  Get (lenV x8) fun x9 =>
  Loop [a0, (.int .i64 0)] H fun K1 vs2 H =>
  Get (arithV .lss .i64 (nth vs2 1) x9) fun x11 =>
  Br x11 (
  Join (fun K3 =>
  Get (elemAddrV 1 x8 (nth vs2 1)) fun x13 =>
  Get (load1V x13 H) fun x14 =>
  Get (arithV .geq .u8 x14 (.int .u8 128)) fun x16 =>
  Br x16 (
  Get (strSliceV (nth vs2 0) (some (nth vs2 1)) none) fun x19 =>
  CallsH Tryz.prog 98 #[x19, (.func (.func 73) #[] #[])] H fun x20 H =>
  R x20 H) (
  Get (arrAddrV 256 1 (.pointer (some ⟨7, 0, none⟩)) x14) fun x22 =>
  Get (load1V x22 H) fun x23 =>
  Get (arithV .neq .u8 x23 (.int .u8 0)) fun x24 =>
  Br x24 (
  K3 [(nth vs2 0)] H) (
  Get (strSliceV (nth vs2 0) (some (nth vs2 1)) none) fun x27 =>
  Get (lenStrV x27) fun x29 =>
  Get (arithV .sub .i64 x29 (.int .i64 1)) fun x30 =>
  Loop [x30] H fun K4 vs5 H =>
  Get (arithV .geq .i64 (nth vs5 0) (.int .i64 0)) fun x32 =>
  Br x32 (
  Get (strIndexV x27 (nth vs5 0)) fun x37 =>
  Get (arithV .geq .u8 x37 (.int .u8 128)) fun x39 =>
  Br x39 (
  Get (arithV .add .i64 (nth vs5 0) (.int .i64 1)) fun x42 =>
  Get (strSliceV x27 none (some x42)) fun x43 =>
  CallsH Tryz.prog 99 #[x43, (.func (.func 73) #[] #[])] H fun x44 H =>
  R x44 H) (
  Get (arrAddrV 256 1 (.pointer (some ⟨7, 0, none⟩)) x37) fun x46 =>
  Get (load1V x46 H) fun x47 =>
  Get (arithV .eql .u8 x47 (.int .u8 0)) fun x48 =>
  Br x48 (
  Get (arithV .add .i64 (nth vs5 0) (.int .i64 1)) fun x51 =>
  Get (strSliceV x27 none (some x51)) fun x52 =>
  R x52 H) (
  Get (arithV .sub .i64 (nth vs5 0) (.int .i64 1)) fun x34 =>
  K4 [x34] H))) (
  K3 [x27] H)))) fun vs6 H =>
  Get (arithV .add .i64 (nth vs2 1) (.int .i64 1)) fun x53 =>
  K1 [(nth vs6 0), x53] H) (
  R (.string ⟨#[]⟩) H)
def p1069 : Plan := .seq (.leaf []) (.seq (.seq (.leaf []) (.block (.loop [0, 10] (.seq (.leaf []) (.seq (.cond (.leaf []) (.leaf [])) (.join [0] (.block (.seq (.leaf []) (.seq (.seq (.leaf []) (.cond (.seq (.leaf []) (.leaf [])) (.leaf []))) (.seq (.seq (.leaf []) (.cond (.leaf []) (.leaf []))) (.seq (.leaf []) (.seq (.leaf []) (.block (.loop [5] (.seq (.seq (.leaf []) (.cond (.leaf []) (.leaf []))) (.seq (.block (.seq (.leaf []) (.seq (.seq (.leaf []) (.cond (.seq (.leaf []) (.leaf [])) (.leaf []))) (.seq (.leaf []) (.cond (.seq (.leaf []) (.leaf [])) (.leaf [])))))) (.leaf []))))))))))) (.leaf []))))))) (.seq (.leaf []) (.leaf [])))
theorem s1069 {a0 : Value} {H : Heap} {R : Value → Heap → Prop} (h : c1069 a0 H R) : CallsH Tryz.prog 69 #[a0] H R :=
  callsH_of_eq p1069 (fn := Tryz.f69) (c := Tryz.f69.body.getD .skip) (args := [a0]) Tryz.func69 (by kernel_rfl) mixed (by kernel_rfl) (by kernel_rfl) (by kernel_rfl) h
def c1070 (a0 : Value) (H : Heap) (R : Value → Heap → Prop) : Prop :=
  Join (fun K1 =>
  Loop [(.bool true), (.bool false), (.int .i64 0)] H fun K2 vs3 H =>
  Get (lenStrV a0) fun x13 =>
  Get (arithV .lss .i64 (nth vs3 2) x13) fun x14 =>
  Br x14 (
  Join (fun K4 =>
  Get (strIndexV a0 (nth vs3 2)) fun x19 =>
  Get (arithV .geq .u8 x19 (.int .u8 128)) fun x21 =>
  Br x21 (
  K1 [(.bool false), (nth vs3 1)] H) (
  Br (nth vs3 1) (
  Get (pickV (.bool true) (.bool true) undef) fun x30 =>
  K4 [(nth vs3 0), x30] H) (
  Get (arithV .leq .u8 (.int .u8 65) x19) fun x25 =>
  Br x25 (
  Get (arithV .leq .u8 x19 (.int .u8 90)) fun x28 =>
  Get (pickV (.bool true) x28 (.bool false)) fun x29 =>
  Get (pickV (.bool false) (.bool true) x29) fun x30_1 =>
  K4 [(nth vs3 0), x30_1] H) (
  Get (pickV (.bool false) undef (.bool false)) fun x29_1 =>
  Get (pickV (.bool false) (.bool true) x29_1) fun x30_2 =>
  K4 [(nth vs3 0), x30_2] H)))) fun vs5 H =>
  Get (arithV .add .i64 (nth vs3 2) (.int .i64 1)) fun x16 =>
  K2 [(nth vs5 0), (nth vs5 1), x16] H) (
  K1 [(nth vs3 0), (nth vs3 1)] H)) fun vs6 H =>
  Br (nth vs6 0) (
  Get (unV .not (nth vs6 1)) fun x33 =>
  Br x33 (
  R a0 H) (
  New (.cells #[(.pointer none), (.slice none 0 0)] 144 (0, 0)) H fun x7 H =>
  Get (lenStrV a0) fun x36 =>
  CallsH Tryz.prog 100 #[x7, x36] H fun _ H =>
  Loop [(.int .i64 0), (.int .i64 0)] H fun K7 vs8 H =>
  Get (lenStrV a0) fun x40 =>
  Get (arithV .lss .i64 (nth vs8 1) x40) fun x41 =>
  Br x41 (
  Join (fun K9 =>
  Get (strIndexV a0 (nth vs8 1)) fun x46 =>
  Join (fun K10 =>
  Get (arithV .leq .u8 (.int .u8 65) x46) fun x48 =>
  Br x48 (
  Get (arithV .leq .u8 x46 (.int .u8 90)) fun x51 =>
  Get (pickV (.bool true) x51 (.bool false)) fun x52 =>
  K10 [x52] H) (
  Get (pickV (.bool false) undef (.bool false)) fun x52_1 =>
  K10 [x52_1] H)) fun vs11 H =>
  Br (nth vs11 0) (
  Get (arithV .add .u8 x46 (.int .u8 32)) fun x54 =>
  Join (fun K12 =>
  Get (arithV .lss .i64 (nth vs8 0) (nth vs8 1)) fun x57 =>
  Br x57 (
  Get (strSliceV a0 (some (nth vs8 0)) (some (nth vs8 1))) fun x61 =>
  CallsH Tryz.prog 78 #[x7, x61] H fun _ H =>
  K12 [] H) (
  K12 [] H)) fun _ H =>
  CallsH Tryz.prog 101 #[x7, x54] H fun _ H =>
  Get (arithV .add .i64 (nth vs8 1) (.int .i64 1)) fun x66 =>
  K9 [x66] H) (
  K9 [(nth vs8 0)] H)) fun vs14 H =>
  Get (arithV .add .i64 (nth vs8 1) (.int .i64 1)) fun x43 =>
  K7 [(nth vs14 0), x43] H) (
  Join (fun K15 =>
  Get (lenStrV a0) fun x69 =>
  Get (arithV .lss .i64 (nth vs8 0) x69) fun x70 =>
  Br x70 (
  Get (strSliceV a0 (some (nth vs8 0)) none) fun x73 =>
  CallsH Tryz.prog 78 #[x7, x73] H fun _ H =>
  K15 [] H) (
  K15 [] H)) fun _ H =>
  CallsH Tryz.prog 80 #[x7] H fun x75 H =>
  R x75 H))) (
  CallsH Tryz.prog 102 #[(.func (.func 103) #[] #[]), a0] H fun x77 H =>
  R x77 H)
def p1070 : Plan := .seq (.leaf []) (.seq (.leaf []) (.join [3, 4] (.seq (.leaf []) (.block (.loop [3, 4, 5] (.seq (.seq (.leaf []) (.cond (.leaf []) (.leaf []))) (.join [3, 4] (.block (.seq (.leaf []) (.seq (.seq (.leaf []) (.cond (.seq (.leaf []) (.leaf [])) (.leaf []))) (.leaf [])))) (.leaf [])))))) (.seq (.seq (.leaf []) (.cond (.seq (.seq (.leaf []) (.cond (.seq (.leaf []) (.leaf [])) (.leaf []))) (.seq (.leaf []) (.seq (.leaf []) (.seq (.leaf []) (.seq (.seq (.leaf []) (.block (.loop [8, 9] (.seq (.seq (.leaf []) (.cond (.leaf []) (.leaf []))) (.join [8] (.block (.seq (.leaf []) (.join [52] (.leaf []) (.cond (.seq (.leaf []) (.join [] (.seq (.leaf []) (.cond (.leaf []) (.leaf []))) (.seq (.leaf []) (.leaf [])))) (.leaf []))))) (.leaf [])))))) (.join [] (.seq (.leaf []) (.cond (.leaf []) (.leaf []))) (.seq (.leaf []) (.leaf [])))))))) (.leaf []))) (.seq (.leaf []) (.leaf [])))))
theorem s1070 {a0 : Value} {H : Heap} {R : Value → Heap → Prop} (h : c1070 a0 H R) : CallsH Tryz.prog 70 #[a0] H R :=
  callsH_of_eq p1070 (fn := Tryz.f70) (c := Tryz.f70.body.getD .skip) (args := [a0]) Tryz.func70 (by kernel_rfl) mixed (by kernel_rfl) (by kernel_rfl) (by kernel_rfl) h
def c1072 (a0 a1 : Value) (H : Heap) (R : Value → Heap → Prop) : Prop :=
  CallsH Tryz.prog 106 #[a0, a1, (.bool false)] H fun x8 H =>
  Get (arithV .eql .i64 x8 (.int .i64 (-1))) fun x10 =>
  Br x10 (
  R (.string ⟨#[]⟩) H) (
  Get (strSliceV a0 (some x8) none) fun x13 =>
  R x13 H)
def p1072 : Plan := .seq (.leaf []) (.seq (.leaf []) (.seq (.seq (.leaf []) (.cond (.seq (.leaf []) (.leaf [])) (.leaf []))) (.seq (.leaf []) (.leaf []))))
theorem s1072 {a0 a1 : Value} {H : Heap} {R : Value → Heap → Prop} (h : c1072 a0 a1 H R) : CallsH Tryz.prog 72 #[a0, a1] H R :=
  callsH_of_eq p1072 (fn := Tryz.f72) (c := Tryz.f72.body.getD .skip) (args := [a0, a1]) Tryz.func72 (by kernel_rfl) mixed (by kernel_rfl) (by kernel_rfl) (by kernel_rfl) h
def c1106 (a0 a1 a2 : Value) (H : Heap) (R : Value → Heap → Prop) : Prop :=
  ExecV Tryz.prog (Instr.range 9 a0) H fun x10 H =>
  Loop [] H fun K1 _ H =>
  ExecV Tryz.prog (Instr.next x10 true 0) H fun x11 H =>
  Get (extractV x11 0) fun x12 =>
  Br x12 (
  Get (extractV x11 1) fun x13 =>
  Get (extractV x11 2) fun x14 =>
  CallV Tryz.prog a1 #[x14] H fun x17 H =>
  Get (boolEqV .eql x17 a2) fun x19 =>
  Br x19 (
  R x13 H) (
  K1 [] H)) (
  R (.int .i64 (-1)) H)
def p1106 : Plan := .seq (.leaf []) (.seq (.seq (.leaf []) (.block (.loop [] (.seq (.leaf []) (.seq (.cond (.leaf []) (.leaf [])) (.block (.seq (.leaf []) (.seq (.leaf []) (.cond (.seq (.leaf []) (.leaf [])) (.leaf [])))))))))) (.seq (.leaf []) (.leaf [])))
theorem s1106 {a0 a1 a2 : Value} {H : Heap} {R : Value → Heap → Prop} (h : c1106 a0 a1 a2 H R) : CallsH Tryz.prog 106 #[a0, a1, a2] H R :=
  callsH_of_eq p1106 (fn := Tryz.f106) (c := Tryz.f106.body.getD .skip) (args := [a0, a1, a2]) Tryz.func106 (by kernel_rfl) mixed (by kernel_rfl) (by kernel_rfl) (by kernel_rfl) h
def c1073 (a0 : Value) (H : Heap) (R : Value → Heap → Prop) : Prop :=
  Get (intConvV .u32 a0) fun x4 =>
  Get (arithV .leq .u32 x4 (.int .u32 255)) fun x5 =>
  Br x5 (
  Join (fun K1 =>
  Get (arithV .eql .i32 a0 (.int .i32 9)) fun x8 =>
  Br x8 (
  K1 [x8] H) (
  Get (arithV .eql .i32 a0 (.int .i32 10)) fun x9 =>
  Br x9 (
  K1 [x9] H) (
  Get (arithV .eql .i32 a0 (.int .i32 11)) fun x10 =>
  Br x10 (
  K1 [x10] H) (
  Get (arithV .eql .i32 a0 (.int .i32 12)) fun x11 =>
  Br x11 (
  K1 [x11] H) (
  Get (arithV .eql .i32 a0 (.int .i32 13)) fun x12 =>
  Br x12 (
  K1 [x12] H) (
  Get (arithV .eql .i32 a0 (.int .i32 32)) fun x13 =>
  Br x13 (
  K1 [x13] H) (
  Get (arithV .eql .i32 a0 (.int .i32 133)) fun x14 =>
  Br x14 (
  K1 [x14] H) (
  Get (arithV .eql .i32 a0 (.int .i32 160)) fun x15 =>
  K1 [x15] H)))))))) fun vs2 H =>
  Br (nth vs2 0) (
  R (.bool true) H) (
  R (.bool false) H)) (
  Get (load1V (.pointer (some ⟨12, 0, none⟩)) H) fun x16 =>
  CallsH Tryz.prog 107 #[x16, a0] H fun x18 H =>
  R x18 H)
def p1073 : Plan := .seq (.leaf []) (.seq (.seq (.leaf []) (.cond (.seq (.seq (.leaf []) (.block (.join [7] (.seq (.leaf []) (.cond (.leaf []) (.seq (.leaf []) (.cond (.leaf []) (.seq (.leaf []) (.cond (.leaf []) (.seq (.leaf []) (.cond (.leaf []) (.seq (.leaf []) (.cond (.leaf []) (.seq (.leaf []) (.cond (.leaf []) (.seq (.leaf []) (.cond (.leaf []) (.leaf []))))))))))))))) (.cond (.seq (.leaf []) (.leaf [])) (.leaf []))))) (.seq (.leaf []) (.leaf []))) (.leaf []))) (.seq (.leaf []) (.leaf [])))
theorem s1073 {a0 : Value} {H : Heap} {R : Value → Heap → Prop} (h : c1073 a0 H R) : CallsH Tryz.prog 73 #[a0] H R :=
  callsH_of_eq p1073 (fn := Tryz.f73) (c := Tryz.f73.body.getD .skip) (args := [a0]) Tryz.func73 (by kernel_rfl) mixed (by kernel_rfl) (by kernel_rfl) (by kernel_rfl) h
def c1101 (a0 a1 : Value) (H : Heap) (R : Value → Heap → Prop) : Prop :=
  CallsH Tryz.prog 110 #[a0] H fun _ H =>
  Fld 1 a0 H fun x11 =>
  Get (Instr.fill (fun j => some (j * 1, 1)) ((Array.range (1 * 1)).map ((#[(.int .u8 0)] : Array Value)[· % 1]!)) [(0, a1)]) fun cs => NewSl cs 5 1 H fun x13 H =>
  Append 5 1 1 #[(.int .u8 0)] x11 x13 H fun x14 H =>
  Get (nilV a0) fun x15 =>
  Get (fieldAddrV 1 x15) fun x16 =>
  Get (store1V x16 x14 H) fun H =>
  R .nilIface H
def p1101 : Plan := .seq (.leaf []) (.seq (.leaf []) (.seq (.leaf []) (.seq (.leaf []) (.leaf []))))
theorem s1101 {a0 a1 : Value} {H : Heap} {R : Value → Heap → Prop} (h : c1101 a0 a1 H R) : CallsH Tryz.prog 101 #[a0, a1] H R :=
  callsH_of_eq p1101 (fn := Tryz.f101) (c := Tryz.f101.body.getD .skip) (args := [a0, a1]) Tryz.func101 (by kernel_rfl) mixed (by kernel_rfl) (by kernel_rfl) (by kernel_rfl) h
def c1110 (a0 : Value) (H : Heap) (R : Value → Heap → Prop) : Prop :=
  Fld 0 a0 H fun x5 =>
  Get (nilV2 .eql (.pointer none) x5) fun x6 =>
  Br x6 (
  ExecV Tryz.prog (convert 142 223 a0) H fun x9 H =>
  CallX Tryz.prog 137 #[x9] H fun x10 H =>
  ExecV Tryz.prog (convert 223 142 x10) H fun x11 H =>
  Get (nilV a0) fun x12 =>
  Get (fieldAddrV 0 x12) fun x13 =>
  Get (store1V x13 x11 H) fun H =>
  R (.tuple #[]) H) (
  Fld 0 a0 H fun x17 =>
  ExecV Tryz.prog (do eqGuard .neq 142 (.tmp 17) (.tmp 18) x17 a0; binOp .neq 142 x17 a0) H fun x19 H =>
  Br x19 (
  False) (
  R (.tuple #[]) H))
def p1110 : Plan := .seq (.leaf []) (.cond (.leaf []) (.seq (.leaf []) (.cond (.leaf []) (.leaf []))))
theorem s1110 {a0 : Value} {H : Heap} {R : Value → Heap → Prop} (h : c1110 a0 H R) : CallsH Tryz.prog 110 #[a0] H R :=
  callsH_of_eq p1110 (fn := Tryz.f110) (c := Tryz.f110.body.getD .skip) (args := [a0]) Tryz.func110 (by kernel_rfl) mixed (by kernel_rfl) (by kernel_rfl) (by kernel_rfl) h
def c1080 (a0 : Value) (H : Heap) (R : Value → Heap → Prop) : Prop :=
  Fld 1 a0 H fun x6 =>
  Get (nilV a0) fun x9 =>
  Get (fieldAddrV 1 x9) fun x10 =>
  Get (load1V x10 H) fun x11 =>
  ExecV Tryz.prog (Builtin.unsafeSliceData_ #[27] 178 #[x6]) H fun x7 H =>
  (load1V x10 H = some x11 ∧ True) ∧
  Get (lenV x11) fun x12 =>
  ExecV Tryz.prog (Builtin.unsafeString_ #[178, 3] 9 #[x7, x12]) H fun x13 H =>
  R x13 H
def p1080 : Plan := .seq (.leaf []) (.seq (.leaf [0, 1, 2, 3, 5, 6, 7, 8, 4, 9, 10, 11]) (.leaf []))
theorem s1080 {a0 : Value} {H : Heap} {R : Value → Heap → Prop} (h : c1080 a0 H R) : CallsH Tryz.prog 80 #[a0] H R :=
  callsH_of_eq p1080 (fn := Tryz.f80) (c := Tryz.f80.body.getD .skip) (args := [a0]) Tryz.func80 (by kernel_rfl) mixed (by kernel_rfl) (by kernel_rfl) (by kernel_rfl) h
def c1108 (a0 : Value) (H : Heap) (R : Value → Heap → Prop) : Prop :=
  Get (strV .eql a0 (.string ⟨#[]⟩)) fun x8 =>
  Br x8 (
  R (.tuple #[(.string ⟨#[]⟩), (.string ⟨#[]⟩)]) H) (
  Get (strIndexV a0 (.int .i64 0)) fun x10 =>
  Get (arithV .neq .u8 x10 (.int .u8 34)) fun x11 =>
  Br x11 (
  CallsH Tryz.prog 104 #[a0] H fun x13 H =>
  Get (extractV x13 0) fun x14 =>
  Get (extractV x13 1) fun x15 =>
  R (.tuple #[x14, x15]) H) (
  New (.cells #[(.pointer none), (.slice none 0 0)] 144 (0, 0)) H fun x16 H =>
  Loop [(.int .i64 1)] H fun K1 vs2 H =>
  Get (lenStrV a0) fun x19 =>
  Get (arithV .lss .i64 (nth vs2 0) x19) fun x20 =>
  Br x20 (
  Join (fun K3 =>
  Get (strIndexV a0 (nth vs2 0)) fun x25 =>
  Get (arithV .eql .u8 x25 (.int .u8 34)) fun x27 =>
  Br x27 (
  CallsH Tryz.prog 80 #[x16] H fun x29 H =>
  Get (arithV .add .i64 (nth vs2 0) (.int .i64 1)) fun x32 =>
  Get (strSliceV a0 (some x32) none) fun x33 =>
  R (.tuple #[x29, x33]) H) (
  Join (fun K4 =>
  Get (arithV .eql .u8 x25 (.int .u8 92)) fun x35 =>
  Br x35 (
  Get (arithV .add .i64 (nth vs2 0) (.int .i64 1)) fun x38 =>
  Get (lenStrV a0) fun x40 =>
  Get (arithV .lss .i64 x38 x40) fun x41 =>
  Get (pickV (.bool true) x41 (.bool false)) fun x42 =>
  Br x42 (
  Get (arithV .add .i64 (nth vs2 0) (.int .i64 1)) fun x46 =>
  Get (strIndexV a0 x46) fun x47 =>
  CallsH Tryz.prog 135 #[x47] H fun x48 H =>
  Get (pickV (.bool true) x48 (.bool false)) fun x49 =>
  K4 [x49] H) (
  Get (pickV (.bool false) undef (.bool false)) fun x49_1 =>
  K4 [x49_1] H)) (
  Get (pickV (.bool false) undef (.bool false)) fun x42_1 =>
  Br x42_1 (
  Get (arithV .add .i64 (nth vs2 0) (.int .i64 1)) fun x46_1 =>
  Get (strIndexV a0 x46_1) fun x47_1 =>
  CallsH Tryz.prog 135 #[x47_1] H fun x48_1 H =>
  Get (pickV (.bool true) x48_1 (.bool false)) fun x49_2 =>
  K4 [x49_2] H) (
  Get (pickV (.bool false) undef (.bool false)) fun x49_3 =>
  K4 [x49_3] H))) fun vs5 H =>
  Br (nth vs5 0) (
  Get (arithV .add .i64 (nth vs2 0) (.int .i64 1)) fun x53 =>
  Get (strIndexV a0 x53) fun x54 =>
  CallsH Tryz.prog 101 #[x16, x54] H fun _ H =>
  Get (arithV .add .i64 (nth vs2 0) (.int .i64 1)) fun x57 =>
  K3 [x57] H) (
  Join (fun K6 =>
  Get (arithV .eql .u8 x25 (.int .u8 13)) fun x59 =>
  Br x59 (
  Get (pickV (.bool true) (.bool true) undef) fun x63 =>
  K6 [x63] H) (
  Get (arithV .eql .u8 x25 (.int .u8 10)) fun x62 =>
  Get (pickV (.bool false) (.bool true) x62) fun x63_1 =>
  K6 [x63_1] H)) fun vs7 H =>
  Br (nth vs7 0) (
  R (.tuple #[(.string ⟨#[]⟩), a0]) H) (
  Get (strIndexV a0 (nth vs2 0)) fun x68 =>
  CallsH Tryz.prog 101 #[x16, x68] H fun _ H =>
  K3 [(nth vs2 0)] H)))) fun vs8 H =>
  Get (arithV .add .i64 (nth vs8 0) (.int .i64 1)) fun x22 =>
  K1 [x22] H) (
  R (.tuple #[(.string ⟨#[]⟩), a0]) H)))
def p1108 : Plan := .seq (.leaf []) (.seq (.seq (.leaf []) (.cond (.leaf []) (.leaf []))) (.seq (.seq (.leaf []) (.cond (.seq (.leaf []) (.leaf [])) (.leaf []))) (.seq (.leaf []) (.seq (.seq (.leaf []) (.block (.loop [5] (.seq (.seq (.leaf []) (.cond (.leaf []) (.leaf []))) (.join [5] (.block (.seq (.leaf []) (.seq (.seq (.leaf []) (.cond (.seq (.leaf [0, 1, 2, 3, 4, 5, 6, 7]) (.leaf [])) (.leaf []))) (.seq (.join [49] (.leaf []) (.cond (.seq (.leaf []) (.seq (.leaf []) (.leaf []))) (.leaf []))) (.seq (.join [63] (.leaf []) (.cond (.seq (.leaf []) (.leaf [])) (.leaf []))) (.leaf [])))))) (.leaf [])))))) (.seq (.leaf []) (.leaf []))))))
theorem s1108 {a0 : Value} {H : Heap} {R : Value → Heap → Prop} (h : c1108 a0 H R) : CallsH Tryz.prog 108 #[a0] H R :=
  callsH_of_eq p1108 (fn := Tryz.f108) (c := Tryz.f108.body.getD .skip) (args := [a0]) Tryz.func108 (by kernel_rfl) mixed (by kernel_rfl) (by kernel_rfl) (by kernel_rfl) h
def c1074 (a0 : Value) (H : Heap) (R : Value → Heap → Prop) : Prop :=
  CallsH Tryz.prog 72 #[a0, (.func (.func 73) #[] #[])] H fun x8 H =>
  CallsH Tryz.prog 105 #[x8, (.string ⟨#[59]⟩)] H fun x11 H =>
  Get (extractV x11 0) fun x12 =>
  Get (extractV x11 1) fun x13 =>
  Get (unV .not x13) fun x15 =>
  Br x15 (
  R (.tuple #[(.string ⟨#[]⟩), (.string ⟨#[]⟩), a0]) H) (
  CallsH Tryz.prog 72 #[x12, (.func (.func 73) #[] #[])] H fun x18 H =>
  CallsH Tryz.prog 104 #[x18] H fun x21 H =>
  Get (extractV x21 0) fun x22 =>
  Get (extractV x21 1) fun x23 =>
  CallsH Tryz.prog 70 #[x22] H fun x25 H =>
  Get (strV .eql x25 (.string ⟨#[]⟩)) fun x27 =>
  Br x27 (
  R (.tuple #[(.string ⟨#[]⟩), (.string ⟨#[]⟩), a0]) H) (
  CallsH Tryz.prog 72 #[x23, (.func (.func 73) #[] #[])] H fun x30 H =>
  CallsH Tryz.prog 105 #[x30, (.string ⟨#[61]⟩)] H fun x33 H =>
  Get (extractV x33 0) fun x34 =>
  Get (extractV x33 1) fun x35 =>
  Get (unV .not x35) fun x37 =>
  Br x37 (
  R (.tuple #[(.string ⟨#[]⟩), (.string ⟨#[]⟩), a0]) H) (
  CallsH Tryz.prog 72 #[x34, (.func (.func 73) #[] #[])] H fun x40 H =>
  CallsH Tryz.prog 108 #[x40] H fun x43 H =>
  Get (extractV x43 0) fun x44 =>
  Get (extractV x43 1) fun x45 =>
  Join (fun K1 =>
  Get (strV .eql x44 (.string ⟨#[]⟩)) fun x47 =>
  Br x47 (
  Get (strV .eql x45 x40) fun x51 =>
  Get (pickV (.bool true) x51 (.bool false)) fun x52 =>
  K1 [x52] H) (
  Get (pickV (.bool false) undef (.bool false)) fun x52_1 =>
  K1 [x52_1] H)) fun vs2 H =>
  Br (nth vs2 0) (
  R (.tuple #[(.string ⟨#[]⟩), (.string ⟨#[]⟩), a0]) H) (
  R (.tuple #[x25, x44, x45]) H))))
def p1074 : Plan := .seq (.leaf []) (.seq (.leaf []) (.seq (.leaf []) (.seq (.seq (.leaf []) (.seq (.leaf []) (.cond (.seq (.leaf []) (.leaf [])) (.leaf [])))) (.seq (.leaf []) (.seq (.leaf []) (.seq (.leaf []) (.seq (.seq (.leaf []) (.cond (.seq (.leaf []) (.leaf [])) (.leaf []))) (.seq (.leaf []) (.seq (.seq (.leaf []) (.seq (.leaf []) (.cond (.seq (.leaf []) (.leaf [])) (.leaf [])))) (.seq (.leaf []) (.seq (.leaf []) (.seq (.join [52] (.leaf []) (.cond (.seq (.leaf []) (.leaf [])) (.leaf []))) (.seq (.leaf []) (.seq (.leaf []) (.leaf [])))))))))))))))
theorem s1074 {a0 : Value} {H : Heap} {R : Value → Heap → Prop} (h : c1074 a0 H R) : CallsH Tryz.prog 74 #[a0] H R :=
  callsH_of_eq p1074 (fn := Tryz.f74) (c := Tryz.f74.body.getD .skip) (args := [a0]) Tryz.func74 (by kernel_rfl) mixed (by kernel_rfl) (by kernel_rfl) (by kernel_rfl) h
def c1071 (a0 : Value) (H : Heap) (R : Value → Heap → Prop) : Prop :=
  CallsH Tryz.prog 104 #[a0] H fun x9 H =>
  Get (extractV x9 0) fun x10 =>
  Get (extractV x9 1) fun x11 =>
  Get (strV .eql x10 (.string ⟨#[]⟩)) fun x13 =>
  Br x13 (
  Get (load1V (.pointer (some ⟨8, 0, none⟩)) H) fun x14 =>
  R x14 H) (
  Get (strV .eql x11 (.string ⟨#[]⟩)) fun x16 =>
  Br x16 (
  R .nilIface H) (
  CallsH Tryz.prog 105 #[x11, (.string ⟨#[47]⟩)] H fun x19 H =>
  Get (extractV x19 0) fun x20 =>
  Get (extractV x19 1) fun x21 =>
  Get (unV .not x21) fun x23 =>
  Br x23 (
  Get (load1V (.pointer (some ⟨9, 0, none⟩)) H) fun x24 =>
  R x24 H) (
  CallsH Tryz.prog 104 #[x20] H fun x27 H =>
  Get (extractV x27 0) fun x28 =>
  Get (extractV x27 1) fun x29 =>
  Get (strV .eql x28 (.string ⟨#[]⟩)) fun x31 =>
  Br x31 (
  Get (load1V (.pointer (some ⟨10, 0, none⟩)) H) fun x32 =>
  R x32 H) (
  Get (strV .neq x29 (.string ⟨#[]⟩)) fun x34 =>
  Br x34 (
  Get (load1V (.pointer (some ⟨11, 0, none⟩)) H) fun x35 =>
  R x35 H) (
  R .nilIface H)))))
def p1071 : Plan := .seq (.leaf []) (.seq (.leaf []) (.seq (.seq (.leaf []) (.cond (.seq (.leaf []) (.leaf [])) (.leaf []))) (.seq (.seq (.leaf []) (.cond (.seq (.leaf []) (.leaf [])) (.leaf []))) (.seq (.leaf []) (.seq (.seq (.leaf []) (.seq (.leaf []) (.cond (.seq (.leaf []) (.leaf [])) (.leaf [])))) (.seq (.leaf []) (.seq (.seq (.leaf []) (.cond (.seq (.leaf []) (.leaf [])) (.leaf []))) (.seq (.seq (.leaf []) (.cond (.seq (.leaf []) (.leaf [])) (.leaf []))) (.seq (.leaf []) (.leaf []))))))))))
theorem s1071 {a0 : Value} {H : Heap} {R : Value → Heap → Prop} (h : c1071 a0 H R) : CallsH Tryz.prog 71 #[a0] H R :=
  callsH_of_eq p1071 (fn := Tryz.f71) (c := Tryz.f71.body.getD .skip) (args := [a0]) Tryz.func71 (by kernel_rfl) mixed (by kernel_rfl) (by kernel_rfl) (by kernel_rfl) h
end Go.Cps
