/-
  A part of the proof: unicode.IsSpace of ASCII, TrimLeftFunc, ToLower of what is lower, the base of a path without slashes. strings.Builder: WriteByte, String. A quoted value is read out of a header's text. One parameter of a media type; TrimSpace and the check of "form-data".
  Conditions: each contract's own.
-/
import Derived.Lib.Builder
import Derived.Lib.UnsafeStr
import Derived.Test.YteajpfckbnfdaaaGreatDoorH24
set_option linter.all false
namespace Go.Cps
open Go Go.Proofs
def spc (n : Nat) : Bool := n == 9 || n == 10 || n == 11 || n == 12 || n == 13 || n == 32
def g73 (n : Nat) : Bool := ((n : Int) == 9) || ((n : Int) == 10) || ((n : Int) == 11) || ((n : Int) == 12) || ((n : Int) == 13) || ((n : Int) == 32) || ((n : Int) == 133) || ((n : Int) == 160)
theorem u73 : ((List.range 128).all fun n => g73 n == spc n) = true := by kernel_rfl
theorem isSpace_ok {n : Nat} {H : Heap} (h : n < 128) : CallsH Tryz.prog 73 #[.int .i32 n] H fun x H' => x = .bool (spc n) ∧ H' = H := by
  apply s1073
  have h0 : (n : Int) % 4294967296 = n := by omega
  have e1 : intConvV .u32 (.int .i32 n) = some (.int .u32 n) := by
    rw [Qs]
    have : IntKind.u32.wrap (n : Int) = (n : Int) := by
      simp [IntKind.wrap, IntKind.signed, IntKind.bits]
      omega
    rw [this]
  have e2 : decide ((n : Int) ≤ 255) = true := by simp; omega
  have hg : spc n = g73 n := by
    have := List.all_eq_true.1 u73 n (List.mem_range.2 h)
    rw [beq_iff_eq] at this
    exact this.symm
  simp only [c1073, e1, Q6, Qk, Ql, Qm, Qn, Qo, Qp, Qq, Qr, Qs, e2, Q0, Q1, Q2, Q3, Q4, Q5, Q6, Q7, Q8, Q9, Qa, Qb, Qc, Qd, Qe, Qf, Qg, Qh, Qi, Qj]
  refine ⟨fun vs H' => vs = [.bool (spc n)] ∧ H' = H, ?_, ?_⟩
  · rw [hg]
    unfold g73
    repeat' (first | refine Br_intro (fun h2 => ?_) (fun h2 => ?_) | simp only [Q0, Q1, Q2, Q3, Q4, Q5, Q6, Q7, Q8, Q9, Qa, Qb, Qc, Qd, Qe, Qf, Qg, Qh, Qi, Qj, Qk, Ql, Qm, Qn, Qo, Qp, Qq, Qr, Qs])
    all_goals (simp_all)
  · rintro _ H ⟨rfl, rfl⟩
    simp only [Q0, Q1, Q2, Q3, Q4, Q5, Q6, Q7, Q8, Q9, Qa, Qb, Qc, Qd, Qe, Qf, Qg, Qh, Qi, Qj]
    exact Br_intro (fun h1 => ⟨by rw [h1], trivial⟩) (fun h1 => ⟨by rw [h1], trivial⟩)
theorem trimLeftS_ok {p q : List UInt8} {b : UInt8} {H : Heap} (hp : ∀ c ∈ p, spc c.toNat = true) (hb : spc b.toNat = false) (hb2 : b.toNat < 128) (hl : (p ++ b :: q).length < 2 ^ 40) :
    CallsH Tryz.prog 72 #[strVal (p ++ b :: q), .func (.func 73) #[] #[]] H fun x H' => x = strVal (b :: q) ∧ Frm [] H H' := by
  apply s1072
  unfold c1072
  have hspc : ∀ n : Nat, spc n = true → n < 128 := fun n h => by
    simp only [spc, Bool.or_eq_true, beq_iff_eq] at h
    omega
  have h2 : CallsH Tryz.prog 106 #[strVal (p ++ b :: q), .func (.func 73) #[] #[], .bool false] H fun x H' => x = .int .i64 p.length ∧ Frm [] H H' := by
    apply s1106
    unfold c1106
    have hsz : (⟨(p ++ b :: q).toArray⟩ : ByteArray).size = (p ++ b :: q).length := bstr_size _
    rw [strVal, range_str]
    refine ⟨fun n vs H' => ∃ i, vs = [] ∧ n = p.length - i ∧ i ≤ p.length ∧ H'[H.size]? = some (.stringIter ⟨(p ++ b :: q).toArray⟩ i) ∧ Frm [] H H', ⟨_, 0, rfl, rfl, Nat.zero_le _, push_same _ _, Frm.push _ _ _⟩, ?_⟩
    rintro n vs H1 ⟨i, rfl, rfl, hi, hit, f1⟩
    have hlt : i < (p ++ b :: q).length := by simp; omega
    have hbp : (⟨(p ++ b :: q).toArray⟩ : ByteArray)[i]'(by rw [hsz]; exact hlt) = (p ++ b :: q)[i] := rfl
    have hasc : (p ++ b :: q)[i].toNat < 128 ∧ spc (p ++ b :: q)[i].toNat = decide (i < p.length) := by
      by_cases hip : i < p.length
      · rw [List.getElem_append_left hip, decide_eq_true hip]
        have := hp _ (List.getElem_mem hip)
        exact ⟨hspc _ this, this⟩
      · have : i = p.length := by omega
        subst this
        rw [decide_eq_false hip]
        simp only [List.getElem_append_right (Nat.le_refl _), Nat.sub_self, List.getElem_cons_zero]
        exact ⟨hb2, hb⟩
    rw [next_str hit (by rw [hsz]; exact hlt) (by rw [hbp]; exact hasc.1), hbp]
    generalize hH2 : upd H1 H.size (.stringIter ⟨(p ++ b :: q).toArray⟩ (i + 1)) = H2
    have f2 : Frm [H.size] H1 H2 := by rw [← hH2]; exact Frm.upd _ (by simp)
    have hit2 : H2[H.size]? = some (.stringIter ⟨(p ++ b :: q).toArray⟩ (i + 1)) := by rw [← hH2]; exact upd_same (lt_of_some hit)
    have f12 : Frm [] H H2 := ⟨Nat.le_trans f1.size f2.size, fun k hk hn => by rw [f2.same k (Nat.lt_of_lt_of_le hk f1.size) (by simp; omega), f1.same k hk hn]⟩
    simp only [Q0, Q1, Q2, Q3, Q4, Q5, Q6, Q7, Q8, Q9, Qa, Qb, Qc, Qd, Qe, Qf, Qg, Qh, Qi, Qj]
    refine ⟨73, #[], #[], rfl, by kernel_rfl, ?_⟩
    refine (isSpace_ok hasc.1).mono ?_
    rintro x H3 ⟨rfl, rfl⟩
    rw [hasc.2]
    by_cases hip : i < p.length
    · rw [decide_eq_true hip]
      have e0 : boolEqV .eql (.bool true) (.bool false) = some (.bool false) := rfl
      simp only [e0, Q0, Q1, Q2, Q3, Q4, Q5, Q6, Q7, Q8, Q9, Qa, Qb, Qc, Qd, Qe, Qf, Qg, Qh, Qi, Qj]
      exact ⟨_, by omega, i + 1, trivial, rfl, hip, hit2, f12⟩
    · rw [decide_eq_false hip]
      have e0 : boolEqV .eql (.bool false) (.bool false) = some (.bool true) := rfl
      have : i = p.length := by omega
      subst this
      simp only [e0, Q0, Q1, Q2, Q3, Q4, Q5, Q6, Q7, Q8, Q9, Qa, Qb, Qc, Qd, Qe, Qf, Qg, Qh, Qi, Qj]
      exact ⟨trivial, f12⟩
  refine h2.mono ?_
  rintro x H1 ⟨rfl, f1⟩
  have e1 : ((p.length : Int) == -1) = false := by rw [beq_eq_false_iff_ne]; omega
  simp only [Q0, Q1, Q2, Q3, Q4, Q5, Q6, Q7, Q8, Q9, Qa, Qb, Qc, Qd, Qe, Qf, Qg, Qh, Qi, Qj, Qk, Ql, Qm, Qn, Qo, Qp, Qq, Qr, Qs, e1, strSlice_from (l := p ++ b :: q) (i := p.length) (by simp), List.drop_left]
  exact ⟨trivial, f1⟩
def lowS (l : List UInt8) : Bool := l.all fun c => decide (c.toNat < 128) && !(decide (65 ≤ c.toNat) && decide (c.toNat ≤ 90))
theorem toLower_ok {l : List UInt8} {H : Heap} (h : lowS l = true) (hl : l.length < 2 ^ 40) : CallsH Tryz.prog 70 #[strVal l] H fun x H' => x = strVal l ∧ H' = H := by
  apply s1070
  unfold c1070
  have hc : ∀ (i : Nat) (hi : i < l.length), l[i].toNat < 128 ∧ ¬ (65 ≤ l[i].toNat ∧ l[i].toNat ≤ 90) := fun i hi => by
    have := List.all_eq_true.1 h _ (List.getElem_mem hi)
    simp only [Bool.and_eq_true, decide_eq_true_eq, Bool.not_eq_true', Bool.and_eq_false_iff, decide_eq_false_iff_not] at this
    omega
  refine ⟨fun vs H' => vs = [.bool true, .bool false] ∧ H' = H, ?_, ?_⟩
  · refine ⟨fun μ vs H1 => ∃ i : Nat, vs = [.bool true, .bool false, .int .i64 i] ∧ μ = l.length - i ∧ i ≤ l.length ∧ H1 = H, ⟨_, 0, rfl, rfl, Nat.zero_le _, rfl⟩, ?_⟩
    rintro μ vs H1 ⟨i, rfl, rfl, hi, rfl⟩
    simp only [Q0, Q1, Q2, Q3, Q4, Q5, Q6, Q7, Q8, Q9, Qa, Qb, Qc, Qd, Qe, Qf, Qg, Qh, Qi, Qj, lenStr_of, Qk, Ql, Qm, Qn, Qo, Qp, Qq, Qr, Qs, dec_lt]
    refine Br_intro (fun hlt => ?_) (fun hlt => ⟨trivial, trivial⟩)
    have hlt' : i < l.length := by simpa using hlt
    obtain ⟨h1, h2⟩ := hc i hlt'
    have hge : decide (((l[i].toNat : Nat) : Int) ≥ 128) = false := by simp; omega
    refine Join_direct ?_
    simp only [strIndex_of hlt', Q6, byteV, Qk, Ql, Qm, Qn, Qo, Qp, Qq, Qr, Qs, hge, Q0, Q1, Q2, Q3, Q4, Q5, Q6, Q7, Q8, Q9, Qa, Qb, Qc, Qd, Qe, Qf, Qg, Qh, Qi, Qj]
    refine Br_intro (fun h3 => ?_) (fun h3 => ?_)
    · have h4 : decide (((l[i].toNat : Nat) : Int) ≤ 90) = false := by simp at h3 ⊢; omega
      simp only [h4, Q0, Q1, Q2, Q3, Q4, Q5, Q6, Q7, Q8, Q9, Qa, Qb, Qc, Qd, Qe, Qf, Qg, Qh, Qi, Qj, Bool.false_eq_true, if_false, if_true, inc_i64 (show i < 2 ^ 62 by omega)]
      exact ⟨_, by omega, i + 1, rfl, rfl, hlt', trivial⟩
    · simp only [Q0, Q1, Q2, Q3, Q4, Q5, Q6, Q7, Q8, Q9, Qa, Qb, Qc, Qd, Qe, Qf, Qg, Qh, Qi, Qj, Bool.false_eq_true, if_false, if_true, inc_i64 (show i < 2 ^ 62 by omega), Qk, Ql, Qm, Qn, Qo, Qp, Qq, Qr, Qs]
      exact ⟨_, by omega, i + 1, rfl, rfl, hlt', trivial⟩
  · rintro _ H ⟨rfl, rfl⟩
    simp only [Q0, Q1, Q2, Q3, Q4, Q5, Q6, Q7, Q8, Q9, Qa, Qb, Qc, Qd, Qe, Qf, Qg, Qh, Qi, Qj, Bool.not_false]
    exact ⟨trivial, trivial⟩
theorem noSlash_ok {b : UInt8} {H : Heap} (h : b ≠ 47) : CallsH Tryz.prog 81 #[byteV b] H fun x H' => x = .bool false ∧ H' = H := by
  apply s1081
  have e : ((47 : Int) == ((b.toNat : Nat) : Int)) = false := by
    rw [beq_eq_false_iff_ne]
    intro hh
    apply h
    apply UInt8.toNat_inj.1
    have : (47 : UInt8).toNat = 47 := rfl
    omega
  simp only [c1081, byteV, Qk, Ql, Qm, Qn, Qo, Qp, Qq, Qr, Qs, e, Q0, Q1, Q2, Q3, Q4, Q5, Q6, Q7, Q8, Q9, Qa, Qb, Qc, Qd, Qe, Qf, Qg, Qh, Qi, Qj]
  exact ⟨trivial, trivial⟩
theorem base_ok {l : List UInt8} {H : Heap} (hn : l ≠ []) (hs : 47 ∉ l) (hl : l.length < 2 ^ 40) : CallsH Tryz.prog 36 #[strVal l] H fun x H' => x = strVal l ∧ H' = H := by
  have hpos : 0 < l.length := List.length_pos_iff.2 hn
  apply s1036
  unfold c1036
  have h2 : CallsH Tryz.prog 51 #[strVal l] H fun x H' => x = strVal l ∧ H' = H := by
    apply s1051
    have e0 : strV .eql (strVal l) (.string ⟨#[]⟩) = some (.bool false) := by
      rw [show (Value.string ⟨#[]⟩) = strVal [] from rfl, strV_eql', decide_eq_false hn]
    simp only [c1051, e0, Q6, Q0, Q1, Q2, Q3, Q4, Q5, Q6, Q7, Q8, Q9, Qa, Qb, Qc, Qd, Qe, Qf, Qg, Qh, Qi, Qj]
    refine ⟨fun μ vs H1 => vs = [strVal l] ∧ H1 = H, ⟨0, rfl, rfl⟩, ?_⟩
    rintro μ vs H1 ⟨rfl, rfl⟩
    refine ⟨fun vs H' => vs = [.bool false] ∧ H' = H1, ?_, ?_⟩
    · have e1 : decide ((l.length : Int) > 0) = true := by simp; omega
      have e2 : IntKind.i64.wrap ((l.length : Int) - 1) = ((l.length - 1 : Nat) : Int) := by rw [wrap_i64 (by omega) (by omega)]; omega
      simp only [Q0, Q1, Q2, Q3, Q4, Q5, Q6, Q7, Q8, Q9, Qa, Qb, Qc, Qd, Qe, Qf, Qg, Qh, Qi, Qj, lenStr_of, Qk, Ql, Qm, Qn, Qo, Qp, Qq, Qr, Qs, e1, e2, strIndex_of (show l.length - 1 < l.length by omega)]
      refine (noSlash_ok (fun e => hs (e ▸ List.getElem_mem (by omega)))).mono ?_
      rintro x H ⟨rfl, rfl⟩
      simp only [Q0, Q1, Q2, Q3, Q4, Q5, Q6, Q7, Q8, Q9, Qa, Qb, Qc, Qd, Qe, Qf, Qg, Qh, Qi, Qj, if_true, and_self]
    rintro _ H ⟨rfl, rfl⟩
    simp only [Q0, Q1, Q2, Q3, Q4, Q5, Q6, Q7, Q8, Q9, Qa, Qb, Qc, Qd, Qe, Qf, Qg, Qh, Qi, Qj]
    have hv : CallsH Tryz.prog 82 #[strVal l] H fun x H' => x = strVal [] ∧ H' = H := by
      apply s1082
      unfold c1082
      have h114 : CallsH Tryz.prog 114 #[strVal l] H fun x H' => x = .int .i64 ((0 : Nat) : Int) ∧ H' = H := by
        apply s1114; exact ⟨rfl, rfl⟩
      refine h114.mono ?_
      rintro x H ⟨rfl, rfl⟩
      rw [strSlice_to (Nat.zero_le _), Q6, List.take_zero]
      have h113 : CallsH Tryz.prog 113 #[strVal []] H fun x H' => x = strVal [] ∧ H' = H := by
        apply s1113
        simp only [c1113, Q0, Q1, Q2, Q3, Q4, Q5, Q6, Q7, Q8, Q9, Qa, Qb, Qc, Qd, Qe, Qf, Qg, Qh, Qi, Qj]
        exact ⟨trivial, trivial⟩
      exact h113
    refine hv.mono ?_
    rintro x H ⟨rfl, rfl⟩
    have e2 : IntKind.i64.wrap ((l.length : Int) - 1) = ((l.length - 1 : Nat) : Int) := by rw [wrap_i64 (by omega) (by omega)]; omega
    have e3 : strSliceV (strVal l) (some (.int .i64 ((List.length ([] : List UInt8) : Nat) : Int))) none = some (strVal l) := strSlice_from (Nat.zero_le _) _
    simp only [lenStr_of, Q6, e3, Qk, Ql, Qm, Qn, Qo, Qp, Qq, Qr, Qs, e2]
    refine ⟨fun μ vs H1 => ∃ i : Int, vs = [.int .i64 i] ∧ μ = (i + 1).toNat ∧ -1 ≤ i ∧ i < l.length ∧ H1 = H, ⟨_, ((l.length - 1 : Nat) : Int), rfl, rfl, by omega, by omega, rfl⟩, ?_⟩
    rintro μ vs H1 ⟨i, rfl, rfl, h1, h2, rfl⟩
    refine ⟨fun vs H' => vs = [.bool (decide (i ≥ 0))] ∧ H' = H1, ?_, ?_⟩
    · simp only [Q0, Q1, Q2, Q3, Q4, Q5, Q6, Q7, Q8, Q9, Qa, Qb, Qc, Qd, Qe, Qf, Qg, Qh, Qi, Qj, Qk, Ql, Qm, Qn, Qo, Qp, Qq, Qr, Qs]
      refine Br_intro (fun h3 => ?_) (fun h3 => ?_)
      · have h3' : 0 ≤ i := by simpa using h3
        obtain ⟨j, rfl⟩ : ∃ j : Nat, i = (j : Int) := ⟨i.toNat, by omega⟩
        have hj : j < l.length := by omega
        simp only [strIndex_of hj, Q6]
        refine (noSlash_ok (fun e => hs (e ▸ List.getElem_mem hj))).mono ?_
        rintro x H ⟨rfl, rfl⟩
        simp only [Q0, Q1, Q2, Q3, Q4, Q5, Q6, Q7, Q8, Q9, Qa, Qb, Qc, Qd, Qe, Qf, Qg, Qh, Qi, Qj, Bool.not_false, h3, if_true, and_self]
      · simp only [Q0, Q1, Q2, Q3, Q4, Q5, Q6, Q7, Q8, Q9, Qa, Qb, Qc, Qd, Qe, Qf, Qg, Qh, Qi, Qj, Bool.false_eq_true, if_false, h3, and_self]
    rintro _ H ⟨rfl, rfl⟩
    simp only [Q0, Q1, Q2, Q3, Q4, Q5, Q6, Q7, Q8, Q9, Qa, Qb, Qc, Qd, Qe, Qf, Qg, Qh, Qi, Qj, Qk, Ql, Qm, Qn, Qo, Qp, Qq, Qr, Qs]
    refine Br_intro (fun h3 => ?_) (fun h3 => ?_)
    · have h3' : 0 ≤ i := by simpa using h3
      have e4 : IntKind.i64.wrap (i - 1) = i - 1 := wrap_i64 (by omega) (by omega)
      rw [e4]
      exact ⟨_, by omega, i - 1, rfl, rfl, by omega, by omega, trivial⟩
    · have e5 : strV .eql (strVal l) (.string ⟨#[]⟩) = some (.bool false) := e0
      refine Join_direct ?_
      simp only [h3, Q0, Q1, Q2, Q3, Q4, Q5, Q6, Q7, Q8, Q9, Qa, Qb, Qc, Qd, Qe, Qf, Qg, Qh, Qi, Qj, e5]
      exact ⟨trivial, trivial⟩
  refine h2.mono ?_
  rintro x H ⟨rfl, rfl⟩
  exact ⟨rfl, rfl⟩
end Go.Cps
namespace Go.Cps
open Go Go.Proofs
set_option maxRecDepth 100000
def BldAt (H : Heap) (b : Nat) (k : Option Nat) (l : List UInt8) : Prop :=
  ∃ p v, H[b]? = some (.cells #[p, v] 144 (0, 0)) ∧ (p = .pointer none ∨ p = .pointer (some ⟨b, 0, none⟩)) ∧ OwnB H k v l ∧ k ≠ some b ∧ ∀ g, k = some g → l ≠ []
theorem u142 : Tryz.prog.underlying 142 = some (.pointer 144) := by kernel_rfl
theorem u223 : Tryz.prog.underlying 223 = some .unsafePointer := by kernel_rfl
theorem i144b : ((Tryz.prog.info? 144).map fun j => j.size != 0) = some true := by kernel_rfl
theorem i144 : ∃ j, Tryz.prog.info? 144 = some j ∧ j.size ≠ 0 := by
  have h := i144b
  cases hj : Tryz.prog.info? 144 with
  | none => rw [hj] at h; cases h
  | some j =>
    rw [hj] at h
    simp only [Option.map_some, Option.some.injEq, bne_iff_ne] at h
    exact ⟨j, rfl, h⟩
theorem lies144 : liesAt Tryz.prog Tryz.prog.depth 144 (2 / Tryz.prog.cellsOf 144) 0 144 1 = true := by kernel_rfl
theorem copyCheck_ok {H : Heap} {b : Nat} {k : Option Nat} {l : List UInt8} (h : BldAt H b k l) :
    CallsH Tryz.prog 110 #[.pointer (some ⟨b, 0, none⟩)] H fun _ H' => BldAt H' b k l ∧ Frm [b] H H' ∧ H'.size = H.size := by
  obtain ⟨p, v, hb, hp, hv, hk, hl⟩ := h
  obtain ⟨j, hj, hj0⟩ := i144
  apply s1110
  have hsh : ∀ w : World, w.heap = H → w.shape? b = some (144, 2) := fun w hw => by
    subst hw
    simp [World.shape?, hb]
  simp only [c1110, Q0, Q1, Q2, Q3, Q4, Q5, Q6, Q7, Q8, Q9, Qa, Qb, Qc, Qd, Qe, Qf, Qg, Qh, Qi, Qj, cellH_of hb]
  rcases hp with rfl | rfl
  · have e0 : nilV2 .eql (.pointer none) (.pointer none) = some (.bool true) := rfl
    simp only [Q0, Q1, Q2, Q3, Q4, Q5, Q6, Q7, Q8, Q9, Qa, Qb, Qc, Qd, Qe, Qf, Qg, Qh, Qi, Qj, e0]
    rw [ExecV.eq (v := .pointer (some ⟨b, 0, none⟩)) (fun w hw => Lib.run_to_unsafe w ⟨b, 0, none⟩ u142 u223 hj hj0 (hsh w hw) (by show 0 < 2; omega))]
    refine ⟨Tryz.f137, Extern.AbiNoEscape.same, Tryz.func137, by kernel_rfl, by kernel_rfl, by kernel_rfl, by kernel_rfl, ?_⟩
    rw [ExecV.eq (v := .pointer (some ⟨b, 0, none⟩)) (fun w hw => Lib.run_noEscape w _)]
    rw [ExecV.eq (v := .pointer (some ⟨b, 0, none⟩)) (fun w hw => Lib.run_from_unsafe w ⟨b, 0, none⟩ u223 u142 hj (hsh w hw) lies144)]
    refine Store_of hb (by simp) rfl fun H1 hb1 f1 z1 => ?_
    refine ⟨⟨_, v, hb1, .inr rfl, hv.frm f1 (fun g hg => ?_), hk, hl⟩, f1, z1⟩
    rw [List.mem_singleton]
    rintro rfl
    exact hk hg
  · have e0 : nilV2 .eql (.pointer none) (.pointer (some ⟨b, 0, none⟩)) = some (.bool false) := rfl
    simp only [Q0, Q1, Q2, Q3, Q4, Q5, Q6, Q7, Q8, Q9, Qa, Qb, Qc, Qd, Qe, Qf, Qg, Qh, Qi, Qj, e0, cellH_of hb]
    rw [ExecV.eq (v := .bool false) (fun w hw => by
      have h1 := Lib.run_neq_ptr_same (P := Tryz.prog) w ⟨b, 0, none⟩ u142 hj
      simp only [Sem.run_bind]
      have h2 : (eqGuard .neq 142 (.tmp 17) (.tmp 18) (.pointer (some ⟨b, 0, none⟩)) (.pointer (some ⟨b, 0, none⟩))).run Tryz.prog w = .ok () w := rfl
      rw [h2]
      exact h1)]
    simp only [Q0, Q1, Q2, Q3, Q4, Q5, Q6, Q7, Q8, Q9, Qa, Qb, Qc, Qd, Qe, Qf, Qg, Qh, Qi, Qj]
    exact ⟨⟨_, v, hb, .inr rfl, hv, hk, hl⟩, Frm.refl _ _, trivial⟩
theorem writeByte_ok {H : Heap} {b : Nat} {k : Option Nat} {l : List UInt8} {c : UInt8} (h : BldAt H b k l) (hl : l.length < 2 ^ 39) :
    CallsH Tryz.prog 101 #[.pointer (some ⟨b, 0, none⟩), byteV c] H fun _ H' => ∃ k', BldAt H' b k' (l ++ [c]) ∧ Frm (b :: k.toList) H H' ∧ (k' = k ∨ ∃ g, k' = some g ∧ H.size ≤ g) := by
  apply s1101
  unfold c1101
  refine (copyCheck_ok h).mono ?_
  rintro _ H1 ⟨⟨p, v, hb, hp, hv, hk, hne⟩, f1, z1⟩
  have hblt := lt_of_some hb
  simp only [Q0, Q1, Q2, Q3, Q4, Q5, Q6, Q7, Q8, Q9, Qa, Qb, Qc, Qd, Qe, Qf, Qg, Qh, Qi, Qj, cellH_of hb]
  rw [fill1 (v := byteV c) rfl, Q6, NewSl]
  have hb2 : (H1.push (.cells #[byteV c] 5 (0, 0)))[b]? = some (.cells #[p, v] 144 (0, 0)) := push_old hb
  have f2 : Frm [] H1 (H1.push (.cells #[byteV c] 5 (0, 0))) := Frm.push _ _ _
  have z2 : (H1.push (.cells #[byteV c] 5 (0, 0))).size = H1.size + 1 := by simp
  have hx : IsBytes (H1.push (.cells #[byteV c] 5 (0, 0))) (.slice (some ⟨H1.size, 0, none⟩) 1 1) [c] := .inl ⟨H1.size, 0, 1, rfl, Nat.le_refl _, fun j hj => by
    have : j = 0 := by simpa using hj
    subst this
    rw [cellH_of (push_same _ _)]; rfl⟩
  generalize H1.push (.cells #[byteV c] 5 (0, 0)) = H2 at *
  refine append_own (hv.frm f2 (by simp)) hx (by simp; omega) fun k' sl' H3 hv3 f3 hk3 => ?_
  have hkb : b ∉ k.toList := fun hm => hk (by cases k <;> simp_all)
  have hb3 := f3.get hb2 hkb
  have hone : isOne sl' = true := by
    cases k' with
    | none => rw [hv3.1]; rfl
    | some g => obtain ⟨_, e, _⟩ := hv3; rw [e]; rfl
  refine Store_of hb3 (by simp) hone fun H4 hb4 f4 z4 => ?_
  have hk' : k' ≠ some b := by
    rcases hk3 with rfl | ⟨g, rfl, hg⟩
    · exact hk
    · intro e; cases e; omega
  refine ⟨k', ⟨p, sl', hb4, hp, hv3.frm f4 (fun g hg => ?_), hk', fun _ _ => by simp⟩, ?_, ?_⟩
  · rw [List.mem_singleton]
    rintro rfl
    exact hk' hg
  · exact (((f1.mono (by simp)).trans (f2.mono (by simp))).trans (f3.mono (fun x hx => by simp [hx]))).trans (f4.mono (by simp))
  · rcases hk3 with rfl | ⟨g, rfl, hg⟩
    · exact .inl rfl
    · exact .inr ⟨g, rfl, by omega⟩
theorem u178 : Tryz.prog.underlying 178 = some (.pointer 5) := by kernel_rfl
theorem cells5 : Tryz.prog.cellsOf 5 = 1 := by kernel_rfl
theorem bldString_ok {H : Heap} {b : Nat} {k : Option Nat} {l : List UInt8} (h : BldAt H b k l) (hl : l.length < 2 ^ 40) :
    CallsH Tryz.prog 80 #[.pointer (some ⟨b, 0, none⟩)] H fun x H' => x = strVal l ∧ Frm k.toList H H' := by
  obtain ⟨p, v, hb, hp, hv, hk, hne⟩ := h
  apply s1080
  simp only [c1080, Q0, Q1, Q2, Q3, Q4, Q5, Q6, Q7, Q8, Q9, Qa, Qb, Qc, Qd, Qe, Qf, Qg, Qh, Qi, Qj, cellH_of hb]
  cases k with
  | none =>
    obtain ⟨rfl, rfl⟩ := hv
    rw [ExecV.eq (v := .pointer none) (fun w hw => Lib.run_unsafeSliceData_nil w _ _ _ _)]
    refine ⟨⟨by rw [cellH_of hb]; rfl, trivial⟩, ?_⟩
    simp only [Q0, Q1, Q2, Q3, Q4, Q5, Q6, Q7, Q8, Q9, Qa, Qb, Qc, Qd, Qe, Qf, Qg, Qh, Qi, Qj]
    rw [show (Value.int IntKind.i64 ((0 : Nat) : Int)) = Value.int .i64 0 from rfl]
    rw [ExecV.eq (v := .string .empty) (fun w hw => Lib.run_unsafeString_none w _ _ _ _)]
    exact ⟨rfl, Frm.refl _ _⟩
  | some g =>
    obtain ⟨cells, rfl, hg, ht, hle⟩ := hv
    have hn := hne g rfl
    have hpos : 0 < l.length := List.length_pos_iff.2 hn
    have e1 : ∀ w : World, w.heap = H → (Builtin.unsafeSliceData_ #[27] 178 #[.slice (some ⟨g, 0, none⟩) l.length cells.size]).run Tryz.prog w = .ok (.pointer (some ⟨g, 0, none⟩)) w := fun w _ => by
      exact Lib.run_unsafeSliceData_row w _ _ _ _ _ (by omega)
    rw [ExecV.eq e1]
    refine ⟨⟨by rw [cellH_of hb]; rfl, trivial⟩, ?_⟩
    simp only [Q0, Q1, Q2, Q3, Q4, Q5, Q6, Q7, Q8, Q9, Qa, Qb, Qc, Qd, Qe, Qf, Qg, Qh, Qi, Qj]
    have e2 : ∀ w : World, w.heap = H → ∃ w', (Builtin.unsafeString_ #[178, 3] 9 #[.pointer (some ⟨g, 0, none⟩), .int .i64 l.length]).run Tryz.prog w = .ok (strVal l) w' ∧ Same w w' ∧ w'.heap = ((at_ H).freeze ⟨g, 0, none⟩ l.length).heap := fun w hw => by
      subst hw
      refine ⟨w.freeze ⟨g, 0, none⟩ l.length, Lib.run_unsafeString_row w 178 3 9 5 u178 cells5 g cells.size (by simp [World.shape?, hg]) l hn hle (by omega) (fun j x hx => ?_), ?_, ?_⟩
      · have hj : j < l.length := by
          rw [List.getElem?_eq_some_iff] at hx
          exact hx.1
        have h1 : cells[j]? = some (byteV x) := by
          have : (cells.toList.take l.length)[j]? = (l.map byteV)[j]? := by rw [ht]
          rw [List.getElem?_take, if_pos hj, List.getElem?_map, hx] at this
          simpa using this
        by_cases hj0 : j = 0
        · subst hj0
          simpa [World.cell?, Addr.add, hg, byteV] using h1
        · simpa [World.cell?, Addr.add, hg, byteV, hj0] using h1
      · unfold World.freeze
        rw [if_neg (by omega)]
        exact ⟨rfl, rfl, rfl⟩
      · unfold World.freeze
        rw [if_neg (by omega), if_neg (by omega)]
        rfl
    rw [ExecV.eq' e2]
    refine ⟨rfl, ?_⟩
    unfold World.freeze
    rw [if_neg (by omega)]
    refine ⟨by simp [at_], fun x hx hn => ?_⟩
    have : g ≠ x := by
      intro e; subst e; simp at hn
    simp [at_, Array.getElem?_modify, this]
end Go.Cps
namespace Go.Cps
open Go Go.Proofs
theorem drop_cons {v t : List UInt8} {i : Nat} {c : UInt8} (h : v.drop i = c :: t) : ∃ hi : i < v.length, v[i] = c ∧ v.drop (i + 1) = t := by
  have hi : i < v.length := by
    apply Classical.byContradiction
    intro hn
    rw [List.drop_eq_nil_of_le (by omega)] at h
    cases h
  rw [List.drop_eq_getElem_cons hi] at h
  simp only [List.cons.injEq] at h
  exact ⟨hi, h.1, h.2⟩
theorem tsp_of {b : UInt8} (h : b = 92 ∨ b = 34) : tspG b.toNat = true := by
  rcases h with rfl | rfl <;> decide
theorem conVal_ok {l q : List UInt8} {H : Heap} (hp : l.all prB = true) (hl : (quoteB l ++ 34 :: q).length < 2 ^ 38) :
    CallsH Tryz.prog 108 #[strVal (34 :: (quoteB l ++ 34 :: q))] H fun x H' => x = .tuple #[strVal l, strVal q] ∧ Frm [] H H' := by
  apply s1108
  generalize hv : 34 :: (quoteB l ++ 34 :: q) = v
  have hvl : v.length < 2 ^ 39 := by rw [← hv]; simp at hl ⊢; omega
  have hlen : l.length ≤ (quoteB l).length := by
    clear hv hl hp
    induction l with
    | nil => simp [quoteB]
    | cons b r ih =>
      have : 1 ≤ (quote1 b).length := by unfold quote1; split <;> simp
      simp only [quoteB, List.flatMap_cons, List.length_append, List.length_cons] at ih ⊢
      omega
  have hl39 : l.length < 2 ^ 39 := by simp at hl; omega
  have h0 : v.drop 0 = 34 :: (quoteB l ++ 34 :: q) := by rw [List.drop_zero, hv]
  obtain ⟨hi0, hg0, hd1⟩ := drop_cons h0
  have e0 : strV .eql (strVal v) (.string ⟨#[]⟩) = some (.bool false) := by
    rw [show (Value.string ⟨#[]⟩) = strVal [] from rfl, strV_eql', decide_eq_false]
    rw [← hv]; simp
  have e1 : strIndexV (strVal v) (.int .i64 0) = some (byteV 34) := by
    have := strIndex_of hi0
    rw [hg0] at this
    exact this
  have e2 : ((34 : Int) != 34) = false := by decide
  have e3 : arithV .neq .u8 (byteV 34) (.int .u8 34) = some (.bool false) := rfl
  simp only [c1108, e0, e1, e3, Q6, Q0, Q1, Q2, Q3, Q4, Q5, Q6, Q7, Q8, Q9, Qa, Qb, Qc, Qd, Qe, Qf, Qg, Qh, Qi, Qj]
  rw [New]
  have hb1 := push_same H (.cells #[(.pointer none), (.slice none 0 0)] 144 (0, 0))
  have f1 : Frm [] H (H.push (.cells #[(.pointer none), (.slice none 0 0)] 144 (0, 0))) := Frm.push _ _ _
  have z1 : (H.push (.cells #[(.pointer none), (.slice none 0 0)] 144 (0, 0))).size = H.size + 1 := by simp
  generalize H.push (.cells #[(.pointer none), (.slice none 0 0)] 144 (0, 0)) = H1 at *
  refine ⟨fun μ vs H2 => ∃ (i : Nat) (d r : List UInt8) (k : Option Nat), vs = [.int .i64 i] ∧ μ = v.length - i ∧ l = d ++ r ∧ v.drop i = quoteB r ++ 34 :: q ∧ BldAt H2 H.size k d ∧ Frm [] H H2 ∧ (∀ g, k = some g → H.size ≤ g),
    ⟨_, 1, [], l, none, rfl, rfl, rfl, hd1, ⟨_, _, hb1, .inl rfl, ⟨rfl, rfl⟩, by simp, by simp⟩, f1, by simp⟩, ?_⟩
  rintro μ vs H2 ⟨i, d, r, k, rfl, rfl, hdr, hdrop, hB, f2, hk⟩
  have hdl : d.length ≤ l.length := by rw [hdr]; simp
  cases r with
  | nil =>
    simp only [quoteB, List.flatMap_nil, List.nil_append] at hdrop
    obtain ⟨hi, hg, hdn⟩ := drop_cons hdrop
    have hge : strIndexV (strVal v) (.int .i64 i) = some (byteV 34) := by rw [strIndex_of hi, hg]
    have he : arithV .eql .u8 (byteV 34) (.int .u8 34) = some (.bool true) := rfl
    have d1 : decide (i < v.length) = true := by simpa using hi
    simp only [Q0, Q1, Q2, Q3, Q4, Q5, Q6, Q7, Q8, Q9, Qa, Qb, Qc, Qd, Qe, Qf, Qg, Qh, Qi, Qj, lenStr_of, Qk, Ql, Qm, Qn, Qo, Qp, Qq, Qr, Qs, dec_lt, d1]
    refine Join_direct ?_
    simp only [hge, he, Q0, Q1, Q2, Q3, Q4, Q5, Q6, Q7, Q8, Q9, Qa, Qb, Qc, Qd, Qe, Qf, Qg, Qh, Qi, Qj]
    refine (bldString_ok hB (by omega)).mono ?_
    rintro x H3 ⟨rfl, f3⟩
    simp only [Q0, Q1, Q2, Q3, Q4, Q5, Q6, Q7, Q8, Q9, Qa, Qb, Qc, Qd, Qe, Qf, Qg, Qh, Qi, Qj, Qk, Ql, Qm, Qn, Qo, Qp, Qq, Qr, Qs, inc_i64 (show i < 2 ^ 62 by omega), strSlice_from (l := v) (i := i + 1) (by omega), hdn]
    refine ⟨?_, f2.up f3 (fun x hx => ?_)⟩
    · rw [hdr, List.append_nil]
    · cases k with
      | none => simp at hx
      | some g => simp at hx; subst hx; exact .inr (hk _ rfl)
  | cons b r =>
    have hpb : prB b = true := by
      rw [List.all_eq_true] at hp
      exact hp b (by rw [hdr]; simp)
    have hpr : 32 ≤ b.toNat ∧ b.toNat ≤ 126 := by
      unfold prB at hpb
      simpa using hpb
    by_cases hq : b = 92 ∨ b = 34
    · have hdrop' : v.drop i = 92 :: (b :: (quoteB r ++ 34 :: q)) := by
        rw [hdrop]
        simp only [quoteB, List.flatMap_cons, quote1, if_pos hq]
        rfl
      obtain ⟨hi, hg, hdn⟩ := drop_cons hdrop'
      obtain ⟨hi2, hg2, hdn2⟩ := drop_cons hdn
      have hge : strIndexV (strVal v) (.int .i64 i) = some (byteV 92) := by rw [strIndex_of hi, hg]
      have hge2 : strIndexV (strVal v) (.int .i64 ((i + 1 : Nat) : Int)) = some (byteV b) := by rw [strIndex_of hi2, hg2]
      have he : arithV .eql .u8 (byteV 92) (.int .u8 34) = some (.bool false) := rfl
      have he2 : arithV .eql .u8 (byteV 92) (.int .u8 92) = some (.bool true) := rfl
      have d1 : decide (i < v.length) = true := by simpa using hi
      have d2 : decide (i + 1 < v.length) = true := by simpa using hi2
      simp only [Q0, Q1, Q2, Q3, Q4, Q5, Q6, Q7, Q8, Q9, Qa, Qb, Qc, Qd, Qe, Qf, Qg, Qh, Qi, Qj, lenStr_of, Qk, Ql, Qm, Qn, Qo, Qp, Qq, Qr, Qs, dec_lt, d1]
      refine Join_direct ?_
      simp only [hge, he, Q0, Q1, Q2, Q3, Q4, Q5, Q6, Q7, Q8, Q9, Qa, Qb, Qc, Qd, Qe, Qf, Qg, Qh, Qi, Qj]
      refine ⟨fun vs H' => vs = [.bool true] ∧ H' = H2, ?_, ?_⟩
      · simp only [he2, Q0, Q1, Q2, Q3, Q4, Q5, Q6, Q7, Q8, Q9, Qa, Qb, Qc, Qd, Qe, Qf, Qg, Qh, Qi, Qj, Qk, Ql, Qm, Qn, Qo, Qp, Qq, Qr, Qs, inc_i64 (show i < 2 ^ 62 by omega), dec_lt, d2, hge2, if_true]
        refine isTsp_ok.mono ?_
        rintro x H3 ⟨rfl, rfl⟩
        rw [tsp_of hq]
        simp only [Q0, Q1, Q2, Q3, Q4, Q5, Q6, Q7, Q8, Q9, Qa, Qb, Qc, Qd, Qe, Qf, Qg, Qh, Qi, Qj, if_true, and_self]
      rintro _ H3 ⟨rfl, rfl⟩
      simp only [Q0, Q1, Q2, Q3, Q4, Q5, Q6, Q7, Q8, Q9, Qa, Qb, Qc, Qd, Qe, Qf, Qg, Qh, Qi, Qj, Qk, Ql, Qm, Qn, Qo, Qp, Qq, Qr, Qs, inc_i64 (show i < 2 ^ 62 by omega), hge2]
      refine (writeByte_ok hB (by omega)).mono ?_
      rintro _ H4 ⟨k', hB4, f4, hk4⟩
      simp only [Q0, Q1, Q2, Q3, Q4, Q5, Q6, Q7, Q8, Q9, Qa, Qb, Qc, Qd, Qe, Qf, Qg, Qh, Qi, Qj, Qk, Ql, Qm, Qn, Qo, Qp, Qq, Qr, Qs, inc_i64 (show i < 2 ^ 62 by omega), inc_i64 (show i + 1 < 2 ^ 62 by omega)]
      refine ⟨_, by omega, i + 2, d ++ [b], r, k', rfl, rfl, by rw [hdr]; simp, hdn2, hB4, f2.up f4 (fun x hx => ?_), ?_⟩
      · rcases List.mem_cons.1 hx with rfl | hx
        · exact .inr (Nat.le_refl _)
        · cases k with
          | none => simp at hx
          | some g => simp at hx; subst hx; exact .inr (hk _ rfl)
      · rcases hk4 with rfl | ⟨g, rfl, hg⟩
        · exact hk
        · intro g' hg'; cases hg'; have := f2.size; omega
    · have hdrop' : v.drop i = b :: (quoteB r ++ 34 :: q) := by
        rw [hdrop]
        simp only [quoteB, List.flatMap_cons, quote1, if_neg hq]
        rfl
      obtain ⟨hi, hg, hdn⟩ := drop_cons hdrop'
      have hge : strIndexV (strVal v) (.int .i64 i) = some (byteV b) := by rw [strIndex_of hi, hg]
      have hb92 : b ≠ 92 := fun e => hq (.inl e)
      have hb34 : b ≠ 34 := fun e => hq (.inr e)
      have hbe : ∀ (c : UInt8), b ≠ c → arithV .eql .u8 (byteV b) (.int .u8 (c.toNat : Int)) = some (.bool false) := fun c hc => by
        have := byte_beq b c
        simp only [byteV, Qk, Ql, Qm, Qn, Qo, Qp, Qq, Qr, Qs, this, Option.some.injEq, Value.bool.injEq, beq_eq_false_iff_ne]
        exact hc
      have he : arithV .eql .u8 (byteV b) (.int .u8 34) = some (.bool false) := hbe 34 hb34
      have he2 : arithV .eql .u8 (byteV b) (.int .u8 92) = some (.bool false) := hbe 92 hb92
      have he3 : arithV .eql .u8 (byteV b) (.int .u8 13) = some (.bool false) := hbe 13 (fun e => by rw [e] at hpr; revert hpr; decide)
      have he4 : arithV .eql .u8 (byteV b) (.int .u8 10) = some (.bool false) := hbe 10 (fun e => by rw [e] at hpr; revert hpr; decide)
      have d1 : decide (i < v.length) = true := by simpa using hi
      simp only [Q0, Q1, Q2, Q3, Q4, Q5, Q6, Q7, Q8, Q9, Qa, Qb, Qc, Qd, Qe, Qf, Qg, Qh, Qi, Qj, lenStr_of, Qk, Ql, Qm, Qn, Qo, Qp, Qq, Qr, Qs, dec_lt, d1]
      refine Join_direct ?_
      simp only [hge, he, Q0, Q1, Q2, Q3, Q4, Q5, Q6, Q7, Q8, Q9, Qa, Qb, Qc, Qd, Qe, Qf, Qg, Qh, Qi, Qj]
      refine ⟨fun vs H' => vs = [.bool false] ∧ H' = H2, ?_, ?_⟩
      · simp only [he2, Q0, Q1, Q2, Q3, Q4, Q5, Q6, Q7, Q8, Q9, Qa, Qb, Qc, Qd, Qe, Qf, Qg, Qh, Qi, Qj, Bool.false_eq_true, if_false, and_self]
      rintro _ H3 ⟨rfl, rfl⟩
      simp only [Q0, Q1, Q2, Q3, Q4, Q5, Q6, Q7, Q8, Q9, Qa, Qb, Qc, Qd, Qe, Qf, Qg, Qh, Qi, Qj]
      refine ⟨fun vs H' => vs = [.bool false] ∧ H' = H3, ?_, ?_⟩
      · simp only [he3, he4, Q0, Q1, Q2, Q3, Q4, Q5, Q6, Q7, Q8, Q9, Qa, Qb, Qc, Qd, Qe, Qf, Qg, Qh, Qi, Qj, Bool.false_eq_true, if_false, and_self]
      rintro _ H4 ⟨rfl, rfl⟩
      simp only [Q0, Q1, Q2, Q3, Q4, Q5, Q6, Q7, Q8, Q9, Qa, Qb, Qc, Qd, Qe, Qf, Qg, Qh, Qi, Qj, hge]
      refine (writeByte_ok hB (by omega)).mono ?_
      rintro _ H5 ⟨k', hB4, f4, hk4⟩
      simp only [Q0, Q1, Q2, Q3, Q4, Q5, Q6, Q7, Q8, Q9, Qa, Qb, Qc, Qd, Qe, Qf, Qg, Qh, Qi, Qj, Qk, Ql, Qm, Qn, Qo, Qp, Qq, Qr, Qs, inc_i64 (show i < 2 ^ 62 by omega)]
      refine ⟨_, by omega, i + 1, d ++ [b], r, k', rfl, rfl, by rw [hdr]; simp, hdn, hB4, f2.up f4 (fun x hx => ?_), ?_⟩
      · rcases List.mem_cons.1 hx with rfl | hx
        · exact .inr (Nat.le_refl _)
        · cases k with
          | none => simp at hx
          | some g => simp at hx; subst hx; exact .inr (hk _ rfl)
      · rcases hk4 with rfl | ⟨g, rfl, hg⟩
        · exact hk
        · intro g' hg'; cases hg'; have := f2.size; omega
end Go.Cps
namespace Go.Cps
open Go Go.Proofs
theorem tok_spc : ((List.range 256).all fun n => !(tokG n) || (!(spc n) && decide (n < 128))) = true := by kernel_rfl
theorem tok_nsp {b : UInt8} (h : tokG b.toNat = true) : spc b.toNat = false ∧ b.toNat < 128 := by
  have := List.all_eq_true.1 tok_spc b.toNat (List.mem_range.2 b.toNat_lt)
  rw [h] at this
  simpa using this
def parT (key l : List UInt8) : List UInt8 := 59 :: 32 :: (key ++ 61 :: 34 :: (quoteB l ++ [34]))
theorem trim0_ok {q : List UInt8} {b : UInt8} {H : Heap} (hb : spc b.toNat = false) (hb2 : b.toNat < 128) (hl : (b :: q).length < 2 ^ 40) :
    CallsH Tryz.prog 72 #[strVal (b :: q), .func (.func 73) #[] #[]] H fun x H' => x = strVal (b :: q) ∧ Frm [] H H' :=
  trimLeftS_ok (p := []) (by simp) hb hb2 (by simpa using hl)
theorem conPar_ok {key l q : List UInt8} {H : Heap} (hk : key ≠ []) (hkt : ∀ b ∈ key, tokG b.toNat = true) (hkl : lowS key = true) (hp : l.all prB = true) (hl : (parT key l ++ q).length < 2 ^ 37) :
    CallsH Tryz.prog 74 #[strVal (parT key l ++ q)] H fun x H' => x = .tuple #[strVal key, strVal l, strVal q] ∧ Frm [] H H' := by
  apply s1074
  unfold c1074
  have hv : parT key l ++ q = 59 :: 32 :: (key ++ 61 :: 34 :: (quoteB l ++ 34 :: q)) := by simp [parT]
  rw [hv] at hl ⊢
  simp only [List.length_cons, List.length_append] at hl
  refine (trim0_ok (by decide) (by decide) (by simp; omega)).mono ?_
  rintro x H1 ⟨rfl, f1⟩
  refine (cutPref_ok (l := 59 :: 32 :: (key ++ 61 :: 34 :: (quoteB l ++ 34 :: q))) (p := [59])).mono ?_
  rintro x H2 ⟨rfl, rfl⟩
  have p1 : ([59] : List UInt8).isPrefixOf (59 :: 32 :: (key ++ 61 :: 34 :: (quoteB l ++ 34 :: q))) = true := by simp [List.isPrefixOf]
  simp only [p1, if_true, Q0, Q1, Q2, Q3, Q4, Q5, Q6, Q7, Q8, Q9, Qa, Qb, Qc, Qd, Qe, Qf, Qg, Qh, Qi, Qj, List.length_singleton, List.drop_succ_cons, List.drop_zero, Bool.not_true]
  obtain ⟨b, key', rfl⟩ := List.exists_cons_of_ne_nil hk
  obtain ⟨hb1, hb2⟩ := tok_nsp (hkt b (by simp))
  refine (trimLeftS_ok (p := [32]) (b := b) (q := key' ++ 61 :: 34 :: (quoteB l ++ 34 :: q)) (by decide) hb1 hb2 (by simp at hl ⊢; omega)).mono ?_
  rintro x H2 ⟨rfl, f2⟩
  refine (conTok_ok (p := b :: key') (q := 61 :: 34 :: (quoteB l ++ 34 :: q)) hkt (fun c r hc => by cases hc; decide) (by simp at hl ⊢; omega)).mono ?_
  rintro x H3 ⟨rfl, rfl⟩
  simp only [Q0, Q1, Q2, Q3, Q4, Q5, Q6, Q7, Q8, Q9, Qa, Qb, Qc, Qd, Qe, Qf, Qg, Qh, Qi, Qj]
  refine (toLower_ok hkl (by simp at hl ⊢; omega)).mono ?_
  rintro x H4 ⟨rfl, rfl⟩
  have e0 : strV .eql (strVal (b :: key')) (.string ⟨#[]⟩) = some (.bool false) := by
    rw [show (Value.string ⟨#[]⟩) = strVal [] from rfl, strV_eql', decide_eq_false (by simp)]
  simp only [e0, Q0, Q1, Q2, Q3, Q4, Q5, Q6, Q7, Q8, Q9, Qa, Qb, Qc, Qd, Qe, Qf, Qg, Qh, Qi, Qj]
  refine (trim0_ok (by decide) (by decide) (by simp; omega)).mono ?_
  rintro x H4 ⟨rfl, f4⟩
  refine (cutPref_ok (l := 61 :: 34 :: (quoteB l ++ 34 :: q)) (p := [61])).mono ?_
  rintro x H5 ⟨rfl, rfl⟩
  have p2 : ([61] : List UInt8).isPrefixOf (61 :: 34 :: (quoteB l ++ 34 :: q)) = true := by simp [List.isPrefixOf]
  simp only [p2, if_true, Q0, Q1, Q2, Q3, Q4, Q5, Q6, Q7, Q8, Q9, Qa, Qb, Qc, Qd, Qe, Qf, Qg, Qh, Qi, Qj, List.length_singleton, List.drop_succ_cons, List.drop_zero, Bool.not_true]
  refine (trim0_ok (by decide) (by decide) (by simp; omega)).mono ?_
  rintro x H5 ⟨rfl, f5⟩
  refine (conVal_ok hp (by simp; omega)).mono ?_
  rintro x H6 ⟨rfl, f6⟩
  simp only [Q0, Q1, Q2, Q3, Q4, Q5, Q6, Q7, Q8, Q9, Qa, Qb, Qc, Qd, Qe, Qf, Qg, Qh, Qi, Qj]
  have f := (((f1.trans f2).trans f4).trans f5).trans f6
  have hne : q ≠ 34 :: (quoteB l ++ 34 :: q) := fun e => by
    have := congrArg List.length e
    simp at this
    omega
  refine ⟨fun vs H' => vs = [.bool false] ∧ H' = H6, ?_, ?_⟩
  · rw [show (Value.string ⟨#[]⟩) = strVal [] from rfl, strV_eql']
    simp only [Q0, Q1, Q2, Q3, Q4, Q5, Q6, Q7, Q8, Q9, Qa, Qb, Qc, Qd, Qe, Qf, Qg, Qh, Qi, Qj]
    refine Br_intro (fun h1 => ?_) (fun h1 => ?_)
    · simp only [strV_eql', decide_eq_false hne, Q0, Q1, Q2, Q3, Q4, Q5, Q6, Q7, Q8, Q9, Qa, Qb, Qc, Qd, Qe, Qf, Qg, Qh, Qi, Qj, if_true, and_self]
    · simp only [Q0, Q1, Q2, Q3, Q4, Q5, Q6, Q7, Q8, Q9, Qa, Qb, Qc, Qd, Qe, Qf, Qg, Qh, Qi, Qj, Bool.false_eq_true, if_false, and_self]
  · rintro _ H7 ⟨rfl, rfl⟩
    simp only [Q0, Q1, Q2, Q3, Q4, Q5, Q6, Q7, Q8, Q9, Qa, Qb, Qc, Qd, Qe, Qf, Qg, Qh, Qi, Qj]
    exact ⟨trivial, f⟩
def AscAt (H : Heap) : Prop := cellH H ⟨7, 102, none⟩ = some (.int .u8 0) ∧ cellH H ⟨7, 97, none⟩ = some (.int .u8 0)
theorem AscAt.frm {H H' : Heap} {X : List Nat} (h : AscAt H) (f : Frm X H H') (hx : 7 ∉ X) : AscAt H' := by
  have h7 : ∃ o, H[7]? = some o := by
    have := h.1
    unfold cellH at this
    cases hc : H[7]? with
    | none => simp [hc] at this
    | some o => exact ⟨o, rfl⟩
  obtain ⟨o, ho⟩ := h7
  have he : H'[7]? = H[7]? := by rw [f.get ho hx, ho]
  exact ⟨by rw [← h.1]; simp only [cellH, he], by rw [← h.2]; simp only [cellH, he]⟩
def fdT : List UInt8 := [102, 111, 114, 109, 45, 100, 97, 116, 97]
theorem trimSp_ok {H : Heap} (h : AscAt H) : CallsH Tryz.prog 69 #[strVal fdT] H fun x H' => x = strVal fdT ∧ Frm [] H H' := by
  apply s1069
  unfold c1069
  refine toBytes_of (l := fdT) fun c H1 hc hr f1 z1 => ?_
  have h1 := h.frm f1 (by simp)
  simp only [Q0, Q1, Q2, Q3, Q4, Q5, Q6, Q7, Q8, Q9, Qa, Qb, Qc, Qd, Qe, Qf, Qg, Qh, Qi, Qj]
  refine ⟨fun μ vs H2 => vs = [strVal fdT, .int .i64 0] ∧ H2 = H1, ⟨0, rfl, rfl⟩, ?_⟩
  rintro μ vs H2 ⟨rfl, rfl⟩
  have a0 : elemAddrV 1 (.slice (some ⟨H.size, 0, none⟩) fdT.length c) (.int .i64 0) = some (.pointer (some ⟨H.size, 0, none⟩)) := by
    have := elemAddr_of (b := H.size) (o := 0) (n := fdT.length) (c := c) (size := 1) (k := .i64) (i := 0) (by omega) (by decide)
    simpa using this
  have a1 : load1V (.pointer (some ⟨H.size, 0, none⟩)) H2 = some (byteV 102) := by
    rw [Qf]
    exact hr 0 (by decide)
  have a2 : arithV .geq .u8 (byteV 102) (.int .u8 128) = some (.bool false) := rfl
  have a3 : arrAddrV 256 1 (.pointer (some ⟨7, 0, none⟩)) (byteV 102) = some (.pointer (some ⟨7, 102, none⟩)) := by
    simp [arrAddrV, byteV, Addr.add]
  have a4 : load1V (.pointer (some ⟨7, 102, none⟩)) H2 = some (.int .u8 0) := by rw [Qf]; exact h1.1
  have a5 : arithV .neq .u8 (.int .u8 0) (.int .u8 0) = some (.bool false) := rfl
  have a6 : arithV .lss .i64 (.int .i64 0) (.int .i64 ((fdT.length : Nat) : Int)) = some (.bool true) := rfl
  have a7 : strSliceV (strVal fdT) (some (.int .i64 0)) none = some (strVal fdT) := strSlice_from (l := fdT) (i := 0) (by omega) .i64
  have a8 : arithV .sub .i64 (.int .i64 ((fdT.length : Nat) : Int)) (.int .i64 1) = some (.int .i64 8) := rfl
  simp only [Q0, Q1, Q2, Q3, Q4, Q5, Q6, Q7, Q8, Q9, Qa, Qb, Qc, Qd, Qe, Qf, Qg, Qh, Qi, Qj, a6]
  refine Join_direct ?_
  simp only [a0, a1, a2, a3, a4, a5, a7, a8, lenStr_of, Q0, Q1, Q2, Q3, Q4, Q5, Q6, Q7, Q8, Q9, Qa, Qb, Qc, Qd, Qe, Qf, Qg, Qh, Qi, Qj]
  refine ⟨fun μ vs H3 => vs = [.int .i64 8] ∧ H3 = H2, ⟨0, rfl, rfl⟩, ?_⟩
  rintro μ vs H3 ⟨rfl, rfl⟩
  have b0 : arithV .geq .i64 (.int .i64 8) (.int .i64 0) = some (.bool true) := rfl
  have b1 : strIndexV (strVal fdT) (.int .i64 8) = some (byteV 97) := strIndex_of (l := fdT) (i := 8) (by decide)
  have b2 : arithV .geq .u8 (byteV 97) (.int .u8 128) = some (.bool false) := rfl
  have b3 : arrAddrV 256 1 (.pointer (some ⟨7, 0, none⟩)) (byteV 97) = some (.pointer (some ⟨7, 97, none⟩)) := by
    simp [arrAddrV, byteV, Addr.add]
  have b4 : load1V (.pointer (some ⟨7, 97, none⟩)) H3 = some (.int .u8 0) := by rw [Qf]; exact h1.2
  have b5 : arithV .eql .u8 (.int .u8 0) (.int .u8 0) = some (.bool true) := rfl
  have b6 : arithV .add .i64 (.int .i64 8) (.int .i64 1) = some (.int .i64 ((9 : Nat) : Int)) := rfl
  have b7 : strSliceV (strVal fdT) none (some (.int .i64 ((9 : Nat) : Int))) = some (strVal fdT) := strSlice_to (l := fdT) (i := 9) (by decide) .i64
  simp only [Q0, Q1, Q2, Q3, Q4, Q5, Q6, Q7, Q8, Q9, Qa, Qb, Qc, Qd, Qe, Qf, Qg, Qh, Qi, Qj, b0, b1, b2, b3, b4, b5, b6, b7]
  exact ⟨trivial, f1⟩
theorem checkDisp_ok {H : Heap} : CallsH Tryz.prog 71 #[strVal fdT] H fun x H' => x = .nilIface ∧ H' = H := by
  apply s1071
  unfold c1071
  refine (conTok_ok (p := fdT) (q := []) (by decide) (by simp) (by decide)).mono ?_
  rintro x H ⟨rfl, rfl⟩
  have e0 : strV .eql (strVal fdT) (.string ⟨#[]⟩) = some (.bool false) := by
    rw [show (Value.string ⟨#[]⟩) = strVal [] from rfl, strV_eql', decide_eq_false (by decide)]
  have e1 : strV .eql (strVal []) (.string ⟨#[]⟩) = some (.bool true) := by
    rw [show (Value.string ⟨#[]⟩) = strVal [] from rfl, strV_eql']; rfl
  simp only [Q0, Q1, Q2, Q3, Q4, Q5, Q6, Q7, Q8, Q9, Qa, Qb, Qc, Qd, Qe, Qf, Qg, Qh, Qi, Qj, e0, e1]
  exact ⟨trivial, trivial⟩
end Go.Cps
