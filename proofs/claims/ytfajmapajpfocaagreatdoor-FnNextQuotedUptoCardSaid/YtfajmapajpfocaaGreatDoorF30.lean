/-
  A part of the proof: spec.Key, spec.Plain, spec.Canon. zzFits of parts; windows of slices; comparing of keys. spec.Head, spec.Good: what they tell where they are true.
  Conditions: each contract's own.
-/
import Derived.Test.YtfajmapajpfocaaGreatDoorF16
import Derived.Test.YtfajmapajpfocaaGreatDoorF21
import Derived.Test.YtfajmapajpfocaaGreatDoorF22
import Derived.Test.YtfajmapajpfocaaGreatDoorF26
import Derived.Test.YtfajmapajpfocaaGreatDoorF29
set_option linter.all false
namespace Go.Cps
open Go Go.Proofs
theorem store1V_of' {H : Heap} {b o lo hi : Nat} {cs : Array Value} {t : TypeId} (h : H[b]? = some (.cells cs t (lo, hi))) (ho : o < cs.size) (hlo : o < lo) {v : Value} (hv : isOne v = true) :
    store1V (.pointer (some ⟨b, o, none⟩)) v H = some (upd H b (.cells (cs.setIfInBounds o v) t (lo, hi))) := by
  have h1 : (cellH H ⟨b, o, none⟩).isSome = true := by rw [cellH_of h]; simp [ho]
  have h2 : frozenH H ⟨b, o, none⟩ = false := by simp [frozenH, h]; omega
  simp [store1V, storesH, hv, h1, h2, setH_eq_upd h]
def kspec : List UInt8 := [33, 35, 36, 37, 38, 39, 42, 43, 45, 46, 94, 95, 96, 124, 126]
theorem kspec_table : ((List.range 256).all fun n => (alnum n || kspec.contains (UInt8.ofNat n)) == tok n) = true := by kernel_rfl
theorem kspec_eq (b : UInt8) : (alnum b.toNat || kspec.contains b) = tok b.toNat := by
  have h := List.all_eq_true.1 kspec_table b.toNat (List.mem_range.2 b.toNat_lt)
  rw [beq_iff_eq] at h
  simpa using h
def okKey (l : List UInt8) : Bool := (l.all fun b => tok b.toNat) && decide (0 < l.length)
theorem key_ok {l : List UInt8} {H : Heap} (hl : l.length < 2 ^ 40) : CallsH Tryz.prog 76 #[strVal l] H fun x H' => x = .bool (okKey l) ∧ H' = H := by
  apply s76
  unfold c76
  refine ⟨fun n vs H' => ∃ i : Nat, vs = [.int .i64 i] ∧ n = l.length - i ∧ i ≤ l.length ∧ H' = H ∧ (l.take i).all (fun b => tok b.toNat) = true, ⟨_, 0, rfl, rfl, Nat.zero_le _, rfl, by simp⟩, ?_⟩
  rintro n vs H ⟨i, rfl, rfl, hi, rfl, hc⟩
  simp only [lenStr_of, Q0, Q1, Q2, Q3, Q4, Q5, Q6, Q7, Q8, Q9, Qa, Qb, Qc, Qd, Qe, Qf, Qg, Qh, Qi, Qj, Qk, Ql, Qm, Qn, Qo, Qp, Qq, Qr, Qs, dec_lt]
  refine Br_intro (fun hlt => ?_) (fun hlt => ?_)
  · have hlt' : i < l.length := by simpa using hlt
    have hd2 := take_all_succ (p := fun b : UInt8 => tok b.toNat) hlt' hc
    simp only [Q0, Q1, Q2, Q3, Q4, Q5, Q6, Q7, Q8, Q9, Qa, Qb, Qc, Qd, Qe, Qf, Qg, Qh, Qi, Qj, strIndex_of hlt', inc_i64 (show i < 2 ^ 62 by omega)]
    refine ⟨fun vs H' => vs = [.bool (!tok l[i].toNat)] ∧ H' = H, ?_, ?_⟩
    · rw [byteV]
      refine letter_ok.mono ?_
      rintro x H' ⟨rfl, rfl⟩
      simp only [Q0, Q1, Q2, Q3, Q4, Q5, Q6, Q7, Q8, Q9, Qa, Qb, Qc, Qd, Qe, Qf, Qg, Qh, Qi, Qj]
      have hk := kspec_eq l[i]
      refine Br_intro (fun h1 => ?_) (fun h1 => ?_)
      · refine (within_ok (l := kspec) (b := l[i]) (by decide)).mono ?_
        rintro x H' ⟨rfl, rfl⟩
        simp only [Q0, Q1, Q2, Q3, Q4, Q5, Q6, Q7, Q8, Q9, Qa, Qb, Qc, Qd, Qe, Qf, Qg, Qh, Qi, Qj, if_true, and_true]
        simp only [Bool.not_eq_true'] at h1
        rw [← hk, h1, Bool.false_or]
      · simp only [Q0, Q1, Q2, Q3, Q4, Q5, Q6, Q7, Q8, Q9, Qa, Qb, Qc, Qd, Qe, Qf, Qg, Qh, Qi, Qj, Bool.false_eq_true, if_false, and_true]
        simp only [Bool.not_eq_false'] at h1
        rw [← hk, h1, Bool.true_or]; rfl
    · rintro _ H' ⟨rfl, rfl⟩
      simp only [Q0, Q1, Q2, Q3, Q4, Q5, Q6, Q7, Q8, Q9, Qa, Qb, Qc, Qd, Qe, Qf, Qg, Qh, Qi, Qj]
      refine Br_intro (fun h1 => ?_) (fun h1 => ?_)
      · refine ⟨?_, trivial⟩
        have : okKey l = false := by
          rw [← Bool.not_eq_true]
          intro hok
          have := List.all_eq_true.1 (Bool.and_eq_true_iff.1 hok).1 _ (List.getElem_mem hlt')
          rw [this] at h1
          cases h1
        rw [this]
      · simp only [Bool.not_eq_false'] at h1
        exact ⟨_, by omega, i + 1, rfl, rfl, hlt', trivial, by rw [hd2, h1]⟩
  · have : i = l.length := by simp at hlt; omega
    rw [List.take_of_length_le (by omega)] at hc
    refine ⟨?_, trivial⟩
    rw [okKey, hc]
    simp
theorem plain_ok {l : List UInt8} {H : Heap} (hl : l.length < 2 ^ 40) : CallsH Tryz.prog 78 #[strVal l] H fun x H' => ∃ r : Bool, x = .bool r ∧ (r = true → PlainV l) ∧ H' = H := by
  apply s78
  unfold c78
  refine ⟨fun vs H' => ∃ r : Bool, vs = [.bool r] ∧ (r = true → PlainV l) ∧ H' = H, ?_, ?_⟩
  · refine (printable_ok hl).mono ?_
    rintro x H1 ⟨rfl, rfl⟩
    have hpr : l.all prB = true → ∀ b ∈ l, 32 ≤ b.toNat ∧ b.toNat ≤ 126 := fun h b hb => by simpa [prB] using List.all_eq_true.1 h b hb
    refine Br_intro (fun h1 => ?_) (fun h1 => ?_)
    · have e : strV .eql (strVal l) (.string ⟨#[]⟩) = some (.bool (decide (l = []))) := strV_eql' l []
      simp only [e, Q6]
      refine Br_intro (fun h2 => ?_) (fun h2 => ?_)
      · have h2' : l = [] := by simpa using h2
        simp only [Q0, Q1, Q2, Q3, Q4, Q5, Q6, Q7, Q8, Q9, Qa, Qb, Qc, Qd, Qe, Qf, Qg, Qh, Qi, Qj, if_true]
        exact ⟨true, rfl, fun _ => ⟨hpr h1, by simp [h2'], by simp [h2']⟩, trivial⟩
      · have h2' : l ≠ [] := by simpa using h2
        have hpos : 0 < l.length := List.length_pos_iff.2 h2'
        have e2 : IntKind.i64.wrap ((l.length : Int) - 1) = ((l.length - 1 : Nat) : Int) := by rw [wrap_i64 (by omega) (by omega)]; omega
        have e0 : strIndexV (strVal l) (.int .i64 0) = some (byteV l[0]) := strIndex_of (i := 0) hpos
        have b0 : (((l[0].toNat : Nat) : Int) == 32) = (l[0] == 32) := byte_beq _ 32
        have b1 : (((l[l.length - 1].toNat : Nat) : Int) == 32) = (l[l.length - 1] == 32) := byte_beq _ 32
        simp only [e0, Q0, Q1, Q2, Q3, Q4, Q5, Q6, Q7, Q8, Q9, Qa, Qb, Qc, Qd, Qe, Qf, Qg, Qh, Qi, Qj, Qk, Ql, Qm, Qn, Qo, Qp, Qq, Qr, Qs, byteV, b0]
        refine Br_intro (fun h3 => ?_) (fun h3 => ?_)
        · simp only [lenStr_of, Q0, Q1, Q2, Q3, Q4, Q5, Q6, Q7, Q8, Q9, Qa, Qb, Qc, Qd, Qe, Qf, Qg, Qh, Qi, Qj, Qk, Ql, Qm, Qn, Qo, Qp, Qq, Qr, Qs, e2, strIndex_of (show l.length - 1 < l.length by omega), byteV, b1, if_true]
          simp only [Bool.false_eq_true, if_false, Q0, Q1, Q2, Q3, Q4, Q5, Q6, Q7, Q8, Q9, Qa, Qb, Qc, Qd, Qe, Qf, Qg, Qh, Qi, Qj]
          refine ⟨_, rfl, fun h4 => ⟨hpr h1, ?_, ?_⟩, trivial⟩
          · rw [List.head?_eq_getElem?, List.getElem?_eq_getElem hpos]
            have h3' : ¬ ((l[0].toNat : Int) = 32) := by simpa [bne] using h3
            intro e
            rw [Option.some.inj e] at h3'
            exact h3' rfl
          · rw [List.getLast?_eq_getElem?, List.getElem?_eq_getElem (by omega)]
            have h4' : ¬ ((l[l.length - 1].toNat : Int) = 32) := by simpa [bne] using h4
            intro e
            rw [Option.some.inj e] at h4'
            exact h4' rfl
        · simp only [Q0, Q1, Q2, Q3, Q4, Q5, Q6, Q7, Q8, Q9, Qa, Qb, Qc, Qd, Qe, Qf, Qg, Qh, Qi, Qj, if_true, Bool.false_eq_true, if_false]
          exact ⟨false, rfl, fun h => (by cases h), trivial⟩
    · simp only [Q0, Q1, Q2, Q3, Q4, Q5, Q6, Q7, Q8, Q9, Qa, Qb, Qc, Qd, Qe, Qf, Qg, Qh, Qi, Qj, Bool.false_eq_true, if_false]
      exact ⟨false, rfl, fun h => (by cases h), trivial⟩
  · rintro _ H' ⟨r, rfl, h, rfl⟩
    exact ⟨r, rfl, h, rfl⟩
theorem toBytes_cells {l : List UInt8} {e : TypeId} {H : Heap} {K : Value → Heap → Prop} (h : ∀ c H' cs, l.length ≤ c → H'[H.size]? = some (.cells cs e (c, c + 1)) → cs.size = c → (∀ j, j < l.length → cs[j]? = (l[j]?).map byteV) → Frm [] H H' → H'.size = H.size + 1 → K (.slice (some ⟨H.size, 0, none⟩) l.length c) H') : ToBytes e (strVal l) H K := by
  refine ⟨_, rfl, fun c hc => ?_⟩
  rw [bstr_size] at hc ⊢
  refine h c _ _ hc (push_same _ _) (by simp; omega) (fun j hj => ?_) (Frm.push _ _ _) (by simp)
  rw [Array.getElem?_append_left (by simpa using hj)]
  simp
  rfl
theorem canon45_table : ([true, false].all fun up => (List.range 256).all fun n => (canon1 up (UInt8.ofNat n) == 45) == (UInt8.ofNat n == 45)) = true := by kernel_rfl
theorem canon45 (up : Bool) (b : UInt8) : (canon1 up b == 45) = (b == 45) := by
  have h := List.all_eq_true.1 canon45_table up (by cases up <;> simp)
  have h2 := List.all_eq_true.1 h b.toNat (List.mem_range.2 b.toNat_lt)
  rw [beq_iff_eq] at h2
  simpa using h2
theorem canon_ok {l : List UInt8} {H : Heap} (hl : l.length < 2 ^ 40) : CallsH Tryz.prog 77 #[strVal l] H fun x H' => x = strVal (canonG true l) ∧ Frm [] H H' := by
  apply s77
  unfold c77
  refine toBytes_cells fun c H1 cs hc hg hcs hrow f1 z1 => ?_
  have hln : lenV (.slice (some ⟨H.size, 0, none⟩) l.length c) = some (.int .i64 l.length) := rfl
  simp only [hln, Q6]
  generalize hgs : H.size = g at *
  refine ⟨fun n vs H' => ∃ (i : Nat) (up : Bool) (d : List UInt8) (A : Array Value), vs = [.bool up, .int .i64 i] ∧ n = l.length - i ∧ i ≤ l.length ∧ canonG true l = d ++ canonG up (l.drop i) ∧ d.length = i ∧
        H'[g]? = some (.cells A 5 (c, c + 1)) ∧ A.size = c ∧ (∀ j, j < i → A[j]? = (d[j]?).map byteV) ∧ (∀ j, i ≤ j → j < l.length → A[j]? = (l[j]?).map byteV) ∧ Frm [] H H' ∧ g < H'.size,
      ⟨_, 0, true, [], cs, rfl, rfl, Nat.zero_le _, rfl, rfl, hg, hcs, fun j hj => absurd hj (by omega), fun j _ hj => hrow j hj, f1, by omega⟩, ?_⟩
  rintro n vs H2 ⟨i, up, d, A, rfl, rfl, hi, hcan, hd, hA, hAs, hA1, hA2, f2, hgl⟩
  simp only [Q0, Q1, Q2, Q3, Q4, Q5, Q6, Q7, Q8, Q9, Qa, Qb, Qc, Qd, Qe, Qf, Qg, Qh, Qi, Qj, Qk, Ql, Qm, Qn, Qo, Qp, Qq, Qr, Qs, dec_lt]
  refine Br_intro (fun hlt => ?_) (fun hlt => ?_)
  · have hlt' : i < l.length := by simpa using hlt
    have hr2 : l.drop i = l[i] :: l.drop (i + 1) := List.drop_eq_getElem_cons hlt'
    have hAi := hA2 i (Nat.le_refl _) hlt'
    rw [List.getElem?_eq_getElem hlt'] at hAi
    generalize hb : l[i] = b at *
    have hea : elemAddrV 1 (.slice (some ⟨g, 0, none⟩) l.length c) (.int .i64 i) = some (.pointer (some ⟨g, i, none⟩)) := by
      rw [elemAddr_of (by omega) (by omega)]; simp
    have hcell : cellH H2 ⟨g, i, none⟩ = some (byteV b) := by rw [cellH_of hA, hAi]; rfl
    have hblt := b.toNat_lt
    have hci := canon1_eq up b
    have h45 : ((b.toNat : Int) == 45) = (b == 45) := byte_beq b 45
    simp only [hea, Q0, Q1, Q2, Q3, Q4, Q5, Q6, Q7, Q8, Q9, Qa, Qb, Qc, Qd, Qe, Qf, Qg, Qh, Qi, Qj, hcell, byteV]
    generalize hm : ((b.toNat : Nat) : Int) = m at *
    have hstore : ∀ (H' : Heap) (A' : Array Value) (x : Int), H'[g]? = some (.cells A' 5 (c, c + 1)) → A'.size = c → store1V (.pointer (some ⟨g, i, none⟩)) (.int .u8 x) H' = some (upd H' g (.cells (A'.setIfInBounds i (.int .u8 x)) 5 (c, c + 1))) := fun H' A' x h1 h2 => store1V_of' h1 (by omega) (by omega) rfl
    refine ⟨fun _ H' => ∃ A' : Array Value, H'[g]? = some (.cells A' 5 (c, c + 1)) ∧ A'.size = c ∧ (∀ j, j ≠ i → A'[j]? = A[j]?) ∧ A'[i]? = some (.int .u8 (if up && (decide (97 ≤ m) && decide (m ≤ 122)) then m - 32 else m)) ∧ Frm [g] H2 H' ∧ H'.size = H2.size, ?_, ?_⟩
    · refine ⟨fun vs H' => vs = [.bool (up && (decide (97 ≤ m) && decide (m ≤ 122)))] ∧ H' = H2, ?_, ?_⟩
      · cases up <;> simp only [Q0, Q1, Q2, Q3, Q4, Q5, Q6, Q7, Q8, Q9, Qa, Qb, Qc, Qd, Qe, Qf, Qg, Qh, Qi, Qj, Qk, Ql, Qm, Qn, Qo, Qp, Qq, Qr, Qs, Bool.false_eq_true, if_false, if_true]
        · simp
        · refine Br_intro (fun h1 => ?_) (fun h1 => ?_) <;> simp [h1]
      · rintro _ H2 ⟨rfl, rfl⟩
        simp only [Q0, Q1, Q2, Q3, Q4, Q5, Q6, Q7, Q8, Q9, Qa, Qb, Qc, Qd, Qe, Qf, Qg, Qh, Qi, Qj]
        refine Br_intro (fun h1 => ?_) (fun h1 => ?_)
        · have h1' : 97 ≤ m ∧ m ≤ 122 := by simp at h1; omega
          have e3 : IntKind.u8.wrap (m - 32) = m - 32 := wrap_u8 (by omega) (by omega)
          simp only [Qk, Ql, Qm, Qn, Qo, Qp, Qq, Qr, Qs, Q0, Q1, Q2, Q3, Q4, Q5, Q6, Q7, Q8, Q9, Qa, Qb, Qc, Qd, Qe, Qf, Qg, Qh, Qi, Qj, e3, hstore H2 A (m - 32) hA hAs, h1, if_true]
          refine ⟨_, upd_same hgl, by simp [hAs], fun j hj => ?_, ?_, Frm.upd _ (by simp), by simp⟩
          · rw [Array.getElem?_setIfInBounds, if_neg (fun e => hj e.symm)]
          · rw [Array.getElem?_setIfInBounds, if_pos rfl, if_pos (by omega)]
        · simp only [h1, Bool.false_eq_true, if_false]
          exact ⟨A, hA, hAs, fun _ _ => rfl, by rw [hAi, Option.map_some, byteV, hm], Frm.refl _ _, trivial⟩
    rintro _ H3 ⟨A3, hA3, hA3s, hA3o, hA3i, f3, z3⟩
    refine ⟨fun _ H' => ∃ A' : Array Value, H'[g]? = some (.cells A' 5 (c, c + 1)) ∧ A'.size = c ∧ (∀ j, j ≠ i → A'[j]? = A[j]?) ∧ A'[i]? = some (.int .u8 (canonI up m)) ∧ Frm [g] H2 H' ∧ H'.size = H2.size, ?_, ?_⟩
    · refine ⟨fun vs H' => vs = [.bool (!up && (decide (65 ≤ m) && decide (m ≤ 90)))] ∧ H' = H3, ?_, ?_⟩
      · cases up <;> simp only [Q0, Q1, Q2, Q3, Q4, Q5, Q6, Q7, Q8, Q9, Qa, Qb, Qc, Qd, Qe, Qf, Qg, Qh, Qi, Qj, Qk, Ql, Qm, Qn, Qo, Qp, Qq, Qr, Qs, Bool.false_eq_true, if_false, if_true, Bool.not_true, Bool.not_false]
        · refine Br_intro (fun h1 => ?_) (fun h1 => ?_) <;> simp [h1]
        · simp
      · rintro _ H3 ⟨rfl, rfl⟩
        simp only [Q0, Q1, Q2, Q3, Q4, Q5, Q6, Q7, Q8, Q9, Qa, Qb, Qc, Qd, Qe, Qf, Qg, Qh, Qi, Qj]
        refine Br_intro (fun h1 => ?_) (fun h1 => ?_)
        · have h1' : 65 ≤ m ∧ m ≤ 90 := by simp at h1; omega
          have hup : up = false := by simp at h1; exact h1.1
          have e3 : IntKind.u8.wrap (m + 32) = m + 32 := wrap_u8 (by omega) (by omega)
          simp only [Qk, Ql, Qm, Qn, Qo, Qp, Qq, Qr, Qs, Q0, Q1, Q2, Q3, Q4, Q5, Q6, Q7, Q8, Q9, Qa, Qb, Qc, Qd, Qe, Qf, Qg, Qh, Qi, Qj, e3, hstore H3 A3 (m + 32) hA3 hA3s]
          refine ⟨_, upd_same (by omega), by simp [hA3s], fun j hj => ?_, ?_, f3.trans (Frm.upd _ (by simp)), by simp [z3]⟩
          · rw [Array.getElem?_setIfInBounds, if_neg (fun e => hj e.symm)]; exact hA3o j hj
          · rw [Array.getElem?_setIfInBounds, if_pos rfl, if_pos (by omega), canonI, hup]
            simp [h1'.1, h1'.2]
        · refine ⟨A3, hA3, hA3s, hA3o, ?_, f3, z3⟩
          rw [hA3i, canonI, h1]
          simp
    rintro _ H4 ⟨A4, hA4, hA4s, hA4o, hA4i, f4, z4⟩
    simp only [Qk, Ql, Qm, Qn, Qo, Qp, Qq, Qr, Qs, Q0, Q1, Q2, Q3, Q4, Q5, Q6, Q7, Q8, Q9, Qa, Qb, Qc, Qd, Qe, Qf, Qg, Qh, Qi, Qj, h45, inc_i64 (show i < 2 ^ 62 by omega)]
    refine ⟨_, by omega, i + 1, b == 45, d ++ [canon1 up b], A4, rfl, rfl, hlt', ?_, by simp [hd], hA4, hA4s, fun j hj => ?_, fun j hj1 hj2 => ?_, f2.up f4 (fun x hx => by rw [List.mem_singleton] at hx; subst hx; exact .inr (by omega)), by omega⟩
    · rw [hcan, hr2, canonG, canon45]; simp
    · by_cases hji : j = i
      · subst hji
        rw [hA4i, hci, ← hd]
        simp [byteV]
      · rw [hA4o j hji, hA1 j (by omega), List.getElem?_append_left (by omega)]
    · rw [hA4o j (by omega)]
      exact hA2 j (by omega) hj2
  · have hik : i = l.length := by
      simp only [decide_eq_false_iff_not] at hlt
      omega
    subst hik
    rw [List.drop_length] at hcan
    simp only [canonG, List.append_nil] at hcan
    have hcl := canonG_length true l
    have hx : IsBytes H2 (.slice (some ⟨g, 0, none⟩) l.length c) (canonG true l) := by
      refine .inl ⟨g, 0, c, by rw [hcl], by rw [hcl]; exact hc, fun j hj => ?_⟩
      rw [hcl] at hj
      rw [cellH_of hA, Nat.zero_add, hA1 j hj, hcan]
    simp only [hx.str, Q6]
    exact ⟨rfl, f2⟩
end Go.Cps
namespace Go.Cps
open Go Go.Proofs
theorem strV_lss (a b : List UInt8) : strV .lss (strVal a) (strVal b) = some (.bool (decide (a < b))) := by
  simp only [strV, strVal, toList_mk]
  rw [bytesLess_eq]
theorem strV_geq (a b : List UInt8) : strV .geq (strVal a) (strVal b) = some (.bool (!decide (a < b))) := by
  simp only [strV, strVal, toList_mk]
  rw [bytesLess_eq]
theorem SlV.upto {α : Type} {w : Nat} {R : List Nat → Heap → α → List Value → Prop} {D : List Nat} {H : Heap} {v : Value} {l : List α} (h : SlV w R D H v l) {i : Nat} (hi : i ≤ l.length) (k : IntKind) :
    ∃ y, sliceV w v none (some (.int k i)) none = some y ∧ SlV w R D H y (l.take i) := by
  have hlen : (l.take i).length = i := by rw [List.length_take]; omega
  rcases h with ⟨b, o, c, rfl, h1, h2, h3, h4⟩ | ⟨a, rfl, rfl⟩
  · refine ⟨_, sliceV_hi (by omega) k, .inl ⟨b, o, c, by rw [hlen], by omega, h2, h3, fun j hj => ?_⟩⟩
    rw [hlen] at hj
    obtain ⟨vs, g1, g2, g3⟩ := h4 j (by omega)
    exact ⟨vs, g1, by rw [List.getElem_take]; exact g2, g3⟩
  · have : i = 0 := by simpa using hi
    subst this
    exact ⟨_, sliceV_hi (Nat.le_refl 0) k, .inr ⟨a, rfl, rfl⟩⟩
theorem head_shape {D : List Nat} {H : Heap} {p : Hdr} {vs : List Value} (h : HeadR D H p vs) : ∃ y, vs = [strVal p.1, y] ∧ StrsV D H y p.2 := h
theorem fits2_ok {D : List Nat} {H : Heap} {v : Value} {l : List (List UInt8)} (hv : StrsV D H v l) (hl : l.length < 2 ^ 40) : CallsH Tryz.prog 80 #[v] H fun x H' => isBool x ∧ Frm [] H H' := by
  apply s80
  simp only [c80, hv.len, Q0, Q1, Q2, Q3, Q4, Q5, Q6, Q7, Q8, Q9, Qa, Qb, Qc, Qd, Qe, Qf, Qg, Qh, Qi, Qj, Qk, Ql, Qm, Qn, Qo, Qp, Qq, Qr, Qs]
  refine Br_intro (fun _ => ⟨⟨_, rfl⟩, Frm.refl _ _⟩) (fun _ => ?_)
  refine ⟨fun μ vs H' => ∃ i : Nat, vs = [.int .i64 i] ∧ μ = l.length - i ∧ i ≤ l.length ∧ H' = H, ⟨_, 0, rfl, rfl, Nat.zero_le _, rfl⟩, ?_⟩
  rintro μ vs H ⟨i, rfl, rfl, hi, rfl⟩
  simp only [Q0, Q1, Q2, Q3, Q4, Q5, Q6, Q7, Q8, Q9, Qa, Qb, Qc, Qd, Qe, Qf, Qg, Qh, Qi, Qj, Qk, Ql, Qm, Qn, Qo, Qp, Qq, Qr, Qs, dec_lt]
  refine Br_intro (fun hlt => ?_) (fun hlt => ⟨⟨_, rfl⟩, Frm.refl _ _⟩)
  have hlt' : i < l.length := by simpa using hlt
  obtain ⟨a, ha, hc⟩ := strs_elem hv hlt'
  have hc' : load1V (.pointer (some a)) H = some (strVal l[i]) := hc
  simp only [ha, Q6, hc', lenStr_of, Q0, Q1, Q2, Q3, Q4, Q5, Q6, Q7, Q8, Q9, Qa, Qb, Qc, Qd, Qe, Qf, Qg, Qh, Qi, Qj, Qk, Ql, Qm, Qn, Qo, Qp, Qq, Qr, Qs]
  refine Br_intro (fun _ => ⟨⟨_, rfl⟩, Frm.refl _ _⟩) (fun _ => ?_)
  simp only [inc_i64 (show i < 2 ^ 62 by omega)]
  exact ⟨_, by omega, i + 1, rfl, rfl, hlt', trivial⟩
theorem fits6_ok {D : List Nat} {H : Heap} {p : Hdr} {vs : List Value} (h : HeadR D H p vs) (hl : p.2.length < 2 ^ 40) : CallsH Tryz.prog 54 #[.agg vs.toArray] H fun x H' => isBool x ∧ Frm [] H H' := by
  obtain ⟨y, rfl, hy⟩ := h
  apply s54
  simp only [c54, New, Value.cells]
  have f1 : Frm [] H (H.push (.cells #[strVal p.1, y] 90 (0, 0))) := Frm.push _ _ _
  have hb1 := push_same H (.cells #[strVal p.1, y] 90 (0, 0))
  generalize H.push (.cells #[strVal p.1, y] 90 (0, 0)) = H1 at *
  simp only [Q0, Q1, Q2, Q3, Q4, Q5, Q6, Q7, Q8, Q9, Qa, Qb, Qc, Qd, Qe, Qf, Qg, Qh, Qi, Qj, Qk, Ql, Qm, Qn, Qo, Qp, Qq, Qr, Qs, cellH_of hb1, lenStr_of]
  refine Br_intro (fun _ => ⟨⟨_, rfl⟩, f1⟩) (fun _ => ?_)
  refine (fits2_ok (hy.frm Qy f1 (by simp)) hl).mono ?_
  rintro x H2 ⟨⟨r, rfl⟩, f2⟩
  simp only [Q0, Q1, Q2, Q3, Q4, Q5, Q6, Q7, Q8, Q9, Qa, Qb, Qc, Qd, Qe, Qf, Qg, Qh, Qi, Qj]
  exact Br_intro (fun _ => ⟨⟨_, rfl⟩, f1.trans f2⟩) (fun _ => ⟨⟨_, rfl⟩, f1.trans f2⟩)
theorem fits5_ok {D : List Nat} {H : Heap} {v : Value} {l : List Hdr} (hv : HeadsV D H v l) (hl : l.length < 2 ^ 40) (hl2 : ∀ p ∈ l, p.2.length < 2 ^ 40) : CallsH Tryz.prog 22 #[v] H fun x H' => isBool x ∧ Frm [] H H' := by
  apply s22
  simp only [c22, hv.len, Q0, Q1, Q2, Q3, Q4, Q5, Q6, Q7, Q8, Q9, Qa, Qb, Qc, Qd, Qe, Qf, Qg, Qh, Qi, Qj, Qk, Ql, Qm, Qn, Qo, Qp, Qq, Qr, Qs]
  refine Br_intro (fun _ => ⟨⟨_, rfl⟩, Frm.refl _ _⟩) (fun _ => ?_)
  refine ⟨fun μ vs H' => ∃ i : Nat, vs = [.int .i64 i] ∧ μ = l.length - i ∧ i ≤ l.length ∧ Frm [] H H', ⟨_, 0, rfl, rfl, Nat.zero_le _, Frm.refl _ _⟩, ?_⟩
  rintro μ vs H1 ⟨i, rfl, rfl, hi, f1⟩
  simp only [Q0, Q1, Q2, Q3, Q4, Q5, Q6, Q7, Q8, Q9, Qa, Qb, Qc, Qd, Qe, Qf, Qg, Qh, Qi, Qj, Qk, Ql, Qm, Qn, Qo, Qp, Qq, Qr, Qs, dec_lt]
  refine Br_intro (fun hlt => ?_) (fun hlt => ⟨⟨_, rfl⟩, f1⟩)
  have hlt' : i < l.length := by simpa using hlt
  obtain ⟨a, vs, ha, hlo, _, hR, _⟩ := (hv.frm Qx f1 (by simp)).elem hlt'
  obtain ⟨y, rfl, hy⟩ := head_shape hR
  simp only [ha, Q6, hlo]
  refine local2' (K := fun x5 H => _) rfl hy.isOne fun H2 hb2 f2 z2 => ?_
  simp only [loadNV_of (n := 2) hb2 rfl, Q6]
  refine (fits6_ok (Qx.frm (D := D) ⟨y, rfl, hy⟩ f2 (by simp)) (hl2 _ (List.getElem_mem hlt'))).mono ?_
  rintro x H3 ⟨⟨r, rfl⟩, f3⟩
  have f13 := (f1.trans f2).trans f3
  simp only [Q0, Q1, Q2, Q3, Q4, Q5, Q6, Q7, Q8, Q9, Qa, Qb, Qc, Qd, Qe, Qf, Qg, Qh, Qi, Qj]
  refine Br_intro (fun _ => ⟨⟨_, rfl⟩, f13⟩) (fun _ => ?_)
  simp only [inc_i64 (show i < 2 ^ 62 by omega)]
  exact ⟨_, by omega, i + 1, rfl, rfl, hlt', f13⟩
theorem fits4_ok {D : List Nat} {H : Heap} {p : PartL} {vs : List Value} (h : PartR D H p vs) (hl : p.1.length < 2 ^ 40) (hl2 : ∀ q ∈ p.1, q.2.length < 2 ^ 40) : CallsH Tryz.prog 48 #[.agg vs.toArray] H fun x H' => isBool x ∧ Frm [] H H' := by
  obtain ⟨y, z, rfl, hy, hz⟩ := h
  apply s48
  simp only [c48, New, Value.cells]
  have f1 : Frm [] H (H.push (.cells #[y, z] 39 (0, 0))) := Frm.push _ _ _
  have hb1 := push_same H (.cells #[y, z] 39 (0, 0))
  generalize H.push (.cells #[y, z] 39 (0, 0)) = H1 at *
  simp only [Q0, Q1, Q2, Q3, Q4, Q5, Q6, Q7, Q8, Q9, Qa, Qb, Qc, Qd, Qe, Qf, Qg, Qh, Qi, Qj, Qk, Ql, Qm, Qn, Qo, Qp, Qq, Qr, Qs, cellH_of hb1]
  refine (fits5_ok (hy.frm Qx f1 (by simp)) hl hl2).mono ?_
  rintro x H2 ⟨⟨r, rfl⟩, f2⟩
  have hb2 := f2.get hb1 (by simp)
  simp only [Q0, Q1, Q2, Q3, Q4, Q5, Q6, Q7, Q8, Q9, Qa, Qb, Qc, Qd, Qe, Qf, Qg, Qh, Qi, Qj]
  refine Br_intro (fun _ => ⟨⟨_, rfl⟩, f1.trans f2⟩) (fun _ => ?_)
  simp only [Q0, Q1, Q2, Q3, Q4, Q5, Q6, Q7, Q8, Q9, Qa, Qb, Qc, Qd, Qe, Qf, Qg, Qh, Qi, Qj, Qk, Ql, Qm, Qn, Qo, Qp, Qq, Qr, Qs, cellH_of hb2, hz.1.len]
  exact Br_intro (fun _ => ⟨⟨_, rfl⟩, f1.trans f2⟩) (fun _ => ⟨⟨_, rfl⟩, f1.trans f2⟩)
theorem fits3_ok {D : List Nat} {H : Heap} {v : Value} {l : List PartL} (hv : PartsV D H v l) (hl : l.length < 2 ^ 40) (hl2 : ∀ p ∈ l, p.1.length < 2 ^ 40 ∧ ∀ q ∈ p.1, q.2.length < 2 ^ 40) : CallsH Tryz.prog 17 #[v] H fun x H' => isBool x ∧ Frm [] H H' := by
  apply s17
  simp only [c17, hv.len, Q0, Q1, Q2, Q3, Q4, Q5, Q6, Q7, Q8, Q9, Qa, Qb, Qc, Qd, Qe, Qf, Qg, Qh, Qi, Qj, Qk, Ql, Qm, Qn, Qo, Qp, Qq, Qr, Qs]
  refine Br_intro (fun _ => ⟨⟨_, rfl⟩, Frm.refl _ _⟩) (fun _ => ?_)
  refine ⟨fun μ vs H' => ∃ i : Nat, vs = [.int .i64 i] ∧ μ = l.length - i ∧ i ≤ l.length ∧ Frm [] H H', ⟨_, 0, rfl, rfl, Nat.zero_le _, Frm.refl _ _⟩, ?_⟩
  rintro μ vs H1 ⟨i, rfl, rfl, hi, f1⟩
  simp only [Q0, Q1, Q2, Q3, Q4, Q5, Q6, Q7, Q8, Q9, Qa, Qb, Qc, Qd, Qe, Qf, Qg, Qh, Qi, Qj, Qk, Ql, Qm, Qn, Qo, Qp, Qq, Qr, Qs, dec_lt]
  refine Br_intro (fun hlt => ?_) (fun hlt => ⟨⟨_, rfl⟩, f1⟩)
  have hlt' : i < l.length := by simpa using hlt
  obtain ⟨a, vs, ha, hlo, _, hR, _⟩ := (hv.frm Qw f1 (by simp)).elem hlt'
  obtain ⟨y, z, rfl, hy, hz⟩ := part_shape hR
  simp only [ha, Q6, hlo]
  refine local2' (K := fun x5 H => _) hy.isOne hz.isOne fun H2 hb2 f2 z2 => ?_
  simp only [loadNV_of (n := 2) hb2 rfl, Q6]
  obtain ⟨k1, k2⟩ := hl2 _ (List.getElem_mem hlt')
  refine (fits4_ok (Qw.frm (D := D) ⟨y, z, rfl, hy, hz⟩ f2 (by simp)) k1 k2).mono ?_
  rintro x H3 ⟨⟨r, rfl⟩, f3⟩
  have f13 := (f1.trans f2).trans f3
  simp only [Q0, Q1, Q2, Q3, Q4, Q5, Q6, Q7, Q8, Q9, Qa, Qb, Qc, Qd, Qe, Qf, Qg, Qh, Qi, Qj]
  refine Br_intro (fun _ => ⟨⟨_, rfl⟩, f13⟩) (fun _ => ?_)
  simp only [inc_i64 (show i < 2 ^ 62 by omega)]
  exact ⟨_, by omega, i + 1, rfl, rfl, hlt', f13⟩
end Go.Cps
namespace Go.Cps
open Go Go.Proofs
structure GoodHead (hd : List Hdr) : Prop where
  keys : ∀ p ∈ hd, okKey p.1 = true
  asc : (hd.map (·.1)).Pairwise (· < ·)
  canon : (hd.map fun p => canonG true p.1).Nodup
  ne : ∀ p ∈ hd, p.2 ≠ []
  vals : ∀ p ∈ hd, ∀ v ∈ p.2, PlainV v ∧ p.1.length + 2 + v.length ≤ 998
  few : (linesOf hd).length ≤ 100
structure GoodPart (bd : List UInt8) (p : PartL) : Prop where
  head : GoodHead p.1
  free : FreeP p.2 bd
theorem goodHead_nil : GoodHead [] := ⟨by simp, by simp, by simp, by simp, by simp, by simp [linesOf]⟩
theorem GoodHead.snoc {l : List Hdr} {p : Hdr} (h : GoodHead l) (h1 : okKey p.1 = true) (h2 : ∀ q, l.getLast? = some q → q.1 < p.1) (h3 : ∀ q ∈ l, canonG true q.1 ≠ canonG true p.1) (h4 : p.2 ≠ []) (h5 : ∀ v ∈ p.2, PlainV v ∧ p.1.length + 2 + v.length ≤ 998) (h6 : (linesOf l).length + p.2.length ≤ 100) : GoodHead (l ++ [p]) where
  keys := fun q hq => by
    rcases List.mem_append.1 hq with hq | hq
    · exact h.keys q hq
    · rw [List.mem_singleton] at hq; rw [hq]; exact h1
  asc := by
    rw [List.map_append, List.pairwise_append]
    refine ⟨h.asc, by simp, fun a ha b hb => ?_⟩
    obtain rfl : b = p.1 := by simpa using hb
    cases hl : l.getLast? with
    | none => rw [List.getLast?_eq_none_iff] at hl; rw [hl] at ha; simp at ha
    | some q =>
      have hq := h2 q hl
      obtain ⟨r, rfl⟩ := List.getLast?_eq_some_iff.1 hl
      have hasc := h.asc
      rw [List.map_append, List.pairwise_append] at hasc
      rw [List.map_append, List.mem_append] at ha
      rcases ha with ha | ha
      · exact List.lt_trans (hasc.2.2 a ha q.1 (by simp)) hq
      · obtain rfl : a = q.1 := by simpa using ha
        exact hq
  canon := by
    rw [List.map_append, List.nodup_append]
    refine ⟨h.canon, by simp, fun a ha b hb => ?_⟩
    obtain rfl : b = canonG true p.1 := by simpa using hb
    obtain ⟨q, hq, rfl⟩ := List.mem_map.1 ha
    exact h3 q hq
  ne := fun q hq => by
    rcases List.mem_append.1 hq with hq | hq
    · exact h.ne q hq
    · rw [List.mem_singleton] at hq; rw [hq]; exact h4
  vals := fun q hq => by
    rcases List.mem_append.1 hq with hq | hq
    · exact h.vals q hq
    · rw [List.mem_singleton] at hq; rw [hq]; exact h5
  few := by
    have : (linesOf (l ++ [p])).length = (linesOf l).length + p.2.length := by simp [linesOf]
    omega
theorem head_ok {v : Value} {hd : List Hdr} {H : Heap} (hv : HeadsV [] H v hd) (hl : hd.length < 2 ^ 40) (hls : ∀ p ∈ hd, p.1.length < 2 ^ 38 ∧ p.2.length < 2 ^ 38 ∧ ∀ s ∈ p.2, s.length < 2 ^ 38) :
    CallsH Tryz.prog 49 #[v] H fun x H' => ∃ r : Bool, x = .bool r ∧ (r = true → GoodHead hd) ∧ Frm [] H H' := by
  apply s49
  simp only [c49, hv.len, Q0, Q1, Q2, Q3, Q4, Q5, Q6, Q7, Q8, Q9, Qa, Qb, Qc, Qd, Qe, Qf, Qg, Qh, Qi, Qj]
  refine ⟨fun μ vs H' => ∃ i n : Nat, vs = [.int .i64 n, .int .i64 i] ∧ μ = hd.length - i ∧ i ≤ hd.length ∧ n = (linesOf (hd.take i)).length ∧ GoodHead (hd.take i) ∧ Frm [] H H', ⟨_, 0, 0, rfl, rfl, Nat.zero_le _, rfl, goodHead_nil, Frm.refl _ _⟩, ?_⟩
  rintro μ vs H1 ⟨i, n, rfl, rfl, hi, hn, hg, f1⟩
  have hn100 : n ≤ 100 := by rw [hn]; exact hg.few
  simp only [Q0, Q1, Q2, Q3, Q4, Q5, Q6, Q7, Q8, Q9, Qa, Qb, Qc, Qd, Qe, Qf, Qg, Qh, Qi, Qj, Qk, Ql, Qm, Qn, Qo, Qp, Qq, Qr, Qs, dec_lt]
  refine Br_intro (fun hlt => ?_) (fun hlt => ?_)
  · have hlt' : i < hd.length := by simpa using hlt
    obtain ⟨a, vs, ha, hlo, _, hR⟩ := hv.elem2 f1 hlt'
    obtain ⟨y, rfl, hy⟩ := head_shape hR
    obtain ⟨hl1, hl2, hl3⟩ := hls hd[i] (List.getElem_mem hlt')
    have htk : hd.take (i + 1) = hd.take i ++ [hd[i]] := List.take_succ_eq_append_getElem hlt'
    generalize hpe : hd[i] = p at *
    simp only [ha, Q6, hlo]
    refine local2' (K := fun x5 H => _) rfl hy.isOne fun H2 hb2 f2 z2 => ?_
    have f12 := f1.trans f2
    have hy2 := hy.frm Qy f12 (by simp)
    refine ⟨fun vs H' => ∃ b : Bool, vs = [.bool b] ∧ (b = false → okKey p.1 = true ∧ p.2 ≠ [] ∧ ∀ q, (hd.take i).getLast? = some q → q.1 < p.1) ∧ H' = H2, ?_, ?_⟩
    · simp only [Q0, Q1, Q2, Q3, Q4, Q5, Q6, Q7, Q8, Q9, Qa, Qb, Qc, Qd, Qe, Qf, Qg, Qh, Qi, Qj, cellH_of hb2]
      refine (key_ok (by omega)).mono ?_
      rintro x H2 ⟨rfl, rfl⟩
      simp only [Q0, Q1, Q2, Q3, Q4, Q5, Q6, Q7, Q8, Q9, Qa, Qb, Qc, Qd, Qe, Qf, Qg, Qh, Qi, Qj]
      refine Br_intro (fun h1 => ?_) (fun h1 => ?_)
      · simp only [Q0, Q1, Q2, Q3, Q4, Q5, Q6, Q7, Q8, Q9, Qa, Qb, Qc, Qd, Qe, Qf, Qg, Qh, Qi, Qj, if_true]
        exact ⟨true, rfl, fun h => (by cases h), trivial⟩
      · have h1' : okKey p.1 = true := by simpa using h1
        simp only [Q0, Q1, Q2, Q3, Q4, Q5, Q6, Q7, Q8, Q9, Qa, Qb, Qc, Qd, Qe, Qf, Qg, Qh, Qi, Qj, cellH_of hb2, hy2.len, Qk, Ql, Qm, Qn, Qo, Qp, Qq, Qr, Qs, if_true, Bool.false_eq_true, if_false]
        refine Br_intro (fun h2 => ?_) (fun h2 => ?_)
        · exact ⟨true, rfl, fun h => (by cases h), trivial⟩
        · have h2' : p.2 ≠ [] := by
            rintro e
            rw [e] at h2
            simp at h2
          have hpos0 : decide ((i : Int) > 0) = decide (0 < i) := by rw [Bool.eq_iff_iff]; simp
          simp only [Q0, Q1, Q2, Q3, Q4, Q5, Q6, Q7, Q8, Q9, Qa, Qb, Qc, Qd, Qe, Qf, Qg, Qh, Qi, Qj, Bool.false_eq_true, if_false, if_true, hpos0]
          refine Br_intro (fun h3 => ?_) (fun h3 => ?_)
          · have h3' : 0 < i := by simpa using h3
            have e1 : IntKind.i64.wrap ((i : Int) - 1) = ((i - 1 : Nat) : Int) := by rw [wrap_i64 (by omega) (by omega)]; omega
            obtain ⟨a', vs', ha', _, _, hR', hc'⟩ := (hv.frm Qx f12 (by simp)).elem (j := i - 1) (by omega)
            obtain ⟨y', rfl, _⟩ := head_shape hR'
            have hc0 := hc' 0 (by omega)
            rw [add_zero] at hc0
            have hc1 : cellH H2 (a'.add 0) = some (strVal hd[i - 1].1) := by rw [add_zero]; exact hc0
            simp only [e1, ha', Q0, Q1, Q2, Q3, Q4, Q5, Q6, Q7, Q8, Q9, Qa, Qb, Qc, Qd, Qe, Qf, Qg, Qh, Qi, Qj, hc1, strV_geq]
            refine ⟨_, rfl, fun h4 => ⟨h1', h2', fun q hq => ?_⟩, trivial⟩
            have h4' : hd[i - 1].1 < p.1 := by simpa using h4
            rw [List.getLast?_take, if_neg (by omega), List.getElem?_eq_getElem (by omega), Option.some_or] at hq
            cases hq
            exact h4'
          · have h3' : i = 0 := by simp at h3; omega
            refine ⟨false, rfl, fun _ => ⟨h1', h2', fun q hq => ?_⟩, trivial⟩
            rw [h3'] at hq
            simp at hq
    rintro _ H2 ⟨b, rfl, hb, rfl⟩
    simp only [Q0, Q1, Q2, Q3, Q4, Q5, Q6, Q7, Q8, Q9, Qa, Qb, Qc, Qd, Qe, Qf, Qg, Qh, Qi, Qj]
    refine Br_intro (fun _ => ⟨false, rfl, fun h => (by cases h), f12⟩) (fun hb0 => ?_)
    obtain ⟨k1, k2, k3⟩ := hb hb0
    obtain ⟨w, hw, hws⟩ := (hv.frm Qx f12 (by simp)).upto (i := i) (by omega) .i64
    have hwl : (hd.take i).length = i := by rw [List.length_take]; omega
    simp only [hw, Q6, hws.len]
    refine ⟨fun μ vs H' => ∃ j : Nat, vs = [.int .i64 j] ∧ μ = i - j ∧ j ≤ i ∧ Frm [] H2 H' ∧ ∀ q ∈ (hd.take i).take j, canonG true q.1 ≠ canonG true p.1, ⟨_, 0, rfl, rfl, Nat.zero_le _, Frm.refl _ _, by simp⟩, ?_⟩
    rintro μ vs H3 ⟨j, rfl, rfl, hj, f3, hcan⟩
    have hb3 := f3.get hb2 (by simp)
    simp only [Q0, Q1, Q2, Q3, Q4, Q5, Q6, Q7, Q8, Q9, Qa, Qb, Qc, Qd, Qe, Qf, Qg, Qh, Qi, Qj, Qk, Ql, Qm, Qn, Qo, Qp, Qq, Qr, Qs, dec_lt, hwl]
    refine Br_intro (fun hlt2 => ?_) (fun hlt2 => ?_)
    · have hlt2' : j < i := by simpa using hlt2
      obtain ⟨a', vs', ha', hlo', _, hR'⟩ := hws.elem2 f3 (j := j) (by omega)
      obtain ⟨y', rfl, hy'⟩ := head_shape hR'
      have hql : (hd.take i)[j].1.length < 2 ^ 38 := (hls _ (List.mem_of_mem_take (List.getElem_mem (by omega : j < (hd.take i).length)))).1
      have htk2 : (hd.take i).take (j + 1) = (hd.take i).take j ++ [(hd.take i)[j]] := List.take_succ_eq_append_getElem (by omega)
      generalize hqe : (hd.take i)[j] = q at *
      simp only [ha', Q6, hlo']
      refine local2' (K := fun x5 H => _) rfl hy'.isOne fun H4 hb4 f4 z4 => ?_
      have hb24 := f4.get hb3 (by simp)
      simp only [Q0, Q1, Q2, Q3, Q4, Q5, Q6, Q7, Q8, Q9, Qa, Qb, Qc, Qd, Qe, Qf, Qg, Qh, Qi, Qj, cellH_of hb4, cellH_of hb24]
      refine (canon_ok (by omega)).mono ?_
      rintro x H5 ⟨rfl, f5⟩
      refine ⟨⟨by rw [cellH_of (f5.get hb24 (by simp))]; rfl, trivial⟩, ?_⟩
      refine (canon_ok (by omega)).mono ?_
      rintro x H6 ⟨rfl, f6⟩
      have f36 := ((f3.trans f4).trans f5).trans f6
      simp only [strV_eql', Q6]
      refine Br_intro (fun _ => ⟨false, rfl, fun h => (by cases h), f12.trans f36⟩) (fun hne => ?_)
      have hne' : canonG true q.1 ≠ canonG true p.1 := by simpa using hne
      simp only [inc_i64 (show j < 2 ^ 62 by omega), Qk, Ql, Qm, Qn, Qo, Qp, Qq, Qr, Qs, Q0, Q1, Q2, Q3, Q4, Q5, Q6, Q7, Q8, Q9, Qa, Qb, Qc, Qd, Qe, Qf, Qg, Qh, Qi, Qj]
      refine ⟨_, by omega, j + 1, rfl, rfl, hlt2', f36, ?_⟩
      rw [htk2]
      intro q' hq'
      rcases List.mem_append.1 hq' with h | h
      · exact hcan q' h
      · rw [List.mem_singleton] at h; rw [h]; exact hne'
    · have hje : i = j := by simp at hlt2; omega
      subst hje
      rw [List.take_of_length_le (by omega)] at hcan
      have f13 := f12.trans f3
      have hy3 := hy.frm Qy f13 (by simp)
      simp only [Q0, Q1, Q2, Q3, Q4, Q5, Q6, Q7, Q8, Q9, Qa, Qb, Qc, Qd, Qe, Qf, Qg, Qh, Qi, Qj, cellH_of hb3, hy3.len]
      refine ⟨fun μ vs H' => ∃ m : Nat, vs = [.int .i64 ((n + m : Nat) : Int), .int .i64 m] ∧ μ = p.2.length - m ∧ m ≤ p.2.length ∧ n + m ≤ 100 ∧ (∀ v ∈ p.2.take m, PlainV v ∧ p.1.length + 2 + v.length ≤ 998) ∧ H' = H3, ⟨_, 0, rfl, rfl, Nat.zero_le _, hn100, by simp, rfl⟩, ?_⟩
      rintro μ vs H3 ⟨m, rfl, rfl, hm, hnm, hvs, rfl⟩
      simp only [Q0, Q1, Q2, Q3, Q4, Q5, Q6, Q7, Q8, Q9, Qa, Qb, Qc, Qd, Qe, Qf, Qg, Qh, Qi, Qj, Qk, Ql, Qm, Qn, Qo, Qp, Qq, Qr, Qs, dec_lt]
      refine Br_intro (fun hlt3 => ?_) (fun hlt3 => ?_)
      · have hlt3' : m < p.2.length := by simpa using hlt3
        obtain ⟨sa, has, hcs⟩ := strs_elem hy3 hlt3'
        have hvl := hl3 p.2[m] (List.getElem_mem hlt3')
        have htk3 : p.2.take (m + 1) = p.2.take m ++ [p.2[m]] := List.take_succ_eq_append_getElem hlt3'
        generalize hse : p.2[m] = s at *
        have hcs' : load1V (.pointer (some sa)) H3 = some (strVal s) := hcs
        simp only [has, Q6, hcs', inc_i64 (show n + m < 2 ^ 62 by omega)]
        refine ⟨fun vs H' => ∃ b : Bool, vs = [.bool b] ∧ (b = false → PlainV s ∧ p.1.length + 2 + s.length ≤ 998 ∧ n + m + 1 ≤ 100) ∧ H' = H3, ?_, ?_⟩
        · refine (plain_ok (by omega)).mono ?_
          rintro x H3 ⟨r, rfl, hr, rfl⟩
          have e2 : IntKind.i64.wrap ((p.1.length : Int) + 2) = ((p.1.length + 2 : Nat) : Int) := by rw [wrap_i64 (by omega) (by omega)]; omega
          have e3 : IntKind.i64.wrap (((p.1.length + 2 : Nat) : Int) + (s.length : Int)) = ((p.1.length + 2 + s.length : Nat) : Int) := by rw [wrap_i64 (by omega) (by omega)]; omega
          have d1 : decide (((n + m + 1 : Nat) : Int) > 100) = decide (100 < n + m + 1) := by rw [Bool.eq_iff_iff]; simp; omega
          have d2 : decide (((p.1.length + 2 + s.length : Nat) : Int) > 998) = decide (998 < p.1.length + 2 + s.length) := by rw [Bool.eq_iff_iff]; simp; omega
          simp only [Q0, Q1, Q2, Q3, Q4, Q5, Q6, Q7, Q8, Q9, Qa, Qb, Qc, Qd, Qe, Qf, Qg, Qh, Qi, Qj]
          refine Br_intro (fun h1 => ?_) (fun h1 => ?_)
          · simp only [Q0, Q1, Q2, Q3, Q4, Q5, Q6, Q7, Q8, Q9, Qa, Qb, Qc, Qd, Qe, Qf, Qg, Qh, Qi, Qj, if_true]
            exact ⟨true, rfl, fun h => (by cases h), trivial⟩
          · have h1' : r = true := by simpa using h1
            simp only [Q0, Q1, Q2, Q3, Q4, Q5, Q6, Q7, Q8, Q9, Qa, Qb, Qc, Qd, Qe, Qf, Qg, Qh, Qi, Qj, Qk, Ql, Qm, Qn, Qo, Qp, Qq, Qr, Qs, cellH_of hb3, lenStr_of, e2, e3, d1, d2, if_true, Bool.false_eq_true, if_false]
            refine Br_intro (fun h4 => ?_) (fun h4 => ?_)
            · exact ⟨true, rfl, fun h => (by cases h), trivial⟩
            · refine ⟨_, rfl, fun h5 => ⟨hr h1', ?_, ?_⟩, trivial⟩
              · simp at h4; omega
              · simp at h5; omega
        · rintro _ H3 ⟨b', rfl, hb', rfl⟩
          simp only [Q0, Q1, Q2, Q3, Q4, Q5, Q6, Q7, Q8, Q9, Qa, Qb, Qc, Qd, Qe, Qf, Qg, Qh, Qi, Qj]
          refine Br_intro (fun _ => ⟨false, rfl, fun h => (by cases h), f13⟩) (fun h6 => ?_)
          obtain ⟨q1, q2, q3⟩ := hb' h6
          simp only [inc_i64 (show m < 2 ^ 62 by omega), Qk, Ql, Qm, Qn, Qo, Qp, Qq, Qr, Qs, Q0, Q1, Q2, Q3, Q4, Q5, Q6, Q7, Q8, Q9, Qa, Qb, Qc, Qd, Qe, Qf, Qg, Qh, Qi, Qj]
          refine ⟨_, by omega, m + 1, rfl, rfl, hlt3', q3, ?_, trivial⟩
          rw [htk3]
          intro v' hv'
          rcases List.mem_append.1 hv' with h | h
          · exact hvs v' h
          · rw [List.mem_singleton] at h; rw [h]; exact ⟨q1, q2⟩
      · have hme : m = p.2.length := by simp at hlt3; omega
        subst hme
        rw [List.take_length] at hvs
        simp only [inc_i64 (show i < 2 ^ 62 by omega), Qk, Ql, Qm, Qn, Qo, Qp, Qq, Qr, Qs, Q0, Q1, Q2, Q3, Q4, Q5, Q6, Q7, Q8, Q9, Qa, Qb, Qc, Qd, Qe, Qf, Qg, Qh, Qi, Qj]
        refine ⟨_, by omega, i + 1, n + p.2.length, rfl, rfl, hlt', ?_, ?_, f13⟩
        · rw [htk]; simp [linesOf, hn]
        · rw [htk]
          exact hg.snoc k1 k3 hcan k2 hvs (by omega)
  · have : i = hd.length := by simp at hlt; omega
    subst this
    rw [List.take_length] at hg
    exact ⟨true, rfl, fun _ => hg, f1⟩
theorem good_ok {v : Value} {bd : List UInt8} {l : List PartL} {H : Heap} (hv : PartsV [] H v l) (hl : l.length < 2 ^ 40) (hbl : bd.length < 2 ^ 38)
    (hls : ∀ p ∈ l, p.2.length < 2 ^ 38 ∧ p.1.length < 2 ^ 38 ∧ ∀ q ∈ p.1, q.1.length < 2 ^ 38 ∧ q.2.length < 2 ^ 38 ∧ ∀ s ∈ q.2, s.length < 2 ^ 38) :
    CallsH Tryz.prog 18 #[v, strVal bd] H fun x H' => ∃ r : Bool, x = .bool r ∧ (r = true → (∀ p ∈ l, GoodPart bd p) ∧ BdOk bd) ∧ Frm [] H H' := by
  apply s18
  simp only [c18, hv.len, Q0, Q1, Q2, Q3, Q4, Q5, Q6, Q7, Q8, Q9, Qa, Qb, Qc, Qd, Qe, Qf, Qg, Qh, Qi, Qj]
  refine ⟨fun μ vs H' => ∃ i : Nat, vs = [.int .i64 i] ∧ μ = l.length - i ∧ i ≤ l.length ∧ Frm [] H H' ∧ ∀ p ∈ l.take i, GoodPart bd p, ⟨_, 0, rfl, rfl, Nat.zero_le _, Frm.refl _ _, by simp⟩, ?_⟩
  rintro μ vs H1 ⟨i, rfl, rfl, hi, f1, hgood⟩
  simp only [Q0, Q1, Q2, Q3, Q4, Q5, Q6, Q7, Q8, Q9, Qa, Qb, Qc, Qd, Qe, Qf, Qg, Qh, Qi, Qj, Qk, Ql, Qm, Qn, Qo, Qp, Qq, Qr, Qs, dec_lt]
  refine Br_intro (fun hlt => ?_) (fun hlt => ?_)
  · have hlt' : i < l.length := by simpa using hlt
    obtain ⟨a, vs, ha, hlo, _, hR⟩ := hv.elem2 f1 hlt'
    obtain ⟨y, z, rfl, hy, hz⟩ := part_shape hR
    obtain ⟨hl1, hl2, hl3⟩ := hls l[i] (List.getElem_mem hlt')
    have htk : l.take (i + 1) = l.take i ++ [l[i]] := List.take_succ_eq_append_getElem hlt'
    generalize hpe : l[i] = p at *
    simp only [ha, Q6, hlo]
    refine local2' (K := fun x5 H => _) hy.isOne hz.isOne fun H2 hb2 f2 z2 => ?_
    have f12 := f1.trans f2
    refine ⟨fun vs H3 => ∃ b : Bool, vs = [.bool b] ∧ (b = false → GoodPart bd p) ∧ Frm [] H H3, ?_, ?_⟩
    · simp only [Q0, Q1, Q2, Q3, Q4, Q5, Q6, Q7, Q8, Q9, Qa, Qb, Qc, Qd, Qe, Qf, Qg, Qh, Qi, Qj, cellH_of hb2]
      refine (head_ok (hy.frm Qx f12 (by simp)) (by omega) hl3).mono ?_
      rintro x H3 ⟨r, rfl, hr, f3⟩
      have f13 := f12.trans f3
      have hb3 := f3.get hb2 (by simp)
      have hz3 := hz.frm f13 (by simp)
      simp only [Q0, Q1, Q2, Q3, Q4, Q5, Q6, Q7, Q8, Q9, Qa, Qb, Qc, Qd, Qe, Qf, Qg, Qh, Qi, Qj]
      refine Br_intro (fun h1 => ?_) (fun h1 => ?_)
      · simp only [Q0, Q1, Q2, Q3, Q4, Q5, Q6, Q7, Q8, Q9, Qa, Qb, Qc, Qd, Qe, Qf, Qg, Qh, Qi, Qj, if_true]
        exact ⟨true, rfl, fun h => (by cases h), f13⟩
      · have h1' : r = true := by simpa using h1
        simp only [Q0, Q1, Q2, Q3, Q4, Q5, Q6, Q7, Q8, Q9, Qa, Qb, Qc, Qd, Qe, Qf, Qg, Qh, Qi, Qj, cellH_of hb3]
        refine (free_ok hz3.1 (fun h0 x hx => (hz3.2 h0 x hx).2) (by omega) (by omega)).mono ?_
        rintro x H4 ⟨r2, rfl, hr2, f4⟩
        simp only [Q0, Q1, Q2, Q3, Q4, Q5, Q6, Q7, Q8, Q9, Qa, Qb, Qc, Qd, Qe, Qf, Qg, Qh, Qi, Qj, Bool.false_eq_true, if_false]
        exact ⟨_, rfl, fun h2 => ⟨hr h1', hr2.1 (by simpa using h2)⟩, f13.trans f4⟩
    · rintro _ H3 ⟨b, rfl, hb, f13⟩
      simp only [Q0, Q1, Q2, Q3, Q4, Q5, Q6, Q7, Q8, Q9, Qa, Qb, Qc, Qd, Qe, Qf, Qg, Qh, Qi, Qj]
      refine Br_intro (fun _ => ⟨false, rfl, fun h => (by cases h), f13⟩) (fun hb0 => ?_)
      simp only [inc_i64 (show i < 2 ^ 62 by omega), Qk, Ql, Qm, Qn, Qo, Qp, Qq, Qr, Qs, Q0, Q1, Q2, Q3, Q4, Q5, Q6, Q7, Q8, Q9, Qa, Qb, Qc, Qd, Qe, Qf, Qg, Qh, Qi, Qj]
      refine ⟨_, by omega, i + 1, rfl, rfl, hlt', f13, ?_⟩
      rw [htk]
      intro q hq
      rcases List.mem_append.1 hq with h | h
      · exact hgood q h
      · rw [List.mem_singleton] at h; rw [h]; exact hb hb0
  · have hie : i = l.length := by simp at hlt; omega
    subst hie
    rw [List.take_length] at hgood
    refine (boundary_ok (by omega)).mono ?_
    rintro x H2 ⟨rfl, rfl⟩
    exact ⟨_, rfl, fun h => ⟨hgood, okBd_iff h⟩, f1⟩
end Go.Cps
