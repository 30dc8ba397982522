/-
  A part of the proof (its texts: L77, L78): each text says below what it proves.
  Conditions: each contract's own.
-/
import Derived.Test.YtfajmapajpfocaaGreatDoorE23
import Derived.Test.YtfajmapajpfocaaGreatDoorE26
import Derived.Test.YtfajmapajpfocaaGreatDoorE28
set_option linter.all false
/-
  spec.Head, spec.Good: what they tell where they are true.
  Conditions: short texts.
-/
namespace Go.Cps
open Go Go.Proofs

structure GoodHead (hd : List Hdr) : Prop where
  keys : ∀ p ∈ hd, okKey p.1 = true
  asc : (hd.map (·.1)).Pairwise (· < ·)
  canon : (hd.map fun p => canonG true p.1).Nodup
  ne : ∀ p ∈ hd, p.2 ≠ []
  vals : ∀ p ∈ hd, ∀ v ∈ p.2, PlainV v ∧ p.1.length + 2 + v.length ≤ 998
  few : (linesOf hd).length ≤ 100
structure GoodPart (bd : List UInt8) (p : PartL) : Prop where
  head : GoodHead p.1
  free : FreeP p.2 bd

theorem goodHead_nil : GoodHead [] := ⟨by simp, by simp, by simp, by simp, by simp, by simp [linesOf]⟩
theorem GoodHead.snoc {l : List Hdr} {p : Hdr} (h : GoodHead l) (h1 : okKey p.1 = true) (h2 : ∀ q, l.getLast? = some q → q.1 < p.1) (h3 : ∀ q ∈ l, canonG true q.1 ≠ canonG true p.1) (h4 : p.2 ≠ []) (h5 : ∀ v ∈ p.2, PlainV v ∧ p.1.length + 2 + v.length ≤ 998) (h6 : (linesOf l).length + p.2.length ≤ 100) : GoodHead (l ++ [p]) where
  keys := fun q hq => by
    rcases List.mem_append.1 hq with hq | hq
    · exact h.keys q hq
    · rw [List.mem_singleton] at hq; rw [hq]; exact h1
  asc := by
    rw [List.map_append, List.pairwise_append]
    refine ⟨h.asc, by simp, fun a ha b hb => ?_⟩
    obtain rfl : b = p.1 := by simpa using hb
    cases hl : l.getLast? with
    | none => rw [List.getLast?_eq_none_iff] at hl; rw [hl] at ha; simp at ha
    | some q =>
      have hq := h2 q hl
      obtain ⟨r, rfl⟩ := List.getLast?_eq_some_iff.1 hl
      have hasc := h.asc
      rw [List.map_append, List.pairwise_append] at hasc
      rw [List.map_append, List.mem_append] at ha
      rcases ha with ha | ha
      · exact List.lt_trans (hasc.2.2 a ha q.1 (by simp)) hq
      · obtain rfl : a = q.1 := by simpa using ha
        exact hq
  canon := by
    rw [List.map_append, List.nodup_append]
    refine ⟨h.canon, by simp, fun a ha b hb => ?_⟩
    obtain rfl : b = canonG true p.1 := by simpa using hb
    obtain ⟨q, hq, rfl⟩ := List.mem_map.1 ha
    exact h3 q hq
  ne := fun q hq => by
    rcases List.mem_append.1 hq with hq | hq
    · exact h.ne q hq
    · rw [List.mem_singleton] at hq; rw [hq]; exact h4
  vals := fun q hq => by
    rcases List.mem_append.1 hq with hq | hq
    · exact h.vals q hq
    · rw [List.mem_singleton] at hq; rw [hq]; exact h5
  few := by
    have : (linesOf (l ++ [p])).length = (linesOf l).length + p.2.length := by simp [linesOf]
    omega

theorem head_ok {v : Value} {hd : List Hdr} {H : Heap} (hv : HeadsV [] H v hd) (hl : hd.length < 2 ^ 40) (hls : ∀ p ∈ hd, p.1.length < 2 ^ 38 ∧ p.2.length < 2 ^ 38 ∧ ∀ s ∈ p.2, s.length < 2 ^ 38) :
    CallsH Tryz.prog 49 #[v] H fun x H' => ∃ r : Bool, x = .bool r ∧ (r = true → GoodHead hd) ∧ Frm [] H H' := by
  apply s49
  simp only [c49, hv.len, Fld_ptr, add_mk, Nat.zero_add, List.getElem?_toArray, List.getElem?_cons_succ, List.getElem?_cons_zero, Get_some, Br_true, Br_false, nth_zero, nth_one, nth_two, extractV_tuple, fieldAddrV_ptr, nilV_ptr, load1V_ptr, pickV_bool, unV_not, lenV_slice, capV_slice]
  refine ⟨fun μ vs H' => ∃ i n : Nat, vs = [.int .i64 n, .int .i64 i] ∧ μ = hd.length - i ∧ i ≤ hd.length ∧ n = (linesOf (hd.take i)).length ∧ GoodHead (hd.take i) ∧ Frm [] H H', ⟨_, 0, 0, rfl, rfl, Nat.zero_le _, rfl, goodHead_nil, Frm.refl _ _⟩, ?_⟩
  rintro μ vs H1 ⟨i, n, rfl, rfl, hi, hn, hg, f1⟩
  have hn100 : n ≤ 100 := by rw [hn]; exact hg.few
  simp only [Fld_ptr, add_mk, Nat.zero_add, List.getElem?_toArray, List.getElem?_cons_succ, List.getElem?_cons_zero, Get_some, Br_true, Br_false, nth_zero, nth_one, nth_two, extractV_tuple, fieldAddrV_ptr, nilV_ptr, load1V_ptr, pickV_bool, unV_not, lenV_slice, capV_slice, arithV_add, arithV_sub, arithV_eql, arithV_neq, arithV_lss, arithV_leq, arithV_gtr, arithV_geq, intConvV_int, dec_lt]
  refine Br_intro (fun hlt => ?_) (fun hlt => ?_)
  · have hlt' : i < hd.length := by simpa using hlt
    obtain ⟨a, vs, ha, hlo, _, hR⟩ := hv.elem2 f1 hlt'
    obtain ⟨y, rfl, hy⟩ := head_shape hR
    obtain ⟨hl1, hl2, hl3⟩ := hls hd[i] (List.getElem_mem hlt')
    have htk : hd.take (i + 1) = hd.take i ++ [hd[i]] := List.take_succ_eq_append_getElem hlt'
    generalize hpe : hd[i] = p at *
    simp only [ha, Get_some, hlo]
    refine local2' (K := fun x5 H => _) rfl hy.isOne fun H2 hb2 f2 z2 => ?_
    have f12 := f1.trans f2
    have hy2 := hy.frm strR_ok f12 (by simp)
    refine ⟨fun vs H' => ∃ b : Bool, vs = [.bool b] ∧ (b = false → okKey p.1 = true ∧ p.2 ≠ [] ∧ ∀ q, (hd.take i).getLast? = some q → q.1 < p.1) ∧ H' = H2, ?_, ?_⟩
    · simp only [Fld_ptr, add_mk, Nat.zero_add, List.getElem?_toArray, List.getElem?_cons_succ, List.getElem?_cons_zero, Get_some, Br_true, Br_false, nth_zero, nth_one, nth_two, extractV_tuple, fieldAddrV_ptr, nilV_ptr, load1V_ptr, pickV_bool, unV_not, lenV_slice, capV_slice, cellH_of hb2]
      refine (key_ok (by omega)).mono ?_
      rintro x H2 ⟨rfl, rfl⟩
      simp only [Fld_ptr, add_mk, Nat.zero_add, List.getElem?_toArray, List.getElem?_cons_succ, List.getElem?_cons_zero, Get_some, Br_true, Br_false, nth_zero, nth_one, nth_two, extractV_tuple, fieldAddrV_ptr, nilV_ptr, load1V_ptr, pickV_bool, unV_not, lenV_slice, capV_slice]
      refine Br_intro (fun h1 => ?_) (fun h1 => ?_)
      · simp only [Fld_ptr, add_mk, Nat.zero_add, List.getElem?_toArray, List.getElem?_cons_succ, List.getElem?_cons_zero, Get_some, Br_true, Br_false, nth_zero, nth_one, nth_two, extractV_tuple, fieldAddrV_ptr, nilV_ptr, load1V_ptr, pickV_bool, unV_not, lenV_slice, capV_slice, if_true]
        exact ⟨true, rfl, fun h => (by cases h), trivial⟩
      · have h1' : okKey p.1 = true := by simpa using h1
        simp only [Fld_ptr, add_mk, Nat.zero_add, List.getElem?_toArray, List.getElem?_cons_succ, List.getElem?_cons_zero, Get_some, Br_true, Br_false, nth_zero, nth_one, nth_two, extractV_tuple, fieldAddrV_ptr, nilV_ptr, load1V_ptr, pickV_bool, unV_not, lenV_slice, capV_slice, cellH_of hb2, hy2.len, arithV_add, arithV_sub, arithV_eql, arithV_neq, arithV_lss, arithV_leq, arithV_gtr, arithV_geq, intConvV_int, if_true, Bool.false_eq_true, if_false]
        refine Br_intro (fun h2 => ?_) (fun h2 => ?_)
        · exact ⟨true, rfl, fun h => (by cases h), trivial⟩
        · have h2' : p.2 ≠ [] := by
            rintro e
            rw [e] at h2
            simp at h2
          have hpos0 : decide ((i : Int) > 0) = decide (0 < i) := by rw [Bool.eq_iff_iff]; simp
          simp only [Fld_ptr, add_mk, Nat.zero_add, List.getElem?_toArray, List.getElem?_cons_succ, List.getElem?_cons_zero, Get_some, Br_true, Br_false, nth_zero, nth_one, nth_two, extractV_tuple, fieldAddrV_ptr, nilV_ptr, load1V_ptr, pickV_bool, unV_not, lenV_slice, capV_slice, Bool.false_eq_true, if_false, if_true, hpos0]
          refine Br_intro (fun h3 => ?_) (fun h3 => ?_)
          · have h3' : 0 < i := by simpa using h3
            have e1 : IntKind.i64.wrap ((i : Int) - 1) = ((i - 1 : Nat) : Int) := by rw [wrap_i64 (by omega) (by omega)]; omega
            obtain ⟨a', vs', ha', _, _, hR', hc'⟩ := (hv.frm headR_ok f12 (by simp)).elem (j := i - 1) (by omega)
            obtain ⟨y', rfl, _⟩ := head_shape hR'
            have hc0 := hc' 0 (by omega)
            rw [add_zero] at hc0
            have hc1 : cellH H2 (a'.add 0) = some (strVal hd[i - 1].1) := by rw [add_zero]; exact hc0
            simp only [e1, ha', Fld_ptr, add_mk, Nat.zero_add, List.getElem?_toArray, List.getElem?_cons_succ, List.getElem?_cons_zero, Get_some, Br_true, Br_false, nth_zero, nth_one, nth_two, extractV_tuple, fieldAddrV_ptr, nilV_ptr, load1V_ptr, pickV_bool, unV_not, lenV_slice, capV_slice, hc1, strV_geq]
            refine ⟨_, rfl, fun h4 => ⟨h1', h2', fun q hq => ?_⟩, trivial⟩
            have h4' : hd[i - 1].1 < p.1 := by simpa using h4
            rw [List.getLast?_take, if_neg (by omega), List.getElem?_eq_getElem (by omega), Option.some_or] at hq
            cases hq
            exact h4'
          · have h3' : i = 0 := by simp at h3; omega
            refine ⟨false, rfl, fun _ => ⟨h1', h2', fun q hq => ?_⟩, trivial⟩
            rw [h3'] at hq
            simp at hq
    rintro _ H2 ⟨b, rfl, hb, rfl⟩
    simp only [Fld_ptr, add_mk, Nat.zero_add, List.getElem?_toArray, List.getElem?_cons_succ, List.getElem?_cons_zero, Get_some, Br_true, Br_false, nth_zero, nth_one, nth_two, extractV_tuple, fieldAddrV_ptr, nilV_ptr, load1V_ptr, pickV_bool, unV_not, lenV_slice, capV_slice]
    refine Br_intro (fun _ => ⟨false, rfl, fun h => (by cases h), f12⟩) (fun hb0 => ?_)
    obtain ⟨k1, k2, k3⟩ := hb hb0
    obtain ⟨w, hw, hws⟩ := (hv.frm headR_ok f12 (by simp)).upto (i := i) (by omega) .i64
    have hwl : (hd.take i).length = i := by rw [List.length_take]; omega
    simp only [hw, Get_some, hws.len]
    refine ⟨fun μ vs H' => ∃ j : Nat, vs = [.int .i64 j] ∧ μ = i - j ∧ j ≤ i ∧ Frm [] H2 H' ∧ ∀ q ∈ (hd.take i).take j, canonG true q.1 ≠ canonG true p.1, ⟨_, 0, rfl, rfl, Nat.zero_le _, Frm.refl _ _, by simp⟩, ?_⟩
    rintro μ vs H3 ⟨j, rfl, rfl, hj, f3, hcan⟩
    have hb3 := f3.get hb2 (by simp)
    simp only [Fld_ptr, add_mk, Nat.zero_add, List.getElem?_toArray, List.getElem?_cons_succ, List.getElem?_cons_zero, Get_some, Br_true, Br_false, nth_zero, nth_one, nth_two, extractV_tuple, fieldAddrV_ptr, nilV_ptr, load1V_ptr, pickV_bool, unV_not, lenV_slice, capV_slice, arithV_add, arithV_sub, arithV_eql, arithV_neq, arithV_lss, arithV_leq, arithV_gtr, arithV_geq, intConvV_int, dec_lt, hwl]
    refine Br_intro (fun hlt2 => ?_) (fun hlt2 => ?_)
    · have hlt2' : j < i := by simpa using hlt2
      obtain ⟨a', vs', ha', hlo', _, hR'⟩ := hws.elem2 f3 (j := j) (by omega)
      obtain ⟨y', rfl, hy'⟩ := head_shape hR'
      have hql : (hd.take i)[j].1.length < 2 ^ 38 := (hls _ (List.mem_of_mem_take (List.getElem_mem (by omega : j < (hd.take i).length)))).1
      have htk2 : (hd.take i).take (j + 1) = (hd.take i).take j ++ [(hd.take i)[j]] := List.take_succ_eq_append_getElem (by omega)
      generalize hqe : (hd.take i)[j] = q at *
      simp only [ha', Get_some, hlo']
      refine local2' (K := fun x5 H => _) rfl hy'.isOne fun H4 hb4 f4 z4 => ?_
      have hb24 := f4.get hb3 (by simp)
      simp only [Fld_ptr, add_mk, Nat.zero_add, List.getElem?_toArray, List.getElem?_cons_succ, List.getElem?_cons_zero, Get_some, Br_true, Br_false, nth_zero, nth_one, nth_two, extractV_tuple, fieldAddrV_ptr, nilV_ptr, load1V_ptr, pickV_bool, unV_not, lenV_slice, capV_slice, cellH_of hb4, cellH_of hb24]
      refine (canon_ok (by omega)).mono ?_
      rintro x H5 ⟨rfl, f5⟩
      refine ⟨⟨by rw [cellH_of (f5.get hb24 (by simp))]; rfl, trivial⟩, ?_⟩
      refine (canon_ok (by omega)).mono ?_
      rintro x H6 ⟨rfl, f6⟩
      have f36 := ((f3.trans f4).trans f5).trans f6
      simp only [strV_eql', Get_some]
      refine Br_intro (fun _ => ⟨false, rfl, fun h => (by cases h), f12.trans f36⟩) (fun hne => ?_)
      have hne' : canonG true q.1 ≠ canonG true p.1 := by simpa using hne
      simp only [inc_i64 (show j < 2 ^ 62 by omega), arithV_add, arithV_sub, arithV_eql, arithV_neq, arithV_lss, arithV_leq, arithV_gtr, arithV_geq, intConvV_int, Fld_ptr, add_mk, Nat.zero_add, List.getElem?_toArray, List.getElem?_cons_succ, List.getElem?_cons_zero, Get_some, Br_true, Br_false, nth_zero, nth_one, nth_two, extractV_tuple, fieldAddrV_ptr, nilV_ptr, load1V_ptr, pickV_bool, unV_not, lenV_slice, capV_slice]
      refine ⟨_, by omega, j + 1, rfl, rfl, hlt2', f36, ?_⟩
      rw [htk2]
      intro q' hq'
      rcases List.mem_append.1 hq' with h | h
      · exact hcan q' h
      · rw [List.mem_singleton] at h; rw [h]; exact hne'
    · have hje : i = j := by simp at hlt2; omega
      subst hje
      rw [List.take_of_length_le (by omega)] at hcan
      have f13 := f12.trans f3
      have hy3 := hy.frm strR_ok f13 (by simp)
      simp only [Fld_ptr, add_mk, Nat.zero_add, List.getElem?_toArray, List.getElem?_cons_succ, List.getElem?_cons_zero, Get_some, Br_true, Br_false, nth_zero, nth_one, nth_two, extractV_tuple, fieldAddrV_ptr, nilV_ptr, load1V_ptr, pickV_bool, unV_not, lenV_slice, capV_slice, cellH_of hb3, hy3.len]
      refine ⟨fun μ vs H' => ∃ m : Nat, vs = [.int .i64 ((n + m : Nat) : Int), .int .i64 m] ∧ μ = p.2.length - m ∧ m ≤ p.2.length ∧ n + m ≤ 100 ∧ (∀ v ∈ p.2.take m, PlainV v ∧ p.1.length + 2 + v.length ≤ 998) ∧ H' = H3, ⟨_, 0, rfl, rfl, Nat.zero_le _, hn100, by simp, rfl⟩, ?_⟩
      rintro μ vs H3 ⟨m, rfl, rfl, hm, hnm, hvs, rfl⟩
      simp only [Fld_ptr, add_mk, Nat.zero_add, List.getElem?_toArray, List.getElem?_cons_succ, List.getElem?_cons_zero, Get_some, Br_true, Br_false, nth_zero, nth_one, nth_two, extractV_tuple, fieldAddrV_ptr, nilV_ptr, load1V_ptr, pickV_bool, unV_not, lenV_slice, capV_slice, arithV_add, arithV_sub, arithV_eql, arithV_neq, arithV_lss, arithV_leq, arithV_gtr, arithV_geq, intConvV_int, dec_lt]
      refine Br_intro (fun hlt3 => ?_) (fun hlt3 => ?_)
      · have hlt3' : m < p.2.length := by simpa using hlt3
        obtain ⟨sa, has, hcs⟩ := strs_elem hy3 hlt3'
        have hvl := hl3 p.2[m] (List.getElem_mem hlt3')
        have htk3 : p.2.take (m + 1) = p.2.take m ++ [p.2[m]] := List.take_succ_eq_append_getElem hlt3'
        generalize hse : p.2[m] = s at *
        have hcs' : load1V (.pointer (some sa)) H3 = some (strVal s) := hcs
        simp only [has, Get_some, hcs', inc_i64 (show n + m < 2 ^ 62 by omega)]
        refine ⟨fun vs H' => ∃ b : Bool, vs = [.bool b] ∧ (b = false → PlainV s ∧ p.1.length + 2 + s.length ≤ 998 ∧ n + m + 1 ≤ 100) ∧ H' = H3, ?_, ?_⟩
        · refine (plain_ok (by omega)).mono ?_
          rintro x H3 ⟨r, rfl, hr, rfl⟩
          have e2 : IntKind.i64.wrap ((p.1.length : Int) + 2) = ((p.1.length + 2 : Nat) : Int) := by rw [wrap_i64 (by omega) (by omega)]; omega
          have e3 : IntKind.i64.wrap (((p.1.length + 2 : Nat) : Int) + (s.length : Int)) = ((p.1.length + 2 + s.length : Nat) : Int) := by rw [wrap_i64 (by omega) (by omega)]; omega
          have d1 : decide (((n + m + 1 : Nat) : Int) > 100) = decide (100 < n + m + 1) := by rw [Bool.eq_iff_iff]; simp; omega
          have d2 : decide (((p.1.length + 2 + s.length : Nat) : Int) > 998) = decide (998 < p.1.length + 2 + s.length) := by rw [Bool.eq_iff_iff]; simp; omega
          simp only [Fld_ptr, add_mk, Nat.zero_add, List.getElem?_toArray, List.getElem?_cons_succ, List.getElem?_cons_zero, Get_some, Br_true, Br_false, nth_zero, nth_one, nth_two, extractV_tuple, fieldAddrV_ptr, nilV_ptr, load1V_ptr, pickV_bool, unV_not, lenV_slice, capV_slice]
          refine Br_intro (fun h1 => ?_) (fun h1 => ?_)
          · simp only [Fld_ptr, add_mk, Nat.zero_add, List.getElem?_toArray, List.getElem?_cons_succ, List.getElem?_cons_zero, Get_some, Br_true, Br_false, nth_zero, nth_one, nth_two, extractV_tuple, fieldAddrV_ptr, nilV_ptr, load1V_ptr, pickV_bool, unV_not, lenV_slice, capV_slice, if_true]
            exact ⟨true, rfl, fun h => (by cases h), trivial⟩
          · have h1' : r = true := by simpa using h1
            simp only [Fld_ptr, add_mk, Nat.zero_add, List.getElem?_toArray, List.getElem?_cons_succ, List.getElem?_cons_zero, Get_some, Br_true, Br_false, nth_zero, nth_one, nth_two, extractV_tuple, fieldAddrV_ptr, nilV_ptr, load1V_ptr, pickV_bool, unV_not, lenV_slice, capV_slice, arithV_add, arithV_sub, arithV_eql, arithV_neq, arithV_lss, arithV_leq, arithV_gtr, arithV_geq, intConvV_int, cellH_of hb3, lenStr_of, e2, e3, d1, d2, if_true, Bool.false_eq_true, if_false]
            refine Br_intro (fun h4 => ?_) (fun h4 => ?_)
            · exact ⟨true, rfl, fun h => (by cases h), trivial⟩
            · refine ⟨_, rfl, fun h5 => ⟨hr h1', ?_, ?_⟩, trivial⟩
              · simp at h4; omega
              · simp at h5; omega
        · rintro _ H3 ⟨b', rfl, hb', rfl⟩
          simp only [Fld_ptr, add_mk, Nat.zero_add, List.getElem?_toArray, List.getElem?_cons_succ, List.getElem?_cons_zero, Get_some, Br_true, Br_false, nth_zero, nth_one, nth_two, extractV_tuple, fieldAddrV_ptr, nilV_ptr, load1V_ptr, pickV_bool, unV_not, lenV_slice, capV_slice]
          refine Br_intro (fun _ => ⟨false, rfl, fun h => (by cases h), f13⟩) (fun h6 => ?_)
          obtain ⟨q1, q2, q3⟩ := hb' h6
          simp only [inc_i64 (show m < 2 ^ 62 by omega), arithV_add, arithV_sub, arithV_eql, arithV_neq, arithV_lss, arithV_leq, arithV_gtr, arithV_geq, intConvV_int, Fld_ptr, add_mk, Nat.zero_add, List.getElem?_toArray, List.getElem?_cons_succ, List.getElem?_cons_zero, Get_some, Br_true, Br_false, nth_zero, nth_one, nth_two, extractV_tuple, fieldAddrV_ptr, nilV_ptr, load1V_ptr, pickV_bool, unV_not, lenV_slice, capV_slice]
          refine ⟨_, by omega, m + 1, rfl, rfl, hlt3', q3, ?_, trivial⟩
          rw [htk3]
          intro v' hv'
          rcases List.mem_append.1 hv' with h | h
          · exact hvs v' h
          · rw [List.mem_singleton] at h; rw [h]; exact ⟨q1, q2⟩
      · have hme : m = p.2.length := by simp at hlt3; omega
        subst hme
        rw [List.take_length] at hvs
        simp only [inc_i64 (show i < 2 ^ 62 by omega), arithV_add, arithV_sub, arithV_eql, arithV_neq, arithV_lss, arithV_leq, arithV_gtr, arithV_geq, intConvV_int, Fld_ptr, add_mk, Nat.zero_add, List.getElem?_toArray, List.getElem?_cons_succ, List.getElem?_cons_zero, Get_some, Br_true, Br_false, nth_zero, nth_one, nth_two, extractV_tuple, fieldAddrV_ptr, nilV_ptr, load1V_ptr, pickV_bool, unV_not, lenV_slice, capV_slice]
        refine ⟨_, by omega, i + 1, n + p.2.length, rfl, rfl, hlt', ?_, ?_, f13⟩
        · rw [htk]; simp [linesOf, hn]
        · rw [htk]
          exact hg.snoc k1 k3 hcan k2 hvs (by omega)
  · have : i = hd.length := by simp at hlt; omega
    subst this
    rw [List.take_length] at hg
    exact ⟨true, rfl, fun _ => hg, f1⟩

theorem good_ok {v : Value} {bd : List UInt8} {l : List PartL} {H : Heap} (hv : PartsV [] H v l) (hl : l.length < 2 ^ 40) (hbl : bd.length < 2 ^ 38)
    (hls : ∀ p ∈ l, p.2.length < 2 ^ 38 ∧ p.1.length < 2 ^ 38 ∧ ∀ q ∈ p.1, q.1.length < 2 ^ 38 ∧ q.2.length < 2 ^ 38 ∧ ∀ s ∈ q.2, s.length < 2 ^ 38) :
    CallsH Tryz.prog 18 #[v, strVal bd] H fun x H' => ∃ r : Bool, x = .bool r ∧ (r = true → (∀ p ∈ l, GoodPart bd p) ∧ BdOk bd) ∧ Frm [] H H' := by
  apply s18
  simp only [c18, hv.len, Fld_ptr, add_mk, Nat.zero_add, List.getElem?_toArray, List.getElem?_cons_succ, List.getElem?_cons_zero, Get_some, Br_true, Br_false, nth_zero, nth_one, nth_two, extractV_tuple, fieldAddrV_ptr, nilV_ptr, load1V_ptr, pickV_bool, unV_not, lenV_slice, capV_slice]
  refine ⟨fun μ vs H' => ∃ i : Nat, vs = [.int .i64 i] ∧ μ = l.length - i ∧ i ≤ l.length ∧ Frm [] H H' ∧ ∀ p ∈ l.take i, GoodPart bd p, ⟨_, 0, rfl, rfl, Nat.zero_le _, Frm.refl _ _, by simp⟩, ?_⟩
  rintro μ vs H1 ⟨i, rfl, rfl, hi, f1, hgood⟩
  simp only [Fld_ptr, add_mk, Nat.zero_add, List.getElem?_toArray, List.getElem?_cons_succ, List.getElem?_cons_zero, Get_some, Br_true, Br_false, nth_zero, nth_one, nth_two, extractV_tuple, fieldAddrV_ptr, nilV_ptr, load1V_ptr, pickV_bool, unV_not, lenV_slice, capV_slice, arithV_add, arithV_sub, arithV_eql, arithV_neq, arithV_lss, arithV_leq, arithV_gtr, arithV_geq, intConvV_int, dec_lt]
  refine Br_intro (fun hlt => ?_) (fun hlt => ?_)
  · have hlt' : i < l.length := by simpa using hlt
    obtain ⟨a, vs, ha, hlo, _, hR⟩ := hv.elem2 f1 hlt'
    obtain ⟨y, z, rfl, hy, hz⟩ := part_shape hR
    obtain ⟨hl1, hl2, hl3⟩ := hls l[i] (List.getElem_mem hlt')
    have htk : l.take (i + 1) = l.take i ++ [l[i]] := List.take_succ_eq_append_getElem hlt'
    generalize hpe : l[i] = p at *
    simp only [ha, Get_some, hlo]
    refine local2' (K := fun x5 H => _) hy.isOne hz.isOne fun H2 hb2 f2 z2 => ?_
    have f12 := f1.trans f2
    refine ⟨fun vs H3 => ∃ b : Bool, vs = [.bool b] ∧ (b = false → GoodPart bd p) ∧ Frm [] H H3, ?_, ?_⟩
    · simp only [Fld_ptr, add_mk, Nat.zero_add, List.getElem?_toArray, List.getElem?_cons_succ, List.getElem?_cons_zero, Get_some, Br_true, Br_false, nth_zero, nth_one, nth_two, extractV_tuple, fieldAddrV_ptr, nilV_ptr, load1V_ptr, pickV_bool, unV_not, lenV_slice, capV_slice, cellH_of hb2]
      refine (head_ok (hy.frm headR_ok f12 (by simp)) (by omega) hl3).mono ?_
      rintro x H3 ⟨r, rfl, hr, f3⟩
      have f13 := f12.trans f3
      have hb3 := f3.get hb2 (by simp)
      have hz3 := hz.frm f13 (by simp)
      simp only [Fld_ptr, add_mk, Nat.zero_add, List.getElem?_toArray, List.getElem?_cons_succ, List.getElem?_cons_zero, Get_some, Br_true, Br_false, nth_zero, nth_one, nth_two, extractV_tuple, fieldAddrV_ptr, nilV_ptr, load1V_ptr, pickV_bool, unV_not, lenV_slice, capV_slice]
      refine Br_intro (fun h1 => ?_) (fun h1 => ?_)
      · simp only [Fld_ptr, add_mk, Nat.zero_add, List.getElem?_toArray, List.getElem?_cons_succ, List.getElem?_cons_zero, Get_some, Br_true, Br_false, nth_zero, nth_one, nth_two, extractV_tuple, fieldAddrV_ptr, nilV_ptr, load1V_ptr, pickV_bool, unV_not, lenV_slice, capV_slice, if_true]
        exact ⟨true, rfl, fun h => (by cases h), f13⟩
      · have h1' : r = true := by simpa using h1
        simp only [Fld_ptr, add_mk, Nat.zero_add, List.getElem?_toArray, List.getElem?_cons_succ, List.getElem?_cons_zero, Get_some, Br_true, Br_false, nth_zero, nth_one, nth_two, extractV_tuple, fieldAddrV_ptr, nilV_ptr, load1V_ptr, pickV_bool, unV_not, lenV_slice, capV_slice, cellH_of hb3]
        refine (free_ok hz3.1 (fun h0 x hx => (hz3.2 h0 x hx).2) (by omega) (by omega)).mono ?_
        rintro x H4 ⟨r2, rfl, hr2, f4⟩
        simp only [Fld_ptr, add_mk, Nat.zero_add, List.getElem?_toArray, List.getElem?_cons_succ, List.getElem?_cons_zero, Get_some, Br_true, Br_false, nth_zero, nth_one, nth_two, extractV_tuple, fieldAddrV_ptr, nilV_ptr, load1V_ptr, pickV_bool, unV_not, lenV_slice, capV_slice, Bool.false_eq_true, if_false]
        exact ⟨_, rfl, fun h2 => ⟨hr h1', hr2.1 (by simpa using h2)⟩, f13.trans f4⟩
    · rintro _ H3 ⟨b, rfl, hb, f13⟩
      simp only [Fld_ptr, add_mk, Nat.zero_add, List.getElem?_toArray, List.getElem?_cons_succ, List.getElem?_cons_zero, Get_some, Br_true, Br_false, nth_zero, nth_one, nth_two, extractV_tuple, fieldAddrV_ptr, nilV_ptr, load1V_ptr, pickV_bool, unV_not, lenV_slice, capV_slice]
      refine Br_intro (fun _ => ⟨false, rfl, fun h => (by cases h), f13⟩) (fun hb0 => ?_)
      simp only [inc_i64 (show i < 2 ^ 62 by omega), arithV_add, arithV_sub, arithV_eql, arithV_neq, arithV_lss, arithV_leq, arithV_gtr, arithV_geq, intConvV_int, Fld_ptr, add_mk, Nat.zero_add, List.getElem?_toArray, List.getElem?_cons_succ, List.getElem?_cons_zero, Get_some, Br_true, Br_false, nth_zero, nth_one, nth_two, extractV_tuple, fieldAddrV_ptr, nilV_ptr, load1V_ptr, pickV_bool, unV_not, lenV_slice, capV_slice]
      refine ⟨_, by omega, i + 1, rfl, rfl, hlt', f13, ?_⟩
      rw [htk]
      intro q hq
      rcases List.mem_append.1 hq with h | h
      · exact hgood q h
      · rw [List.mem_singleton] at h; rw [h]; exact hb hb0
  · have hie : i = l.length := by simp at hlt; omega
    subst hie
    rw [List.take_length] at hgood
    refine (boundary_ok (by omega)).mono ?_
    rintro x H2 ⟨rfl, rfl⟩
    exact ⟨_, rfl, fun h => ⟨hgood, okBd_iff h⟩, f1⟩
end Go.Cps

/-
  slices.Insert of one header.
  Conditions: the slice is owned; what is put in lies in a block of its own.
-/
namespace Go.Cps
open Go Go.Proofs

theorem info90 : (Tryz.prog.info? 90).isSome = true := by kernel_rfl
theorem overlaps_run {b b' o o' n n' c c' : Nat} {cs cs' : Array Value} {T T' : TypeId} (ps rs : Array TypeId) (hp : ps[0]? = some 37) (w : World) (hne : b ≠ b') (hb : w.heap[b]? = some (.cells cs T (0, 0))) (hb' : w.heap[b']? = some (.cells cs' T' (0, 0))) :
    (Extern.SlicesOverlaps.overlaps ps rs #[.slice (some ⟨b, o, none⟩) n c, .slice (some ⟨b', o', none⟩) n' c']).run Tryz.prog w = .ok (.bool false) w := by
  obtain ⟨i, hi⟩ := Option.isSome_iff_exists.1 info90
  obtain ⟨s, hs⟩ : ∃ s : Sem Value, Extern.SlicesOverlaps.overlaps ps rs #[.slice (some ⟨b, o, none⟩) n c, .slice (some ⟨b', o', none⟩) n' c'] = s := ⟨_, rfl⟩
  rw [hs]
  rw [Extern.SlicesOverlaps.overlaps.eq_1] at hs
  conv at hs => lhs; whnf
  rw [hp] at hs
  subst hs
  by_cases h0 : n = 0 ∨ n' = 0 ∨ i.size = 0
  · simp [run_underlying' Tryz.underlying37, sizeOf, typeInfo, hi, h0]
  · simp [run_underlying' Tryz.underlying37, sizeOf, typeInfo, hi, h0, hne, World.frozen?, hb, hb', noView, viewAt, World.shape?, mayBeOne, stringish]
theorem overlaps_ok {b b' o o' n n' c c' : Nat} {cs cs' : Array Value} {T T' : TypeId} {H : Heap} {K : Value → Heap → Prop} (hne : b ≠ b') (hb : H[b]? = some (.cells cs T (0, 0))) (hb' : H[b']? = some (.cells cs' T' (0, 0))) (hK : K (.bool false) H) :
    CallX Tryz.prog 99 #[.slice (some ⟨b, o, none⟩) n c, .slice (some ⟨b', o', none⟩) n' c'] H K := by
  refine ⟨Tryz.f99, Extern.SlicesOverlaps.overlaps Tryz.f99.params Tryz.f99.resultTypes, Tryz.func99, by kernel_rfl, by kernel_rfl, by kernel_rfl, by kernel_rfl, ?_⟩
  intro w hw
  subst hw
  rw [overlaps_run _ _ (by kernel_rfl) w hne hb hb']
  exact ⟨Same.refl w, hK⟩

theorem elems_cells {w b' o' n c' m : Nat} {cs' : Array Value} {T' : TypeId} {f' : Nat × Nat} {H : Heap} (hb' : H[b']? = some (.cells cs' T' f')) (h1 : o' + m * w ≤ cs'.size) : elemsV w m (.slice (some ⟨b', o', none⟩) n c') H = some ((cs'.toList.drop o').take (m * w)) := by
  simp only [elemsV]
  refine (cellsH_getElem _ _ _).2 ⟨by simp; omega, fun j hj => ?_⟩
  rw [Nat.zero_add, cellH_of hb', List.getElem?_take, if_pos hj, List.getElem?_drop, Array.getElem?_toList]

/-- copy of cells between blocks (or in one) -/
theorem copy_cells {w : Nat} {b o b' o' n dl dc c' : Nat} {cs cs' : Array Value} {T T' : TypeId} {f' : Nat × Nat} {H : Heap} {K : Value → Heap → Prop} {m : Nat} (hm : Nat.min n dl = m) (hb : H[b]? = some (.cells cs T (0, 0))) (hb' : H[b']? = some (.cells cs' T' f')) (h1 : o' + m * w ≤ cs'.size) (h2 : o + m * w ≤ cs.size)
    (hone : ∀ v ∈ ((cs'.toList.drop o').take (m * w)), isOne v = true) (hK : ∀ x, K x (upd H b (.cells (putAt cs o ((cs'.toList.drop o').take (m * w))) T (0, 0)))) :
    Copy w (.slice (some ⟨b, o, none⟩) dl dc) (.slice (some ⟨b', o', none⟩) n c') H K := by
  have hel : elemsV w m (.slice (some ⟨b', o', none⟩) n c') H = some ((cs'.toList.drop o').take (m * w)) := by
    simp only [elemsV]
    refine (cellsH_getElem _ _ _).2 ⟨by simp; omega, fun j hj => ?_⟩
    rw [Nat.zero_add, cellH_of hb', List.getElem?_take, if_pos hj, List.getElem?_drop, Array.getElem?_toList]
  refine ⟨_, dl, dc, n, _, rfl, rfl, by rw [hm]; exact hel, ?_⟩
  have hst := stores_upd ((cs'.toList.drop o').take (m * w)) H b o 0 cs T hb (by simp; omega) hone
  exact ⟨_, hst, hK _⟩

/-- a row with one element put in -/
theorem ins_own {D : List Nat} {H H' : Heap} {g g' c' : Nat} {cells F : Array Value} {l : List Hdr} {p : Hdr} {xs : List Value} {i : Nat} (hF : H'[g']? = some (.cells F 90 (0, 0))) (hFs : F.size = c' * 2) (hc : l.length + 1 ≤ c') (hi : i ≤ l.length) (hgD : g' ∉ D)
    (he : ∀ j (hj : j < l.length), ∃ vs : List Value, vs.length = 2 ∧ HeadR (g :: D) H l[j] vs ∧ ∀ i, i < 2 → cells[j * 2 + i]? = vs[i]?) (hR : ∀ q vs, HeadR (g :: D) H q vs → HeadR (g' :: D) H' q vs) (hp : HeadR (g' :: D) H' p xs) (hxl : xs.length = 2)
    (h1 : ∀ q, q < 2 * i → F[q]? = cells[q]?) (h2 : ∀ q, q < 2 → F[2 * i + q]? = xs[q]?) (h3 : ∀ q, 2 * i ≤ q → q < 2 * l.length → F[q + 2]? = cells[q]?) :
    OwnS 2 90 HeadR D H' (some g') (.slice (some ⟨g', 0, none⟩) (l.length + 1) c') (l.take i ++ p :: l.drop i) := by
  have hlen : (l.take i ++ p :: l.drop i).length = l.length + 1 := by simp; omega
  refine ⟨F, c', by rw [hlen], hF, hFs, by omega, hgD, fun j hj => ?_⟩
  rw [hlen] at hj
  have hti : (l.take i).length = i := by rw [List.length_take]; omega
  by_cases hji : j < i
  · obtain ⟨vs, g1, g2, g3⟩ := he j (by omega)
    refine ⟨vs, g1, ?_, fun a ha => ?_⟩
    · rw [List.getElem_append_left (by omega), List.getElem_take]; exact hR _ _ g2
    · rw [h1 _ (by omega)]; exact g3 a ha
  · by_cases hje : j = i
    · subst hje
      refine ⟨xs, hxl, ?_, fun a ha => ?_⟩
      · rw [List.getElem_append_right (by omega)]
        simpa [hti] using hp
      · rw [show j * 2 + a = 2 * j + a by omega]; exact h2 a ha
    · obtain ⟨vs, g1, g2, g3⟩ := he (j - 1) (by omega)
      refine ⟨vs, g1, ?_, fun a ha => ?_⟩
      · rw [List.getElem_append_right (by omega)]
        have e : j - (l.take i).length = (j - 1 - i) + 1 := by omega
        simp only [e, List.getElem_cons_succ, List.getElem_drop]
        have e2 : i + (j - 1 - i) = j - 1 := by omega
        simp only [e2]
        exact hR _ _ g2
      · have := h3 ((j - 1) * 2 + a) (by omega) (by omega)
        rw [show j * 2 + a = (j - 1) * 2 + a + 2 by omega, this]
        exact g3 a ha

theorem drop_take_get (l : List Value) (o n q : Nat) (h : q < n) : ((l.drop o).take n)[q]? = l[o + q]? := by
  rw [List.getElem?_take, if_pos h, List.getElem?_drop]

theorem insert_ok {D : List Nat} {H : Heap} {k : Option Nat} {v : Value} {l : List Hdr} {p : Hdr} {xb i : Nat} {x0 x1 : Value} (h : OwnS 2 90 HeadR D H k v l) (hx : H[xb]? = some (.cells #[x0, x1] 90 (0, 0))) (hxk : k ≠ some xb) (hp : HeadR (k.toList ++ D) H p [x0, x1]) (hi : i ≤ l.length) (hl : l.length < 2 ^ 36) (hD : ∀ x ∈ D, x < H.size) :
    CallsH Tryz.prog 79 #[v, .int .i64 i, .slice (some ⟨xb, 0, none⟩) 1 1] H fun x H' => ∃ k', OwnS 2 90 HeadR D H' k' x (l.take i ++ p :: l.drop i) ∧ Frm k.toList H H' ∧ (k' = k ∨ ∃ g, k' = some g ∧ H.size ≤ g) := by
  apply s79
  have hln : lenV (.slice (some ⟨xb, 0, none⟩) 1 1) = some (.int .i64 ((1 : Nat) : Int)) := rfl
  have h10 : (((1 : Nat) : Int) == 0) = false := by decide
  have hil : (((i : Nat) : Int) == ((l.length : Nat) : Int)) = decide (i = l.length) := by
    rw [Bool.eq_iff_iff, beq_iff_eq, decide_eq_true_eq]; omega
  obtain ⟨sv, hsv⟩ : ∃ sv, sliceV 2 v (some (.int .i64 i)) none none = some sv := by
    cases k with
    | none =>
      obtain ⟨rfl, rfl⟩ := h
      have : i = 0 := by simpa using hi
      subst this
      exact ⟨_, sliceV_lo (Nat.le_refl 0) .i64⟩
    | some g =>
      obtain ⟨cells, c, rfl, _⟩ := h
      exact ⟨_, sliceV_lo hi .i64⟩
  simp only [c79, hsv, Get_some, hln, arithV_add, arithV_sub, arithV_eql, arithV_neq, arithV_lss, arithV_leq, arithV_gtr, arithV_geq, intConvV_int, h10, Br_false, h.len, hil]
  refine Br_intro (fun h1 => ?_) (fun h1 => ?_)
  · have h1' : i = l.length := by simpa using h1
    refine append_one headR_ok h (xb := xb) (xs := [x0, x1]) (fun q hq => by rw [cellH_of hx]; simp) rfl hp rfl hl (by omega) hD (by omega) fun k' v' H' h' f' hk' => ⟨k', ?_, f', hk'⟩
    rw [h1', List.take_length, List.drop_length]
    exact h'
  have h1' : i < l.length := by
    have : ¬ i = l.length := by simpa using h1
    omega
  cases k with
  | none =>
    obtain ⟨rfl, rfl⟩ := h
    simp at h1'
  | some g =>
    obtain ⟨cells, c, rfl, hg, hc, hlc, hgD, he⟩ := h
    have hcap : capV (.slice (some ⟨g, 0, none⟩) l.length c) = some (.int .i64 c) := rfl
    have e1 : IntKind.i64.wrap ((l.length : Int) + ((1 : Nat) : Int)) = ((l.length + 1 : Nat) : Int) := by rw [wrap_i64 (by omega) (by omega)]; omega
    have e2 : IntKind.i64.wrap (((l.length + 1 : Nat) : Int) - (i : Int)) = ((l.length + 1 - i : Nat) : Int) := by rw [wrap_i64 (by omega) (by omega)]; omega
    have e3 : IntKind.i64.wrap ((i : Int) + ((1 : Nat) : Int)) = ((i + 1 : Nat) : Int) := by rw [wrap_i64 (by omega) (by omega)]; omega
    have dg : decide (((l.length + 1 : Nat) : Int) > (c : Int)) = decide (c < l.length + 1) := by rw [Bool.eq_iff_iff]; simp; omega
    have hone : ∀ o m, ∀ v ∈ ((cells.toList.drop o).take m), o + m ≤ 2 * l.length → isOne v = true := by
      intro o m v hv hom
      obtain ⟨q, hq, rfl⟩ := List.getElem_of_mem hv
      have hqm : q < m := by rw [List.length_take] at hq; omega
      obtain ⟨vs, g1, g2, g3⟩ := he ((o + q) / 2) (by omega)
      have hg3 := g3 ((o + q) % 2) (by omega)
      rw [show (o + q) / 2 * 2 + (o + q) % 2 = o + q by omega] at hg3
      have hmem := drop_take_get cells.toList o m q hqm
      rw [List.getElem?_eq_getElem hq, Array.getElem?_toList, hg3] at hmem
      exact headR_ok.one g2 _ (List.mem_of_getElem? hmem.symm)
    have hsv' := sliceV_lo (a := some ⟨g, 0, none⟩) (n := l.length) (c := c) (size := 2) (lo := i) hi .i64
    rw [if_neg (by omega)] at hsv'
    obtain rfl := Option.some.inj (hsv.symm.trans hsv')
    simp only [hcap, arithV_add, arithV_sub, arithV_eql, arithV_neq, arithV_lss, arithV_leq, arithV_gtr, arithV_geq, intConvV_int, Fld_ptr, add_mk, Nat.zero_add, List.getElem?_toArray, List.getElem?_cons_succ, List.getElem?_cons_zero, Get_some, Br_true, Br_false, nth_zero, nth_one, nth_two, extractV_tuple, fieldAddrV_ptr, nilV_ptr, load1V_ptr, pickV_bool, unV_not, lenV_slice, capV_slice, e1, dg]
    refine Br_intro (fun h2 => ?_) (fun h2 => ?_)
    · have h2' : c < l.length + 1 := by simpa using h2
      have hs1 := sliceV_hi (a := some ⟨g, 0, none⟩) (n := l.length) (c := c) (size := 2) (hi := i) (by omega) .i64
      simp only [hs1, Fld_ptr, add_mk, Nat.zero_add, List.getElem?_toArray, List.getElem?_cons_succ, List.getElem?_cons_zero, Get_some, Br_true, Br_false, nth_zero, nth_one, nth_two, extractV_tuple, fieldAddrV_ptr, nilV_ptr, load1V_ptr, pickV_bool, unV_not, lenV_slice, capV_slice, e2, e3]
      have hnc := nextslicecap_le h2'
      have hin : i + (l.length + 1 - i) = l.length + 1 := by omega
      have holds := elems_cells (w := 2) (b' := g) (o' := 0) (m := i) (n := i) (c' := c) hg (by omega)
      refine ⟨_, i, c, l.length + 1 - i, rfl, rfl, by omega, by omega, by omega, by omega, by omega, by rw [hin]; omega, _, holds, fun c2 hc2 => ?_⟩
      rw [hin] at hc2 ⊢
      rw [List.drop_zero]
      generalize hF0 : ((cells.toList.take (i * 2)).toArray ++ zeros #[.string ⟨#[]⟩, .slice none 0 0] (l.length + 1 - i) ++ zeros #[.string ⟨#[]⟩, .slice none 0 0] (c2 - (l.length + 1))) = F0
      have hF0s : F0.size = c2 * 2 := by
        rw [← hF0]
        simp [zeros, Builtin.zeroCells]
        omega
      have hF0o : ∀ q, q < 2 * i → F0[q]? = cells[q]? := by
        intro q hq
        rw [← hF0, Array.append_assoc, Array.getElem?_append_left (by simp; omega)]
        simp [List.getElem?_take, show q < i * 2 by omega]
      have f1 : Frm [] H (H.push (.cells F0 90 (0, 0))) := Frm.push _ _ _
      have hp1 := push_same H (.cells F0 90 (0, 0))
      have z1 : (H.push (.cells F0 90 (0, 0))).size = H.size + 1 := by simp
      generalize H.push (.cells F0 90 (0, 0)) = H1 at *
      have hs2 := sliceV_lo (a := some ⟨H.size, 0, none⟩) (n := l.length + 1) (c := c2) (size := 2) (lo := i) (by omega) .i64
      have hs3 := sliceV_lo (a := some ⟨H.size, 0, none⟩) (n := l.length + 1) (c := c2) (size := 2) (lo := i + 1) (by omega) .i64
      rw [if_neg (by omega)] at hs2 hs3
      simp only [hs2, hs3, Get_some, Option.map_some, add_mk, Nat.zero_add]
      have hx1 := f1.get hx (by simp)
      have hg1 := f1.get hg (by simp)
      have hxl := lt_of_some hx
      have hgl := lt_of_some hg
      refine copy_cells (m := 1) (Nat.min_eq_left (by omega)) hp1 hx1 (by simp) (by omega) (fun v hv => headR_ok.one hp v (by simpa using hv)) fun _ => ?_
      have f2 : Frm [H.size] H1 (upd H1 H.size (.cells (putAt F0 (i * 2) ((#[x0, x1].toList.drop 0).take (1 * 2))) 90 (0, 0))) := Frm.upd _ (by simp)
      have hp2 : (upd H1 H.size (.cells (putAt F0 (i * 2) ((#[x0, x1].toList.drop 0).take (1 * 2))) 90 (0, 0)))[H.size]? = some (.cells (putAt F0 (i * 2) [x0, x1]) 90 (0, 0)) := upd_same (by omega)
      have z2 : (upd H1 H.size (.cells (putAt F0 (i * 2) ((#[x0, x1].toList.drop 0).take (1 * 2))) 90 (0, 0))).size = H1.size := by simp
      generalize upd H1 H.size (.cells (putAt F0 (i * 2) ((#[x0, x1].toList.drop 0).take (1 * 2))) 90 (0, 0)) = H2 at *
      have hg2 := f2.get hg1 (by simp; omega)
      have hml : (l.length + 1 - (i + 1)) = l.length - i := by omega
      refine copy_cells (m := l.length - i) (by rw [hml]; exact Nat.min_self _) hp2 hg2 (by omega) (by rw [putAt_size]; omega) (fun v hv => hone _ _ v hv (by omega)) fun _ => ?_
      generalize hseg : (cells.toList.drop (i * 2)).take ((l.length - i) * 2) = seg
      have hsegl : seg.length = (l.length - i) * 2 := by rw [← hseg]; simp; omega
      have f3 : Frm [H.size] H2 (upd H2 H.size (.cells (putAt (putAt F0 (i * 2) [x0, x1]) ((i + 1) * 2) seg) 90 (0, 0))) := Frm.upd _ (by simp)
      have hp3 : (upd H2 H.size (.cells (putAt (putAt F0 (i * 2) [x0, x1]) ((i + 1) * 2) seg) 90 (0, 0)))[H.size]? = some (.cells (putAt (putAt F0 (i * 2) [x0, x1]) ((i + 1) * 2) seg) 90 (0, 0)) := upd_same (by omega)
      generalize upd H2 H.size (.cells (putAt (putAt F0 (i * 2) [x0, x1]) ((i + 1) * 2) seg) 90 (0, 0)) = H3 at *
      have hnew : ∀ x ∈ [H.size], x ∈ ([] : List Nat) ∨ H.size ≤ x := fun x hx => .inr (by rw [List.mem_singleton] at hx; omega)
      have f13 : Frm [] H H3 := (f1.up f2 hnew).up f3 hnew
      have hle1 : i * 2 + [x0, x1].length ≤ F0.size := by simp; omega
      have hle2 : (i + 1) * 2 + seg.length ≤ (putAt F0 (i * 2) [x0, x1]).size := by rw [putAt_size]; omega
      refine ⟨some H.size, ?_, f13.mono (by simp), .inr ⟨_, rfl, Nat.le_refl _⟩⟩
      have hRn : ∀ q vs, HeadR (g :: D) H q vs → HeadR (H.size :: D) H3 q vs := fun q vs hq =>
        headR_ok.frm (headR_ok.new (headR_ok.sub (fun x hx => by simp [hx]) hq) (Nat.le_refl _)) f13 (by simp)
      refine ins_own hp3 (by rw [putAt_size, putAt_size, hF0s]) hc2 hi (fun hm => by have := hD _ hm; omega) he hRn (hRn _ _ (by simpa using hp)) rfl ?_ ?_ ?_
      · intro q hq
        rw [putAt_old _ _ _ _ (by omega) hle2, putAt_old _ _ _ _ (by omega) hle1]
        exact hF0o q hq
      · intro q hq
        rw [putAt_old _ _ _ _ (by omega) hle2, show 2 * i + q = i * 2 + q by omega, putAt_new _ _ _ _ (by simpa using hq) hle1]
      · intro q hq1 hq2
        rw [show q + 2 = (i + 1) * 2 + (q - 2 * i) by omega, putAt_new _ _ _ _ (by omega) hle2, ← hseg, drop_take_get _ _ _ _ (by omega), Array.getElem?_toList]
        congr 1
        omega
    · have h2' : l.length + 1 ≤ c := by have : ¬ c < l.length + 1 := by simpa using h2
                                        omega
      have hs1 := sliceV_hi (a := some ⟨g, 0, none⟩) (n := l.length) (c := c) (size := 2) (hi := l.length + 1) (by omega) .i64
      have hs2 := sliceV_lo (a := some ⟨g, 0, none⟩) (n := l.length + 1) (c := c) (size := 2) (lo := i + 1) (by omega) .i64
      have hs3 := sliceV_lo (a := some ⟨g, 0, none⟩) (n := l.length + 1) (c := c) (size := 2) (lo := i) (by omega) .i64
      rw [if_neg (by omega)] at hs2 hs3
      simp only [hs1, Fld_ptr, add_mk, Nat.zero_add, List.getElem?_toArray, List.getElem?_cons_succ, List.getElem?_cons_zero, Get_some, Br_true, Br_false, nth_zero, nth_one, nth_two, extractV_tuple, fieldAddrV_ptr, nilV_ptr, load1V_ptr, pickV_bool, unV_not, lenV_slice, capV_slice, e3, hs2, hs3, Option.map_some, add_mk]
      have hxl := lt_of_some hx
      have hgl := lt_of_some hg
      have hgx : xb ≠ g := fun e => hxk (by rw [e])
      refine overlaps_ok hgx hx hg ?_
      simp only [Fld_ptr, add_mk, Nat.zero_add, List.getElem?_toArray, List.getElem?_cons_succ, List.getElem?_cons_zero, Get_some, Br_true, Br_false, nth_zero, nth_one, nth_two, extractV_tuple, fieldAddrV_ptr, nilV_ptr, load1V_ptr, pickV_bool, unV_not, lenV_slice, capV_slice, Bool.not_false]
      have hml : (l.length + 1 - (i + 1)) = l.length - i := by omega
      refine copy_cells (m := l.length - i) (by rw [hml]; exact Nat.min_eq_right (by omega)) hg hg (by omega) (by omega) (fun v hv => hone _ _ v hv (by omega)) fun _ => ?_
      generalize hseg : (cells.toList.drop (i * 2)).take ((l.length - i) * 2) = seg
      have hsegl : seg.length = (l.length - i) * 2 := by rw [← hseg]; simp; omega
      have f2 : Frm [g] H (upd H g (.cells (putAt cells ((i + 1) * 2) seg) 90 (0, 0))) := Frm.upd _ (by simp)
      have hp2 : (upd H g (.cells (putAt cells ((i + 1) * 2) seg) 90 (0, 0)))[g]? = some (.cells (putAt cells ((i + 1) * 2) seg) 90 (0, 0)) := upd_same hgl
      have z2 : (upd H g (.cells (putAt cells ((i + 1) * 2) seg) 90 (0, 0))).size = H.size := by simp
      generalize upd H g (.cells (putAt cells ((i + 1) * 2) seg) 90 (0, 0)) = H2 at *
      have hx2 := f2.get hx (by simpa using hgx)
      refine copy_cells (m := 1) (Nat.min_eq_left (by omega)) hp2 hx2 (by simp) (by rw [putAt_size]; omega) (fun v hv => headR_ok.one hp v (by simpa using hv)) fun _ => ?_
      have hxs : (#[x0, x1].toList.drop 0).take (1 * 2) = [x0, x1] := rfl
      rw [hxs]
      have f3 : Frm [g] H2 (upd H2 g (.cells (putAt (putAt cells ((i + 1) * 2) seg) (i * 2) [x0, x1]) 90 (0, 0))) := Frm.upd _ (by simp)
      have hp3 : (upd H2 g (.cells (putAt (putAt cells ((i + 1) * 2) seg) (i * 2) [x0, x1]) 90 (0, 0)))[g]? = some (.cells (putAt (putAt cells ((i + 1) * 2) seg) (i * 2) [x0, x1]) 90 (0, 0)) := upd_same (by omega)
      generalize upd H2 g (.cells (putAt (putAt cells ((i + 1) * 2) seg) (i * 2) [x0, x1]) 90 (0, 0)) = H3 at *
      have f13 : Frm [g] H H3 := f2.trans f3
      have hle1 : (i + 1) * 2 + seg.length ≤ cells.size := by omega
      have hle2 : i * 2 + [x0, x1].length ≤ (putAt cells ((i + 1) * 2) seg).size := by rw [putAt_size]; simp; omega
      refine ⟨some g, ?_, f13, .inl rfl⟩
      have hRn : ∀ q vs, HeadR (g :: D) H q vs → HeadR (g :: D) H3 q vs := fun q vs hq => headR_ok.frm hq f13 (fun x hx => .inl (by rw [List.mem_singleton] at hx; simp [hx]))
      refine ins_own hp3 (by rw [putAt_size, putAt_size, hc]) h2' hi hgD he hRn (hRn _ _ (by simpa using hp)) rfl ?_ ?_ ?_
      · intro q hq
        rw [putAt_old _ _ _ _ (by omega) hle2, putAt_old _ _ _ _ (by omega) hle1]
      · intro q hq
        rw [show 2 * i + q = i * 2 + q by omega, putAt_new _ _ _ _ (by simpa using hq) hle2]
      · intro q hq1 hq2
        rw [putAt_get _ _ _ _ hle2, if_neg (by simp; omega), show q + 2 = (i + 1) * 2 + (q - 2 * i) by omega, putAt_new _ _ _ _ (by omega) hle1, ← hseg, drop_take_get _ _ _ _ (by omega), Array.getElem?_toList]
        congr 1
        omega
end Go.Cps
