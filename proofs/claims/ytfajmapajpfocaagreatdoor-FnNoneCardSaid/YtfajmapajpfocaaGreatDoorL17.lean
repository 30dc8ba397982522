/-
  spec.letter, spec.within, spec.Boundary; the statement FnNone over any heap whose io.EOF is an error of errors.New.
  Conditions: each contract's own.
-/
import Derived.Test.YtfajmapajpfocaaGreatDoorL16
set_option linter.all false
namespace Go.Cps
open Go Go.Proofs

theorem letter_ok {c : Int} {H : Heap} : CallsH Tryz.prog 28 #[.int .u8 c] H fun x H' => x = .bool (alnum c) ∧ H' = H := by
  apply s28
  unfold c28
  refine ⟨fun vs H' => vs = [.bool (alnum c)] ∧ H' = H, ?_, ?_⟩
  · simp only [Fld_ptr, add_mk, Nat.zero_add, List.getElem?_toArray, List.getElem?_cons_succ, List.getElem?_cons_zero, Get_some, Br_true, Br_false, nth_zero, nth_one, nth_two, extractV_tuple, fieldAddrV_ptr, nilV_ptr, load1V_ptr, pickV_bool, unV_not, lenV_slice, capV_slice, arithV_add, arithV_sub, arithV_eql, arithV_neq, arithV_lss, arithV_leq, arithV_gtr, arithV_geq, intConvV_int]
    refine Br_intro (fun h1 => ?_) (fun h1 => ?_) <;> simp only [Fld_ptr, add_mk, Nat.zero_add, List.getElem?_toArray, List.getElem?_cons_succ, List.getElem?_cons_zero, Get_some, Br_true, Br_false, nth_zero, nth_one, nth_two, extractV_tuple, fieldAddrV_ptr, nilV_ptr, load1V_ptr, pickV_bool, unV_not, lenV_slice, capV_slice, Bool.false_eq_true, if_false, if_true] <;> repeat' (first | refine Br_intro (fun h2 => ?_) (fun h2 => ?_) | simp only [Fld_ptr, add_mk, Nat.zero_add, List.getElem?_toArray, List.getElem?_cons_succ, List.getElem?_cons_zero, Get_some, Br_true, Br_false, nth_zero, nth_one, nth_two, extractV_tuple, fieldAddrV_ptr, nilV_ptr, load1V_ptr, pickV_bool, unV_not, lenV_slice, capV_slice, arithV_add, arithV_sub, arithV_eql, arithV_neq, arithV_lss, arithV_leq, arithV_gtr, arithV_geq, intConvV_int, Bool.false_eq_true, if_false, if_true])
    all_goals (simp only [decide_eq_true_eq, decide_eq_false_iff_not] at *; try simp only [List.cons.injEq, Value.bool.injEq, and_true]; rw [Bool.eq_iff_iff]; simp only [alnum, Bool.or_eq_true, Bool.and_eq_true, decide_eq_true_eq, true_iff, false_iff, eq_self, Bool.false_eq_true]; omega)
  · rintro _ H' ⟨rfl, rfl⟩
    simp only [Fld_ptr, add_mk, Nat.zero_add, List.getElem?_toArray, List.getElem?_cons_succ, List.getElem?_cons_zero, Get_some, Br_true, Br_false, nth_zero, nth_one, nth_two, extractV_tuple, fieldAddrV_ptr, nilV_ptr, load1V_ptr, pickV_bool, unV_not, lenV_slice, capV_slice, and_self]

theorem strIndex_of {l : List UInt8} {i : Nat} (h : i < l.length) : strIndexV (strVal l) (.int .i64 i) = some (byteV l[i]) := by
  have hs : i < (⟨l.toArray⟩ : ByteArray).size := by rw [bstr_size]; exact h
  have e : (⟨l.toArray⟩ : ByteArray)[i]? = some l[i] := by
    rw [getElem?_pos (⟨l.toArray⟩ : ByteArray) i hs]
    rfl
  simp [strIndexV, strVal, e, byteV]
theorem lenStr_of (l : List UInt8) : lenStrV (strVal l) = some (.int .i64 l.length) := by simp [strVal, bstr_size]

theorem within_ok {l : List UInt8} {b : UInt8} {H : Heap} (hl : l.length < 2 ^ 40) : CallsH Tryz.prog 29 #[strVal l, byteV b] H fun x H' => x = .bool (l.contains b) ∧ H' = H := by
  apply s29
  unfold c29
  refine ⟨fun n vs H' => ∃ i : Nat, vs = [.int .i64 i] ∧ n = l.length - i ∧ i ≤ l.length ∧ H' = H ∧ (l.take i).contains b = false, ⟨_, 0, rfl, rfl, Nat.zero_le _, rfl, by simp⟩, ?_⟩
  rintro n vs _ ⟨i, rfl, rfl, hi, rfl, hc⟩
  simp only [lenStr_of, Fld_ptr, add_mk, Nat.zero_add, List.getElem?_toArray, List.getElem?_cons_succ, List.getElem?_cons_zero, Get_some, Br_true, Br_false, nth_zero, nth_one, nth_two, extractV_tuple, fieldAddrV_ptr, nilV_ptr, load1V_ptr, pickV_bool, unV_not, lenV_slice, capV_slice, arithV_add, arithV_sub, arithV_eql, arithV_neq, arithV_lss, arithV_leq, arithV_gtr, arithV_geq, intConvV_int]
  by_cases hlt : i < l.length
  · have hd : decide ((i : Int) < (l.length : Int)) = true := by simp; exact hlt
    have hd2 : (l.take (i + 1)).contains b = (l[i] == b) := by
      rw [List.take_succ_eq_append_getElem hlt]
      simp only [List.contains_append, hc, Bool.false_or, List.contains_cons, List.contains_nil, Bool.or_false]
      rw [Bool.eq_iff_iff, beq_iff_eq, beq_iff_eq]
      exact eq_comm
    have e1 : IntKind.i64.wrap ((i : Int) + 1) = ((i + 1 : Nat) : Int) := by rw [wrap_i64 (by omega) (by omega)]; omega
    simp only [hd, Fld_ptr, add_mk, Nat.zero_add, List.getElem?_toArray, List.getElem?_cons_succ, List.getElem?_cons_zero, Get_some, Br_true, Br_false, nth_zero, nth_one, nth_two, extractV_tuple, fieldAddrV_ptr, nilV_ptr, load1V_ptr, pickV_bool, unV_not, lenV_slice, capV_slice, strIndex_of hlt, byteV, arithV_add, arithV_sub, arithV_eql, arithV_neq, arithV_lss, arithV_leq, arithV_gtr, arithV_geq, intConvV_int, byte_beq, e1]
    refine Br_intro (fun h1 => ?_) (fun h1 => ?_)
    · refine ⟨?_, trivial⟩
      have : l.contains b = true := by
        rw [List.contains_iff_mem]
        rw [beq_iff_eq] at h1
        rw [← h1]
        exact List.getElem_mem hlt
      rw [this]
    · exact ⟨_, by omega, i + 1, rfl, rfl, hlt, trivial, by rw [hd2, h1]⟩
  · have hd : decide ((i : Int) < (l.length : Int)) = false := by simp; omega
    simp only [hd, Fld_ptr, add_mk, Nat.zero_add, List.getElem?_toArray, List.getElem?_cons_succ, List.getElem?_cons_zero, Get_some, Br_true, Br_false, nth_zero, nth_one, nth_two, extractV_tuple, fieldAddrV_ptr, nilV_ptr, load1V_ptr, pickV_bool, unV_not, lenV_slice, capV_slice]
    rw [List.take_of_length_le (by omega)] at hc
    rw [hc]
    exact ⟨rfl, trivial⟩

def bspec : List UInt8 := [39, 40, 41, 43, 95, 44, 45, 46, 47, 58, 61, 63, 32]
theorem bspec_eq (b : UInt8) : bspec.contains b = (punct b.toNat || b == 32) := by
  have h39 : (((b.toNat : Nat) : Int) == 39) = (b == 39) := byte_beq b 39
  have h40 : (((b.toNat : Nat) : Int) == 40) = (b == 40) := byte_beq b 40
  have h41 : (((b.toNat : Nat) : Int) == 41) = (b == 41) := byte_beq b 41
  have h43 : (((b.toNat : Nat) : Int) == 43) = (b == 43) := byte_beq b 43
  have h95 : (((b.toNat : Nat) : Int) == 95) = (b == 95) := byte_beq b 95
  have h44 : (((b.toNat : Nat) : Int) == 44) = (b == 44) := byte_beq b 44
  have h45 : (((b.toNat : Nat) : Int) == 45) = (b == 45) := byte_beq b 45
  have h46 : (((b.toNat : Nat) : Int) == 46) = (b == 46) := byte_beq b 46
  have h47 : (((b.toNat : Nat) : Int) == 47) = (b == 47) := byte_beq b 47
  have h58 : (((b.toNat : Nat) : Int) == 58) = (b == 58) := byte_beq b 58
  have h61 : (((b.toNat : Nat) : Int) == 61) = (b == 61) := byte_beq b 61
  have h63 : (((b.toNat : Nat) : Int) == 63) = (b == 63) := byte_beq b 63
  simp only [bspec, List.contains_cons, List.contains_nil, punct, h39, h40, h41, h43, h95, h44, h45, h46, h47, h58, h61, h63, Bool.or_false, Bool.or_assoc]

def okBd (l : List UInt8) : Bool := l.all bchar && decide (0 < l.length) && decide (l.length ≤ 70) && (l[l.length - 1]? != some 32)
theorem okBd_iff {l : List UInt8} (h : okBd l = true) : BdOk l := by
  simp only [okBd, Bool.and_eq_true, List.all_eq_true, decide_eq_true_eq, bne_iff_ne] at h
  exact ⟨h.1.1.1, h.1.1.2, h.1.2, h.2⟩

theorem boundary_ok {l : List UInt8} {H : Heap} (hl : l.length < 2 ^ 40) : CallsH Tryz.prog 9 #[strVal l] H fun x H' => x = .bool (okBd l) ∧ H' = H := by
  apply s9
  unfold c9
  refine ⟨fun n vs H' => ∃ i : Nat, vs = [.int .i64 i] ∧ n = l.length - i ∧ i ≤ l.length ∧ H' = H ∧ (l.take i).all bchar = true, ⟨_, 0, rfl, rfl, Nat.zero_le _, rfl, by simp⟩, ?_⟩
  rintro n vs H ⟨i, rfl, rfl, hi, rfl, hc⟩
  simp only [lenStr_of, Fld_ptr, add_mk, Nat.zero_add, List.getElem?_toArray, List.getElem?_cons_succ, List.getElem?_cons_zero, Get_some, Br_true, Br_false, nth_zero, nth_one, nth_two, extractV_tuple, fieldAddrV_ptr, nilV_ptr, load1V_ptr, pickV_bool, unV_not, lenV_slice, capV_slice, arithV_add, arithV_sub, arithV_eql, arithV_neq, arithV_lss, arithV_leq, arithV_gtr, arithV_geq, intConvV_int]
  by_cases hlt : i < l.length
  · have hd : decide ((i : Int) < (l.length : Int)) = true := by simp; exact hlt
    have hd2 : (l.take (i + 1)).all bchar = bchar l[i] := by
      rw [List.take_succ_eq_append_getElem hlt, List.all_append, hc]; simp
    have e1 : IntKind.i64.wrap ((i : Int) + 1) = ((i + 1 : Nat) : Int) := by rw [wrap_i64 (by omega) (by omega)]; omega
    simp only [hd, Fld_ptr, add_mk, Nat.zero_add, List.getElem?_toArray, List.getElem?_cons_succ, List.getElem?_cons_zero, Get_some, Br_true, Br_false, nth_zero, nth_one, nth_two, extractV_tuple, fieldAddrV_ptr, nilV_ptr, load1V_ptr, pickV_bool, unV_not, lenV_slice, capV_slice, strIndex_of hlt, e1]
    refine ⟨fun vs H' => vs = [.bool (!bchar l[i])] ∧ H' = H, ?_, ?_⟩
    · rw [byteV]
      refine letter_ok.mono ?_
      rintro x H' ⟨rfl, rfl⟩
      simp only [Fld_ptr, add_mk, Nat.zero_add, List.getElem?_toArray, List.getElem?_cons_succ, List.getElem?_cons_zero, Get_some, Br_true, Br_false, nth_zero, nth_one, nth_two, extractV_tuple, fieldAddrV_ptr, nilV_ptr, load1V_ptr, pickV_bool, unV_not, lenV_slice, capV_slice]
      refine Br_intro (fun h1 => ?_) (fun h1 => ?_)
      · refine (within_ok (l := bspec) (b := l[i]) (by decide)).mono ?_
        rintro x H' ⟨rfl, rfl⟩
        simp only [Fld_ptr, add_mk, Nat.zero_add, List.getElem?_toArray, List.getElem?_cons_succ, List.getElem?_cons_zero, Get_some, Br_true, Br_false, nth_zero, nth_one, nth_two, extractV_tuple, fieldAddrV_ptr, nilV_ptr, load1V_ptr, pickV_bool, unV_not, lenV_slice, capV_slice, if_true, and_true]
        simp only [Bool.not_eq_true'] at h1
        rw [bspec_eq, bchar, h1, Bool.false_or]
      · simp only [Fld_ptr, add_mk, Nat.zero_add, List.getElem?_toArray, List.getElem?_cons_succ, List.getElem?_cons_zero, Get_some, Br_true, Br_false, nth_zero, nth_one, nth_two, extractV_tuple, fieldAddrV_ptr, nilV_ptr, load1V_ptr, pickV_bool, unV_not, lenV_slice, capV_slice, Bool.false_eq_true, if_false, and_true]
        simp only [Bool.not_eq_false'] at h1
        rw [bchar, h1, Bool.true_or, Bool.true_or]; rfl
    · rintro _ H' ⟨rfl, rfl⟩
      simp only [Fld_ptr, add_mk, Nat.zero_add, List.getElem?_toArray, List.getElem?_cons_succ, List.getElem?_cons_zero, Get_some, Br_true, Br_false, nth_zero, nth_one, nth_two, extractV_tuple, fieldAddrV_ptr, nilV_ptr, load1V_ptr, pickV_bool, unV_not, lenV_slice, capV_slice]
      refine Br_intro (fun h1 => ?_) (fun h1 => ?_)
      · refine ⟨?_, trivial⟩
        have : okBd l = false := by
          rw [← Bool.not_eq_true]
          intro hok
          have := (okBd_iff hok).chars _ (List.getElem_mem hlt)
          rw [this] at h1
          cases h1
        rw [this]
      · simp only [Bool.not_eq_false'] at h1
        exact ⟨_, by omega, i + 1, rfl, rfl, hlt, trivial, by rw [hd2, h1]⟩
  · have hd : decide ((i : Int) < (l.length : Int)) = false := by simp; omega
    simp only [hd, Fld_ptr, add_mk, Nat.zero_add, List.getElem?_toArray, List.getElem?_cons_succ, List.getElem?_cons_zero, Get_some, Br_true, Br_false, nth_zero, nth_one, nth_two, extractV_tuple, fieldAddrV_ptr, nilV_ptr, load1V_ptr, pickV_bool, unV_not, lenV_slice, capV_slice]
    rw [List.take_of_length_le (by omega)] at hc
    refine ⟨fun vs H' => vs = [.bool (okBd l)] ∧ H' = H, ?_, ?_⟩
    · refine Br_intro (fun h1 => ?_) (fun h1 => ?_)
      · have h1' : 0 < l.length := by simpa using h1
        simp only [Fld_ptr, add_mk, Nat.zero_add, List.getElem?_toArray, List.getElem?_cons_succ, List.getElem?_cons_zero, Get_some, Br_true, Br_false, nth_zero, nth_one, nth_two, extractV_tuple, fieldAddrV_ptr, nilV_ptr, load1V_ptr, pickV_bool, unV_not, lenV_slice, capV_slice, if_true]
        refine Br_intro (fun h2 => ?_) (fun h2 => ?_)
        · have h2' : l.length ≤ 70 := by simp at h2; omega
          have e2 : IntKind.i64.wrap ((l.length : Int) - 1) = ((l.length - 1 : Nat) : Int) := by rw [wrap_i64 (by omega) (by omega)]; omega
          simp only [e2, strIndex_of (show l.length - 1 < l.length by omega), Fld_ptr, add_mk, Nat.zero_add, List.getElem?_toArray, List.getElem?_cons_succ, List.getElem?_cons_zero, Get_some, Br_true, Br_false, nth_zero, nth_one, nth_two, extractV_tuple, fieldAddrV_ptr, nilV_ptr, load1V_ptr, pickV_bool, unV_not, lenV_slice, capV_slice, byteV, arithV_add, arithV_sub, arithV_eql, arithV_neq, arithV_lss, arithV_leq, arithV_gtr, arithV_geq, intConvV_int, if_true, and_true, List.cons.injEq, Value.bool.injEq]
          have e3 : (((l[l.length - 1]'(by omega)).toNat : Int) == 32) = ((l[l.length - 1]'(by omega)) == 32) := byte_beq _ 32
          rw [okBd, hc, List.getElem?_eq_getElem (by omega : l.length - 1 < l.length)]
          simp only [h1', h2', decide_true, Bool.true_and, bne, e3]
          rfl
        · have h2' : ¬ l.length ≤ 70 := by simp at h2; omega
          simp [okBd, h2']
      · have h1' : l.length = 0 := by simp only [decide_eq_false_iff_not] at h1; omega
        simp only [Fld_ptr, add_mk, Nat.zero_add, List.getElem?_toArray, List.getElem?_cons_succ, List.getElem?_cons_zero, Get_some, Br_true, Br_false, nth_zero, nth_one, nth_two, extractV_tuple, fieldAddrV_ptr, nilV_ptr, load1V_ptr, pickV_bool, unV_not, lenV_slice, capV_slice, Bool.false_eq_true, if_false]
        simp [okBd, h1']
    · rintro _ H' ⟨rfl, rfl⟩
      simp only [Fld_ptr, add_mk, Nat.zero_add, List.getElem?_toArray, List.getElem?_cons_succ, List.getElem?_cons_zero, Get_some, Br_true, Br_false, nth_zero, nth_one, nth_two, extractV_tuple, fieldAddrV_ptr, nilV_ptr, load1V_ptr, pickV_bool, unV_not, lenV_slice, capV_slice, and_self]

theorem bd_no_nl {l : List UInt8} (h : BdOk l) : 10 ∉ l := by
  intro hm
  have := h.chars 10 hm
  simp [bchar, alnum, punct] at this

/-- FnNone returns true -/
theorem fnNone_ok {l : List UInt8} {e : Addr} {H : Heap} (hE : EOFat H (.iface 138 (.pointer (some e)))) :
    CallsH Tryz.prog 3 #[strVal l] H fun x H' => x = .bool true ∧ Frm [] H H' := by
  apply s3
  simp only [c3, lenStr_of, Fld_ptr, add_mk, Nat.zero_add, List.getElem?_toArray, List.getElem?_cons_succ, List.getElem?_cons_zero, Get_some, Br_true, Br_false, nth_zero, nth_one, nth_two, extractV_tuple, fieldAddrV_ptr, nilV_ptr, load1V_ptr, pickV_bool, unV_not, lenV_slice, capV_slice, arithV_add, arithV_sub, arithV_eql, arithV_neq, arithV_lss, arithV_leq, arithV_gtr, arithV_geq, intConvV_int]
  refine Br_intro (fun _ => ⟨trivial, Frm.refl _ _⟩) (fun hl0 => ?_)
  have hl : l.length < 2 ^ 40 := by simp only [decide_eq_false_iff_not] at hl0; omega
  refine Br_intro (fun _ => ⟨trivial, Frm.refl _ _⟩) (fun _ => ?_)
  refine (boundary_ok hl).mono ?_
  rintro x H1 ⟨rfl, rfl⟩
  simp only [Fld_ptr, add_mk, Nat.zero_add, List.getElem?_toArray, List.getElem?_cons_succ, List.getElem?_cons_zero, Get_some, Br_true, Br_false, nth_zero, nth_one, nth_two, extractV_tuple, fieldAddrV_ptr, nilV_ptr, load1V_ptr, pickV_bool, unV_not, lenV_slice, capV_slice]
  refine Br_intro (fun _ => ⟨trivial, Frm.refl _ _⟩) (fun hb => ?_)
  have hok : BdOk l := okBd_iff (by simpa using hb)
  refine (write_none hok).mono ?_
  rintro x H2 ⟨v, rfl, hv, f2⟩
  simp only [Fld_ptr, add_mk, Nat.zero_add, List.getElem?_toArray, List.getElem?_cons_succ, List.getElem?_cons_zero, Get_some, Br_true, Br_false, nth_zero, nth_one, nth_two, extractV_tuple, fieldAddrV_ptr, nilV_ptr, load1V_ptr, pickV_bool, unV_not, lenV_slice, capV_slice]
  have hv' : IsBytes H2 v ([13, 10] ++ ([45, 45] ++ l ++ [45, 45, 13, 10])) := by simpa using hv
  have hlen := hok.len
  have hpos := hok.pos
  refine (parts_none hv' ⟨by intro h0; rw [h0] at hpos; simp at hpos, bd_no_nl hok, by omega⟩ (hE.frm f2 (by simp))).mono ?_
  rintro x H3 ⟨rfl, f3⟩
  simp only [Fld_ptr, add_mk, Nat.zero_add, List.getElem?_toArray, List.getElem?_cons_succ, List.getElem?_cons_zero, Get_some, Br_true, Br_false, nth_zero, nth_one, nth_two, extractV_tuple, fieldAddrV_ptr, nilV_ptr, load1V_ptr, pickV_bool, unV_not, lenV_slice, capV_slice]
  refine Join_direct ?_
  have hz : (((0 : Nat) : Int) == 0) = true := by decide
  have ho : ((1 : Int) == 1) = true := by decide
  simp only [Fld_ptr, add_mk, Nat.zero_add, List.getElem?_toArray, List.getElem?_cons_succ, List.getElem?_cons_zero, Get_some, Br_true, Br_false, nth_zero, nth_one, nth_two, extractV_tuple, fieldAddrV_ptr, nilV_ptr, load1V_ptr, pickV_bool, unV_not, lenV_slice, capV_slice, arithV_add, arithV_sub, arithV_eql, arithV_neq, arithV_lss, arithV_leq, arithV_gtr, arithV_geq, intConvV_int, if_true, hz, ho]
  exact ⟨trivial, f2.trans f3⟩
end Go.Cps
