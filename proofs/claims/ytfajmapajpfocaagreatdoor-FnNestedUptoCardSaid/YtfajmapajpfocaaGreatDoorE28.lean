/-
  A part of the proof (its texts: L75, L76): each text says below what it proves.
  Conditions: each contract's own.
-/
import Derived.Test.YtfajmapajpfocaaGreatDoorE16
import Derived.Test.YtfajmapajpfocaaGreatDoorE19
import Derived.Test.YtfajmapajpfocaaGreatDoorE20
import Derived.Test.YtfajmapajpfocaaGreatDoorE23
import Derived.Test.YtfajmapajpfocaaGreatDoorE26
import Derived.Test.YtfajmapajpfocaaGreatDoorE27
set_option linter.all false
/-
  spec.Key, spec.Plain, spec.Canon.
  Conditions: short texts.
-/
namespace Go.Cps
open Go Go.Proofs

theorem store1V_of' {H : Heap} {b o lo hi : Nat} {cs : Array Value} {t : TypeId} (h : H[b]? = some (.cells cs t (lo, hi))) (ho : o < cs.size) (hlo : o < lo) {v : Value} (hv : isOne v = true) :
    store1V (.pointer (some ⟨b, o, none⟩)) v H = some (upd H b (.cells (cs.setIfInBounds o v) t (lo, hi))) := by
  have h1 : (cellH H ⟨b, o, none⟩).isSome = true := by rw [cellH_of h]; simp [ho]
  have h2 : frozenH H ⟨b, o, none⟩ = false := by simp [frozenH, h]; omega
  simp [store1V, storesH, hv, h1, h2, setH_eq_upd h]

def kspec : List UInt8 := [33, 35, 36, 37, 38, 39, 42, 43, 45, 46, 94, 95, 96, 124, 126]
theorem kspec_table : ((List.range 256).all fun n => (alnum n || kspec.contains (UInt8.ofNat n)) == tok n) = true := by kernel_rfl
theorem kspec_eq (b : UInt8) : (alnum b.toNat || kspec.contains b) = tok b.toNat := by
  have h := List.all_eq_true.1 kspec_table b.toNat (List.mem_range.2 b.toNat_lt)
  rw [beq_iff_eq] at h
  simpa using h
def okKey (l : List UInt8) : Bool := (l.all fun b => tok b.toNat) && decide (0 < l.length)

theorem key_ok {l : List UInt8} {H : Heap} (hl : l.length < 2 ^ 40) : CallsH Tryz.prog 76 #[strVal l] H fun x H' => x = .bool (okKey l) ∧ H' = H := by
  apply s76
  unfold c76
  refine ⟨fun n vs H' => ∃ i : Nat, vs = [.int .i64 i] ∧ n = l.length - i ∧ i ≤ l.length ∧ H' = H ∧ (l.take i).all (fun b => tok b.toNat) = true, ⟨_, 0, rfl, rfl, Nat.zero_le _, rfl, by simp⟩, ?_⟩
  rintro n vs H ⟨i, rfl, rfl, hi, rfl, hc⟩
  simp only [lenStr_of, Fld_ptr, add_mk, Nat.zero_add, List.getElem?_toArray, List.getElem?_cons_succ, List.getElem?_cons_zero, Get_some, Br_true, Br_false, nth_zero, nth_one, nth_two, extractV_tuple, fieldAddrV_ptr, nilV_ptr, load1V_ptr, pickV_bool, unV_not, lenV_slice, capV_slice, arithV_add, arithV_sub, arithV_eql, arithV_neq, arithV_lss, arithV_leq, arithV_gtr, arithV_geq, intConvV_int, dec_lt]
  refine Br_intro (fun hlt => ?_) (fun hlt => ?_)
  · have hlt' : i < l.length := by simpa using hlt
    have hd2 := take_all_succ (p := fun b : UInt8 => tok b.toNat) hlt' hc
    simp only [Fld_ptr, add_mk, Nat.zero_add, List.getElem?_toArray, List.getElem?_cons_succ, List.getElem?_cons_zero, Get_some, Br_true, Br_false, nth_zero, nth_one, nth_two, extractV_tuple, fieldAddrV_ptr, nilV_ptr, load1V_ptr, pickV_bool, unV_not, lenV_slice, capV_slice, strIndex_of hlt', inc_i64 (show i < 2 ^ 62 by omega)]
    refine ⟨fun vs H' => vs = [.bool (!tok l[i].toNat)] ∧ H' = H, ?_, ?_⟩
    · rw [byteV]
      refine letter_ok.mono ?_
      rintro x H' ⟨rfl, rfl⟩
      simp only [Fld_ptr, add_mk, Nat.zero_add, List.getElem?_toArray, List.getElem?_cons_succ, List.getElem?_cons_zero, Get_some, Br_true, Br_false, nth_zero, nth_one, nth_two, extractV_tuple, fieldAddrV_ptr, nilV_ptr, load1V_ptr, pickV_bool, unV_not, lenV_slice, capV_slice]
      have hk := kspec_eq l[i]
      refine Br_intro (fun h1 => ?_) (fun h1 => ?_)
      · refine (within_ok (l := kspec) (b := l[i]) (by decide)).mono ?_
        rintro x H' ⟨rfl, rfl⟩
        simp only [Fld_ptr, add_mk, Nat.zero_add, List.getElem?_toArray, List.getElem?_cons_succ, List.getElem?_cons_zero, Get_some, Br_true, Br_false, nth_zero, nth_one, nth_two, extractV_tuple, fieldAddrV_ptr, nilV_ptr, load1V_ptr, pickV_bool, unV_not, lenV_slice, capV_slice, if_true, and_true]
        simp only [Bool.not_eq_true'] at h1
        rw [← hk, h1, Bool.false_or]
      · simp only [Fld_ptr, add_mk, Nat.zero_add, List.getElem?_toArray, List.getElem?_cons_succ, List.getElem?_cons_zero, Get_some, Br_true, Br_false, nth_zero, nth_one, nth_two, extractV_tuple, fieldAddrV_ptr, nilV_ptr, load1V_ptr, pickV_bool, unV_not, lenV_slice, capV_slice, Bool.false_eq_true, if_false, and_true]
        simp only [Bool.not_eq_false'] at h1
        rw [← hk, h1, Bool.true_or]; rfl
    · rintro _ H' ⟨rfl, rfl⟩
      simp only [Fld_ptr, add_mk, Nat.zero_add, List.getElem?_toArray, List.getElem?_cons_succ, List.getElem?_cons_zero, Get_some, Br_true, Br_false, nth_zero, nth_one, nth_two, extractV_tuple, fieldAddrV_ptr, nilV_ptr, load1V_ptr, pickV_bool, unV_not, lenV_slice, capV_slice]
      refine Br_intro (fun h1 => ?_) (fun h1 => ?_)
      · refine ⟨?_, trivial⟩
        have : okKey l = false := by
          rw [← Bool.not_eq_true]
          intro hok
          have := List.all_eq_true.1 (Bool.and_eq_true_iff.1 hok).1 _ (List.getElem_mem hlt')
          rw [this] at h1
          cases h1
        rw [this]
      · simp only [Bool.not_eq_false'] at h1
        exact ⟨_, by omega, i + 1, rfl, rfl, hlt', trivial, by rw [hd2, h1]⟩
  · have : i = l.length := by simp at hlt; omega
    rw [List.take_of_length_le (by omega)] at hc
    refine ⟨?_, trivial⟩
    rw [okKey, hc]
    simp

theorem plain_ok {l : List UInt8} {H : Heap} (hl : l.length < 2 ^ 40) : CallsH Tryz.prog 78 #[strVal l] H fun x H' => ∃ r : Bool, x = .bool r ∧ (r = true → PlainV l) ∧ H' = H := by
  apply s78
  unfold c78
  refine ⟨fun vs H' => ∃ r : Bool, vs = [.bool r] ∧ (r = true → PlainV l) ∧ H' = H, ?_, ?_⟩
  · refine (printable_ok hl).mono ?_
    rintro x H1 ⟨rfl, rfl⟩
    have hpr : l.all prB = true → ∀ b ∈ l, 32 ≤ b.toNat ∧ b.toNat ≤ 126 := fun h b hb => by simpa [prB] using List.all_eq_true.1 h b hb
    refine Br_intro (fun h1 => ?_) (fun h1 => ?_)
    · have e : strV .eql (strVal l) (.string ⟨#[]⟩) = some (.bool (decide (l = []))) := strV_eql' l []
      simp only [e, Get_some]
      refine Br_intro (fun h2 => ?_) (fun h2 => ?_)
      · have h2' : l = [] := by simpa using h2
        simp only [Fld_ptr, add_mk, Nat.zero_add, List.getElem?_toArray, List.getElem?_cons_succ, List.getElem?_cons_zero, Get_some, Br_true, Br_false, nth_zero, nth_one, nth_two, extractV_tuple, fieldAddrV_ptr, nilV_ptr, load1V_ptr, pickV_bool, unV_not, lenV_slice, capV_slice, if_true]
        exact ⟨true, rfl, fun _ => ⟨hpr h1, by simp [h2'], by simp [h2']⟩, trivial⟩
      · have h2' : l ≠ [] := by simpa using h2
        have hpos : 0 < l.length := List.length_pos_iff.2 h2'
        have e2 : IntKind.i64.wrap ((l.length : Int) - 1) = ((l.length - 1 : Nat) : Int) := by rw [wrap_i64 (by omega) (by omega)]; omega
        have e0 : strIndexV (strVal l) (.int .i64 0) = some (byteV l[0]) := strIndex_of (i := 0) hpos
        have b0 : (((l[0].toNat : Nat) : Int) == 32) = (l[0] == 32) := byte_beq _ 32
        have b1 : (((l[l.length - 1].toNat : Nat) : Int) == 32) = (l[l.length - 1] == 32) := byte_beq _ 32
        simp only [e0, Fld_ptr, add_mk, Nat.zero_add, List.getElem?_toArray, List.getElem?_cons_succ, List.getElem?_cons_zero, Get_some, Br_true, Br_false, nth_zero, nth_one, nth_two, extractV_tuple, fieldAddrV_ptr, nilV_ptr, load1V_ptr, pickV_bool, unV_not, lenV_slice, capV_slice, arithV_add, arithV_sub, arithV_eql, arithV_neq, arithV_lss, arithV_leq, arithV_gtr, arithV_geq, intConvV_int, byteV, b0]
        refine Br_intro (fun h3 => ?_) (fun h3 => ?_)
        · simp only [lenStr_of, Fld_ptr, add_mk, Nat.zero_add, List.getElem?_toArray, List.getElem?_cons_succ, List.getElem?_cons_zero, Get_some, Br_true, Br_false, nth_zero, nth_one, nth_two, extractV_tuple, fieldAddrV_ptr, nilV_ptr, load1V_ptr, pickV_bool, unV_not, lenV_slice, capV_slice, arithV_add, arithV_sub, arithV_eql, arithV_neq, arithV_lss, arithV_leq, arithV_gtr, arithV_geq, intConvV_int, e2, strIndex_of (show l.length - 1 < l.length by omega), byteV, b1, if_true]
          simp only [Bool.false_eq_true, if_false, Fld_ptr, add_mk, Nat.zero_add, List.getElem?_toArray, List.getElem?_cons_succ, List.getElem?_cons_zero, Get_some, Br_true, Br_false, nth_zero, nth_one, nth_two, extractV_tuple, fieldAddrV_ptr, nilV_ptr, load1V_ptr, pickV_bool, unV_not, lenV_slice, capV_slice]
          refine ⟨_, rfl, fun h4 => ⟨hpr h1, ?_, ?_⟩, trivial⟩
          · rw [List.head?_eq_getElem?, List.getElem?_eq_getElem hpos]
            have h3' : ¬ ((l[0].toNat : Int) = 32) := by simpa [bne] using h3
            intro e
            rw [Option.some.inj e] at h3'
            exact h3' rfl
          · rw [List.getLast?_eq_getElem?, List.getElem?_eq_getElem (by omega)]
            have h4' : ¬ ((l[l.length - 1].toNat : Int) = 32) := by simpa [bne] using h4
            intro e
            rw [Option.some.inj e] at h4'
            exact h4' rfl
        · simp only [Fld_ptr, add_mk, Nat.zero_add, List.getElem?_toArray, List.getElem?_cons_succ, List.getElem?_cons_zero, Get_some, Br_true, Br_false, nth_zero, nth_one, nth_two, extractV_tuple, fieldAddrV_ptr, nilV_ptr, load1V_ptr, pickV_bool, unV_not, lenV_slice, capV_slice, if_true, Bool.false_eq_true, if_false]
          exact ⟨false, rfl, fun h => (by cases h), trivial⟩
    · simp only [Fld_ptr, add_mk, Nat.zero_add, List.getElem?_toArray, List.getElem?_cons_succ, List.getElem?_cons_zero, Get_some, Br_true, Br_false, nth_zero, nth_one, nth_two, extractV_tuple, fieldAddrV_ptr, nilV_ptr, load1V_ptr, pickV_bool, unV_not, lenV_slice, capV_slice, Bool.false_eq_true, if_false]
      exact ⟨false, rfl, fun h => (by cases h), trivial⟩
  · rintro _ H' ⟨r, rfl, h, rfl⟩
    exact ⟨r, rfl, h, rfl⟩

theorem toBytes_cells {l : List UInt8} {e : TypeId} {H : Heap} {K : Value → Heap → Prop} (h : ∀ c H' cs, l.length ≤ c → H'[H.size]? = some (.cells cs e (c, c + 1)) → cs.size = c → (∀ j, j < l.length → cs[j]? = (l[j]?).map byteV) → Frm [] H H' → H'.size = H.size + 1 → K (.slice (some ⟨H.size, 0, none⟩) l.length c) H') : ToBytes e (strVal l) H K := by
  refine ⟨_, rfl, fun c hc => ?_⟩
  rw [bstr_size] at hc ⊢
  refine h c _ _ hc (push_same _ _) (by simp; omega) (fun j hj => ?_) (Frm.push _ _ _) (by simp)
  rw [Array.getElem?_append_left (by simpa using hj)]
  simp
  rfl
theorem canon45_table : ([true, false].all fun up => (List.range 256).all fun n => (canon1 up (UInt8.ofNat n) == 45) == (UInt8.ofNat n == 45)) = true := by kernel_rfl
theorem canon45 (up : Bool) (b : UInt8) : (canon1 up b == 45) = (b == 45) := by
  have h := List.all_eq_true.1 canon45_table up (by cases up <;> simp)
  have h2 := List.all_eq_true.1 h b.toNat (List.mem_range.2 b.toNat_lt)
  rw [beq_iff_eq] at h2
  simpa using h2

theorem canon_ok {l : List UInt8} {H : Heap} (hl : l.length < 2 ^ 40) : CallsH Tryz.prog 77 #[strVal l] H fun x H' => x = strVal (canonG true l) ∧ Frm [] H H' := by
  apply s77
  unfold c77
  refine toBytes_cells fun c H1 cs hc hg hcs hrow f1 z1 => ?_
  have hln : lenV (.slice (some ⟨H.size, 0, none⟩) l.length c) = some (.int .i64 l.length) := rfl
  simp only [hln, Get_some]
  generalize hgs : H.size = g at *
  refine ⟨fun n vs H' => ∃ (i : Nat) (up : Bool) (d : List UInt8) (A : Array Value), vs = [.bool up, .int .i64 i] ∧ n = l.length - i ∧ i ≤ l.length ∧ canonG true l = d ++ canonG up (l.drop i) ∧ d.length = i ∧
        H'[g]? = some (.cells A 5 (c, c + 1)) ∧ A.size = c ∧ (∀ j, j < i → A[j]? = (d[j]?).map byteV) ∧ (∀ j, i ≤ j → j < l.length → A[j]? = (l[j]?).map byteV) ∧ Frm [] H H' ∧ g < H'.size,
      ⟨_, 0, true, [], cs, rfl, rfl, Nat.zero_le _, rfl, rfl, hg, hcs, fun j hj => absurd hj (by omega), fun j _ hj => hrow j hj, f1, by omega⟩, ?_⟩
  rintro n vs H2 ⟨i, up, d, A, rfl, rfl, hi, hcan, hd, hA, hAs, hA1, hA2, f2, hgl⟩
  simp only [Fld_ptr, add_mk, Nat.zero_add, List.getElem?_toArray, List.getElem?_cons_succ, List.getElem?_cons_zero, Get_some, Br_true, Br_false, nth_zero, nth_one, nth_two, extractV_tuple, fieldAddrV_ptr, nilV_ptr, load1V_ptr, pickV_bool, unV_not, lenV_slice, capV_slice, arithV_add, arithV_sub, arithV_eql, arithV_neq, arithV_lss, arithV_leq, arithV_gtr, arithV_geq, intConvV_int, dec_lt]
  refine Br_intro (fun hlt => ?_) (fun hlt => ?_)
  · have hlt' : i < l.length := by simpa using hlt
    have hr2 : l.drop i = l[i] :: l.drop (i + 1) := List.drop_eq_getElem_cons hlt'
    have hAi := hA2 i (Nat.le_refl _) hlt'
    rw [List.getElem?_eq_getElem hlt'] at hAi
    generalize hb : l[i] = b at *
    have hea : elemAddrV 1 (.slice (some ⟨g, 0, none⟩) l.length c) (.int .i64 i) = some (.pointer (some ⟨g, i, none⟩)) := by
      rw [elemAddr_of (by omega) (by omega)]; simp
    have hcell : cellH H2 ⟨g, i, none⟩ = some (byteV b) := by rw [cellH_of hA, hAi]; rfl
    have hblt := b.toNat_lt
    have hci := canon1_eq up b
    have h45 : ((b.toNat : Int) == 45) = (b == 45) := byte_beq b 45
    simp only [hea, Fld_ptr, add_mk, Nat.zero_add, List.getElem?_toArray, List.getElem?_cons_succ, List.getElem?_cons_zero, Get_some, Br_true, Br_false, nth_zero, nth_one, nth_two, extractV_tuple, fieldAddrV_ptr, nilV_ptr, load1V_ptr, pickV_bool, unV_not, lenV_slice, capV_slice, hcell, byteV]
    generalize hm : ((b.toNat : Nat) : Int) = m at *
    have hstore : ∀ (H' : Heap) (A' : Array Value) (x : Int), H'[g]? = some (.cells A' 5 (c, c + 1)) → A'.size = c → store1V (.pointer (some ⟨g, i, none⟩)) (.int .u8 x) H' = some (upd H' g (.cells (A'.setIfInBounds i (.int .u8 x)) 5 (c, c + 1))) := fun H' A' x h1 h2 => store1V_of' h1 (by omega) (by omega) rfl
    refine ⟨fun _ H' => ∃ A' : Array Value, H'[g]? = some (.cells A' 5 (c, c + 1)) ∧ A'.size = c ∧ (∀ j, j ≠ i → A'[j]? = A[j]?) ∧ A'[i]? = some (.int .u8 (if up && (decide (97 ≤ m) && decide (m ≤ 122)) then m - 32 else m)) ∧ Frm [g] H2 H' ∧ H'.size = H2.size, ?_, ?_⟩
    · refine ⟨fun vs H' => vs = [.bool (up && (decide (97 ≤ m) && decide (m ≤ 122)))] ∧ H' = H2, ?_, ?_⟩
      · cases up <;> simp only [Fld_ptr, add_mk, Nat.zero_add, List.getElem?_toArray, List.getElem?_cons_succ, List.getElem?_cons_zero, Get_some, Br_true, Br_false, nth_zero, nth_one, nth_two, extractV_tuple, fieldAddrV_ptr, nilV_ptr, load1V_ptr, pickV_bool, unV_not, lenV_slice, capV_slice, arithV_add, arithV_sub, arithV_eql, arithV_neq, arithV_lss, arithV_leq, arithV_gtr, arithV_geq, intConvV_int, Bool.false_eq_true, if_false, if_true]
        · simp
        · refine Br_intro (fun h1 => ?_) (fun h1 => ?_) <;> simp [h1]
      · rintro _ H2 ⟨rfl, rfl⟩
        simp only [Fld_ptr, add_mk, Nat.zero_add, List.getElem?_toArray, List.getElem?_cons_succ, List.getElem?_cons_zero, Get_some, Br_true, Br_false, nth_zero, nth_one, nth_two, extractV_tuple, fieldAddrV_ptr, nilV_ptr, load1V_ptr, pickV_bool, unV_not, lenV_slice, capV_slice]
        refine Br_intro (fun h1 => ?_) (fun h1 => ?_)
        · have h1' : 97 ≤ m ∧ m ≤ 122 := by simp at h1; omega
          have e3 : IntKind.u8.wrap (m - 32) = m - 32 := wrap_u8 (by omega) (by omega)
          simp only [arithV_add, arithV_sub, arithV_eql, arithV_neq, arithV_lss, arithV_leq, arithV_gtr, arithV_geq, intConvV_int, Fld_ptr, add_mk, Nat.zero_add, List.getElem?_toArray, List.getElem?_cons_succ, List.getElem?_cons_zero, Get_some, Br_true, Br_false, nth_zero, nth_one, nth_two, extractV_tuple, fieldAddrV_ptr, nilV_ptr, load1V_ptr, pickV_bool, unV_not, lenV_slice, capV_slice, e3, hstore H2 A (m - 32) hA hAs, h1, if_true]
          refine ⟨_, upd_same hgl, by simp [hAs], fun j hj => ?_, ?_, Frm.upd _ (by simp), by simp⟩
          · rw [Array.getElem?_setIfInBounds, if_neg (fun e => hj e.symm)]
          · rw [Array.getElem?_setIfInBounds, if_pos rfl, if_pos (by omega)]
        · simp only [h1, Bool.false_eq_true, if_false]
          exact ⟨A, hA, hAs, fun _ _ => rfl, by rw [hAi, Option.map_some, byteV, hm], Frm.refl _ _, trivial⟩
    rintro _ H3 ⟨A3, hA3, hA3s, hA3o, hA3i, f3, z3⟩
    refine ⟨fun _ H' => ∃ A' : Array Value, H'[g]? = some (.cells A' 5 (c, c + 1)) ∧ A'.size = c ∧ (∀ j, j ≠ i → A'[j]? = A[j]?) ∧ A'[i]? = some (.int .u8 (canonI up m)) ∧ Frm [g] H2 H' ∧ H'.size = H2.size, ?_, ?_⟩
    · refine ⟨fun vs H' => vs = [.bool (!up && (decide (65 ≤ m) && decide (m ≤ 90)))] ∧ H' = H3, ?_, ?_⟩
      · cases up <;> simp only [Fld_ptr, add_mk, Nat.zero_add, List.getElem?_toArray, List.getElem?_cons_succ, List.getElem?_cons_zero, Get_some, Br_true, Br_false, nth_zero, nth_one, nth_two, extractV_tuple, fieldAddrV_ptr, nilV_ptr, load1V_ptr, pickV_bool, unV_not, lenV_slice, capV_slice, arithV_add, arithV_sub, arithV_eql, arithV_neq, arithV_lss, arithV_leq, arithV_gtr, arithV_geq, intConvV_int, Bool.false_eq_true, if_false, if_true, Bool.not_true, Bool.not_false]
        · refine Br_intro (fun h1 => ?_) (fun h1 => ?_) <;> simp [h1]
        · simp
      · rintro _ H3 ⟨rfl, rfl⟩
        simp only [Fld_ptr, add_mk, Nat.zero_add, List.getElem?_toArray, List.getElem?_cons_succ, List.getElem?_cons_zero, Get_some, Br_true, Br_false, nth_zero, nth_one, nth_two, extractV_tuple, fieldAddrV_ptr, nilV_ptr, load1V_ptr, pickV_bool, unV_not, lenV_slice, capV_slice]
        refine Br_intro (fun h1 => ?_) (fun h1 => ?_)
        · have h1' : 65 ≤ m ∧ m ≤ 90 := by simp at h1; omega
          have hup : up = false := by simp at h1; exact h1.1
          have e3 : IntKind.u8.wrap (m + 32) = m + 32 := wrap_u8 (by omega) (by omega)
          simp only [arithV_add, arithV_sub, arithV_eql, arithV_neq, arithV_lss, arithV_leq, arithV_gtr, arithV_geq, intConvV_int, Fld_ptr, add_mk, Nat.zero_add, List.getElem?_toArray, List.getElem?_cons_succ, List.getElem?_cons_zero, Get_some, Br_true, Br_false, nth_zero, nth_one, nth_two, extractV_tuple, fieldAddrV_ptr, nilV_ptr, load1V_ptr, pickV_bool, unV_not, lenV_slice, capV_slice, e3, hstore H3 A3 (m + 32) hA3 hA3s]
          refine ⟨_, upd_same (by omega), by simp [hA3s], fun j hj => ?_, ?_, f3.trans (Frm.upd _ (by simp)), by simp [z3]⟩
          · rw [Array.getElem?_setIfInBounds, if_neg (fun e => hj e.symm)]; exact hA3o j hj
          · rw [Array.getElem?_setIfInBounds, if_pos rfl, if_pos (by omega), canonI, hup]
            simp [h1'.1, h1'.2]
        · refine ⟨A3, hA3, hA3s, hA3o, ?_, f3, z3⟩
          rw [hA3i, canonI, h1]
          simp
    rintro _ H4 ⟨A4, hA4, hA4s, hA4o, hA4i, f4, z4⟩
    simp only [arithV_add, arithV_sub, arithV_eql, arithV_neq, arithV_lss, arithV_leq, arithV_gtr, arithV_geq, intConvV_int, Fld_ptr, add_mk, Nat.zero_add, List.getElem?_toArray, List.getElem?_cons_succ, List.getElem?_cons_zero, Get_some, Br_true, Br_false, nth_zero, nth_one, nth_two, extractV_tuple, fieldAddrV_ptr, nilV_ptr, load1V_ptr, pickV_bool, unV_not, lenV_slice, capV_slice, h45, inc_i64 (show i < 2 ^ 62 by omega)]
    refine ⟨_, by omega, i + 1, b == 45, d ++ [canon1 up b], A4, rfl, rfl, hlt', ?_, by simp [hd], hA4, hA4s, fun j hj => ?_, fun j hj1 hj2 => ?_, f2.up f4 (fun x hx => by rw [List.mem_singleton] at hx; subst hx; exact .inr (by omega)), by omega⟩
    · rw [hcan, hr2, canonG, canon45]; simp
    · by_cases hji : j = i
      · subst hji
        rw [hA4i, hci, ← hd]
        simp [byteV]
      · rw [hA4o j hji, hA1 j (by omega), List.getElem?_append_left (by omega)]
    · rw [hA4o j (by omega)]
      exact hA2 j (by omega) hj2
  · have hik : i = l.length := by
      simp only [decide_eq_false_iff_not] at hlt
      omega
    subst hik
    rw [List.drop_length] at hcan
    simp only [canonG, List.append_nil] at hcan
    have hcl := canonG_length true l
    have hx : IsBytes H2 (.slice (some ⟨g, 0, none⟩) l.length c) (canonG true l) := by
      refine .inl ⟨g, 0, c, by rw [hcl], by rw [hcl]; exact hc, fun j hj => ?_⟩
      rw [hcl] at hj
      rw [cellH_of hA, Nat.zero_add, hA1 j hj, hcan]
    simp only [hx.str, Get_some]
    exact ⟨rfl, f2⟩
end Go.Cps

/-
  zzFits of parts; windows of slices; comparing of keys.
  Conditions: each contract's own.
-/
namespace Go.Cps
open Go Go.Proofs

theorem strV_lss (a b : List UInt8) : strV .lss (strVal a) (strVal b) = some (.bool (decide (a < b))) := by
  simp only [strV, strVal, toList_mk]
  rw [bytesLess_eq]
theorem strV_geq (a b : List UInt8) : strV .geq (strVal a) (strVal b) = some (.bool (!decide (a < b))) := by
  simp only [strV, strVal, toList_mk]
  rw [bytesLess_eq]

theorem SlV.upto {α : Type} {w : Nat} {R : List Nat → Heap → α → List Value → Prop} {D : List Nat} {H : Heap} {v : Value} {l : List α} (h : SlV w R D H v l) {i : Nat} (hi : i ≤ l.length) (k : IntKind) :
    ∃ y, sliceV w v none (some (.int k i)) none = some y ∧ SlV w R D H y (l.take i) := by
  have hlen : (l.take i).length = i := by rw [List.length_take]; omega
  rcases h with ⟨b, o, c, rfl, h1, h2, h3, h4⟩ | ⟨a, rfl, rfl⟩
  · refine ⟨_, sliceV_hi (by omega) k, .inl ⟨b, o, c, by rw [hlen], by omega, h2, h3, fun j hj => ?_⟩⟩
    rw [hlen] at hj
    obtain ⟨vs, g1, g2, g3⟩ := h4 j (by omega)
    exact ⟨vs, g1, by rw [List.getElem_take]; exact g2, g3⟩
  · have : i = 0 := by simpa using hi
    subst this
    exact ⟨_, sliceV_hi (Nat.le_refl 0) k, .inr ⟨a, rfl, rfl⟩⟩

theorem head_shape {D : List Nat} {H : Heap} {p : Hdr} {vs : List Value} (h : HeadR D H p vs) : ∃ y, vs = [strVal p.1, y] ∧ StrsV D H y p.2 := h

theorem fits2_ok {D : List Nat} {H : Heap} {v : Value} {l : List (List UInt8)} (hv : StrsV D H v l) (hl : l.length < 2 ^ 40) : CallsH Tryz.prog 80 #[v] H fun x H' => isBool x ∧ Frm [] H H' := by
  apply s80
  simp only [c80, hv.len, Fld_ptr, add_mk, Nat.zero_add, List.getElem?_toArray, List.getElem?_cons_succ, List.getElem?_cons_zero, Get_some, Br_true, Br_false, nth_zero, nth_one, nth_two, extractV_tuple, fieldAddrV_ptr, nilV_ptr, load1V_ptr, pickV_bool, unV_not, lenV_slice, capV_slice, arithV_add, arithV_sub, arithV_eql, arithV_neq, arithV_lss, arithV_leq, arithV_gtr, arithV_geq, intConvV_int]
  refine Br_intro (fun _ => ⟨⟨_, rfl⟩, Frm.refl _ _⟩) (fun _ => ?_)
  refine ⟨fun μ vs H' => ∃ i : Nat, vs = [.int .i64 i] ∧ μ = l.length - i ∧ i ≤ l.length ∧ H' = H, ⟨_, 0, rfl, rfl, Nat.zero_le _, rfl⟩, ?_⟩
  rintro μ vs H ⟨i, rfl, rfl, hi, rfl⟩
  simp only [Fld_ptr, add_mk, Nat.zero_add, List.getElem?_toArray, List.getElem?_cons_succ, List.getElem?_cons_zero, Get_some, Br_true, Br_false, nth_zero, nth_one, nth_two, extractV_tuple, fieldAddrV_ptr, nilV_ptr, load1V_ptr, pickV_bool, unV_not, lenV_slice, capV_slice, arithV_add, arithV_sub, arithV_eql, arithV_neq, arithV_lss, arithV_leq, arithV_gtr, arithV_geq, intConvV_int, dec_lt]
  refine Br_intro (fun hlt => ?_) (fun hlt => ⟨⟨_, rfl⟩, Frm.refl _ _⟩)
  have hlt' : i < l.length := by simpa using hlt
  obtain ⟨a, ha, hc⟩ := strs_elem hv hlt'
  have hc' : load1V (.pointer (some a)) H = some (strVal l[i]) := hc
  simp only [ha, Get_some, hc', lenStr_of, Fld_ptr, add_mk, Nat.zero_add, List.getElem?_toArray, List.getElem?_cons_succ, List.getElem?_cons_zero, Get_some, Br_true, Br_false, nth_zero, nth_one, nth_two, extractV_tuple, fieldAddrV_ptr, nilV_ptr, load1V_ptr, pickV_bool, unV_not, lenV_slice, capV_slice, arithV_add, arithV_sub, arithV_eql, arithV_neq, arithV_lss, arithV_leq, arithV_gtr, arithV_geq, intConvV_int]
  refine Br_intro (fun _ => ⟨⟨_, rfl⟩, Frm.refl _ _⟩) (fun _ => ?_)
  simp only [inc_i64 (show i < 2 ^ 62 by omega)]
  exact ⟨_, by omega, i + 1, rfl, rfl, hlt', trivial⟩

theorem fits6_ok {D : List Nat} {H : Heap} {p : Hdr} {vs : List Value} (h : HeadR D H p vs) (hl : p.2.length < 2 ^ 40) : CallsH Tryz.prog 54 #[.agg vs.toArray] H fun x H' => isBool x ∧ Frm [] H H' := by
  obtain ⟨y, rfl, hy⟩ := h
  apply s54
  simp only [c54, New, Value.cells]
  have f1 : Frm [] H (H.push (.cells #[strVal p.1, y] 90 (0, 0))) := Frm.push _ _ _
  have hb1 := push_same H (.cells #[strVal p.1, y] 90 (0, 0))
  generalize H.push (.cells #[strVal p.1, y] 90 (0, 0)) = H1 at *
  simp only [Fld_ptr, add_mk, Nat.zero_add, List.getElem?_toArray, List.getElem?_cons_succ, List.getElem?_cons_zero, Get_some, Br_true, Br_false, nth_zero, nth_one, nth_two, extractV_tuple, fieldAddrV_ptr, nilV_ptr, load1V_ptr, pickV_bool, unV_not, lenV_slice, capV_slice, arithV_add, arithV_sub, arithV_eql, arithV_neq, arithV_lss, arithV_leq, arithV_gtr, arithV_geq, intConvV_int, cellH_of hb1, lenStr_of]
  refine Br_intro (fun _ => ⟨⟨_, rfl⟩, f1⟩) (fun _ => ?_)
  refine (fits2_ok (hy.frm strR_ok f1 (by simp)) hl).mono ?_
  rintro x H2 ⟨⟨r, rfl⟩, f2⟩
  simp only [Fld_ptr, add_mk, Nat.zero_add, List.getElem?_toArray, List.getElem?_cons_succ, List.getElem?_cons_zero, Get_some, Br_true, Br_false, nth_zero, nth_one, nth_two, extractV_tuple, fieldAddrV_ptr, nilV_ptr, load1V_ptr, pickV_bool, unV_not, lenV_slice, capV_slice]
  exact Br_intro (fun _ => ⟨⟨_, rfl⟩, f1.trans f2⟩) (fun _ => ⟨⟨_, rfl⟩, f1.trans f2⟩)

theorem fits5_ok {D : List Nat} {H : Heap} {v : Value} {l : List Hdr} (hv : HeadsV D H v l) (hl : l.length < 2 ^ 40) (hl2 : ∀ p ∈ l, p.2.length < 2 ^ 40) : CallsH Tryz.prog 22 #[v] H fun x H' => isBool x ∧ Frm [] H H' := by
  apply s22
  simp only [c22, hv.len, Fld_ptr, add_mk, Nat.zero_add, List.getElem?_toArray, List.getElem?_cons_succ, List.getElem?_cons_zero, Get_some, Br_true, Br_false, nth_zero, nth_one, nth_two, extractV_tuple, fieldAddrV_ptr, nilV_ptr, load1V_ptr, pickV_bool, unV_not, lenV_slice, capV_slice, arithV_add, arithV_sub, arithV_eql, arithV_neq, arithV_lss, arithV_leq, arithV_gtr, arithV_geq, intConvV_int]
  refine Br_intro (fun _ => ⟨⟨_, rfl⟩, Frm.refl _ _⟩) (fun _ => ?_)
  refine ⟨fun μ vs H' => ∃ i : Nat, vs = [.int .i64 i] ∧ μ = l.length - i ∧ i ≤ l.length ∧ Frm [] H H', ⟨_, 0, rfl, rfl, Nat.zero_le _, Frm.refl _ _⟩, ?_⟩
  rintro μ vs H1 ⟨i, rfl, rfl, hi, f1⟩
  simp only [Fld_ptr, add_mk, Nat.zero_add, List.getElem?_toArray, List.getElem?_cons_succ, List.getElem?_cons_zero, Get_some, Br_true, Br_false, nth_zero, nth_one, nth_two, extractV_tuple, fieldAddrV_ptr, nilV_ptr, load1V_ptr, pickV_bool, unV_not, lenV_slice, capV_slice, arithV_add, arithV_sub, arithV_eql, arithV_neq, arithV_lss, arithV_leq, arithV_gtr, arithV_geq, intConvV_int, dec_lt]
  refine Br_intro (fun hlt => ?_) (fun hlt => ⟨⟨_, rfl⟩, f1⟩)
  have hlt' : i < l.length := by simpa using hlt
  obtain ⟨a, vs, ha, hlo, _, hR, _⟩ := (hv.frm headR_ok f1 (by simp)).elem hlt'
  obtain ⟨y, rfl, hy⟩ := head_shape hR
  simp only [ha, Get_some, hlo]
  refine local2' (K := fun x5 H => _) rfl hy.isOne fun H2 hb2 f2 z2 => ?_
  simp only [loadNV_of (n := 2) hb2 rfl, Get_some]
  refine (fits6_ok (headR_ok.frm (D := D) ⟨y, rfl, hy⟩ f2 (by simp)) (hl2 _ (List.getElem_mem hlt'))).mono ?_
  rintro x H3 ⟨⟨r, rfl⟩, f3⟩
  have f13 := (f1.trans f2).trans f3
  simp only [Fld_ptr, add_mk, Nat.zero_add, List.getElem?_toArray, List.getElem?_cons_succ, List.getElem?_cons_zero, Get_some, Br_true, Br_false, nth_zero, nth_one, nth_two, extractV_tuple, fieldAddrV_ptr, nilV_ptr, load1V_ptr, pickV_bool, unV_not, lenV_slice, capV_slice]
  refine Br_intro (fun _ => ⟨⟨_, rfl⟩, f13⟩) (fun _ => ?_)
  simp only [inc_i64 (show i < 2 ^ 62 by omega)]
  exact ⟨_, by omega, i + 1, rfl, rfl, hlt', f13⟩

theorem fits4_ok {D : List Nat} {H : Heap} {p : PartL} {vs : List Value} (h : PartR D H p vs) (hl : p.1.length < 2 ^ 40) (hl2 : ∀ q ∈ p.1, q.2.length < 2 ^ 40) : CallsH Tryz.prog 48 #[.agg vs.toArray] H fun x H' => isBool x ∧ Frm [] H H' := by
  obtain ⟨y, z, rfl, hy, hz⟩ := h
  apply s48
  simp only [c48, New, Value.cells]
  have f1 : Frm [] H (H.push (.cells #[y, z] 39 (0, 0))) := Frm.push _ _ _
  have hb1 := push_same H (.cells #[y, z] 39 (0, 0))
  generalize H.push (.cells #[y, z] 39 (0, 0)) = H1 at *
  simp only [Fld_ptr, add_mk, Nat.zero_add, List.getElem?_toArray, List.getElem?_cons_succ, List.getElem?_cons_zero, Get_some, Br_true, Br_false, nth_zero, nth_one, nth_two, extractV_tuple, fieldAddrV_ptr, nilV_ptr, load1V_ptr, pickV_bool, unV_not, lenV_slice, capV_slice, arithV_add, arithV_sub, arithV_eql, arithV_neq, arithV_lss, arithV_leq, arithV_gtr, arithV_geq, intConvV_int, cellH_of hb1]
  refine (fits5_ok (hy.frm headR_ok f1 (by simp)) hl hl2).mono ?_
  rintro x H2 ⟨⟨r, rfl⟩, f2⟩
  have hb2 := f2.get hb1 (by simp)
  simp only [Fld_ptr, add_mk, Nat.zero_add, List.getElem?_toArray, List.getElem?_cons_succ, List.getElem?_cons_zero, Get_some, Br_true, Br_false, nth_zero, nth_one, nth_two, extractV_tuple, fieldAddrV_ptr, nilV_ptr, load1V_ptr, pickV_bool, unV_not, lenV_slice, capV_slice]
  refine Br_intro (fun _ => ⟨⟨_, rfl⟩, f1.trans f2⟩) (fun _ => ?_)
  simp only [Fld_ptr, add_mk, Nat.zero_add, List.getElem?_toArray, List.getElem?_cons_succ, List.getElem?_cons_zero, Get_some, Br_true, Br_false, nth_zero, nth_one, nth_two, extractV_tuple, fieldAddrV_ptr, nilV_ptr, load1V_ptr, pickV_bool, unV_not, lenV_slice, capV_slice, arithV_add, arithV_sub, arithV_eql, arithV_neq, arithV_lss, arithV_leq, arithV_gtr, arithV_geq, intConvV_int, cellH_of hb2, hz.1.len]
  exact Br_intro (fun _ => ⟨⟨_, rfl⟩, f1.trans f2⟩) (fun _ => ⟨⟨_, rfl⟩, f1.trans f2⟩)

theorem fits3_ok {D : List Nat} {H : Heap} {v : Value} {l : List PartL} (hv : PartsV D H v l) (hl : l.length < 2 ^ 40) (hl2 : ∀ p ∈ l, p.1.length < 2 ^ 40 ∧ ∀ q ∈ p.1, q.2.length < 2 ^ 40) : CallsH Tryz.prog 17 #[v] H fun x H' => isBool x ∧ Frm [] H H' := by
  apply s17
  simp only [c17, hv.len, Fld_ptr, add_mk, Nat.zero_add, List.getElem?_toArray, List.getElem?_cons_succ, List.getElem?_cons_zero, Get_some, Br_true, Br_false, nth_zero, nth_one, nth_two, extractV_tuple, fieldAddrV_ptr, nilV_ptr, load1V_ptr, pickV_bool, unV_not, lenV_slice, capV_slice, arithV_add, arithV_sub, arithV_eql, arithV_neq, arithV_lss, arithV_leq, arithV_gtr, arithV_geq, intConvV_int]
  refine Br_intro (fun _ => ⟨⟨_, rfl⟩, Frm.refl _ _⟩) (fun _ => ?_)
  refine ⟨fun μ vs H' => ∃ i : Nat, vs = [.int .i64 i] ∧ μ = l.length - i ∧ i ≤ l.length ∧ Frm [] H H', ⟨_, 0, rfl, rfl, Nat.zero_le _, Frm.refl _ _⟩, ?_⟩
  rintro μ vs H1 ⟨i, rfl, rfl, hi, f1⟩
  simp only [Fld_ptr, add_mk, Nat.zero_add, List.getElem?_toArray, List.getElem?_cons_succ, List.getElem?_cons_zero, Get_some, Br_true, Br_false, nth_zero, nth_one, nth_two, extractV_tuple, fieldAddrV_ptr, nilV_ptr, load1V_ptr, pickV_bool, unV_not, lenV_slice, capV_slice, arithV_add, arithV_sub, arithV_eql, arithV_neq, arithV_lss, arithV_leq, arithV_gtr, arithV_geq, intConvV_int, dec_lt]
  refine Br_intro (fun hlt => ?_) (fun hlt => ⟨⟨_, rfl⟩, f1⟩)
  have hlt' : i < l.length := by simpa using hlt
  obtain ⟨a, vs, ha, hlo, _, hR, _⟩ := (hv.frm partR_ok f1 (by simp)).elem hlt'
  obtain ⟨y, z, rfl, hy, hz⟩ := part_shape hR
  simp only [ha, Get_some, hlo]
  refine local2' (K := fun x5 H => _) hy.isOne hz.isOne fun H2 hb2 f2 z2 => ?_
  simp only [loadNV_of (n := 2) hb2 rfl, Get_some]
  obtain ⟨k1, k2⟩ := hl2 _ (List.getElem_mem hlt')
  refine (fits4_ok (partR_ok.frm (D := D) ⟨y, z, rfl, hy, hz⟩ f2 (by simp)) k1 k2).mono ?_
  rintro x H3 ⟨⟨r, rfl⟩, f3⟩
  have f13 := (f1.trans f2).trans f3
  simp only [Fld_ptr, add_mk, Nat.zero_add, List.getElem?_toArray, List.getElem?_cons_succ, List.getElem?_cons_zero, Get_some, Br_true, Br_false, nth_zero, nth_one, nth_two, extractV_tuple, fieldAddrV_ptr, nilV_ptr, load1V_ptr, pickV_bool, unV_not, lenV_slice, capV_slice]
  refine Br_intro (fun _ => ⟨⟨_, rfl⟩, f13⟩) (fun _ => ?_)
  simp only [inc_i64 (show i < 2 ^ 62 by omega)]
  exact ⟨_, by omega, i + 1, rfl, rfl, hlt', f13⟩
end Go.Cps
