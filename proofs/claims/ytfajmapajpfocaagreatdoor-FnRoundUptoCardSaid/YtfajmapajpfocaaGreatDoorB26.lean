/-
  A part of the proof (its texts: L66, L67, L68): each text says below what it proves.
  Conditions: each contract's own.
-/
import Derived.Test.YtfajmapajpfocaaGreatDoorB12
import Derived.Test.YtfajmapajpfocaaGreatDoorB15
import Derived.Test.YtfajmapajpfocaaGreatDoorB25
set_option linter.all false
/-
  spec.Printable, spec.find, spec.Free.
  Conditions: each contract's own.
-/
namespace Go.Cps
open Go Go.Proofs

def prB (b : UInt8) : Bool := decide (32 ≤ b.toNat) && decide (b.toNat ≤ 126)

theorem take_all_succ {p : UInt8 → Bool} {l : List UInt8} {i : Nat} (h : i < l.length) (ht : (l.take i).all p = true) : (l.take (i + 1)).all p = p l[i] := by
  rw [List.take_succ_eq_append_getElem h, List.all_append, ht]; simp
theorem all_false {p : UInt8 → Bool} {l : List UInt8} {i : Nat} (h : i < l.length) (hp : p l[i] = false) : l.all p = false := by
  rw [← Bool.not_eq_true, List.all_eq_true]
  intro ha
  rw [ha _ (List.getElem_mem h)] at hp
  cases hp

theorem printable_ok {l : List UInt8} {H : Heap} (hl : l.length < 2 ^ 40) : CallsH Tryz.prog 41 #[strVal l] H fun x H' => x = .bool (l.all prB) ∧ H' = H := by
  apply s41
  unfold c41
  refine ⟨fun μ vs H' => ∃ i : Nat, vs = [.int .i64 i] ∧ μ = l.length - i ∧ i ≤ l.length ∧ H' = H ∧ (l.take i).all prB = true, ⟨_, 0, rfl, rfl, Nat.zero_le _, rfl, by simp⟩, ?_⟩
  rintro μ vs H ⟨i, rfl, rfl, hi, rfl, ht⟩
  simp only [lenStr_of, Fld_ptr, add_mk, Nat.zero_add, List.getElem?_toArray, List.getElem?_cons_succ, List.getElem?_cons_zero, Get_some, Br_true, Br_false, nth_zero, nth_one, nth_two, extractV_tuple, fieldAddrV_ptr, nilV_ptr, load1V_ptr, pickV_bool, unV_not, lenV_slice, capV_slice, arithV_add, arithV_sub, arithV_eql, arithV_neq, arithV_lss, arithV_leq, arithV_gtr, arithV_geq, intConvV_int, dec_lt]
  refine Br_intro (fun hlt => ?_) (fun hlt => ?_)
  · have hlt' : i < l.length := by simpa using hlt
    have hp : prB l[i] = (!(decide (((l[i].toNat : Nat) : Int) < 32) || decide (((l[i].toNat : Nat) : Int) > 126))) := by
      unfold prB
      rw [Bool.eq_iff_iff]
      simp only [Bool.and_eq_true, decide_eq_true_eq, Bool.not_eq_true', Bool.or_eq_false_iff, decide_eq_false_iff_not]
      omega
    refine ⟨fun vs H' => vs = [.bool (!prB l[i])] ∧ H' = H, ?_, ?_⟩
    · simp only [strIndex_of hlt', Fld_ptr, add_mk, Nat.zero_add, List.getElem?_toArray, List.getElem?_cons_succ, List.getElem?_cons_zero, Get_some, Br_true, Br_false, nth_zero, nth_one, nth_two, extractV_tuple, fieldAddrV_ptr, nilV_ptr, load1V_ptr, pickV_bool, unV_not, lenV_slice, capV_slice, byteV, arithV_add, arithV_sub, arithV_eql, arithV_neq, arithV_lss, arithV_leq, arithV_gtr, arithV_geq, intConvV_int]
      refine Br_intro (fun h1 => ?_) (fun h1 => ?_)
      · simp only [Fld_ptr, add_mk, Nat.zero_add, List.getElem?_toArray, List.getElem?_cons_succ, List.getElem?_cons_zero, Get_some, Br_true, Br_false, nth_zero, nth_one, nth_two, extractV_tuple, fieldAddrV_ptr, nilV_ptr, load1V_ptr, pickV_bool, unV_not, lenV_slice, capV_slice, if_true, and_true]
        rw [hp, h1]; rfl
      · simp only [strIndex_of hlt', Fld_ptr, add_mk, Nat.zero_add, List.getElem?_toArray, List.getElem?_cons_succ, List.getElem?_cons_zero, Get_some, Br_true, Br_false, nth_zero, nth_one, nth_two, extractV_tuple, fieldAddrV_ptr, nilV_ptr, load1V_ptr, pickV_bool, unV_not, lenV_slice, capV_slice, byteV, arithV_add, arithV_sub, arithV_eql, arithV_neq, arithV_lss, arithV_leq, arithV_gtr, arithV_geq, intConvV_int, Bool.false_eq_true, if_false, and_true]
        rw [hp, h1]; simp
    · rintro _ H ⟨rfl, rfl⟩
      simp only [Fld_ptr, add_mk, Nat.zero_add, List.getElem?_toArray, List.getElem?_cons_succ, List.getElem?_cons_zero, Get_some, Br_true, Br_false, nth_zero, nth_one, nth_two, extractV_tuple, fieldAddrV_ptr, nilV_ptr, load1V_ptr, pickV_bool, unV_not, lenV_slice, capV_slice]
      refine Br_intro (fun h1 => ?_) (fun h1 => ?_)
      · rw [all_false hlt' (by simpa using h1)]
        exact ⟨rfl, trivial⟩
      · simp only [inc_i64 (show i < 2 ^ 62 by omega)]
        exact ⟨_, by omega, i + 1, rfl, rfl, hlt', trivial, by rw [take_all_succ hlt' ht]; simpa using h1⟩
  · have : i = l.length := by simp at hlt; omega
    subst this
    rw [List.take_length] at ht
    rw [ht]
    exact ⟨rfl, trivial⟩

theorem find_ok {v u : Value} {buf pat : List UInt8} {H : Heap} (hv : IsBytes H v buf) (hu : IsBytes H u pat) (hl : buf.length < 2 ^ 40) (hp : pat.length < 2 ^ 40) :
    CallsH Tryz.prog 42 #[v, u] H fun x H' => H' = H ∧ ((x = .int .i64 (-1) ∧ Nowhere buf pat) ∨ ∃ i : Nat, x = .int .i64 i ∧ First buf pat i) := by
  apply s42
  unfold c42
  refine ⟨fun μ vs H' => ∃ i : Nat, vs = [.int .i64 i] ∧ μ = buf.length + 1 - i ∧ i ≤ buf.length + 1 ∧ H' = H ∧ ∀ j, j < i → (buf.drop j).take pat.length ≠ pat, ⟨_, 0, rfl, rfl, Nat.zero_le _, rfl, by simp⟩, ?_⟩
  rintro μ vs H ⟨i, rfl, rfl, hi, rfl, hno⟩
  have e1 : IntKind.i64.wrap ((i : Int) + (pat.length : Int)) = ((i + pat.length : Nat) : Int) := by rw [wrap_i64 (by omega) (by omega)]; omega
  simp only [hv.len, hu.len, Fld_ptr, add_mk, Nat.zero_add, List.getElem?_toArray, List.getElem?_cons_succ, List.getElem?_cons_zero, Get_some, Br_true, Br_false, nth_zero, nth_one, nth_two, extractV_tuple, fieldAddrV_ptr, nilV_ptr, load1V_ptr, pickV_bool, unV_not, lenV_slice, capV_slice, arithV_add, arithV_sub, arithV_eql, arithV_neq, arithV_lss, arithV_leq, arithV_gtr, arithV_geq, intConvV_int, e1]
  refine Br_intro (fun hle => ?_) (fun hle => ?_)
  · have hle' : i + pat.length ≤ buf.length := by simp at hle; omega
    obtain ⟨y, hy, hyb⟩ := hv.from' (lo := i) (by omega) .i64
    simp only [hy, Get_some]
    refine (hasPrefix_ok hyb hu).mono ?_
    rintro x H1 ⟨rfl, rfl⟩
    have hiff : pat.isPrefixOf (buf.drop i) = decide ((buf.drop i).take pat.length = pat) := by
      rw [Bool.eq_iff_iff, List.isPrefixOf_iff_prefix, decide_eq_true_eq, List.prefix_iff_eq_take]
      exact eq_comm
    rw [hiff]
    refine Br_intro (fun h1 => ?_) (fun h1 => ?_)
    · exact ⟨rfl, .inr ⟨i, rfl, hle', by simpa using h1, hno⟩⟩
    · simp only [inc_i64 (show i < 2 ^ 62 by omega), Fld_ptr, add_mk, Nat.zero_add, List.getElem?_toArray, List.getElem?_cons_succ, List.getElem?_cons_zero, Get_some, Br_true, Br_false, nth_zero, nth_one, nth_two, extractV_tuple, fieldAddrV_ptr, nilV_ptr, load1V_ptr, pickV_bool, unV_not, lenV_slice, capV_slice]
      refine ⟨_, by omega, i + 1, rfl, rfl, by omega, trivial, fun j hj => ?_⟩
      by_cases hji : j = i
      · subst hji; simpa using h1
      · exact hno j (by omega)
  · refine ⟨trivial, .inl ⟨trivial, fun j hj => ?_⟩⟩
    have : ¬ i + pat.length ≤ buf.length := by simp at hle; omega
    exact hno j (by omega)

/-- a delimiter stands neither at the beginning of a body nor behind a LF -/
def FreeP (body bd : List UInt8) : Prop := (dashOf bd).isPrefixOf body = false ∧ Nowhere body (10 :: dashOf bd)

theorem first_not_nowhere {buf pat : List UInt8} {i : Nat} (h : First buf pat i) : ¬ Nowhere buf pat := fun hn => hn i h.1 h.2.1

theorem free_ok {v : Value} {body bd : List UInt8} {H : Heap} (hv : IsBytes H v body) (hvb : body ≠ [] → ∀ x, blk v = some x → x < H.size) (hl : body.length < 2 ^ 39) (hb : bd.length < 2 ^ 39) :
    CallsH Tryz.prog 25 #[v, strVal bd] H fun x H' => ∃ r : Bool, x = .bool r ∧ (r = true ↔ FreeP body bd) ∧ Frm [] H H' := by
  apply s25
  have e1 : strV .add (.string ⟨#[45, 45]⟩) (strVal bd) = some (strVal (dashOf bd)) := strV_add (a := [45, 45]) (b := bd) (by simp; omega)
  have hdl := dashOf_length bd
  simp only [c25, e1, Get_some]
  refine toBytes_of fun c H1 hc hr1 f1 z1 => ?_
  have hx1 : IsBytes H1 (.slice (some ⟨H.size, 0, none⟩) (dashOf bd).length c) (dashOf bd) := by
    have := hr1.bytes (o := 0) (c := c) (n := (dashOf bd).length) (by simp) hc
    rwa [List.drop_zero, List.take_length] at this
  have hv1 := hv.frm f1 (by simp)
  refine Join_direct ?_
  refine (hasPrefix_ok hv1 hx1).mono ?_
  rintro x H1 ⟨rfl, rfl⟩
  simp only [Fld_ptr, add_mk, Nat.zero_add, List.getElem?_toArray, List.getElem?_cons_succ, List.getElem?_cons_zero, Get_some, Br_true, Br_false, nth_zero, nth_one, nth_two, extractV_tuple, fieldAddrV_ptr, nilV_ptr, load1V_ptr, pickV_bool, unV_not, lenV_slice, capV_slice]
  refine Br_intro (fun h1 => ?_) (fun h1 => ?_)
  · have h1' : (dashOf bd).isPrefixOf body = false := by simpa using h1
    rw [show (Value.int IntKind.u8 10) = byteV 10 from rfl, fill1 (v := byteV 10) rfl, Get_some, NewSl]
    have f2 : Frm [] H1 (H1.push (.cells #[byteV 10] 5 (0, 0))) := Frm.push _ _ _
    have hb2 := push_same H1 (.cells #[byteV 10] 5 (0, 0))
    have z2 : (H1.push (.cells #[byteV 10] 5 (0, 0))).size = H1.size + 1 := by simp
    generalize H1.push (.cells #[byteV 10] 5 (0, 0)) = H2 at *
    have hown : OwnB H2 (some H1.size) (.slice (some ⟨H1.size, 0, none⟩) 1 1) [10] := ⟨#[byteV 10], rfl, hb2, rfl, by simp⟩
    refine append_own hown (hx1.frm f2 (by simp)) (by simp; omega) fun k' sl H3 hown3 f3 hk3 => ?_
    have hv3 : IsBytes H3 v body := (hv1.frm f2 (by simp)).frm' f3 (fun h0 y hy hm => by
      have := hvb h0 y hy
      have : y = H1.size := by simpa using hm
      omega)
    refine (find_ok hv3 hown3.bytes (by omega) (by simp; omega)).mono ?_
    have f13 : Frm [] H H3 := (f1.trans f2).up f3 (fun x hx => by
      have : x = H1.size := by simpa using hx
      exact .inr (by omega))
    rintro x H3 ⟨rfl, ⟨rfl, hno⟩ | ⟨i, rfl, hf⟩⟩
    · have d1 : decide ((-1 : Int) < 0) = true := by decide
      simp only [arithV_add, arithV_sub, arithV_eql, arithV_neq, arithV_lss, arithV_leq, arithV_gtr, arithV_geq, intConvV_int, Fld_ptr, add_mk, Nat.zero_add, List.getElem?_toArray, List.getElem?_cons_succ, List.getElem?_cons_zero, Get_some, Br_true, Br_false, nth_zero, nth_one, nth_two, extractV_tuple, fieldAddrV_ptr, nilV_ptr, load1V_ptr, pickV_bool, unV_not, lenV_slice, capV_slice, d1, if_true]
      exact ⟨true, rfl, ⟨fun _ => ⟨h1', hno⟩, fun _ => rfl⟩, f13⟩
    · have d1 : decide ((i : Int) < 0) = false := by simp
      simp only [arithV_add, arithV_sub, arithV_eql, arithV_neq, arithV_lss, arithV_leq, arithV_gtr, arithV_geq, intConvV_int, Fld_ptr, add_mk, Nat.zero_add, List.getElem?_toArray, List.getElem?_cons_succ, List.getElem?_cons_zero, Get_some, Br_true, Br_false, nth_zero, nth_one, nth_two, extractV_tuple, fieldAddrV_ptr, nilV_ptr, load1V_ptr, pickV_bool, unV_not, lenV_slice, capV_slice, d1, if_true]
      exact ⟨false, rfl, ⟨fun h => (by cases h), fun h => absurd h.2 (first_not_nowhere hf)⟩, f13⟩
  · simp only [Fld_ptr, add_mk, Nat.zero_add, List.getElem?_toArray, List.getElem?_cons_succ, List.getElem?_cons_zero, Get_some, Br_true, Br_false, nth_zero, nth_one, nth_two, extractV_tuple, fieldAddrV_ptr, nilV_ptr, load1V_ptr, pickV_bool, unV_not, lenV_slice, capV_slice, Bool.false_eq_true, if_false]
    refine ⟨false, rfl, ⟨fun h => (by cases h), fun h => ?_⟩, f1⟩
    rw [h.1] at h1
    cases h1
end Go.Cps

/-
  zzFits of fields; spec.Fields.
  Conditions: each contract's own.
-/
namespace Go.Cps
open Go Go.Proofs

def isBool (x : Value) : Prop := ∃ r : Bool, x = .bool r
theorem field_shape {D : List Nat} {H : Heap} {f : FieldL} {vs : List Value} (h : FieldR D H f vs) : ∃ z, vs = [strVal f.name, strVal f.file, z] ∧ BytV D H z f.value := h

/-- a loaded struct of three cells, kept in a block of its own -/
theorem local3 {T : TypeId} {z1 z2 z3 a b c : Value} {H : Heap} {K : Value → Heap → Prop} (h1 : isOne a = true) (h2 : isOne b = true) (h3 : isOne c = true)
    (hK : ∀ H', H'[H.size]? = some (.cells #[a, b, c] T (0, 0)) → Frm [] H H' → H'.size = H.size + 1 → K (.pointer (some ⟨H.size, 0, none⟩)) H') :
    New (.cells #[z1, z2, z3] T (0, 0)) H fun x5 H => Get (storeNV 3 x5 (.agg #[a, b, c]) H) fun H => K x5 H := by
  have hp := push_same H (.cells #[z1, z2, z3] T (0, 0))
  have f0 : Frm [] H (H.push (.cells #[z1, z2, z3] T (0, 0))) := Frm.push _ _ _
  have z0 : (H.push (.cells #[z1, z2, z3] T (0, 0))).size = H.size + 1 := by simp
  simp only [New]
  generalize H.push (.cells #[z1, z2, z3] T (0, 0)) = H0 at *
  rw [storeNV_of (vs := #[a, b, c]) (n := 3) hp rfl rfl (by simp [h1, h2, h3]), Get_some]
  refine hK _ (upd_same (lt_of_some hp)) ⟨by simp; omega, fun k hk _ => ?_⟩ (by simpa using z0)
  rw [upd_ne (by omega)]
  exact f0.same k hk (by simp)

theorem fits8_ok {D : List Nat} {H : Heap} {f : FieldL} {vs : List Value} (h : FieldR D H f vs) : CallsH Tryz.prog 40 #[.agg vs.toArray] H fun x H' => isBool x ∧ Frm [] H H' := by
  obtain ⟨z, rfl, hz⟩ := h
  apply s40
  simp only [c40, New, Value.cells]
  have f1 : Frm [] H (H.push (.cells #[strVal f.name, strVal f.file, z] 80 (0, 0))) := Frm.push _ _ _
  have hb1 := push_same H (.cells #[strVal f.name, strVal f.file, z] 80 (0, 0))
  generalize H.push (.cells #[strVal f.name, strVal f.file, z] 80 (0, 0)) = H1 at *
  simp only [Fld_ptr, add_mk, Nat.zero_add, List.getElem?_toArray, List.getElem?_cons_succ, List.getElem?_cons_zero, Get_some, Br_true, Br_false, nth_zero, nth_one, nth_two, extractV_tuple, fieldAddrV_ptr, nilV_ptr, load1V_ptr, pickV_bool, unV_not, lenV_slice, capV_slice, arithV_add, arithV_sub, arithV_eql, arithV_neq, arithV_lss, arithV_leq, arithV_gtr, arithV_geq, intConvV_int, cellH_of hb1, lenStr_of, hz.1.len]
  refine Br_intro (fun _ => ⟨⟨_, rfl⟩, f1⟩) (fun _ => ?_)
  refine Br_intro (fun _ => ⟨⟨_, rfl⟩, f1⟩) (fun _ => ?_)
  refine Br_intro (fun _ => ⟨⟨_, rfl⟩, f1⟩) (fun _ => ⟨⟨_, rfl⟩, f1⟩)

theorem fits7_ok {D : List Nat} {H : Heap} {v : Value} {l : List FieldL} (hv : FieldsV D H v l) (hl : l.length < 2 ^ 40) : CallsH Tryz.prog 12 #[v] H fun x H' => isBool x ∧ Frm [] H H' := by
  apply s12
  simp only [c12, hv.len, Fld_ptr, add_mk, Nat.zero_add, List.getElem?_toArray, List.getElem?_cons_succ, List.getElem?_cons_zero, Get_some, Br_true, Br_false, nth_zero, nth_one, nth_two, extractV_tuple, fieldAddrV_ptr, nilV_ptr, load1V_ptr, pickV_bool, unV_not, lenV_slice, capV_slice, arithV_add, arithV_sub, arithV_eql, arithV_neq, arithV_lss, arithV_leq, arithV_gtr, arithV_geq, intConvV_int]
  refine Br_intro (fun _ => ⟨⟨_, rfl⟩, Frm.refl _ _⟩) (fun _ => ?_)
  refine ⟨fun μ vs H' => ∃ i : Nat, vs = [.int .i64 i] ∧ μ = l.length - i ∧ i ≤ l.length ∧ Frm [] H H', ⟨_, 0, rfl, rfl, Nat.zero_le _, Frm.refl _ _⟩, ?_⟩
  rintro μ vs H1 ⟨i, rfl, rfl, hi, f1⟩
  simp only [Fld_ptr, add_mk, Nat.zero_add, List.getElem?_toArray, List.getElem?_cons_succ, List.getElem?_cons_zero, Get_some, Br_true, Br_false, nth_zero, nth_one, nth_two, extractV_tuple, fieldAddrV_ptr, nilV_ptr, load1V_ptr, pickV_bool, unV_not, lenV_slice, capV_slice, arithV_add, arithV_sub, arithV_eql, arithV_neq, arithV_lss, arithV_leq, arithV_gtr, arithV_geq, intConvV_int, dec_lt]
  refine Br_intro (fun hlt => ?_) (fun hlt => ⟨⟨_, rfl⟩, f1⟩)
  have hlt' : i < l.length := by simpa using hlt
  obtain ⟨a, vs, ha, hlo, _, hR, _⟩ := (hv.frm fieldR_ok f1 (by simp)).elem hlt'
  obtain ⟨z, rfl, hz⟩ := field_shape hR
  simp only [ha, Get_some, hlo]
  refine local3 (K := fun x5 H => _) rfl rfl hz.isOne fun H2 hb2 f2 z2 => ?_
  simp only [loadNV_of (n := 3) hb2 rfl, Get_some]
  refine (fits8_ok (fieldR_ok.frm (D := D) ⟨z, rfl, hz⟩ f2 (by simp))).mono ?_
  rintro x H3 ⟨⟨r, rfl⟩, f3⟩
  have f13 := (f1.trans f2).trans f3
  simp only [Fld_ptr, add_mk, Nat.zero_add, List.getElem?_toArray, List.getElem?_cons_succ, List.getElem?_cons_zero, Get_some, Br_true, Br_false, nth_zero, nth_one, nth_two, extractV_tuple, fieldAddrV_ptr, nilV_ptr, load1V_ptr, pickV_bool, unV_not, lenV_slice, capV_slice]
  refine Br_intro (fun _ => ⟨⟨_, rfl⟩, f13⟩) (fun _ => ?_)
  simp only [inc_i64 (show i < 2 ^ 62 by omega)]
  exact ⟨_, by omega, i + 1, rfl, rfl, hlt', f13⟩

structure GoodField (bd : List UInt8) (f : FieldL) : Prop where
  name : f.name.length ≤ 200
  file : f.file.length ≤ 200
  pname : f.name.all prB = true
  pfile : f.file.all prB = true
  slash : 47 ∉ f.file
  free : FreeP f.value bd

theorem nowhere_single {l : List UInt8} {c : UInt8} (h : Nowhere l [c]) : c ∉ l := by
  intro hm
  obtain ⟨i, hi, he⟩ := List.getElem_of_mem hm
  refine h i (by simp; omega) ?_
  rw [List.drop_eq_getElem_cons hi, List.length_singleton, List.take_succ_cons, he]
  simp

theorem fields_ok {D : List Nat} {H : Heap} {v : Value} {l : List FieldL} {bd : List UInt8} (hv : FieldsV D H v l) (hl : l.length < 2 ^ 40) (hbl : bd.length < 2 ^ 38) (hlf : ∀ f ∈ l, f.name.length < 2 ^ 38 ∧ f.file.length < 2 ^ 38 ∧ f.value.length < 2 ^ 38) :
    CallsH Tryz.prog 13 #[v, strVal bd] H fun x H' => ∃ r : Bool, x = .bool r ∧ (r = true → (∀ f ∈ l, GoodField bd f) ∧ okBd bd = true) ∧ Frm [] H H' := by
  apply s13
  simp only [c13, hv.len, Fld_ptr, add_mk, Nat.zero_add, List.getElem?_toArray, List.getElem?_cons_succ, List.getElem?_cons_zero, Get_some, Br_true, Br_false, nth_zero, nth_one, nth_two, extractV_tuple, fieldAddrV_ptr, nilV_ptr, load1V_ptr, pickV_bool, unV_not, lenV_slice, capV_slice]
  refine ⟨fun μ vs H' => ∃ i : Nat, vs = [.int .i64 i] ∧ μ = l.length - i ∧ i ≤ l.length ∧ Frm [] H H' ∧ ∀ j (hj : j < i) (hjl : j < l.length), GoodField bd l[j], ⟨_, 0, rfl, rfl, Nat.zero_le _, Frm.refl _ _, fun j hj => by omega⟩, ?_⟩
  rintro μ vs H1 ⟨i, rfl, rfl, hi, f1, hgood⟩
  simp only [Fld_ptr, add_mk, Nat.zero_add, List.getElem?_toArray, List.getElem?_cons_succ, List.getElem?_cons_zero, Get_some, Br_true, Br_false, nth_zero, nth_one, nth_two, extractV_tuple, fieldAddrV_ptr, nilV_ptr, load1V_ptr, pickV_bool, unV_not, lenV_slice, capV_slice, arithV_add, arithV_sub, arithV_eql, arithV_neq, arithV_lss, arithV_leq, arithV_gtr, arithV_geq, intConvV_int, dec_lt]
  refine Br_intro (fun hlt => ?_) (fun hlt => ?_)
  · have hlt' : i < l.length := by simpa using hlt
    obtain ⟨a, vs, ha, hlo, _, hR, _⟩ := (hv.frm fieldR_ok f1 (by simp)).elem hlt'
    obtain ⟨z, rfl, hz⟩ := field_shape hR
    obtain ⟨hl1, hl2, hl3⟩ := hlf l[i] (List.getElem_mem hlt')
    generalize hfe : l[i] = f at *
    simp only [ha, Get_some, hlo]
    refine local3 (K := fun x5 H => _) rfl rfl hz.isOne fun H2 hb2 f2 z2 => ?_
    have hz2 := hz.frm f2 (by simp)
    have f12 := f1.trans f2
    refine ⟨fun vs H3 => ∃ b : Bool, vs = [.bool b] ∧ (b = false → GoodField bd f) ∧ Frm [] H H3, ?_, ?_⟩
    · have d1 : ∀ n : Nat, decide (((n : Nat) : Int) > 200) = decide (200 < n) := fun n => by
        rw [Bool.eq_iff_iff]; simp; omega
      simp only [Fld_ptr, add_mk, Nat.zero_add, List.getElem?_toArray, List.getElem?_cons_succ, List.getElem?_cons_zero, Get_some, Br_true, Br_false, nth_zero, nth_one, nth_two, extractV_tuple, fieldAddrV_ptr, nilV_ptr, load1V_ptr, pickV_bool, unV_not, lenV_slice, capV_slice, arithV_add, arithV_sub, arithV_eql, arithV_neq, arithV_lss, arithV_leq, arithV_gtr, arithV_geq, intConvV_int, cellH_of hb2, lenStr_of, d1]
      by_cases h1 : 200 < f.name.length
      · simp only [decide_eq_true h1, Fld_ptr, add_mk, Nat.zero_add, List.getElem?_toArray, List.getElem?_cons_succ, List.getElem?_cons_zero, Get_some, Br_true, Br_false, nth_zero, nth_one, nth_two, extractV_tuple, fieldAddrV_ptr, nilV_ptr, load1V_ptr, pickV_bool, unV_not, lenV_slice, capV_slice, if_true]
        exact ⟨true, rfl, fun h => (by cases h), f12⟩
      simp only [decide_eq_false h1, Fld_ptr, add_mk, Nat.zero_add, List.getElem?_toArray, List.getElem?_cons_succ, List.getElem?_cons_zero, Get_some, Br_true, Br_false, nth_zero, nth_one, nth_two, extractV_tuple, fieldAddrV_ptr, nilV_ptr, load1V_ptr, pickV_bool, unV_not, lenV_slice, capV_slice, if_true, Bool.false_eq_true, if_false]
      by_cases h2 : 200 < f.file.length
      · simp only [decide_eq_true h2, Fld_ptr, add_mk, Nat.zero_add, List.getElem?_toArray, List.getElem?_cons_succ, List.getElem?_cons_zero, Get_some, Br_true, Br_false, nth_zero, nth_one, nth_two, extractV_tuple, fieldAddrV_ptr, nilV_ptr, load1V_ptr, pickV_bool, unV_not, lenV_slice, capV_slice, if_true]
        exact ⟨true, rfl, fun h => (by cases h), f12⟩
      simp only [decide_eq_false h2, Fld_ptr, add_mk, Nat.zero_add, List.getElem?_toArray, List.getElem?_cons_succ, List.getElem?_cons_zero, Get_some, Br_true, Br_false, nth_zero, nth_one, nth_two, extractV_tuple, fieldAddrV_ptr, nilV_ptr, load1V_ptr, pickV_bool, unV_not, lenV_slice, capV_slice, if_true, Bool.false_eq_true, if_false]
      refine (printable_ok (by omega)).mono ?_
      rintro x H2 ⟨rfl, rfl⟩
      simp only [Fld_ptr, add_mk, Nat.zero_add, List.getElem?_toArray, List.getElem?_cons_succ, List.getElem?_cons_zero, Get_some, Br_true, Br_false, nth_zero, nth_one, nth_two, extractV_tuple, fieldAddrV_ptr, nilV_ptr, load1V_ptr, pickV_bool, unV_not, lenV_slice, capV_slice]
      cases h3 : f.name.all prB with
      | false =>
        simp only [Fld_ptr, add_mk, Nat.zero_add, List.getElem?_toArray, List.getElem?_cons_succ, List.getElem?_cons_zero, Get_some, Br_true, Br_false, nth_zero, nth_one, nth_two, extractV_tuple, fieldAddrV_ptr, nilV_ptr, load1V_ptr, pickV_bool, unV_not, lenV_slice, capV_slice, Bool.not_false, if_true]
        exact ⟨true, rfl, fun h => (by cases h), f12⟩
      | true =>
      simp only [Fld_ptr, add_mk, Nat.zero_add, List.getElem?_toArray, List.getElem?_cons_succ, List.getElem?_cons_zero, Get_some, Br_true, Br_false, nth_zero, nth_one, nth_two, extractV_tuple, fieldAddrV_ptr, nilV_ptr, load1V_ptr, pickV_bool, unV_not, lenV_slice, capV_slice, Bool.not_true, if_true, Bool.false_eq_true, if_false, cellH_of hb2]
      refine (printable_ok (by omega)).mono ?_
      rintro x H2 ⟨rfl, rfl⟩
      simp only [Fld_ptr, add_mk, Nat.zero_add, List.getElem?_toArray, List.getElem?_cons_succ, List.getElem?_cons_zero, Get_some, Br_true, Br_false, nth_zero, nth_one, nth_two, extractV_tuple, fieldAddrV_ptr, nilV_ptr, load1V_ptr, pickV_bool, unV_not, lenV_slice, capV_slice]
      cases h4 : f.file.all prB with
      | false =>
        simp only [Fld_ptr, add_mk, Nat.zero_add, List.getElem?_toArray, List.getElem?_cons_succ, List.getElem?_cons_zero, Get_some, Br_true, Br_false, nth_zero, nth_one, nth_two, extractV_tuple, fieldAddrV_ptr, nilV_ptr, load1V_ptr, pickV_bool, unV_not, lenV_slice, capV_slice, Bool.not_false, if_true]
        exact ⟨true, rfl, fun h => (by cases h), f12⟩
      | true =>
      simp only [Fld_ptr, add_mk, Nat.zero_add, List.getElem?_toArray, List.getElem?_cons_succ, List.getElem?_cons_zero, Get_some, Br_true, Br_false, nth_zero, nth_one, nth_two, extractV_tuple, fieldAddrV_ptr, nilV_ptr, load1V_ptr, pickV_bool, unV_not, lenV_slice, capV_slice, Bool.not_true, if_true, Bool.false_eq_true, if_false, cellH_of hb2]
      refine toBytes_of fun c H3 hc hr3 f3 z3 => ?_
      have hx3 : IsBytes H3 (.slice (some ⟨H2.size, 0, none⟩) f.file.length c) f.file := by
        have := hr3.bytes (o := 0) (c := c) (n := f.file.length) (by simp) hc
        rwa [List.drop_zero, List.take_length] at this
      have hb3 := f3.get hb2 (by simp)
      refine lit1 (c := 47) fun H4 hl4 f4 z4 => ?_
      refine (find_ok (hx3.frm f4 (by simp)) hl4 (by omega) (by simp)).mono ?_
      have f14 := (f12.trans f3).trans f4
      have hb4 := f4.get hb3 (by simp)
      have hz4 := (hz2.frm f3 (by simp)).frm f4 (by simp)
      rintro x H4 ⟨rfl, ⟨rfl, hno⟩ | ⟨j, rfl, hf⟩⟩
      · have d2 : decide ((-1 : Int) ≥ 0) = false := by decide
        simp only [Fld_ptr, add_mk, Nat.zero_add, List.getElem?_toArray, List.getElem?_cons_succ, List.getElem?_cons_zero, Get_some, Br_true, Br_false, nth_zero, nth_one, nth_two, extractV_tuple, fieldAddrV_ptr, nilV_ptr, load1V_ptr, pickV_bool, unV_not, lenV_slice, capV_slice, arithV_add, arithV_sub, arithV_eql, arithV_neq, arithV_lss, arithV_leq, arithV_gtr, arithV_geq, intConvV_int, d2, if_true, Bool.false_eq_true, if_false, cellH_of hb4]
        refine (free_ok hz4.1 (fun h0 x hx => (hz4.2 h0 x hx).2) (by omega) (by omega)).mono ?_
        rintro x H5 ⟨r, rfl, hr, f5⟩
        simp only [Fld_ptr, add_mk, Nat.zero_add, List.getElem?_toArray, List.getElem?_cons_succ, List.getElem?_cons_zero, Get_some, Br_true, Br_false, nth_zero, nth_one, nth_two, extractV_tuple, fieldAddrV_ptr, nilV_ptr, load1V_ptr, pickV_bool, unV_not, lenV_slice, capV_slice, if_true]
        refine ⟨!r, rfl, fun h => ?_, f14.trans f5⟩
        have hrt : r = true := by simpa using h
        exact ⟨by omega, by omega, h3, h4, nowhere_single hno, hr.1 hrt⟩
      · have d2 : decide ((j : Int) ≥ 0) = true := by simp
        simp only [Fld_ptr, add_mk, Nat.zero_add, List.getElem?_toArray, List.getElem?_cons_succ, List.getElem?_cons_zero, Get_some, Br_true, Br_false, nth_zero, nth_one, nth_two, extractV_tuple, fieldAddrV_ptr, nilV_ptr, load1V_ptr, pickV_bool, unV_not, lenV_slice, capV_slice, arithV_add, arithV_sub, arithV_eql, arithV_neq, arithV_lss, arithV_leq, arithV_gtr, arithV_geq, intConvV_int, d2, if_true, Bool.false_eq_true, if_false]
        exact ⟨true, rfl, fun h => (by cases h), f14⟩
    · rintro _ H3 ⟨b, rfl, hb, f3⟩
      simp only [Fld_ptr, add_mk, Nat.zero_add, List.getElem?_toArray, List.getElem?_cons_succ, List.getElem?_cons_zero, Get_some, Br_true, Br_false, nth_zero, nth_one, nth_two, extractV_tuple, fieldAddrV_ptr, nilV_ptr, load1V_ptr, pickV_bool, unV_not, lenV_slice, capV_slice]
      refine Br_intro (fun _ => ⟨false, rfl, fun h => (by cases h), f3⟩) (fun hb0 => ?_)
      simp only [arithV_add, arithV_sub, arithV_eql, arithV_neq, arithV_lss, arithV_leq, arithV_gtr, arithV_geq, intConvV_int, inc_i64 (show i < 2 ^ 62 by omega), Fld_ptr, add_mk, Nat.zero_add, List.getElem?_toArray, List.getElem?_cons_succ, List.getElem?_cons_zero, Get_some, Br_true, Br_false, nth_zero, nth_one, nth_two, extractV_tuple, fieldAddrV_ptr, nilV_ptr, load1V_ptr, pickV_bool, unV_not, lenV_slice, capV_slice]
      refine ⟨_, by omega, i + 1, rfl, rfl, hlt', f3, fun j hj hjl => ?_⟩
      by_cases hji : j = i
      · subst hji; rw [hfe]; exact hb hb0
      · exact hgood j (by omega) hjl
  · refine (boundary_ok (by omega)).mono ?_
    rintro x H2 ⟨rfl, rfl⟩
    refine ⟨_, rfl, fun h => ⟨fun f hf => ?_, h⟩, f1⟩
    obtain ⟨j, hj, rfl⟩ := List.getElem_of_mem hf
    exact hgood j (by simp at hlt; omega) hj
end Go.Cps

/-
  spec.Quote, escapeQuotes.
  Conditions: printable texts.
-/
namespace Go.Cps
open Go Go.Proofs

def quote1 (b : UInt8) : List UInt8 := if b = 92 ∨ b = 34 then [92, b] else [b]
def quoteB (l : List UInt8) : List UInt8 := l.flatMap quote1
theorem quoteB_len (l : List UInt8) : (quoteB l).length ≤ 2 * l.length := by
  induction l with
  | nil => simp [quoteB]
  | cons b r ih =>
    have : (quote1 b).length ≤ 2 := by unfold quote1; split <;> simp
    simp only [quoteB, List.flatMap_cons, List.length_append, List.length_cons] at ih ⊢
    omega
theorem quoteB_succ {l : List UInt8} {i : Nat} (h : i < l.length) : quoteB (l.take (i + 1)) = quoteB (l.take i) ++ quote1 l[i] := by
  rw [List.take_succ_eq_append_getElem h]
  unfold quoteB
  rw [List.flatMap_append]
  simp only [List.flatMap_cons, List.flatMap_nil, List.append_nil]
theorem quoteB_take (l : List UInt8) (i : Nat) (h : i ≤ l.length) : (quoteB (l.take i)).length ≤ 2 * l.length := by
  have := quoteB_len (l.take i)
  rw [List.length_take] at this
  omega

/-- one byte more -/
theorem appByte {k : Option Nat} {sl : Value} {d : List UInt8} {b : UInt8} {z : Value} {H : Heap} {K : Value → Heap → Prop} (h : OwnB H k sl d) (hl : d.length < 2 ^ 39)
    (hK : ∀ k' sl' H', OwnB H' k' sl' (d ++ [b]) → Frm k.toList H H' → (k' = k ∨ ∃ g, k' = some g ∧ H.size ≤ g) → K sl' H') :
    Get (Instr.fill (fun j => some (j * 1, 1)) ((Array.range (1 * 1)).map ((#[z] : Array Value)[· % 1]!)) [(0, byteV b)]) fun cs => NewSl cs 5 1 H fun x22 H =>
    Append 5 1 1 #[(.int .u8 0)] sl x22 H K := by
  rw [fill1 (v := byteV b) rfl, Get_some, NewSl]
  have f2 : Frm [] H (H.push (.cells #[byteV b] 5 (0, 0))) := Frm.push _ _ _
  have hb2 := push_same H (.cells #[byteV b] 5 (0, 0))
  have z2 : (H.push (.cells #[byteV b] 5 (0, 0))).size = H.size + 1 := by simp
  generalize H.push (.cells #[byteV b] 5 (0, 0)) = H2 at *
  have hx : IsBytes H2 (.slice (some ⟨H.size, 0, none⟩) 1 1) [b] := .inl ⟨H.size, 0, 1, rfl, by simp, fun j hj => by
    have : j = 0 := by simpa using hj
    subst this
    rw [cellH_of hb2]; rfl⟩
  refine append_own (h.frm f2 (by simp)) hx (by simp; omega) fun k' sl' H3 h1 f3 hk => hK k' sl' H3 h1 ((f2.mono (by simp)).trans f3) ?_
  rcases hk with e | ⟨g, e, hg⟩
  · exact .inl e
  · exact .inr ⟨g, e, by omega⟩

theorem quote_ok {l : List UInt8} {H : Heap} (hl : l.length < 2 ^ 36) : CallsH Tryz.prog 47 #[strVal l] H fun x H' => x = strVal (quoteB l) ∧ Frm [] H H' := by
  apply s47
  unfold c47
  refine ⟨fun μ vs H1 => ∃ (i : Nat) (k : Option Nat) (sl : Value), vs = [sl, .int .i64 i] ∧ μ = l.length - i ∧ i ≤ l.length ∧ OwnB H1 k sl (quoteB (l.take i)) ∧ Frm [] H H1 ∧ ∀ g, k = some g → H.size ≤ g, ⟨_, 0, none, _, rfl, rfl, Nat.zero_le _, ⟨rfl, rfl⟩, Frm.refl _ _, by simp⟩, ?_⟩
  rintro μ vs H1 ⟨i, k, sl, rfl, rfl, hi, hown, f1, hk⟩
  simp only [lenStr_of, Fld_ptr, add_mk, Nat.zero_add, List.getElem?_toArray, List.getElem?_cons_succ, List.getElem?_cons_zero, Get_some, Br_true, Br_false, nth_zero, nth_one, nth_two, extractV_tuple, fieldAddrV_ptr, nilV_ptr, load1V_ptr, pickV_bool, unV_not, lenV_slice, capV_slice, arithV_add, arithV_sub, arithV_eql, arithV_neq, arithV_lss, arithV_leq, arithV_gtr, arithV_geq, intConvV_int, dec_lt]
  refine Br_intro (fun hlt => ?_) (fun hlt => ?_)
  · have hlt' : i < l.length := by simpa using hlt
    have hql := quoteB_take l i hi
    refine ⟨fun vs H2 => ∃ (k' : Option Nat) (sl' : Value), vs = [sl'] ∧ OwnB H2 k' sl' (quoteB (l.take i) ++ if l[i] = 92 ∨ l[i] = 34 then [92] else []) ∧ Frm [] H H2 ∧ ∀ g, k' = some g → H.size ≤ g, ?_, ?_⟩
    · have e92 : (((l[i].toNat : Nat) : Int) == 92) = (l[i] == 92) := byte_beq l[i] 92
      have e34 : (((l[i].toNat : Nat) : Int) == 34) = (l[i] == 34) := byte_beq l[i] 34
      refine ⟨fun vs H2 => vs = [.bool (l[i] == 92 || l[i] == 34)] ∧ H2 = H1, ?_, ?_⟩
      · simp only [strIndex_of hlt', Fld_ptr, add_mk, Nat.zero_add, List.getElem?_toArray, List.getElem?_cons_succ, List.getElem?_cons_zero, Get_some, Br_true, Br_false, nth_zero, nth_one, nth_two, extractV_tuple, fieldAddrV_ptr, nilV_ptr, load1V_ptr, pickV_bool, unV_not, lenV_slice, capV_slice, byteV, arithV_add, arithV_sub, arithV_eql, arithV_neq, arithV_lss, arithV_leq, arithV_gtr, arithV_geq, intConvV_int, e92, e34]
        refine Br_intro (fun h1 => ?_) (fun h1 => ?_)
        · simp only [Fld_ptr, add_mk, Nat.zero_add, List.getElem?_toArray, List.getElem?_cons_succ, List.getElem?_cons_zero, Get_some, Br_true, Br_false, nth_zero, nth_one, nth_two, extractV_tuple, fieldAddrV_ptr, nilV_ptr, load1V_ptr, pickV_bool, unV_not, lenV_slice, capV_slice, if_true, and_true, h1, Bool.true_or]
        · simp only [strIndex_of hlt', byteV, Fld_ptr, add_mk, Nat.zero_add, List.getElem?_toArray, List.getElem?_cons_succ, List.getElem?_cons_zero, Get_some, Br_true, Br_false, nth_zero, nth_one, nth_two, extractV_tuple, fieldAddrV_ptr, nilV_ptr, load1V_ptr, pickV_bool, unV_not, lenV_slice, capV_slice, arithV_add, arithV_sub, arithV_eql, arithV_neq, arithV_lss, arithV_leq, arithV_gtr, arithV_geq, intConvV_int, e34, if_true, Bool.false_eq_true, if_false, and_true, h1, Bool.false_or]
      · rintro _ H1 ⟨rfl, rfl⟩
        simp only [Fld_ptr, add_mk, Nat.zero_add, List.getElem?_toArray, List.getElem?_cons_succ, List.getElem?_cons_zero, Get_some, Br_true, Br_false, nth_zero, nth_one, nth_two, extractV_tuple, fieldAddrV_ptr, nilV_ptr, load1V_ptr, pickV_bool, unV_not, lenV_slice, capV_slice]
        refine Br_intro (fun h1 => ?_) (fun h1 => ?_)
        · have h2 : l[i] = 92 ∨ l[i] = 34 := by simpa using h1
          refine appByte (b := 92) hown (by omega) fun k' sl' H2 h3 f3 hk3 => ⟨k', sl', rfl, by rw [if_pos h2]; exact h3, f1.up f3 (fun x hx => .inr (hk x (by simpa using hx))), fun g hg => ?_⟩
          rcases hk3 with e | ⟨g', e, hge⟩
          · exact hk g (by rw [← e, hg])
          · rw [hg] at e; cases e; have := f1.size; omega
        · have h2 : ¬ (l[i] = 92 ∨ l[i] = 34) := by simpa using h1
          exact ⟨k, sl, rfl, by rw [if_neg h2, List.append_nil]; exact hown, f1, hk⟩
    · rintro _ H2 ⟨k', sl', rfl, hown2, f2, hk2⟩
      have hlen2 : (quoteB (l.take i) ++ if l[i] = 92 ∨ l[i] = 34 then [92] else []).length < 2 ^ 39 := by
        rw [List.length_append]
        split <;> simp <;> omega
      simp only [strIndex_of hlt', Fld_ptr, add_mk, Nat.zero_add, List.getElem?_toArray, List.getElem?_cons_succ, List.getElem?_cons_zero, Get_some, Br_true, Br_false, nth_zero, nth_one, nth_two, extractV_tuple, fieldAddrV_ptr, nilV_ptr, load1V_ptr, pickV_bool, unV_not, lenV_slice, capV_slice]
      refine appByte hown2 hlen2 fun k3 sl3 H3 h3 f3 hk3 => ?_
      simp only [arithV_add, arithV_sub, arithV_eql, arithV_neq, arithV_lss, arithV_leq, arithV_gtr, arithV_geq, intConvV_int, Fld_ptr, add_mk, Nat.zero_add, List.getElem?_toArray, List.getElem?_cons_succ, List.getElem?_cons_zero, Get_some, Br_true, Br_false, nth_zero, nth_one, nth_two, extractV_tuple, fieldAddrV_ptr, nilV_ptr, load1V_ptr, pickV_bool, unV_not, lenV_slice, capV_slice, inc_i64 (show i < 2 ^ 62 by omega)]
      refine ⟨_, by omega, i + 1, k3, sl3, rfl, rfl, hlt', ?_, f2.up f3 (fun x hx => .inr (hk2 x (by simpa using hx))), fun g hg => ?_⟩
      · rw [quoteB_succ hlt']
        unfold quote1
        rw [List.append_assoc] at h3
        split at h3
        · rename_i hc; rw [if_pos hc]; exact h3
        · rename_i hc; rw [if_neg hc]; exact h3
      · rcases hk3 with e | ⟨g', e, hge⟩
        · exact hk2 g (by rw [← e, hg])
        · rw [hg] at e; cases e; have := f2.size; omega
  · have : i = l.length := by simp at hlt; omega
    subst this
    rw [List.take_length] at hown
    simp only [hown.bytes.str, Get_some]
    exact ⟨rfl, f1⟩

theorem fillTwo {a b z : Value} (ha : isOne a = true) (hb : isOne b = true) : Instr.fill (fun j => some (j * 1, 1)) ((Array.range (2 * 1)).map ((#[z] : Array Value)[· % 1]!)) [(0, a), (1, b)] = some #[a, b] := by
  have e0 : (Array.range (2 * 1)) = #[0, 1] := by decide
  rw [e0]
  rw [fill_cons (off := 0) ha rfl (by simp), fill_cons (off := 1) hb rfl (by simp)]
  simp [Instr.fill]

theorem escape_ok {l : List UInt8} {H : Heap} (hl : l.length < 2 ^ 36) (hp : l.all prB = true) : CallsH Tryz.prog 97 #[strVal l] H fun x H' => x = strVal (quoteB l) ∧ Frm [] H H' := by
  apply s97
  unfold c97
  refine ⟨fun μ vs H1 => ∃ (i : Nat) (k : Option Nat) (sl : Value), vs = [sl, .int .i64 i] ∧ μ = l.length - i ∧ i ≤ l.length ∧ OwnB H1 k sl (quoteB (l.take i)) ∧ Frm [] H H1 ∧ ∀ g, k = some g → H.size ≤ g, ⟨_, 0, none, _, rfl, rfl, Nat.zero_le _, ⟨rfl, rfl⟩, Frm.refl _ _, by simp⟩, ?_⟩
  rintro μ vs H1 ⟨i, k, sl, rfl, rfl, hi, hown, f1, hk⟩
  simp only [lenStr_of, Fld_ptr, add_mk, Nat.zero_add, List.getElem?_toArray, List.getElem?_cons_succ, List.getElem?_cons_zero, Get_some, Br_true, Br_false, nth_zero, nth_one, nth_two, extractV_tuple, fieldAddrV_ptr, nilV_ptr, load1V_ptr, pickV_bool, unV_not, lenV_slice, capV_slice, arithV_add, arithV_sub, arithV_eql, arithV_neq, arithV_lss, arithV_leq, arithV_gtr, arithV_geq, intConvV_int, dec_lt]
  refine Br_intro (fun hlt => ?_) (fun hlt => ?_)
  · have hlt' : i < l.length := by simpa using hlt
    have hql := quoteB_take l i hi
    have hpi : prB l[i] = true := List.all_eq_true.1 hp _ (List.getElem_mem hlt')
    unfold prB at hpi
    simp only [Bool.and_eq_true, decide_eq_true_eq] at hpi
    refine ⟨fun vs H2 => ∃ (k' : Option Nat) (sl' : Value), vs = [sl'] ∧ OwnB H2 k' sl' (quoteB (l.take i) ++ quote1 l[i]) ∧ Frm [] H H2 ∧ ∀ g, k' = some g → H.size ≤ g, ?_, ?_⟩
    · have e92 : (((l[i].toNat : Nat) : Int) == 92) = (l[i] == 92) := byte_beq l[i] 92
      have e34 : (((l[i].toNat : Nat) : Int) == 34) = (l[i] == 34) := byte_beq l[i] 34
      have e13 : (((l[i].toNat : Nat) : Int) == 13) = false := by rw [beq_eq_false_iff_ne]; omega
      have e10 : (((l[i].toNat : Nat) : Int) == 10) = false := by rw [beq_eq_false_iff_ne]; omega
      simp only [strIndex_of hlt', Get_some]
      refine ⟨fun vs H2 => vs = [.bool (l[i] == 92 || l[i] == 34)] ∧ H2 = H1, ?_, ?_⟩
      · simp only [Fld_ptr, add_mk, Nat.zero_add, List.getElem?_toArray, List.getElem?_cons_succ, List.getElem?_cons_zero, Get_some, Br_true, Br_false, nth_zero, nth_one, nth_two, extractV_tuple, fieldAddrV_ptr, nilV_ptr, load1V_ptr, pickV_bool, unV_not, lenV_slice, capV_slice, byteV, arithV_add, arithV_sub, arithV_eql, arithV_neq, arithV_lss, arithV_leq, arithV_gtr, arithV_geq, intConvV_int, e92, e34]
        refine Br_intro (fun h1 => ?_) (fun h1 => ?_)
        · simp only [and_true, h1, Bool.true_or]
        · simp only [and_true, h1, Bool.false_or]
      · rintro _ H1 ⟨rfl, rfl⟩
        simp only [Fld_ptr, add_mk, Nat.zero_add, List.getElem?_toArray, List.getElem?_cons_succ, List.getElem?_cons_zero, Get_some, Br_true, Br_false, nth_zero, nth_one, nth_two, extractV_tuple, fieldAddrV_ptr, nilV_ptr, load1V_ptr, pickV_bool, unV_not, lenV_slice, capV_slice]
        refine Br_intro (fun h1 => ?_) (fun h1 => ?_)
        · have h2 : l[i] = 92 ∨ l[i] = 34 := by simpa using h1
          simp only [fillTwo (a := .int .u8 92) (b := byteV l[i]) rfl rfl, Get_some, NewSl]
          have f2 : Frm [] H1 (H1.push (.cells #[byteV 92, byteV l[i]] 5 (0, 0))) := Frm.push _ _ _
          have hb2 := push_same H1 (.cells #[byteV 92, byteV l[i]] 5 (0, 0))
          have z2 : (H1.push (.cells #[byteV 92, byteV l[i]] 5 (0, 0))).size = H1.size + 1 := by simp
          rw [show (Value.int IntKind.u8 92) = byteV 92 from rfl]
          generalize H1.push (.cells #[byteV 92, byteV l[i]] 5 (0, 0)) = H2 at *
          have hx : IsBytes H2 (.slice (some ⟨H1.size, 0, none⟩) 2 2) [92, l[i]] := .inl ⟨H1.size, 0, 2, rfl, by simp, fun j hj => by
            rw [cellH_of hb2]
            have : j < 2 := by simpa using hj
            rcases j with _ | _ | j
            · rfl
            · rfl
            · omega⟩
          refine append_own (hown.frm f2 (by simp)) hx (by simp; omega) fun k' sl' H3 h3 f3 hk3 => ?_
          refine ⟨k', sl', rfl, by unfold quote1; rw [if_pos h2]; exact h3, (f1.trans f2).up f3 (fun x hx => .inr (hk x (by simpa using hx))), fun g hg => ?_⟩
          rcases hk3 with e | ⟨g', e, hge⟩
          · exact hk g (by rw [← e, hg])
          · rw [hg] at e; cases e; have := f1.size; omega
        · have h2 : ¬ (l[i] = 92 ∨ l[i] = 34) := by simpa using h1
          simp only [Fld_ptr, add_mk, Nat.zero_add, List.getElem?_toArray, List.getElem?_cons_succ, List.getElem?_cons_zero, Get_some, Br_true, Br_false, nth_zero, nth_one, nth_two, extractV_tuple, fieldAddrV_ptr, nilV_ptr, load1V_ptr, pickV_bool, unV_not, lenV_slice, capV_slice, byteV, arithV_add, arithV_sub, arithV_eql, arithV_neq, arithV_lss, arithV_leq, arithV_gtr, arithV_geq, intConvV_int, e13, e10, strIndex_of hlt']
          refine appByte (b := l[i]) hown (by omega) fun k' sl' H3 h3 f3 hk3 => ?_
          refine ⟨k', sl', rfl, by unfold quote1; rw [if_neg h2]; exact h3, f1.up f3 (fun x hx => .inr (hk x (by simpa using hx))), fun g hg => ?_⟩
          rcases hk3 with e | ⟨g', e, hge⟩
          · exact hk g (by rw [← e, hg])
          · rw [hg] at e; cases e; have := f1.size; omega
    · rintro _ H2 ⟨k', sl', rfl, hown2, f2, hk2⟩
      simp only [arithV_add, arithV_sub, arithV_eql, arithV_neq, arithV_lss, arithV_leq, arithV_gtr, arithV_geq, intConvV_int, Fld_ptr, add_mk, Nat.zero_add, List.getElem?_toArray, List.getElem?_cons_succ, List.getElem?_cons_zero, Get_some, Br_true, Br_false, nth_zero, nth_one, nth_two, extractV_tuple, fieldAddrV_ptr, nilV_ptr, load1V_ptr, pickV_bool, unV_not, lenV_slice, capV_slice, inc_i64 (show i < 2 ^ 62 by omega)]
      exact ⟨_, by omega, i + 1, k', sl', rfl, rfl, hlt', by rw [quoteB_succ hlt']; exact hown2, f2, hk2⟩
  · have : i = l.length := by simp at hlt; omega
    subst this
    rw [List.take_length] at hown
    simp only [hown.bytes.str, Get_some]
    exact ⟨rfl, f1⟩
end Go.Cps
