/-
  A part of the proof (its texts: L86, O1, O2, O3, O4): each text says below what it proves.
  Conditions: each contract's own.
-/
import Derived.Test.YtfajmapajpfocaaGreatDoorRows
import Derived.ChangeArms
import Derived.ChangeShapes
import Derived.Stop.LaidTwo
import Derived.LaidLaws
import Derived.Test.YtfajmapajpfocaaGreatDoorCards
import Derived.WalkKit
import Derived.ProofKit
import Derived.OpenShut
import Derived.OpenVars
import Derived.Lay
import Derived.Stop.Joined
import Derived.Stop.LaidErr
import Derived.RowKit
import Derived.Carry
import Derived.Test.YtfajmapajpfocaaGreatDoorE7
import Derived.Test.YtfajmapajpfocaaGreatDoorE11
import Derived.Test.YtfajmapajpfocaaGreatDoorE13
import Derived.Test.YtfajmapajpfocaaGreatDoorE26
import Derived.Test.YtfajmapajpfocaaGreatDoorE32
set_option linter.all false
/-
  FnNested, apart from any world: its walk.
  Conditions: few parts, short.
-/
namespace Go.Cps
open Go Go.Proofs

theorem nested_ok {B : Nat} {ea ua : Addr} {v hv0 : Value} {b outer : List UInt8} {l : List PartL} {head : List Hdr} {H : Heap} (hv : PartsV [] H v l) (hh : HeadsV [] H hv0 head) (hE : Errs B ea ua H) (hB : B ≤ H.size) (hbl : b.length < 2 ^ 38) (hol : outer.length < 2 ^ 38) (hs : (l.map bulkP).sum ≤ 2 ^ 20) (hhs : (head.map bulkH).sum ≤ 2 ^ 20) :
    CallsH Tryz.prog 6 #[v, strVal b, hv0, strVal outer] H fun x H' => x = .bool true ∧ Frm [] H H' := by
  obtain ⟨hn, hsm⟩ := bulk_small hs
  have hpb : ∀ body : List UInt8, (([(head, body)] : List PartL).map bulkP).sum ≤ 2 ^ 20 + body.length + 1 := fun body => by simp [bulkP]; omega
  obtain ⟨_, hhm0⟩ := bulk_small (l := [(head, [])]) (n := 2 ^ 20 + 1) (hpb [])
  have hhm : head.length ≤ 2 ^ 20 + 1 ∧ ∀ q ∈ head, q.1.length ≤ 2 ^ 20 + 1 ∧ q.2.length ≤ 2 ^ 20 + 1 ∧ ∀ s ∈ q.2, s.length ≤ 2 ^ 20 + 1 := (hhm0 (head, []) (by simp)).2
  apply s6
  unfold c6
  refine ⟨fun vs H' => ∃ r : Bool, vs = [.bool r] ∧ Frm [] H H', ?_, ?_⟩
  · refine (fits3_ok hv (by omega) (fun p hp => ⟨by have := (hsm p hp).2.1; omega, fun q hq => by have := ((hsm p hp).2.2 q hq).2.1; omega⟩)).mono ?_
    rintro x H1 ⟨⟨r, rfl⟩, f1⟩
    cases r with
    | false =>
      simp only [Fld_ptr, add_mk, Nat.zero_add, List.getElem?_toArray, List.getElem?_cons_succ, List.getElem?_cons_zero, Get_some, Br_true, Br_false, nth_zero, nth_one, nth_two, extractV_tuple, fieldAddrV_ptr, nilV_ptr, load1V_ptr, pickV_bool, unV_not, lenV_slice, capV_slice, Bool.not_false, if_true]
      exact ⟨_, rfl, f1⟩
    | true =>
      simp only [Fld_ptr, add_mk, Nat.zero_add, List.getElem?_toArray, List.getElem?_cons_succ, List.getElem?_cons_zero, Get_some, Br_true, Br_false, nth_zero, nth_one, nth_two, extractV_tuple, fieldAddrV_ptr, nilV_ptr, load1V_ptr, pickV_bool, unV_not, lenV_slice, capV_slice, arithV_add, arithV_sub, arithV_eql, arithV_neq, arithV_lss, arithV_leq, arithV_gtr, arithV_geq, intConvV_int, lenStr_of, Bool.not_true, Bool.false_eq_true, if_false]
      refine Br_intro (fun _ => ?_) (fun _ => ?_)
      · simp only [Fld_ptr, add_mk, Nat.zero_add, List.getElem?_toArray, List.getElem?_cons_succ, List.getElem?_cons_zero, Get_some, Br_true, Br_false, nth_zero, nth_one, nth_two, extractV_tuple, fieldAddrV_ptr, nilV_ptr, load1V_ptr, pickV_bool, unV_not, lenV_slice, capV_slice, if_true]
        exact ⟨_, rfl, f1⟩
      · refine (fits5_ok (hh.frm headR_ok f1 (by simp)) (by have := hhm.1; omega) (fun q hq => by have := (hhm.2 q hq).2.1; omega)).mono ?_
        rintro x H2 ⟨⟨r, rfl⟩, f2⟩
        have f12 := f1.trans f2
        cases r with
        | false =>
          simp only [Fld_ptr, add_mk, Nat.zero_add, List.getElem?_toArray, List.getElem?_cons_succ, List.getElem?_cons_zero, Get_some, Br_true, Br_false, nth_zero, nth_one, nth_two, extractV_tuple, fieldAddrV_ptr, nilV_ptr, load1V_ptr, pickV_bool, unV_not, lenV_slice, capV_slice, Bool.not_false, Bool.false_eq_true, if_false, if_true]
          exact ⟨_, rfl, f12⟩
        | true =>
          simp only [Fld_ptr, add_mk, Nat.zero_add, List.getElem?_toArray, List.getElem?_cons_succ, List.getElem?_cons_zero, Get_some, Br_true, Br_false, nth_zero, nth_one, nth_two, extractV_tuple, fieldAddrV_ptr, nilV_ptr, load1V_ptr, pickV_bool, unV_not, lenV_slice, capV_slice, arithV_add, arithV_sub, arithV_eql, arithV_neq, arithV_lss, arithV_leq, arithV_gtr, arithV_geq, intConvV_int, lenStr_of, Bool.not_true, Bool.false_eq_true, if_false]
          exact ⟨_, rfl, f12⟩
  rintro _ H1 ⟨r, rfl, f1⟩
  simp only [Fld_ptr, add_mk, Nat.zero_add, List.getElem?_toArray, List.getElem?_cons_succ, List.getElem?_cons_zero, Get_some, Br_true, Br_false, nth_zero, nth_one, nth_two, extractV_tuple, fieldAddrV_ptr, nilV_ptr, load1V_ptr, pickV_bool, unV_not, lenV_slice, capV_slice]
  refine Br_intro (fun _ => ⟨trivial, f1⟩) (fun _ => ?_)
  refine ⟨fun vs H' => ∃ r : Bool, vs = [.bool r] ∧ H' = H1, ?_, ?_⟩
  · simp only [Fld_ptr, add_mk, Nat.zero_add, List.getElem?_toArray, List.getElem?_cons_succ, List.getElem?_cons_zero, Get_some, Br_true, Br_false, nth_zero, nth_one, nth_two, extractV_tuple, fieldAddrV_ptr, nilV_ptr, load1V_ptr, pickV_bool, unV_not, lenV_slice, capV_slice, arithV_add, arithV_sub, arithV_eql, arithV_neq, arithV_lss, arithV_leq, arithV_gtr, arithV_geq, intConvV_int, lenStr_of]
    refine Br_intro (fun _ => ⟨_, rfl, trivial⟩) (fun _ => ?_)
    simp only [Fld_ptr, add_mk, Nat.zero_add, List.getElem?_toArray, List.getElem?_cons_succ, List.getElem?_cons_zero, Get_some, Br_true, Br_false, nth_zero, nth_one, nth_two, extractV_tuple, fieldAddrV_ptr, nilV_ptr, load1V_ptr, pickV_bool, unV_not, lenV_slice, capV_slice, arithV_add, arithV_sub, arithV_eql, arithV_neq, arithV_lss, arithV_leq, arithV_gtr, arithV_geq, intConvV_int, lenStr_of, Bool.false_eq_true, if_false]
    exact ⟨_, rfl, trivial⟩
  rintro _ H1 ⟨r, rfl, rfl⟩
  simp only [Fld_ptr, add_mk, Nat.zero_add, List.getElem?_toArray, List.getElem?_cons_succ, List.getElem?_cons_zero, Get_some, Br_true, Br_false, nth_zero, nth_one, nth_two, extractV_tuple, fieldAddrV_ptr, nilV_ptr, load1V_ptr, pickV_bool, unV_not, lenV_slice, capV_slice]
  refine Br_intro (fun _ => ⟨trivial, f1⟩) (fun _ => ?_)
  refine (writeBoth_ok (hv.frm partR_ok f1 (by simp)) hbl hs).mono ?_
  rintro x H2 ⟨y, ok, rfl, hy1, f2, hwr⟩
  have f12 := f1.trans f2
  simp only [Fld_ptr, add_mk, Nat.zero_add, List.getElem?_toArray, List.getElem?_cons_succ, List.getElem?_cons_zero, Get_some, Br_true, Br_false, nth_zero, nth_one, nth_two, extractV_tuple, fieldAddrV_ptr, nilV_ptr, load1V_ptr, pickV_bool, unV_not, lenV_slice, capV_slice, agg2 (hh.isOne) hy1 trivial, Option.map_some]
  refine local2' (K := fun x5 H => _) hh.isOne hy1 fun H3 hb3 f3 z3 => ?_
  have f13 := f12.trans f3
  -- the part as an element of a new slice
  have hld : ∀ {H' : Heap}, Frm [] H3 H' → loadNV 2 (.pointer (some ⟨H2.size, 0, none⟩)) H' = some (.agg #[hv0, y]) := fun f => loadNV_of (n := 2) (f.get hb3 (by simp)) rfl
  refine ⟨fun vs H' => ∃ r : Bool, vs = [.bool r] ∧ (r = false → (∀ p ∈ l, GoodPart b p) ∧ BdOk b ∧ GoodPart outer (head, wholeT b none (l.map partInL)) ∧ BdOk outer) ∧ Frm [] H3 H', ?_, ?_⟩
  · simp only [hv.len, Fld_ptr, add_mk, Nat.zero_add, List.getElem?_toArray, List.getElem?_cons_succ, List.getElem?_cons_zero, Get_some, Br_true, Br_false, nth_zero, nth_one, nth_two, extractV_tuple, fieldAddrV_ptr, nilV_ptr, load1V_ptr, pickV_bool, unV_not, lenV_slice, capV_slice, arithV_add, arithV_sub, arithV_eql, arithV_neq, arithV_lss, arithV_leq, arithV_gtr, arithV_geq, intConvV_int]
    refine Br_intro (fun _ => ?_) (fun _ => ?_)
    · simp only [Fld_ptr, add_mk, Nat.zero_add, List.getElem?_toArray, List.getElem?_cons_succ, List.getElem?_cons_zero, Get_some, Br_true, Br_false, nth_zero, nth_one, nth_two, extractV_tuple, fieldAddrV_ptr, nilV_ptr, load1V_ptr, pickV_bool, unV_not, lenV_slice, capV_slice, if_true]
      exact ⟨true, rfl, fun h => (by cases h), Frm.refl _ _⟩
    refine (good_ok (hv.frm partR_ok f13 (by simp)) (by omega) (by omega) (fun p hp => ?_)).mono ?_
    · obtain ⟨a1, a2, a3⟩ := hsm p hp
      exact ⟨by omega, by omega, fun q hq => by
        obtain ⟨b1, b2, b3⟩ := a3 q hq
        exact ⟨by omega, by omega, fun s hs => by have := b3 s hs; omega⟩⟩
    rintro x H4 ⟨r, rfl, hr, f4⟩
    cases r with
    | false =>
      simp only [Fld_ptr, add_mk, Nat.zero_add, List.getElem?_toArray, List.getElem?_cons_succ, List.getElem?_cons_zero, Get_some, Br_true, Br_false, nth_zero, nth_one, nth_two, extractV_tuple, fieldAddrV_ptr, nilV_ptr, load1V_ptr, pickV_bool, unV_not, lenV_slice, capV_slice, Bool.not_false, Bool.false_eq_true, if_false, if_true]
      exact ⟨true, rfl, fun h => (by cases h), f4⟩
    | true =>
      obtain ⟨hg, hok⟩ := hr rfl
      obtain ⟨rfl, hyb, hwl⟩ := hwr hg hok
      simp only [Fld_ptr, add_mk, Nat.zero_add, List.getElem?_toArray, List.getElem?_cons_succ, List.getElem?_cons_zero, Get_some, Br_true, Br_false, nth_zero, nth_one, nth_two, extractV_tuple, fieldAddrV_ptr, nilV_ptr, load1V_ptr, pickV_bool, unV_not, lenV_slice, capV_slice, Bool.not_true, Bool.false_eq_true, if_false, hld f4, fill2]
      refine newSl_of fun H5 hb5 f5 z5 => ?_
      have f35 := f4.trans f5
      have f15 := f13.trans f35
      have hyb5 := bytV_self (hyb.frm (f3.trans f35) (by simp))
      refine (good_ok (l := [(head, wholeT b none (l.map partInL))]) (parts1 hb5 (by simp) (hh.frm headR_ok f15 (by simp)) hyb5) (by simp) (by omega) (fun p hp => ?_)).mono ?_
      · rw [List.mem_singleton] at hp
        subst hp
        obtain ⟨a2, a3⟩ := hhm
        refine ⟨by show (wholeT b none (l.map partInL)).length < _; omega, by show head.length < _; omega, fun q hq => ?_⟩
        obtain ⟨b1, b2, b3⟩ := a3 q hq
        exact ⟨by omega, by omega, fun s hs => by have := b3 s hs; omega⟩
      rintro x H6 ⟨r2, rfl, hr2, f6⟩
      simp only [Fld_ptr, add_mk, Nat.zero_add, List.getElem?_toArray, List.getElem?_cons_succ, List.getElem?_cons_zero, Get_some, Br_true, Br_false, nth_zero, nth_one, nth_two, extractV_tuple, fieldAddrV_ptr, nilV_ptr, load1V_ptr, pickV_bool, unV_not, lenV_slice, capV_slice, Bool.false_eq_true, if_false]
      refine ⟨_, rfl, fun h => ?_, f35.trans f6⟩
      obtain ⟨g1, g2⟩ := hr2 (by simpa using h)
      exact ⟨hg, hok, g1 _ (by simp), g2⟩
  rintro _ H4 ⟨r, rfl, hgood, f4⟩
  have f14 := f13.trans f4
  simp only [Fld_ptr, add_mk, Nat.zero_add, List.getElem?_toArray, List.getElem?_cons_succ, List.getElem?_cons_zero, Get_some, Br_true, Br_false, nth_zero, nth_one, nth_two, extractV_tuple, fieldAddrV_ptr, nilV_ptr, load1V_ptr, pickV_bool, unV_not, lenV_slice, capV_slice]
  refine Br_intro (fun _ => ⟨trivial, f14⟩) (fun hr0 => ?_)
  obtain ⟨hg, hok, hgp, hoko⟩ := hgood hr0
  obtain ⟨rfl, hyb, hwl⟩ := hwr hg hok
  simp only [hld f4, Fld_ptr, add_mk, Nat.zero_add, List.getElem?_toArray, List.getElem?_cons_succ, List.getElem?_cons_zero, Get_some, Br_true, Br_false, nth_zero, nth_one, nth_two, extractV_tuple, fieldAddrV_ptr, nilV_ptr, load1V_ptr, pickV_bool, unV_not, lenV_slice, capV_slice, fill2]
  refine newSl_of fun H5 hb5 f5 z5 => ?_
  have f35 := f4.trans f5
  have f15 := f13.trans f35
  have hyb5 := bytV_self (hyb.frm (f3.trans f35) (by simp))
  obtain ⟨W, hW⟩ : ∃ W, wholeT b none (l.map partInL) = W := ⟨_, rfl⟩
  rw [hW] at hyb5 hwl hgp
  have hP := parts1 (p := (head, W)) hb5 (by simp) (hh.frm headR_ok f15 (by simp)) hyb5
  have hlen := hok.len
  have hpos := hok.pos
  have hleno := hoko.len
  have hposo := hoko.pos
  have hmap1 : ([(head, W)] : List PartL).map partInL = [partInL (head, W)] := rfl
  have hol2 : (wholeT outer none [partInL (head, W)]).length < 2 ^ 36 := by
    have h1 : (linesText (linesOf head)).length ≤ (linesOf head).length * 1004 := text_len hgp.head.line
    have h2 := lines_len (hd := head)
    have h3 : (linesOf head).length * 1004 ≤ (2 ^ 20) * 1004 := Nat.mul_le_mul_right _ (by omega)
    simp only [wholeT, tailT, partIn, partInL, List.length_append, List.length_cons, List.length_nil, nldOf_length, dashOf_length, reduceCtorEq, false_and, if_false]
    omega
  refine (write_ok hP hoko (by rw [hmap1]; exact hol2) (by simp) (fun p hp => by rw [List.mem_singleton] at hp; subst hp; exact hgp.head.asc')).mono ?_
  rintro x H6 ⟨w, rfl, hw, f6⟩
  rw [hmap1] at hw
  have f16 := f15.trans f6
  simp only [Fld_ptr, add_mk, Nat.zero_add, List.getElem?_toArray, List.getElem?_cons_succ, List.getElem?_cons_zero, Get_some, Br_true, Br_false, nth_zero, nth_one, nth_two, extractV_tuple, fieldAddrV_ptr, nilV_ptr, load1V_ptr, pickV_bool, unV_not, lenV_slice, capV_slice]
  refine (parts_ok hw (hE.frm f16 (by simp)) (Nat.le_trans hB f16.size) ⟨by intro h0; rw [h0] at hposo; simp at hposo, bd_no_nl hoko, by omega⟩ ⟨bd_no_cr hoko, by omega⟩ (by omega) (fun q hq => ?_) (by simp) (by simp)).mono ?_
  · rw [List.mem_singleton] at hq
    subst hq
    exact hgp.inn (by show W.length < _; omega)
  rintro x H7 ⟨u, rs, rfl, hu, f7, hrs⟩
  simp only at hrs
  subst hrs
  have f17 := f16.trans f7
  rw [List.map_cons, List.map_nil, hgp.res] at hu
  have ho : ((1 : Int) == 1) = true := by decide
  have hl1 : (((([canonPart (head, W)] : List PartL).length : Nat) : Int) == 1) = true := by simp
  simp only [Fld_ptr, add_mk, Nat.zero_add, List.getElem?_toArray, List.getElem?_cons_succ, List.getElem?_cons_zero, Get_some, Br_true, Br_false, nth_zero, nth_one, nth_two, extractV_tuple, fieldAddrV_ptr, nilV_ptr, load1V_ptr, pickV_bool, unV_not, lenV_slice, capV_slice, Option.isSome_none, Bool.false_eq_true, if_false]
  refine ⟨fun vs H' => vs = [.bool false] ∧ H' = H7, ?_, ?_⟩
  · simp only [hu.len, Fld_ptr, add_mk, Nat.zero_add, List.getElem?_toArray, List.getElem?_cons_succ, List.getElem?_cons_zero, Get_some, Br_true, Br_false, nth_zero, nth_one, nth_two, extractV_tuple, fieldAddrV_ptr, nilV_ptr, load1V_ptr, pickV_bool, unV_not, lenV_slice, capV_slice, arithV_add, arithV_sub, arithV_eql, arithV_neq, arithV_lss, arithV_leq, arithV_gtr, arithV_geq, intConvV_int, Bool.not_true, Bool.false_eq_true, if_false, bne, ho, hl1]
    exact ⟨trivial, trivial⟩
  rintro _ H7 ⟨rfl, rfl⟩
  simp only [Fld_ptr, add_mk, Nat.zero_add, List.getElem?_toArray, List.getElem?_cons_succ, List.getElem?_cons_zero, Get_some, Br_true, Br_false, nth_zero, nth_one, nth_two, extractV_tuple, fieldAddrV_ptr, nilV_ptr, load1V_ptr, pickV_bool, unV_not, lenV_slice, capV_slice]
  obtain ⟨a, vs, ha, _, _, hR, hc⟩ := hu.elem (j := 0) (by simp)
  obtain ⟨y1, z1, rfl, hy1', hz1⟩ := part_shape hR
  have ha0 : elemAddrV 2 u (.int .i64 0) = some (.pointer (some a)) := ha .i64
  have hc1 : cellH H7 (a.add 1) = some z1 := hc 1 (by omega)
  have hz1' : BytV [] H7 z1 W := hz1
  simp only [ha0, Fld_ptr, add_mk, Nat.zero_add, List.getElem?_toArray, List.getElem?_cons_succ, List.getElem?_cons_zero, Get_some, Br_true, Br_false, nth_zero, nth_one, nth_two, extractV_tuple, fieldAddrV_ptr, nilV_ptr, load1V_ptr, pickV_bool, unV_not, lenV_slice, capV_slice, hc1]
  rw [← hW] at hz1'
  refine (parts_ok hz1'.1 (hE.frm f17 (by simp)) (Nat.le_trans hB f17.size) ⟨by intro h0; rw [h0] at hpos; simp at hpos, bd_no_nl hok, by omega⟩ ⟨bd_no_cr hok, by omega⟩ (by rw [hW]; omega) ?_ (by simp) (by simp; omega)).mono ?_
  · intro q hq
    obtain ⟨p, hp, rfl⟩ := List.mem_map.1 hq
    exact (hg p hp).inn (by have := (hsm p hp).1; omega)
  rintro x H8 ⟨t, rs, rfl, ht, f8, hrs⟩
  simp only at hrs
  subst hrs
  have f18 := f17.trans f8
  have hmap : (l.map partInL).map resOf = l.map canonPart := by
    rw [List.map_map]
    exact List.map_congr_left fun p hp => (hg p hp).res
  rw [hmap] at ht
  simp only [Fld_ptr, add_mk, Nat.zero_add, List.getElem?_toArray, List.getElem?_cons_succ, List.getElem?_cons_zero, Get_some, Br_true, Br_false, nth_zero, nth_one, nth_two, extractV_tuple, fieldAddrV_ptr, nilV_ptr, load1V_ptr, pickV_bool, unV_not, lenV_slice, capV_slice]
  refine ⟨fun vs H' => vs = [.bool true] ∧ Frm [] H H', ?_, ?_⟩
  · simp only [Fld_ptr, add_mk, Nat.zero_add, List.getElem?_toArray, List.getElem?_cons_succ, List.getElem?_cons_zero, Get_some, Br_true, Br_false, nth_zero, nth_one, nth_two, extractV_tuple, fieldAddrV_ptr, nilV_ptr, load1V_ptr, pickV_bool, unV_not, lenV_slice, capV_slice, arithV_add, arithV_sub, arithV_eql, arithV_neq, arithV_lss, arithV_leq, arithV_gtr, arithV_geq, intConvV_int, if_true, ho, Option.isSome_none, Bool.false_eq_true, if_false]
    refine (canonParts_ok (hv.frm partR_ok f18 (by simp)) (by omega) (fun p hp => ⟨by have := (hsm p hp).2.1; omega, fun q hq => by have := ((hsm p hp).2.2 q hq).1; omega⟩) (fun p hp => (hg p hp).head.canon)).mono ?_
    rintro x H9 ⟨hx9, f9⟩
    have f19 := f18.trans f9
    refine (same_ok (ht.frm partR_ok f9 (by simp)) hx9 (by simp; omega) ?_).mono ?_
    · intro q hq
      obtain ⟨p, hp, rfl⟩ := List.mem_map.1 hq
      obtain ⟨a1, a2, a3⟩ := hsm p hp
      have hpm := sortHs_perm (p.1.map canonP)
      refine ⟨?_, fun r hr => ?_⟩
      · show (sortHs (p.1.map canonP)).length < _
        rw [hpm.length_eq, List.length_map]; omega
      · have hr' : r ∈ p.1.map canonP := hpm.mem_iff.1 hr
        obtain ⟨q', hq', rfl⟩ := List.mem_map.1 hr'
        have := (a3 q' hq').2.1
        show q'.2.length < _
        omega
    rintro x H10 ⟨rfl, f10⟩
    simp only [decide_true, Fld_ptr, add_mk, Nat.zero_add, List.getElem?_toArray, List.getElem?_cons_succ, List.getElem?_cons_zero, Get_some, Br_true, Br_false, nth_zero, nth_one, nth_two, extractV_tuple, fieldAddrV_ptr, nilV_ptr, load1V_ptr, pickV_bool, unV_not, lenV_slice, capV_slice]
    exact ⟨trivial, f19.trans f10⟩
  · rintro _ H' ⟨rfl, hfr⟩
    exact ⟨rfl, hfr⟩
end Go.Cps

/-
  What the reading of an argument tells of the heap: strings, slices, the structs of this program.
  Conditions: none beyond the reading.
-/
namespace Go.Proofs.YtfajmapajpfocaaGreatDoor
open Go Go.Cps

theorem bulk_pos {H : Type} (d : DataW H) : 1 ≤ Rows.uptoBulk d := by
  cases d with
  | lit l => cases l <;> simp [Rows.uptoBulk]
  | nil => simp [Rows.uptoBulk]
  | ptr d => simp [Rows.uptoBulk]
  | slice elems spare => simp [Rows.uptoBulk]
  | agg parts => simp [Rows.uptoBulk]
  | iface t d => simp [Rows.uptoBulk]
  | map entries => simp [Rows.uptoBulk]
  | held h => simp [Rows.uptoBulk]

section
variable {H : Type} {enc : TypeId × Value → H} {P : Program} {w : World} {base : Nat} {held : Bool}

theorem cells_some {a : Addr} {n : Nat} {cs : List Value} (h : w.cells? base a n = some cs) : cs.length = n ∧ ∀ i, i < n → cellH w.heap (a.add i) = cs[i]? := by
  unfold World.cells? at h
  split at h
  · refine ⟨by simpa using mapM_some_length h, fun i hi => ?_⟩
    have := mapM_some_get h i i (by simp [hi])
    rw [← this]
    rfl
  · cases h
theorem cell_some {a : Addr} {H : Heap} {v : Value} (h : cellH H a = some v) : a.spot = none ∧ a.block < H.size := by
  unfold cellH at h
  split at h
  · rename_i c t f hb
    refine ⟨?_, lt_of_some hb⟩
    cases hs : a.spot with
    | none => rfl
    | some k => simp [hs] at h
  · cases h

/-- a slice of rows of w cells each -/
theorem open_sl {α : Type} {k : Nat} {R : List Nat → Heap → α → List Value → Prop} {size : α → Nat} {t e : TypeId} {fuel : Nat} {cs : List Value} {x : DataW H × List MemPlace} (ht : P.underlying t = some (.slice e)) (hw : P.cellsOf e = k) (hk : 0 < k)
    (hel : ∀ fuel cs x, cs.length = k → DataW.trod enc P w base (fun _ => true) held fuel e cs = some x → ∃ a : α, R [] w.heap a cs ∧ size a ≤ Rows.uptoBulk x.1)
    (h : DataW.trod enc P w base (fun _ => true) held fuel t cs = some x) :
    ∃ v l, cs = [v] ∧ SlV k R [] w.heap v l ∧ (l.map size).sum + 1 ≤ Rows.uptoBulk x.1 ∧ l.length + 1 ≤ Rows.uptoBulk x.1 := by
  rcases DataW.trod_slice ht h with ⟨rfl, rfl⟩ | ⟨a, len, cap, elems, rest, n, rfl, rfl, rfl, hb, hlc, hcm, hlen, hels, hrest, _⟩
  · exact ⟨_, [], rfl, .inr ⟨_, rfl, rfl⟩, by simp [Rows.uptoBulk], by simp [Rows.uptoBulk]⟩
  obtain ⟨hrl, hrs⟩ := hrest rfl
  rw [hw] at hels hrs
  by_cases hc0 : cap = 0
  · have h0 : len = 0 := by omega
    subst hc0 h0
    have he0 : elems = [] := List.eq_nil_of_length_eq_zero hlen
    exact ⟨_, [], rfl, .inr ⟨some a, rfl, rfl⟩, by simp [Rows.uptoBulk], by simp [Rows.uptoBulk]⟩
  have hval : ∃ v, cellH w.heap (a.add 0) = some v := by
    by_cases h0 : len = 0
    · have h1 := hrs 0 (by omega)
      rw [List.getElem?_eq_getElem (by omega)] at h1
      obtain ⟨vs, hc, _⟩ := Option.bind_eq_some_iff.1 h1
      obtain ⟨hvl, hvc⟩ := cells_some hc
      have := hvc 0 hk
      rw [List.getElem?_eq_getElem (by omega)] at this
      exact ⟨_, by simpa [h0, Addr.add] using this⟩
    · have h1 := hels 0 (by omega)
      rw [List.getElem?_eq_getElem (by omega)] at h1
      obtain ⟨vs, hc, _⟩ := Option.bind_eq_some_iff.1 h1
      obtain ⟨hvl, hvc⟩ := cells_some hc
      have := hvc 0 hk
      rw [List.getElem?_eq_getElem (by omega)] at this
      exact ⟨_, by simpa [Addr.add] using this⟩
  obtain ⟨v0, hv0⟩ := hval
  obtain ⟨hsp, hlt⟩ := cell_some hv0
  rw [add_zero] at hsp hlt
  obtain ⟨b, o, sp⟩ := a
  simp only at hsp hlt
  subst hsp
  have hex : ∀ m, m ≤ len → ∃ l : List α, l.length = m ∧ (l.map size).sum ≤ Rows.uptoBulkAll ((elems.map (·.1)).take m) ∧ ∀ j (hj : j < l.length), ∃ vs : List Value, vs.length = k ∧ R [] w.heap l[j] vs ∧ ∀ i, i < k → cellH w.heap ⟨b, o + (j * k + i), none⟩ = vs[i]? := by
    intro m
    induction m with
    | zero => exact fun _ => ⟨[], rfl, by simp [Rows.uptoBulkAll], fun j hj => absurd hj (by simp)⟩
    | succ m ih =>
      intro hm
      obtain ⟨l, hl, hs, hg⟩ := ih (by omega)
      have hel1 := hels m (by omega)
      rw [List.getElem?_eq_getElem (by omega)] at hel1
      obtain ⟨vs, hc, hd⟩ := Option.bind_eq_some_iff.1 hel1
      obtain ⟨hvl, hvc⟩ := cells_some hc
      obtain ⟨y, hR, hsz⟩ := hel _ _ _ hvl hd
      refine ⟨l ++ [y], by simp [hl], ?_, fun j hj => ?_⟩
      · rw [List.take_succ_eq_append_getElem (by simp; omega), List.map_append, List.sum_append]
        have happ : ∀ (p q : List (DataW H)), Rows.uptoBulkAll (p ++ q) = Rows.uptoBulkAll p + Rows.uptoBulkAll q := by
          intro p q
          induction p with
          | nil => simp [Rows.uptoBulkAll]
          | cons c p ih => simp only [List.cons_append, Rows.uptoBulkAll, ih]; omega
        rw [happ]
        simp only [List.map_cons, List.map_nil, List.sum_cons, List.sum_nil, List.getElem_map, Rows.uptoBulkAll]
        omega
      · by_cases hjm : j < l.length
        · rw [List.getElem_append_left hjm]
          exact hg j hjm
        · have hje : j = l.length := by simp at hj; omega
          subst hje
          refine ⟨vs, hvl, by simpa using hR, fun i hi => ?_⟩
          rw [hl, ← hvc i hi]
          rw [add_mk, add_mk, Nat.add_assoc]
  obtain ⟨l, hl, hs, hg⟩ := hex len (Nat.le_refl _)
  rw [List.take_of_length_le (by simp; omega)] at hs
  have hll : ∀ (p : List (DataW H)), p.length ≤ Rows.uptoBulkAll p := by
    intro p
    induction p with
    | nil => simp [Rows.uptoBulkAll]
    | cons c p ih => have := bulk_pos c; simp only [List.length_cons, Rows.uptoBulkAll]; omega
  have hl2 := hll (elems.map (·.1))
  rw [List.length_map] at hl2
  refine ⟨_, l, rfl, ?_, by simp only [Rows.uptoBulk]; omega, by simp only [Rows.uptoBulk]; omega⟩
  refine .inl ⟨b, o, cap, by rw [hl], by omega, by simp, hlt, fun j hj => ?_⟩
  obtain ⟨vs, h1, h2, h3⟩ := hg j hj
  exact ⟨vs, h1, h2, h3⟩

def ByteR (_ : List Nat) (_ : Heap) (b : UInt8) (vs : List Value) : Prop := vs = [byteV b]
theorem bytV_of {D : List Nat} {H : Heap} {v : Value} {l : List UInt8} (h : SlV 1 ByteR D H v l) : BytV D H v l := by
  rcases h with ⟨b, o, c, rfl, h1, h2, h3, h4⟩ | ⟨a, rfl, rfl⟩
  · refine ⟨.inl ⟨b, o, c, rfl, h1, fun j hj => ?_⟩, fun _ b' hb => ?_⟩
    · obtain ⟨vs, _, g2, g3⟩ := h4 j hj
      have := g3 0 (by omega)
      rw [show vs = [byteV l[j]] from g2] at this
      rw [List.getElem?_eq_getElem hj]
      simpa using this
    · simp only [blk, Option.some.injEq] at hb
      subst hb
      exact ⟨h2, h3⟩
  · exact ⟨.inr ⟨a, rfl, rfl⟩, fun h => absurd rfl h⟩
theorem open_bytes {t e : TypeId} {fuel : Nat} {cs : List Value} {x : DataW H × List MemPlace} (ht : P.underlying t = some (.slice e)) (he : P.underlying e = some (.int .u8)) (hw : P.cellsOf e = 1)
    (h : DataW.trod enc P w base (fun _ => true) held fuel t cs = some x) : ∃ v l, cs = [v] ∧ BytV [] w.heap v l ∧ l.length + 1 ≤ Rows.uptoBulk x.1 := by
  obtain ⟨v, l, h1, h2, _, h4⟩ := open_sl (R := ByteR) (size := fun _ => 1) ht hw (by omega) (fun fuel cs x hcs hx => by
    obtain ⟨n, rfl, rfl, hn⟩ := DataW.trod_int he hx
    refine ⟨UInt8.ofNat n.toNat, ?_, bulk_pos _⟩
    have hb : 0 ≤ n ∧ n ≤ 255 := by simpa [Lit.wf, IntKind.min, IntKind.max, IntKind.signed, IntKind.bits] using hn
    show [Value.int .u8 n] = [byteV _]
    have : (UInt8.ofNat n.toNat).toNat = n.toNat := by
      rw [UInt8.toNat_ofNat']
      omega
    simp only [byteV, this]
    congr 2
    omega) h
  exact ⟨v, l, h1, bytV_of h2, h4⟩
theorem open_str {t : TypeId} {fuel : Nat} {cs : List Value} {x : DataW H × List MemPlace} (ht : P.underlying t = some .string)
    (h : DataW.trod enc P w base (fun _ => true) held fuel t cs = some x) : ∃ l : List UInt8, cs = [Cps.strVal l] ∧ l.length + 1 ≤ Rows.uptoBulk x.1 := by
  obtain ⟨s, rfl, rfl, _⟩ := DataW.trod_string ht h
  exact ⟨s.data.toList, by cases s; simp [Cps.strVal], by simp [Rows.uptoBulk]⟩
theorem open_strs {t e : TypeId} {fuel : Nat} {cs : List Value} {x : DataW H × List MemPlace} (ht : P.underlying t = some (.slice e)) (he : P.underlying e = some .string) (hw : P.cellsOf e = 1)
    (h : DataW.trod enc P w base (fun _ => true) held fuel t cs = some x) : ∃ v l, cs = [v] ∧ StrsV [] w.heap v l ∧ (l.map fun s => s.length + 1).sum + 1 ≤ Rows.uptoBulk x.1 := by
  obtain ⟨v, l, h1, h2, h3, _⟩ := open_sl (R := StrR) (size := fun s : List UInt8 => s.length + 1) ht hw (by omega) (fun fuel cs x hcs hx => by
    obtain ⟨s, rfl, hs⟩ := open_str he hx
    exact ⟨s, rfl, hs⟩) h
  exact ⟨v, l, h1, h2, h3⟩
end
end Go.Proofs.YtfajmapajpfocaaGreatDoor

/-
  The arguments of this program: fields, parts.
  Conditions: none beyond the reading.
-/
namespace Go.Proofs.YtfajmapajpfocaaGreatDoor
open Go Go.Cps

theorem cells5 : Tryz.prog.cellsOf 5 = 1 := by kernel_rfl
theorem cells9' : Tryz.prog.cellsOf 9 = 1 := by kernel_rfl
theorem cells23 : Tryz.prog.cellsOf 23 = 1 := by kernel_rfl
theorem cells37 : Tryz.prog.cellsOf 37 = 1 := by kernel_rfl
theorem cells88 : Tryz.prog.cellsOf 88 = 1 := by kernel_rfl
theorem cells90 : Tryz.prog.cellsOf 90 = 2 := by kernel_rfl
theorem cells39 : Tryz.prog.cellsOf 39 = 2 := by kernel_rfl

theorem len_two {α : Type} {l : List α} (h : l.length = 2) : ∃ a b, l = [a, b] := by
  match l, h with
  | [a, b], _ => exact ⟨a, b, rfl⟩
section
variable {H : Type} {enc : TypeId × Value → H} {w : World} {base : Nat} {held : Bool} {fuel : Nat} {cs : List Value} {x : DataW H × List MemPlace}

theorem open_body (h : DataW.trod enc Tryz.prog w base (fun _ => true) held fuel 23 cs = some x) : ∃ v l, cs = [v] ∧ BytV [] w.heap v l ∧ l.length + 1 ≤ Rows.uptoBulk x.1 := open_bytes Tryz.underlying23 Tryz.underlying5 cells5 h
theorem open_text (h : DataW.trod enc Tryz.prog w base (fun _ => true) held fuel 9 cs = some x) : ∃ l : List UInt8, cs = [Cps.strVal l] ∧ l.length + 1 ≤ Rows.uptoBulk x.1 := open_str und9 h

def hdrSize (p : Hdr) : Nat := p.1.length + (p.2.map fun s => s.length + 1).sum + 1
theorem open_hdr (hl : cs.length = 2) (h : DataW.trod enc Tryz.prog w base (fun _ => true) held fuel 90 cs = some x) : ∃ p : Hdr, HeadR [] w.heap p cs ∧ hdrSize p ≤ Rows.uptoBulk x.1 := by
  obtain ⟨xs, n, rfl, rfl, _, hxl, hf⟩ := DataW.trod_struct Tryz.underlying90 h
  obtain ⟨y0, y1, rfl⟩ := len_two hxl
  obtain ⟨c0, c1, rfl⟩ := len_two hl
  · · skip
      have h0 : DataW.trod enc Tryz.prog w base (fun _ => true) held n 9 (([c0, c1].drop 0).take (Tryz.prog.cellsOf 9)) = some y0 := hf 0 _ rfl
      rw [cells9'] at h0
      replace h0 : DataW.trod enc Tryz.prog w base (fun _ => true) held n 9 [c0] = some y0 := h0
      have h1 : DataW.trod enc Tryz.prog w base (fun _ => true) held n 88 (([c0, c1].drop 1).take (Tryz.prog.cellsOf 88)) = some y1 := hf 1 _ rfl
      rw [cells88] at h1
      replace h1 : DataW.trod enc Tryz.prog w base (fun _ => true) held n 88 [c1] = some y1 := h1
      obtain ⟨a, e0, s0⟩ := open_text h0
      obtain ⟨v, c, e1, hv, s1⟩ := open_strs Tryz.underlying88 und9 cells9' h1
      obtain rfl := List.singleton_inj.1 e0
      obtain rfl := List.singleton_inj.1 e1
      refine ⟨(a, c), ⟨_, rfl, hv⟩, ?_⟩
      simp only [hdrSize, List.map_cons, List.map_nil, Rows.uptoBulk, Rows.uptoBulkAll]
      omega
theorem open_heads (h : DataW.trod enc Tryz.prog w base (fun _ => true) held fuel 37 cs = some x) : ∃ v l, cs = [v] ∧ HeadsV [] w.heap v l ∧ (l.map hdrSize).sum + 1 ≤ Rows.uptoBulk x.1 ∧ l.length + 1 ≤ Rows.uptoBulk x.1 :=
  open_sl (R := HeadR) Tryz.underlying37 cells90 (by omega) (fun _ _ _ hl h => open_hdr hl h) h

def partSize (p : PartL) : Nat := (p.1.map hdrSize).sum + p.2.length + 1
theorem open_part (hl : cs.length = 2) (h : DataW.trod enc Tryz.prog w base (fun _ => true) held fuel 39 cs = some x) : ∃ p : PartL, PartR [] w.heap p cs ∧ partSize p ≤ Rows.uptoBulk x.1 := by
  obtain ⟨xs, n, rfl, rfl, _, hxl, hf⟩ := DataW.trod_struct Tryz.underlying39 h
  obtain ⟨y0, y1, rfl⟩ := len_two hxl
  obtain ⟨c0, c1, rfl⟩ := len_two hl
  · · skip
      have h0 : DataW.trod enc Tryz.prog w base (fun _ => true) held n 37 (([c0, c1].drop 0).take (Tryz.prog.cellsOf 37)) = some y0 := hf 0 _ rfl
      rw [cells37] at h0
      replace h0 : DataW.trod enc Tryz.prog w base (fun _ => true) held n 37 [c0] = some y0 := h0
      have h1 : DataW.trod enc Tryz.prog w base (fun _ => true) held n 23 (([c0, c1].drop 1).take (Tryz.prog.cellsOf 23)) = some y1 := hf 1 _ rfl
      rw [cells23] at h1
      replace h1 : DataW.trod enc Tryz.prog w base (fun _ => true) held n 23 [c1] = some y1 := h1
      obtain ⟨u, a, e0, hu, s0, _⟩ := open_heads h0
      obtain ⟨v, c, e1, hv, s1⟩ := open_body h1
      obtain rfl := List.singleton_inj.1 e0
      obtain rfl := List.singleton_inj.1 e1
      refine ⟨(a, c), ⟨_, _, rfl, hu, hv⟩, ?_⟩
      simp only [partSize, List.map_cons, List.map_nil, Rows.uptoBulk, Rows.uptoBulkAll]
      omega
theorem open_parts (h : DataW.trod enc Tryz.prog w base (fun _ => true) held fuel 26 cs = some x) : ∃ v l, cs = [v] ∧ PartsV [] w.heap v l ∧ (l.map partSize).sum + 1 ≤ Rows.uptoBulk x.1 ∧ l.length + 1 ≤ Rows.uptoBulk x.1 :=
  open_sl (R := PartR) Tryz.underlying26 cells39 (by omega) (fun _ _ _ hl h => open_part hl h) h
end

/-- a value of one cell -/
theorem one_cell {v : Value} {u : Value} (h : v.cells.toList = [u]) (hn : ∀ cs, v ≠ .agg cs) : v = u := by
  cases v <;> first | (simpa [Value.cells] using h) | exact absurd rfl (hn _)
end Go.Proofs.YtfajmapajpfocaaGreatDoor

/-
  What the laid variables tell: io.EOF, io.ErrUnexpectedEOF, bufio.ErrBufferFull.
  Conditions: they are laid.
-/
namespace Go.Proofs.YtfajmapajpfocaaGreatDoor
open Go Go.Cps Go.RowKit

theorem gEOF' : Tryz.prog.globalNamed "io.EOF" = some 0 := by kernel_rfl
theorem gEOFType' : (Tryz.prog.globals[0]?).map (·.type) = some 60 := by kernel_rfl
theorem gUEF : Tryz.prog.globalNamed "io.ErrUnexpectedEOF" = some 16 := by kernel_rfl
theorem gUEFType : (Tryz.prog.globals[16]?).map (·.type) = some 60 := by kernel_rfl
theorem gFull : Tryz.prog.globalNamed "bufio.ErrBufferFull" = some 4 := by kernel_rfl
theorem gFullType : (Tryz.prog.globals[4]?).map (·.type) = some 60 := by kernel_rfl
theorem cells140' : Tryz.prog.cellsOf 140 = 1 := by kernel_rfl
theorem star' : "*" ++ "errors.errorString" = "*errors.errorString" := by decide
theorem row138' (u : TypeId) (h : Tryz.prog.typeName? 3 u = some "*errors.errorString") : u = 138 :=
  typeName_ptr_named (nm := "errors.errorString") (by rw [star']; kernel_rfl) (by kernel_rfl) (by decide) u (by rw [star']; exact h)

theorem var_heap {W : World} {n : String} {g : Nat} {cs : Array Value} (hg : Tryz.prog.globalNamed n = some g) (hv : W.var? Tryz.prog n = some cs) : ∃ t f, W.heap[g]? = some (.cells cs t f) := by
  unfold World.var? at hv
  rw [hg] at hv
  simp only [Option.bind_some] at hv
  cases hh : W.heap[g]? with
  | none => rw [hh] at hv; simp at hv
  | some o =>
    rw [hh] at hv
    cases o <;> simp at hv
    subst hv
    exact ⟨_, _, rfl⟩

theorem errs_of {W : World} {r r' : List (String × DataW Unit)} (h : laidMet Tryz.prog (("io.EOF", Rows.laid_io_EOF) :: ("io.ErrUnexpectedEOF", Rows.laid_io_ErrUnexpectedEOF) :: r) W) (h' : laidMet Tryz.prog (("bufio.ErrBufferFull", Rows.laid_bufio_ErrBufferFull) :: r') W) :
    ∃ ea ua : Addr, Errs W.heap.size ea ua W.heap := by
  obtain ⟨ms, h60⟩ := und60
  obtain ⟨ea, ua, s0, s1, c0, c1, t0, t1, hv0, hv1, _, _, _, _, _, _, hne, hb0, hb1⟩ := laid_sentinels2 h gEOF' gEOFType' gUEF gUEFType h60 row138' und138 Tryz.underlying140 rfl rfl und9 cells140' cells9'
  obtain ⟨fa, s, hv4, _, _, _⟩ := laid_sentinel h' gFull gFullType h60 row138' und138 Tryz.underlying140 rfl rfl und9 cells140' cells9'
  obtain ⟨t, f, e0⟩ := var_heap gEOF' hv0
  obtain ⟨t', f', e16⟩ := var_heap gUEF hv1
  obtain ⟨t'', f'', e4⟩ := var_heap gFull hv4
  exact ⟨ea, ua, ⟨_, _, e0⟩, ⟨_, _, e16⟩, hne, ⟨lt_of_some hb0, _, _, hb0⟩, ⟨lt_of_some hb1, _, _, hb1⟩, lt_of_some e16, ⟨_, _, _, _, e4⟩⟩
end Go.Proofs.YtfajmapajpfocaaGreatDoor

/-
  Arguments of a call read as what they stand for; the bulk of the variables.
  Conditions: each contract's own.
-/
namespace Go.Proofs.YtfajmapajpfocaaGreatDoor
open Go Go.Cps Go.ChangeShapes Go.WideShapes Go.ChangeAt Go.RowKit

theorem own' : ownKnob Tryz.prog.godebug = none := by kernel_rfl
theorem laidOut' : laidOutB Tryz.prog = true := by kernel_rfl
/-- from the heap to the world -/
theorem calls_of' {f : FuncId} {args : Array Value} {W : World} (h : CallsH Tryz.prog f args W.heap fun x H' => x = .bool true ∧ Frm [] W.heap H') :
    Calls Tryz.prog f args W fun e W' => e = .returned (.bool true) ∧ Go.RowKit.Below W.heap.size W W' := by
  refine (h W rfl).mono ?_
  rintro e W' ⟨v, rfl, hs, rfl, hf⟩
  exact ⟨rfl, hs.os, hs.tape, hs.output, hf.size, fun k hk => hf.same k hk (by simp)⟩
theorem trodVars_two' {H : Type} {enc : TypeId × Value → H} {P : Program} {w : World} {sp : Nat → Bool} {a b : String} {gs : List (DataW H)} {ps : List MemPlace} (h : DataW.TrodVars enc P w sp [a, b] gs ps) : ∃ g1 g2, gs = [g1, g2] := by
  match gs, h with
  | [], h => exact h.elim
  | [_], h => obtain ⟨_, _, _, _, _, _, _, _, _, _, h, _⟩ := h; exact h.elim
  | [g1, g2], _ => exact ⟨g1, g2, rfl⟩
  | _ :: _ :: _ :: _, h => obtain ⟨_, _, _, _, _, _, _, _, _, _, h, _⟩ := h; obtain ⟨_, _, _, _, _, _, _, _, _, _, h, _⟩ := h; exact h.elim

set_option maxRecDepth 100000 in
theorem no_agg {t e : TypeId} {W : World} {base : Nat} {v : Value} (ht : Tryz.prog.underlying t = some (.slice e)) (h : Value.okWide Tryz.prog W .any base t v) : ∀ cs, v ≠ .agg cs := by
  rintro cs rfl
  unfold Value.okWide at h
  rw [ht] at h
  simp only [Cell.okWide, Cell.ok, ht] at h
set_option maxRecDepth 100000 in
theorem no_agg_str {t : TypeId} {W : World} {base : Nat} {v : Value} (ht : Tryz.prog.underlying t = some .string) (h : Value.okWide Tryz.prog W .any base t v) : ∀ cs, v ≠ .agg cs := by
  rintro cs rfl
  unfold Value.okWide at h
  rw [ht] at h
  simp only [Cell.okWide, Cell.ok, ht] at h

section
variable {H : Type} {enc : TypeId × Value → H} {W : World} {base b0 : Nat} {held : Bool} {v : Value} {d : DataW H} {p : List MemPlace}
set_option maxRecDepth 100000 in
theorem arg_parts (hok : Value.okWide Tryz.prog W .any b0 26 v) (h : DataW.Trod enc Tryz.prog W base (fun _ => true) held 26 v d p) : ∃ l, PartsV [] W.heap v l ∧ (l.map partSize).sum + 1 ≤ Rows.uptoBulk d ∧ l.length + 1 ≤ Rows.uptoBulk d := by
  obtain ⟨fuel, h⟩ := h
  obtain ⟨u, l, e, h1, h2, h3⟩ := open_parts h
  have hna : ∀ cs, v ≠ .agg cs := no_agg (t := 26) (e := 39) Tryz.underlying26 hok
  have hvu := one_cell e hna
  subst hvu
  exact ⟨l, h1, h2, h3⟩
set_option maxRecDepth 100000 in
theorem arg_heads (hok : Value.okWide Tryz.prog W .any b0 37 v) (h : DataW.Trod enc Tryz.prog W base (fun _ => true) held 37 v d p) : ∃ l, HeadsV [] W.heap v l ∧ (l.map hdrSize).sum + 1 ≤ Rows.uptoBulk d ∧ l.length + 1 ≤ Rows.uptoBulk d := by
  obtain ⟨fuel, h⟩ := h
  obtain ⟨u, l, e, h1, h2, h3⟩ := open_heads h
  have hna : ∀ cs, v ≠ .agg cs := no_agg (t := 37) (e := 90) Tryz.underlying37 hok
  have hvu := one_cell e hna
  subst hvu
  exact ⟨l, h1, h2, h3⟩
set_option maxRecDepth 100000 in
theorem arg_text (hok : Value.okWide Tryz.prog W .any b0 9 v) (h : DataW.Trod enc Tryz.prog W base (fun _ => true) held 9 v d p) : ∃ l, v = Cps.strVal l ∧ l.length + 1 ≤ Rows.uptoBulk d := by
  obtain ⟨fuel, h⟩ := h
  obtain ⟨l, e, h2⟩ := open_text h
  have hna : ∀ cs, v ≠ .agg cs := no_agg_str (t := 9) und9 hok
  have hvu := one_cell e hna
  subst hvu
  exact ⟨l, rfl, h2⟩
end

theorem bulk_iface {H : Type} {enc : TypeId × Value → H} {P : Program} {w : World} {base : Nat} {sp : Nat → Bool} {fuel : Nat} {t : TypeId} {ms : Array (String × TypeId)} {cs : List Value} {x : DataW H × List MemPlace} (ht : P.underlying t = some (.interface ms))
    (h : DataW.trod enc P w base sp true fuel t cs = some x) : Rows.uptoBulk x.1 = 1 := by
  cases fuel with
  | zero => simp [DataW.trod] at h
  | succ n =>
    unfold DataW.trod at h
    rw [ht] at h
    split at h <;> simp_all
    · rw [← h]; simp [Rows.uptoBulk]
    · rw [← h]; simp [Rows.uptoBulk]
theorem bulk_vars {H : Type} {enc : TypeId × Value → H} {w : World} {sp : Nat → Bool} {a b : String} {i j : Nat} {gs : List (DataW H)} {ps : List MemPlace} (ha : Tryz.prog.globalNamed a = some i) (hb : Tryz.prog.globalNamed b = some j)
    (hi : (Tryz.prog.globals[i]?).map (·.type) = some 60) (hj : (Tryz.prog.globals[j]?).map (·.type) = some 60) (h : DataW.TrodVars enc Tryz.prog w sp [a, b] gs ps) : Rows.uptoBulkAll gs = 2 := by
  obtain ⟨g1, g2, rfl⟩ := trodVars_two' h
  obtain ⟨ms, h60⟩ := und60
  obtain ⟨i', t', cs, fuel, p, q, e1, e2, _, h1, ⟨j', u', cs', fuel', p', q', e3, e4, _, h2, _⟩, _⟩ := h
  rw [ha] at e1
  cases e1
  rw [hi] at e2
  cases e2
  rw [hb] at e3
  cases e3
  rw [hj] at e4
  cases e4
  have b1 : Rows.uptoBulk g1 = 1 := bulk_iface h60 h1
  have b2 : Rows.uptoBulk g2 = 1 := bulk_iface h60 h2
  simp only [Rows.uptoBulkAll, b1, b2]
theorem gA : Tryz.prog.globalNamed "loop.example/pub-mailparts/pub/multipart.ErrMessageTooLarge" = some 7 := by kernel_rfl
theorem gB : Tryz.prog.globalNamed "loop.example/pub-mailparts/pub/textproto.errMessageTooLarge" = some 14 := by kernel_rfl
theorem tA : (Tryz.prog.globals[7]?).map (·.type) = some 60 := by kernel_rfl
theorem tB : (Tryz.prog.globals[14]?).map (·.type) = some 60 := by kernel_rfl

end Go.Proofs.YtfajmapajpfocaaGreatDoor
