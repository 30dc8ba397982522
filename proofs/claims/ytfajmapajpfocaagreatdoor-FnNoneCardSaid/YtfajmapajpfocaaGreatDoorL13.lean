/-
  bytes.Buffer that is only written: Write, WriteString, Bytes.
  Conditions: fewer than 2^40 bytes in all.
-/
import Derived.Test.YtfajmapajpfocaaGreatDoorL12
import Derived.Test.YtfajmapajpfocaaGreatDoorG3
import Derived.Test.YtfajmapajpfocaaGreatDoorG4
set_option linter.all false
namespace Go.Cps
open Go Go.Proofs

/-- sl is a slice over a row of its own that holds l -/
def Own (H : Heap) (b : Nat) (k : Option Nat) (sl : Value) (l : List UInt8) : Prop := match k with
  | none => sl = .slice none 0 0 ∧ l = []
  | some g => ∃ cells : Array Value, sl = .slice (some ⟨g, 0, none⟩) l.length cells.size ∧ H[g]? = some (.cells cells 5 (0, 0)) ∧ cells.toList.take l.length = l.map byteV ∧ l.length ≤ cells.size ∧ cells.size ≤ maxLen ∧ g ≠ b
/-- a Buffer, unread -/
def BufAt (b : Nat) (k : Option Nat) (l : List UInt8) (H : Heap) : Prop := ∃ sl lr, H[b]? = some (.cells #[sl, .int .i64 0, .int .i8 lr] 55 (0, 0)) ∧ Own H b k sl l

theorem Own.bytes {H : Heap} {b : Nat} {k : Option Nat} {sl : Value} {l : List UInt8} (h : Own H b k sl l) : IsBytes H sl l := by
  cases k with
  | none => exact .inr h
  | some g =>
    obtain ⟨cells, rfl, hg, ht, hle, _, _⟩ := h
    refine .inl ⟨g, 0, _, rfl, hle, fun j hj => ?_⟩
    rw [cellH_of hg, Nat.zero_add]
    have : (cells.toList.take l.length)[j]? = (l.map byteV)[j]? := by rw [ht]
    rw [List.getElem?_take, if_pos hj, List.getElem?_map] at this
    simpa using this
theorem Own.frm {H H' : Heap} {b : Nat} {k : Option Nat} {sl : Value} {l : List UInt8} {X : List Nat} (h : Own H b k sl l) (f : Frm X H H') (hk : ∀ g, k = some g → g ∉ X) : Own H' b k sl l := by
  cases k with
  | none => exact h
  | some g =>
    obtain ⟨cells, h1, hg, h2⟩ := h
    exact ⟨cells, h1, f.get hg (hk g rfl), h2⟩
theorem BufAt.frm {H H' : Heap} {b : Nat} {k : Option Nat} {l : List UInt8} {X : List Nat} (h : BufAt b k l H) (f : Frm X H H') (hb : b ∉ X) (hk : ∀ g, k = some g → g ∉ X) : BufAt b k l H' := by
  obtain ⟨sl, lr, h1, h2⟩ := h
  exact ⟨sl, lr, f.get h1 hb, h2.frm f hk⟩
theorem Own.shape {H : Heap} {b : Nat} {k : Option Nat} {sl : Value} {l : List UInt8} (h : Own H b k sl l) : ∃ base c, sl = .slice base l.length c ∧ l.length ≤ c ∧ c ≤ maxLen := by
  cases k with
  | none => obtain ⟨rfl, rfl⟩ := h; exact ⟨none, 0, rfl, Nat.le_refl _, by simp⟩
  | some g => obtain ⟨cells, rfl, hg, ht, hle, hm, _⟩ := h; exact ⟨_, _, rfl, hle, hm⟩

theorem tryGrow_ok {b m c n : Nat} {base : Option Addr} {o lr : Value} {H : Heap} (h : H[b]? = some (.cells #[.slice base m c, o, lr] 55 (0, 0))) (hm : m ≤ c) (hc : c ≤ maxLen) (hn : n < 2 ^ 40) (hmn : m < 2 ^ 40) :
    CallsH Tryz.prog 83 #[.pointer (some ⟨b, 0, none⟩), .int .i64 n] H fun x H' => (n ≤ c - m ∧ x = .tuple #[.int .i64 m, .bool true] ∧ H'[b]? = some (.cells #[.slice base (m + n) c, o, lr] 55 (0, 0)) ∧ Frm [b] H H' ∧ H'.size = H.size) ∨
      (c - m < n ∧ x = .tuple #[.int .i64 0, .bool false] ∧ H' = H) := by
  unfold maxLen at hc
  apply s83
  have e1 : IntKind.i64.wrap ((c : Int) - (m : Int)) = ((c - m : Nat) : Int) := by rw [wrap_i64 (by omega) (by omega)]; omega
  have e2 : IntKind.i64.wrap ((m : Int) + (n : Int)) = ((m + n : Nat) : Int) := by rw [wrap_i64 (by omega) (by omega)]; omega
  simp only [c83, Fld_ptr, add_mk, Nat.zero_add, List.getElem?_toArray, List.getElem?_cons_succ, List.getElem?_cons_zero, Get_some, Br_true, Br_false, nth_zero, nth_one, nth_two, extractV_tuple, fieldAddrV_ptr, nilV_ptr, load1V_ptr, pickV_bool, unV_not, lenV_slice, capV_slice, arithV_add, arithV_sub, arithV_eql, arithV_neq, arithV_lss, arithV_leq, arithV_gtr, arithV_geq, intConvV_int, cellH_of h, e1, e2]
  refine Br_intro (fun hd => ?_) (fun hd => ?_)
  · have hd' : n ≤ c - m := by simp at hd; omega
    rw [sliceV_hi (by omega), Get_some]
    refine Store_of h (by simp) rfl fun H1 hb1 f1 z1 => ?_
    simp only [List.setIfInBounds_toArray, List.set_cons_succ, List.set_cons_zero] at hb1
    exact .inl ⟨hd', trivial, hb1, f1, z1⟩
  · have hd' : c - m < n := by simp at hd; omega
    exact .inr ⟨hd', trivial, trivial⟩

/-- room for n bytes behind l -/
def Room (H : Heap) (b : Nat) (l : List UInt8) (n : Nat) (k : Option Nat) (sl : Value) : Prop := match k with
  | none => sl = .slice none 0 0 ∧ l = [] ∧ n = 0
  | some g => ∃ cells : Array Value, sl = .slice (some ⟨g, 0, none⟩) (l.length + n) cells.size ∧ H[g]? = some (.cells cells 5 (0, 0)) ∧ cells.toList.take l.length = l.map byteV ∧ l.length + n ≤ cells.size ∧ cells.size ≤ maxLen ∧ g ≠ b

theorem Own.room {H : Heap} {b n : Nat} {k : Option Nat} {base : Option Addr} {m c : Nat} {l : List UInt8} (h : Own H b k (.slice base m c) l) (hn : n ≤ c - m) : m = l.length ∧ Room H b l n k (.slice base (m + n) c) := by
  cases k with
  | none =>
    obtain ⟨h1, rfl⟩ := h
    cases h1
    have : n = 0 := by omega
    subst this
    exact ⟨rfl, rfl, rfl, rfl⟩
  | some g =>
    obtain ⟨cells, h1, hg, ht, hle, hm, hne⟩ := h
    cases h1
    exact ⟨rfl, cells, rfl, hg, ht, by omega, hm, hne⟩
theorem Room.frm {H H' : Heap} {b n : Nat} {k : Option Nat} {sl : Value} {l : List UInt8} {X : List Nat} (h : Room H b l n k sl) (f : Frm X H H') (hk : ∀ g, k = some g → g ∉ X) : Room H' b l n k sl := by
  cases k with
  | none => exact h
  | some g =>
    obtain ⟨cells, h1, hg, h2⟩ := h
    exact ⟨cells, h1, f.get hg (hk g rfl), h2⟩
theorem Own.ne {H : Heap} {b : Nat} {k : Option Nat} {sl : Value} {l : List UInt8} (h : Own H b k sl l) : ∀ g, k = some g → g ≠ b := by
  rintro g rfl
  obtain ⟨_, _, _, _, _, _, h⟩ := h
  exact h
theorem byteV_one (l : List UInt8) : ∀ v ∈ l.map byteV, v.oneCell' = true := by
  intro v hv
  obtain ⟨b, _, rfl⟩ := List.mem_map.1 hv
  rfl

theorem len_ok {b m c : Nat} {base : Option Addr} {lr : Value} {H : Heap} (h : H[b]? = some (.cells #[.slice base m c, .int .i64 0, lr] 55 (0, 0))) (hm : m < 2 ^ 40) :
    CallsH Tryz.prog 101 #[.pointer (some ⟨b, 0, none⟩)] H fun x H' => x = .int .i64 m ∧ H' = H := by
  apply s101
  have e : IntKind.i64.wrap ((m : Int) - 0) = m := by rw [wrap_i64 (by omega) (by omega)]; omega
  simp only [c101, Fld_ptr, add_mk, Nat.zero_add, List.getElem?_toArray, List.getElem?_cons_succ, List.getElem?_cons_zero, Get_some, Br_true, Br_false, nth_zero, nth_one, nth_two, extractV_tuple, fieldAddrV_ptr, nilV_ptr, load1V_ptr, pickV_bool, unV_not, lenV_slice, capV_slice, arithV_add, arithV_sub, arithV_eql, arithV_neq, arithV_lss, arithV_leq, arithV_gtr, arithV_geq, intConvV_int, cellH_of h, e, and_self]

theorem grow_ok {b n : Nat} {k : Option Nat} {l : List UInt8} {sl lr : Value} {H : Heap} (h : H[b]? = some (.cells #[sl, .int .i64 0, lr] 55 (0, 0))) (ho : Own H b k sl l) (hn : l.length + n < 2 ^ 40) (hbig : ∀ base m c, sl = .slice base m c → c - m < n) :
    CallsH Tryz.prog 84 #[.pointer (some ⟨b, 0, none⟩), .int .i64 n] H fun x H' => x = .int .i64 l.length ∧ ∃ g sl', H'[b]? = some (.cells #[sl', .int .i64 0, lr] 55 (0, 0)) ∧ Room H' b l n (some g) sl' ∧ Frm [b] H H' ∧ H.size ≤ g := by
  obtain ⟨base, c, rfl, hlc, hcm⟩ := ho.shape
  have hbg := hbig _ _ _ rfl
  have hcm' := hcm
  unfold maxLen at hcm'
  have hbs := lt_of_some h
  apply s84
  unfold c84
  refine (len_ok h (by omega)).mono ?_
  rintro x H1 ⟨rfl, rfl⟩
  refine Join_direct ?_
  refine ⟨fun vs H' => vs = [.bool false] ∧ H' = H1, ?_, ?_⟩
  · simp only [Fld_ptr, add_mk, Nat.zero_add, List.getElem?_toArray, List.getElem?_cons_succ, List.getElem?_cons_zero, Get_some, Br_true, Br_false, nth_zero, nth_one, nth_two, extractV_tuple, fieldAddrV_ptr, nilV_ptr, load1V_ptr, pickV_bool, unV_not, lenV_slice, capV_slice, arithV_add, arithV_sub, arithV_eql, arithV_neq, arithV_lss, arithV_leq, arithV_gtr, arithV_geq, intConvV_int, cellH_of h]
    refine Br_intro (fun h0 => ?_) (fun h0 => ?_) <;> simp
  · rintro _ H1 ⟨rfl, rfl⟩
    simp only [Fld_ptr, add_mk, Nat.zero_add, List.getElem?_toArray, List.getElem?_cons_succ, List.getElem?_cons_zero, Get_some, Br_true, Br_false, nth_zero, nth_one, nth_two, extractV_tuple, fieldAddrV_ptr, nilV_ptr, load1V_ptr, pickV_bool, unV_not, lenV_slice, capV_slice]
    refine (tryGrow_ok h hlc hcm (by omega) (by omega)).mono ?_
    rintro x H2 (⟨hh, _⟩ | ⟨_, rfl, rfl⟩)
    · omega
    simp only [Fld_ptr, add_mk, Nat.zero_add, List.getElem?_toArray, List.getElem?_cons_succ, List.getElem?_cons_zero, Get_some, Br_true, Br_false, nth_zero, nth_one, nth_two, extractV_tuple, fieldAddrV_ptr, nilV_ptr, load1V_ptr, pickV_bool, unV_not, lenV_slice, capV_slice]
    refine ⟨fun vs H' => H' = H2 ∧ vs = [.bool (base.isNone && decide ((n : Int) ≤ 64))], ?_, ?_⟩
    · simp only [Fld_ptr, add_mk, Nat.zero_add, List.getElem?_toArray, List.getElem?_cons_succ, List.getElem?_cons_zero, Get_some, Br_true, Br_false, nth_zero, nth_one, nth_two, extractV_tuple, fieldAddrV_ptr, nilV_ptr, load1V_ptr, pickV_bool, unV_not, lenV_slice, capV_slice, arithV_add, arithV_sub, arithV_eql, arithV_neq, arithV_lss, arithV_leq, arithV_gtr, arithV_geq, intConvV_int, cellH_of h, nilV2_eql_slice]
      refine Br_intro (fun h0 => ?_) (fun h0 => ?_) <;> simp [h0]
    · rintro _ H2 ⟨rfl, rfl⟩
      simp only [Fld_ptr, add_mk, Nat.zero_add, List.getElem?_toArray, List.getElem?_cons_succ, List.getElem?_cons_zero, Get_some, Br_true, Br_false, nth_zero, nth_one, nth_two, extractV_tuple, fieldAddrV_ptr, nilV_ptr, load1V_ptr, pickV_bool, unV_not, lenV_slice, capV_slice]
      refine Br_intro (fun hd => ?_) (fun hd => ?_)
      · -- a first small row
        simp only [Bool.and_eq_true, decide_eq_true_eq] at hd
        have hl0 : l = [] := by
          cases k with
          | none => exact ho.2
          | some g => obtain ⟨_, h1, _⟩ := ho; cases h1; simp at hd
        subst hl0
        refine ⟨.i64, .i64, n, 64, rfl, rfl, by omega, by omega, by omega, ?_⟩
        have e1 : (#[(.int .u8 0)] : Array Value).size = 1 := rfl
        rw [e1, zeros_eq 64]
        simp only [Fld_ptr, add_mk, Nat.zero_add, List.getElem?_toArray, List.getElem?_cons_succ, List.getElem?_cons_zero, Get_some, Br_true, Br_false, nth_zero, nth_one, nth_two, extractV_tuple, fieldAddrV_ptr, nilV_ptr, load1V_ptr, pickV_bool, unV_not, lenV_slice, capV_slice]
        rw [show (List.replicate 64 (0 : UInt8)) = zbuf 64 from rfl]
        generalize hH3 : H2.push (.cells ((zbuf 64).map byteV).toArray 5 (0, 0)) = H3
        have f3 : Frm [] H2 H3 := by rw [← hH3]; exact Frm.push _ _ _
        have hg3 : H3[H2.size]? = some (.cells ((zbuf 64).map byteV).toArray 5 (0, 0)) := by rw [← hH3]; exact push_same _ _
        refine Store_of (f3.get h (by simp)) (by simp) rfl fun H4 hb4 f4 z4 => ?_
        simp only [List.setIfInBounds_toArray, List.set_cons_succ, List.set_cons_zero] at hb4
        refine ⟨rfl, H2.size, _, hb4, ⟨_, ?_, f4.get hg3 (by simp; omega), rfl, by simp [zbuf_length]; omega, by simp [zbuf_length, maxLen], by omega⟩, (f3.mono (by simp)).trans f4, Nat.le_refl _⟩
        simp [zbuf_length]
      · simp only [Fld_ptr, add_mk, Nat.zero_add, List.getElem?_toArray, List.getElem?_cons_succ, List.getElem?_cons_zero, Get_some, Br_true, Br_false, nth_zero, nth_one, nth_two, extractV_tuple, fieldAddrV_ptr, nilV_ptr, load1V_ptr, pickV_bool, unV_not, lenV_slice, capV_slice, cellH_of h]
        refine ⟨fun _ H' => ∃ g cells, H'[b]? = some (.cells #[.slice (some ⟨g, 0, none⟩) l.length cells.size, .int .i64 0, lr] 55 (0, 0)) ∧ H'[g]? = some (.cells cells 5 (0, 0)) ∧ cells.toList.take l.length = l.map byteV ∧ l.length + n ≤ cells.size ∧ cells.size ≤ maxLen ∧ g ≠ b ∧ Frm [b] H2 H' ∧ H2.size ≤ g, ?_, ?_⟩
        · have q1 : arithV .quo .i64 (.int .i64 c) (.int .i64 2) = some (.int .i64 ((c / 2 : Nat) : Int)) := by
            simp only [arithV]
            rw [if_pos ⟨trivial, trivial⟩, if_neg (by decide)]
            have : ((c : Int).tdiv 2) = ((c / 2 : Nat) : Int) := by rw [Int.tdiv_eq_ediv_of_nonneg (by omega)]; omega
            rw [this, wrap_i64 (by omega) (by omega)]
          have e2 : IntKind.i64.wrap (((c / 2 : Nat) : Int) - (l.length : Int)) = ((c / 2 : Nat) : Int) - (l.length : Int) := wrap_i64 (by omega) (by omega)
          have d1 : decide ((n : Int) ≤ ((c / 2 : Nat) : Int) - (l.length : Int)) = false := by simp; omega
          have e3 : IntKind.i64.wrap (9223372036854775807 - (c : Int)) = 9223372036854775807 - (c : Int) := wrap_i64 (by omega) (by omega)
          have e4 : IntKind.i64.wrap (9223372036854775807 - (c : Int) - (n : Int)) = 9223372036854775807 - (c : Int) - (n : Int) := wrap_i64 (by omega) (by omega)
          have d2 : decide ((c : Int) > 9223372036854775807 - (c : Int) - (n : Int)) = false := by simp; omega
          have e5 : IntKind.i64.wrap (0 + (n : Int)) = (n : Int) := by rw [wrap_i64 (by omega) (by omega)]; omega
          have s1 : sliceV 1 (.slice base l.length c) (some (.int .i64 0)) none none = some (.slice base l.length c) := by
            have := sliceV_lo (a := base) (n := l.length) (c := c) (size := 1) (lo := 0) (Nat.zero_le _) .i64
            rw [show ((0 : Nat) : Int) = 0 from rfl] at this
            rw [this]
            cases base with
            | none => simp
            | some a => simp [Addr.add]
          simp only [Fld_ptr, add_mk, Nat.zero_add, List.getElem?_toArray, List.getElem?_cons_succ, List.getElem?_cons_zero, Get_some, Br_true, Br_false, nth_zero, nth_one, nth_two, extractV_tuple, fieldAddrV_ptr, nilV_ptr, load1V_ptr, pickV_bool, unV_not, lenV_slice, capV_slice, arithV_add, arithV_sub, arithV_eql, arithV_neq, arithV_lss, arithV_leq, arithV_gtr, arithV_geq, intConvV_int, q1, e2, d1, e3, e4, d2, e5, s1, cellH_of h]
          have hn1 : 1 ≤ n := by omega
          cases k with
          | none =>
            obtain ⟨h1, hl0⟩ := ho
            subst hl0
            cases h1
            refine (growNil_ok hn1 (by omega)).mono ?_
            rintro x H3 ⟨cap2, cells, rfl, hg3, hsz, hle, hmx, f3⟩
            refine Store_of (f3.get h (by simp)) (by simp) rfl fun H4 hb4 f4 z4 => ?_
            simp only [List.setIfInBounds_toArray, List.set_cons_succ, List.set_cons_zero] at hb4
            refine ⟨H2.size, cells, by rw [hb4, hsz]; rfl, f4.get hg3 (by simp; omega), rfl, by simp; omega, by omega, by omega, (f3.mono (by simp)).trans f4, Nat.le_refl _⟩
          | some g =>
            obtain ⟨cells, h1, hg, ht, hle, hm, hne⟩ := ho
            cases h1
            refine (growSlice_ok hg rfl hle hn1 (by omega) (by omega) (by rw [ht]; exact byteV_one l)).mono ?_
            rintro x H3 ⟨cap2, cells2, rfl, hg3, hsz, htk, hle2, hmx, f3⟩
            refine Store_of (f3.get h (by simp)) (by simp) rfl fun H4 hb4 f4 z4 => ?_
            simp only [List.setIfInBounds_toArray, List.set_cons_succ, List.set_cons_zero] at hb4
            refine ⟨H2.size, cells2, by rw [hb4, hsz], f4.get hg3 (by simp; omega), by rw [htk, ht], by omega, by omega, by omega, (f3.mono (by simp)).trans f4, Nat.le_refl _⟩
        · rintro _ H3 ⟨g, cells, hb3, hg3, ht, hle, hmx, hne, f3, hge⟩
          have e6 : IntKind.i64.wrap ((l.length : Int) + (n : Int)) = ((l.length + n : Nat) : Int) := by rw [wrap_i64 (by omega) (by omega)]; omega
          refine Store_of hb3 (by simp) rfl fun H4 hb4 f4 z4 => ?_
          simp only [List.setIfInBounds_toArray, List.set_cons_succ, List.set_cons_zero] at hb4
          simp only [Fld_ptr, add_mk, Nat.zero_add, List.getElem?_toArray, List.getElem?_cons_succ, List.getElem?_cons_zero, Get_some, Br_true, Br_false, nth_zero, nth_one, nth_two, extractV_tuple, fieldAddrV_ptr, nilV_ptr, load1V_ptr, pickV_bool, unV_not, lenV_slice, capV_slice, arithV_add, arithV_sub, arithV_eql, arithV_neq, arithV_lss, arithV_leq, arithV_gtr, arithV_geq, intConvV_int, cellH_of hb4, e6]
          rw [sliceV_hi (by omega), Get_some]
          refine Store_of hb4 (by simp) rfl fun H5 hb5 f5 z5 => ?_
          simp only [List.setIfInBounds_toArray, List.set_cons_succ, List.set_cons_zero] at hb5
          have f45 := f4.trans f5
          exact ⟨trivial, g, _, hb5, ⟨cells, rfl, f45.get hg3 (by simpa using hne), ht, hle, hmx, hne⟩, f3.trans f45, hge⟩
end Go.Cps
