/-
  A part of the proof (its texts: L29, L30, G8): each text says below what it proves.
  Conditions: each contract's own.
-/
import Derived.Test.YtfajmapajpfocaaGreatDoorE4
import Derived.Test.YtfajmapajpfocaaGreatDoorE15
set_option linter.all false
/-
  ReadByte, UnreadByte; skipSpace ahead of a byte that is no blank.
  Conditions: each contract's own.
-/
namespace Go.Cps
open Go Go.Proofs

/-- a byte of the buffer laid anew -/
theorem RdAt.setBuf {S : Stk} {s : St} {H : Heap} (h : RdAt S s H) {o : Nat} {c : UInt8} {K : Heap → Prop} (ho : o < 4096)
    (hk : ∀ H', RdAt S { s with buf := s.buf.set o c } H' → Frm [S.bf] H H' → H'.size = H.size → K H') : Get (store1V (.pointer (some ⟨S.bf, o, none⟩)) (byteV c) H) K := by
  obtain ⟨n1, n2, n3, n4, n5, n6⟩ := h.ne
  have hbl := h.blen
  refine Store_of h.hbf (by simp [hbl]; omega) rfl fun H1 hb1 f1 z1 => ?_
  have e : (s.buf.map byteV).toArray.setIfInBounds o (byteV c) = ((s.buf.set o c).map byteV).toArray := by
    rw [List.setIfInBounds_toArray, List.map_set]
  rw [e] at hb1
  have ff : Frm S.ids H H1 := f1.mono (by simp [Stk.ids])
  exact hk H1 { h with hb := f1.get h.hb (by simpa using n1), hbf := hb1, hst := f1.get h.hst (by simpa using n4.symm), hbr := f1.get h.hbr (by simpa using n5.symm), hv := h.hv.frm ff h.d2, hE := h.hE.frm ff h.d0, blen := by simp only [List.length_set]; exact h.blen } f1 z1

theorem readByte_ok {S : Stk} {s : St} {H : Heap} {c : UInt8} {q : List UInt8} (h : RdAt S s H) (hr : s.rest S = c :: q) :
    CallsH Tryz.prog 184 #[.pointer (some ⟨S.b, 0, none⟩)] H fun x H' => ∃ s', x = .tuple #[byteV c, .nilIface] ∧ RdAt S s' H' ∧ s'.rest S = q ∧ s'.lb = c.toNat ∧ 0 < s'.r ∧ s'.buf[s'.r - 1]? = some c ∧ Frm S.ids H H' ∧ H'.size = H.size := by
  apply s184
  simp only [c184, Fld_ptr, add_mk, Nat.zero_add, List.getElem?_toArray, List.getElem?_cons_succ, List.getElem?_cons_zero, Get_some, Br_true, Br_false, nth_zero, nth_one, nth_two, extractV_tuple, fieldAddrV_ptr, nilV_ptr, load1V_ptr, pickV_bool, unV_not, lenV_slice, capV_slice]
  refine h.store { s with lr := -1 } (by omega) rfl (by simp only [bufCells, List.setIfInBounds_toArray, List.set_cons_succ, List.set_cons_zero]) rfl rfl rfl rfl h.rw h.w4 h.he fun H1 h1 f1 z1 => ?_
  refine ⟨fun n vs H' => ∃ s1, vs = [] ∧ n = (if s1.r == s1.w then 1 else 0) ∧ RdAt S s1 H' ∧ s1.rest S = c :: q ∧ Frm S.ids H H' ∧ H'.size = H.size, ⟨_, _, rfl, rfl, h1, hr, f1, z1⟩, ?_⟩
  clear h1 f1 z1 h hr
  rintro n vs H1 ⟨s1, rfl, rfl, h1, hr, f1, z1⟩
  have hrw := h1.rw
  have hw4 := h1.w4
  have hrl := h1.rest_len
  have hbl := h1.bufd_len
  rw [hr] at hrl
  simp only [List.length_cons] at hrl
  have eb : (((s1.r : Nat) : Int) == ((s1.w : Nat) : Int)) = (s1.r == s1.w) := by
    rw [Bool.eq_iff_iff, beq_iff_eq, beq_iff_eq]; omega
  simp only [Fld_ptr, add_mk, Nat.zero_add, List.getElem?_toArray, List.getElem?_cons_succ, List.getElem?_cons_zero, Get_some, Br_true, Br_false, nth_zero, nth_one, nth_two, extractV_tuple, fieldAddrV_ptr, nilV_ptr, load1V_ptr, pickV_bool, unV_not, lenV_slice, capV_slice, arithV_add, arithV_sub, arithV_eql, arithV_neq, arithV_lss, arithV_leq, arithV_gtr, arithV_geq, intConvV_int, cellH_of h1.hb, bufCells, eb, neq_er]
  refine Br_intro (fun he => ?_) (fun he => ?_)
  · have he' : s1.r = s1.w := by simpa using he
    have herr : s1.err = false := by
      cases hh : s1.err with
      | false => rfl
      | true => have := h1.he hh; omega
    rw [herr, Br_false]
    refine (fill_ok h1 herr (by omega)).mono ?_
    rintro _ H2 ⟨s2, h2, hf, f2, z2⟩
    have hr0 := hf.r0
    refine ⟨_, ?_, s2, trivial, rfl, h2, hf.rest.trans hr, f1.trans f2, by omega⟩
    have : s2.r ≠ s2.w := by
      rcases hf.how with ⟨_, _, hh⟩ | ⟨hp, _, _⟩
      · omega
      · omega
    rw [he]
    simp [this]
  · have he' : s1.r ≠ s1.w := by simpa using he
    have hlt : s1.r < s1.buf.length := by rw [h1.blen]; omega
    have hc : s1.buf[s1.r] = c := by
      have h5 : s1.bufd[0]? = some c := by
        have : (s1.rest S)[0]? = some c := by rw [hr]; rfl
        rw [St.rest_eq, List.getElem?_append_left (by omega)] at this
        exact this
      rw [St.bufd, List.getElem?_drop, List.getElem?_take, if_pos (by omega), Nat.add_zero, List.getElem?_eq_getElem hlt] at h5
      exact Option.some.inj h5
    have hcell : cellH H1 ⟨S.bf, s1.r, none⟩ = some (byteV c) := by
      rw [cellH_of h1.hbf]
      simp [List.getElem?_eq_getElem hlt, hc]
    have hel : elemAddrV 1 (.slice (some ⟨S.bf, 0, none⟩) 4096 4096) (.int .i64 (s1.r : Nat)) = some (.pointer (some ⟨S.bf, s1.r, none⟩)) := by
      rw [elemAddr_of (by omega) (by omega)]
      simp
    have e1 : IntKind.i64.wrap ((s1.r : Int) + 1) = ((s1.r + 1 : Nat) : Int) := by rw [wrap_i64 (by omega) (by omega)]; omega
    have hcl := c.toNat_lt
    have e2 : IntKind.i64.wrap ((c.toNat : Nat) : Int) = ((c.toNat : Nat) : Int) := wrap_i64 (by omega) (by omega)
    simp only [hel, hcell, Fld_ptr, add_mk, Nat.zero_add, List.getElem?_toArray, List.getElem?_cons_succ, List.getElem?_cons_zero, Get_some, Br_true, Br_false, nth_zero, nth_one, nth_two, extractV_tuple, fieldAddrV_ptr, nilV_ptr, load1V_ptr, pickV_bool, unV_not, lenV_slice, capV_slice, e1]
    refine h1.store { s1 with r := s1.r + 1 } (by omega) rfl (by simp only [bufCells, List.setIfInBounds_toArray, List.set_cons_succ, List.set_cons_zero]) rfl rfl rfl rfl (by simp only []; omega) hw4 h1.he fun H2 h2 f2 z2 => ?_
    simp only [byteV, arithV_add, arithV_sub, arithV_eql, arithV_neq, arithV_lss, arithV_leq, arithV_gtr, arithV_geq, intConvV_int, Fld_ptr, add_mk, Nat.zero_add, List.getElem?_toArray, List.getElem?_cons_succ, List.getElem?_cons_zero, Get_some, Br_true, Br_false, nth_zero, nth_one, nth_two, extractV_tuple, fieldAddrV_ptr, nilV_ptr, load1V_ptr, pickV_bool, unV_not, lenV_slice, capV_slice, e2]
    refine h2.store { s1 with r := s1.r + 1, lb := ((c.toNat : Nat) : Int) } (by omega) rfl (by simp only [bufCells, List.setIfInBounds_toArray, List.set_cons_succ, List.set_cons_zero]) rfl rfl rfl rfl (by simp only []; omega) hw4 h1.he fun H3 h3 f3 z3 => ?_
    refine ⟨_, trivial, h3, ?_, rfl, by simp, ?_, (f1.trans f2).trans f3, by omega⟩
    · rw [St.rest_eq] at hr
      have h6 : s1.bufd = c :: s1.bufd.drop 1 := by
        have h7 : s1.bufd[0]? = some c := by
          have : (s1.rest S)[0]? = some c := by rw [St.rest_eq, hr]; rfl
          rw [St.rest_eq, List.getElem?_append_left (by omega)] at this
          exact this
        cases hb : s1.bufd with
        | nil => rw [hb] at h7; cases h7
        | cons a r => rw [hb] at h7; cases h7; rfl
      rw [h6, List.cons_append] at hr
      have h8 := List.tail_eq_of_cons_eq hr
      rw [St.rest]
      simp only []
      rw [← h8, St.bufd, List.drop_drop]
    · simp only [Nat.add_sub_cancel]
      rw [List.getElem?_eq_getElem hlt, hc]

theorem unreadByte_ok {S : Stk} {s : St} {H : Heap} {c : UInt8} (h : RdAt S s H) (hlb : s.lb = c.toNat) (hr0 : 0 < s.r) (hc : s.buf[s.r - 1]? = some c) :
    CallsH Tryz.prog 185 #[.pointer (some ⟨S.b, 0, none⟩)] H fun x H' => ∃ s', x = .nilIface ∧ RdAt S s' H' ∧ s'.rest S = c :: s.rest S ∧ Frm S.ids H H' ∧ H'.size = H.size := by
  have hrw := h.rw
  have hw4 := h.w4
  have hcl := c.toNat_lt
  apply s185
  unfold c185
  refine ⟨fun vs H' => vs = [.bool false] ∧ H' = H, ?_, ?_⟩
  · have d1 : decide (s.lb < 0) = false := by simp; omega
    have d2 : (((s.r : Nat) : Int) == 0) = false := by rw [beq_eq_false_iff_ne]; omega
    simp only [Fld_ptr, add_mk, Nat.zero_add, List.getElem?_toArray, List.getElem?_cons_succ, List.getElem?_cons_zero, Get_some, Br_true, Br_false, nth_zero, nth_one, nth_two, extractV_tuple, fieldAddrV_ptr, nilV_ptr, load1V_ptr, pickV_bool, unV_not, lenV_slice, capV_slice, arithV_add, arithV_sub, arithV_eql, arithV_neq, arithV_lss, arithV_leq, arithV_gtr, arithV_geq, intConvV_int, cellH_of h.hb, bufCells, d1, d2, Bool.false_eq_true, if_false, and_self]
  · rintro _ H ⟨rfl, rfl⟩
    simp only [Fld_ptr, add_mk, Nat.zero_add, List.getElem?_toArray, List.getElem?_cons_succ, List.getElem?_cons_zero, Get_some, Br_true, Br_false, nth_zero, nth_one, nth_two, extractV_tuple, fieldAddrV_ptr, nilV_ptr, load1V_ptr, pickV_bool, unV_not, lenV_slice, capV_slice]
    have d3 : decide (((s.r : Nat) : Int) > 0) = true := by simp; omega
    have e1 : IntKind.i64.wrap ((s.r : Int) - 1) = ((s.r - 1 : Nat) : Int) := by rw [wrap_i64 (by omega) (by omega)]; omega
    refine Join_direct ?_
    simp only [Fld_ptr, add_mk, Nat.zero_add, List.getElem?_toArray, List.getElem?_cons_succ, List.getElem?_cons_zero, Get_some, Br_true, Br_false, nth_zero, nth_one, nth_two, extractV_tuple, fieldAddrV_ptr, nilV_ptr, load1V_ptr, pickV_bool, unV_not, lenV_slice, capV_slice, arithV_add, arithV_sub, arithV_eql, arithV_neq, arithV_lss, arithV_leq, arithV_gtr, arithV_geq, intConvV_int, cellH_of h.hb, bufCells, d3, e1]
    refine h.store { s with r := s.r - 1 } (by omega) rfl (by simp only [bufCells, List.setIfInBounds_toArray, List.set_cons_succ, List.set_cons_zero]) rfl rfl rfl rfl (by simp only []; omega) hw4 h.he fun H1 h1 f1 z1 => ?_
    have hel : elemAddrV 1 (.slice (some ⟨S.bf, 0, none⟩) 4096 4096) (.int .i64 ((s.r - 1 : Nat) : Int)) = some (.pointer (some ⟨S.bf, s.r - 1, none⟩)) := by
      rw [elemAddr_of (by omega) (by omega)]
      simp
    have e2 : IntKind.u8.wrap s.lb = ((c.toNat : Nat) : Int) := by rw [hlb]; exact wrap_u8 (by omega) (by omega)
    simp only [Fld_ptr, add_mk, Nat.zero_add, List.getElem?_toArray, List.getElem?_cons_succ, List.getElem?_cons_zero, Get_some, Br_true, Br_false, nth_zero, nth_one, nth_two, extractV_tuple, fieldAddrV_ptr, nilV_ptr, load1V_ptr, pickV_bool, unV_not, lenV_slice, capV_slice, arithV_add, arithV_sub, arithV_eql, arithV_neq, arithV_lss, arithV_leq, arithV_gtr, arithV_geq, intConvV_int, cellH_of h1.hb, bufCells, hel, e2]
    refine h1.setBuf (c := c) (by omega) fun H2 h2 f2 z2 => ?_
    have hset : s.buf.set (s.r - 1) c = s.buf := by
      apply List.ext_getElem?
      intro i
      rw [List.getElem?_set]
      split
      · rename_i hi
        split
        · rw [← hi, hc]
        · rename_i h9; rw [List.getElem?_eq_none (by omega)]
      · rfl
    simp only [hset] at h2
    refine h2.store { s with r := s.r - 1, lb := -1 } (by omega) rfl (by simp only [bufCells, List.setIfInBounds_toArray, List.set_cons_succ, List.set_cons_zero]) rfl rfl rfl rfl (by simp only []; omega) hw4 h.he fun H3 h3 f3 z3 => ?_
    refine h3.store { s with r := s.r - 1, lb := -1, lr := -1 } (by omega) rfl (by simp only [bufCells, List.setIfInBounds_toArray, List.set_cons_succ, List.set_cons_zero]) rfl rfl rfl rfl (by simp only []; omega) hw4 h.he fun H4 h4 f4 z4 => ?_
    refine ⟨_, trivial, h4, ?_, ((f1.trans (f2.mono (by simp [Stk.ids]))).trans f3).trans f4, by omega⟩
    show (s.buf.take s.w).drop (s.r - 1) ++ S.l.drop s.pos = c :: ((s.buf.take s.w).drop s.r ++ S.l.drop s.pos)
    have hlt : s.r - 1 < (s.buf.take s.w).length := by rw [List.length_take, h.blen]; omega
    have hx : (s.buf.take s.w)[s.r - 1] = c := by
      rw [List.getElem_take]
      have h7 : s.buf[s.r - 1]? = some (s.buf[s.r - 1]'(by rw [h.blen]; omega)) := List.getElem?_eq_getElem (by rw [h.blen]; omega)
      rw [h7] at hc
      exact Option.some.inj hc
    rw [List.drop_eq_getElem_cons hlt, show s.r - 1 + 1 = s.r by omega, List.cons_append, hx]

theorem skipSpace_ok {S : Stk} {s : St} {H : Heap} {tr : Nat} {tbuf : Value} {c : UInt8} {q : List UInt8} (ht : TR S tr tbuf H) (htr : tr ∉ S.ids) (h : RdAt S s H) (hr : s.rest S = c :: q) (hc : lws c = false) :
    CallsH Tryz.prog 177 #[.pointer (some ⟨tr, 0, none⟩)] H fun x H' => ∃ s', x = .int .i64 0 ∧ RdAt S s' H' ∧ s'.rest S = c :: q ∧ Frm S.ids H H' ∧ H'.size = H.size := by
  apply s177
  unfold c177
  refine Join_direct ?_
  refine ⟨fun n vs H' => vs = [.int .i64 0] ∧ H' = H, ⟨0, rfl, rfl⟩, ?_⟩
  rintro n vs H ⟨rfl, rfl⟩
  simp only [Fld_ptr, add_mk, Nat.zero_add, List.getElem?_toArray, List.getElem?_cons_succ, List.getElem?_cons_zero, Get_some, Br_true, Br_false, nth_zero, nth_one, nth_two, extractV_tuple, fieldAddrV_ptr, nilV_ptr, load1V_ptr, pickV_bool, unV_not, lenV_slice, capV_slice, cellH_of ht]
  refine (readByte_ok h hr).mono ?_
  rintro x H1 ⟨s1, rfl, h1, hr1, hlb, hr0, hcb, f1, z1⟩
  have ht1 := f1.get ht htr
  simp only [Fld_ptr, add_mk, Nat.zero_add, List.getElem?_toArray, List.getElem?_cons_succ, List.getElem?_cons_zero, Get_some, Br_true, Br_false, nth_zero, nth_one, nth_two, extractV_tuple, fieldAddrV_ptr, nilV_ptr, load1V_ptr, pickV_bool, unV_not, lenV_slice, capV_slice, nilV2_neq_nil]
  have b32 : ((c.toNat : Int) != 32) = (c != 32) := by
    have := byte_beq c 32
    rw [show (((32 : UInt8).toNat : Nat) : Int) = 32 from rfl] at this
    rw [bne, bne, this]
  have b9 : ((c.toNat : Int) != 9) = (c != 9) := by
    have := byte_beq c 9
    rw [show (((9 : UInt8).toNat : Nat) : Int) = 9 from rfl] at this
    rw [bne, bne, this]
  have h32 : (c != 32) = true := by simp [lws] at hc; simp [hc]
  have h9 : (c != 9) = true := by simp [lws] at hc; simp [hc]
  refine Join_direct ?_
  simp only [byteV, arithV_add, arithV_sub, arithV_eql, arithV_neq, arithV_lss, arithV_leq, arithV_gtr, arithV_geq, intConvV_int, Fld_ptr, add_mk, Nat.zero_add, List.getElem?_toArray, List.getElem?_cons_succ, List.getElem?_cons_zero, Get_some, Br_true, Br_false, nth_zero, nth_one, nth_two, extractV_tuple, fieldAddrV_ptr, nilV_ptr, load1V_ptr, pickV_bool, unV_not, lenV_slice, capV_slice, b32, b9, h32, h9, if_true, cellH_of ht1]
  refine (unreadByte_ok h1 hlb hr0 hcb).mono ?_
  rintro x H2 ⟨s2, rfl, h2, hr2, f2, z2⟩
  exact ⟨s2, trivial, h2, by rw [hr2, hr1], f1.trans f2, by omega⟩
end Go.Cps

/-
  canonicalMIMEHeaderKey of a token: it turns the bytes in place.
  Conditions: the bytes lie in a row that may be written.
-/
namespace Go.Cps
open Go Go.Proofs

def canon1 (up : Bool) (c : UInt8) : UInt8 := if up && (97 ≤ c && c ≤ 122) then c - 32 else if !up && (65 ≤ c && c ≤ 90) then c + 32 else c
def canonG : Bool → List UInt8 → List UInt8
  | _, [] => []
  | up, c :: r => canon1 up c :: canonG (canon1 up c == 45) r
theorem canonG_length : ∀ (up : Bool) (l : List UInt8), (canonG up l).length = l.length
  | _, [] => rfl
  | up, c :: r => by simp [canonG, canonG_length _ r]

theorem putAt_append (cs : Array Value) (o : Nat) (a b : List Value) : putAt (putAt cs o a) (o + a.length) b = putAt cs o (a ++ b) := by
  induction a generalizing cs o with
  | nil => simp [putAt]
  | cons v r ih =>
    simp only [putAt, List.length_cons, List.cons_append]
    rw [show o + (r.length + 1) = (o + 1) + r.length by omega, ih]

/-- the byte of one step, as the program reckons it -/
def canonI (up : Bool) (n : Int) : Int := if up && (decide (97 ≤ n) && decide (n ≤ 122)) then n - 32 else if !up && (decide (65 ≤ n) && decide (n ≤ 90)) then n + 32 else n
theorem canon1_table : ([true, false].all fun up => (List.range 256).all fun n => canonI up n == ((canon1 up (UInt8.ofNat n)).toNat : Int)) = true := by kernel_rfl
theorem canon1_eq (up : Bool) (c : UInt8) : canonI up c.toNat = (canon1 up c).toNat := by
  have h := List.all_eq_true.1 canon1_table up (by cases up <;> simp)
  have h2 := List.all_eq_true.1 h c.toNat (List.mem_range.2 c.toNat_lt)
  rw [beq_iff_eq] at h2
  rw [h2]
  simp

theorem canonKey_ok {g o c : Nat} {cs : Array Value} {t : TypeId} {key : List UInt8} {H : Heap} (hg : H[g]? = some (.cells cs t (0, 0))) (hk : ∀ j, j < key.length → cs[o + j]? = (key[j]?).map byteV) (hle : o + key.length ≤ cs.size) (hc : key.length ≤ c) (h0 : key ≠ []) (htok : ∀ b ∈ key, tok b.toNat = true) (hl : key.length < 2 ^ 30) :
    CallsH Tryz.prog 120 #[.slice (some ⟨g, o, none⟩) key.length c] H fun x H' => x = .tuple #[strVal (canonG true key), .bool true] ∧ H'[g]? = some (.cells (putAt cs o ((canonG true key).map byteV)) t (0, 0)) ∧ Frm [g] H H' ∧ H'.size = H.size := by
  have hpos : 0 < key.length := List.length_pos_iff.2 h0
  have hne : (((key.length : Nat) : Int) == 0) = false := by rw [beq_eq_false_iff_ne]; omega
  have dd : ∀ a b : Nat, decide ((a : Int) < (b : Int)) = decide (a < b) := fun a b => by simp
  apply s120
  simp only [c120, Fld_ptr, add_mk, Nat.zero_add, List.getElem?_toArray, List.getElem?_cons_succ, List.getElem?_cons_zero, Get_some, Br_true, Br_false, nth_zero, nth_one, nth_two, extractV_tuple, fieldAddrV_ptr, nilV_ptr, load1V_ptr, pickV_bool, unV_not, lenV_slice, capV_slice, arithV_add, arithV_sub, arithV_eql, arithV_neq, arithV_lss, arithV_leq, arithV_gtr, arithV_geq, intConvV_int, hne]
  refine ⟨fun n vs H' => ∃ i : Nat, vs = [.bool false, .int .i64 i] ∧ n = key.length - i ∧ i ≤ key.length ∧ H' = H, ⟨_, 0, rfl, rfl, Nat.zero_le _, rfl⟩, ?_⟩
  rintro n vs H ⟨i, rfl, rfl, hi, rfl⟩
  simp only [Fld_ptr, add_mk, Nat.zero_add, List.getElem?_toArray, List.getElem?_cons_succ, List.getElem?_cons_zero, Get_some, Br_true, Br_false, nth_zero, nth_one, nth_two, extractV_tuple, fieldAddrV_ptr, nilV_ptr, load1V_ptr, pickV_bool, unV_not, lenV_slice, capV_slice, arithV_add, arithV_sub, arithV_eql, arithV_neq, arithV_lss, arithV_leq, arithV_gtr, arithV_geq, intConvV_int, dd]
  refine Br_intro (fun hlt => ?_) (fun hlt => ?_)
  · have hlt' : i < key.length := by simpa using hlt
    have hcell : cellH H ⟨g, o + i, none⟩ = some (byteV key[i]) := by
      rw [cellH_of hg, hk i hlt', List.getElem?_eq_getElem hlt']; rfl
    have e1 : IntKind.i64.wrap ((i : Int) + 1) = ((i + 1 : Nat) : Int) := by rw [wrap_i64 (by omega) (by omega)]; omega
    refine ⟨fun vs H' => vs = [.bool false] ∧ H' = H, ?_, ?_⟩
    · rw [elemAddr_of (by omega) (by omega)]
      simp only [Fld_ptr, add_mk, Nat.zero_add, List.getElem?_toArray, List.getElem?_cons_succ, List.getElem?_cons_zero, Get_some, Br_true, Br_false, nth_zero, nth_one, nth_two, extractV_tuple, fieldAddrV_ptr, nilV_ptr, load1V_ptr, pickV_bool, unV_not, lenV_slice, capV_slice, Int.toNat_natCast, Nat.mul_one, hcell]
      refine fieldByte_ok.mono ?_
      rintro x H' ⟨rfl, rfl⟩
      rw [htok _ (List.getElem_mem hlt'), Br_true]
      exact ⟨trivial, rfl⟩
    · rintro _ H ⟨rfl, rfl⟩
      simp only [Fld_ptr, add_mk, Nat.zero_add, List.getElem?_toArray, List.getElem?_cons_succ, List.getElem?_cons_zero, Get_some, Br_true, Br_false, nth_zero, nth_one, nth_two, extractV_tuple, fieldAddrV_ptr, nilV_ptr, load1V_ptr, pickV_bool, unV_not, lenV_slice, capV_slice, e1]
      exact ⟨_, by omega, i + 1, rfl, rfl, hlt', trivial⟩
  · refine ⟨fun n vs H' => ∃ (i : Nat) (up : Bool) (d r : List UInt8), vs = [.bool up, .int .i64 i] ∧ n = key.length - i ∧ i ≤ key.length ∧ canonG true key = d ++ canonG up r ∧ d.length = i ∧ r = key.drop i ∧
        H'[g]? = some (.cells (putAt cs o (d.map byteV)) t (0, 0)) ∧ Frm [g] H H' ∧ H'.size = H.size,
      ⟨_, 0, true, [], key, rfl, rfl, Nat.zero_le _, rfl, rfl, rfl, hg, Frm.refl _ _, rfl⟩, ?_⟩
    rintro n vs H1 ⟨i, up, d, r, rfl, rfl, hi, hcan, hd, hr, hg1, f1, z1⟩
    simp only [Fld_ptr, add_mk, Nat.zero_add, List.getElem?_toArray, List.getElem?_cons_succ, List.getElem?_cons_zero, Get_some, Br_true, Br_false, nth_zero, nth_one, nth_two, extractV_tuple, fieldAddrV_ptr, nilV_ptr, load1V_ptr, pickV_bool, unV_not, lenV_slice, capV_slice, arithV_add, arithV_sub, arithV_eql, arithV_neq, arithV_lss, arithV_leq, arithV_gtr, arithV_geq, intConvV_int, dd]
    refine Br_intro (fun hlt => ?_) (fun hlt => ?_)
    · have hlt' : i < key.length := by simpa using hlt
      have hr2 : r = key[i] :: key.drop (i + 1) := by rw [hr]; exact List.drop_eq_getElem_cons hlt'
      generalize hb : key[i] = b at *
      have hcell : cellH H1 ⟨g, o + i, none⟩ = some (byteV b) := by
        rw [cellH_of hg1, putAt_get _ _ _ _ (by simp; omega), if_neg (by simp; omega), hk i hlt', List.getElem?_eq_getElem hlt', hb]; rfl
      have e1 : IntKind.i64.wrap ((i : Int) + 1) = ((i + 1 : Nat) : Int) := by rw [wrap_i64 (by omega) (by omega)]; omega
      have hblt := b.toNat_lt
      rw [elemAddr_of (by omega) (by omega)]
      simp only [Fld_ptr, add_mk, Nat.zero_add, List.getElem?_toArray, List.getElem?_cons_succ, List.getElem?_cons_zero, Get_some, Br_true, Br_false, nth_zero, nth_one, nth_two, extractV_tuple, fieldAddrV_ptr, nilV_ptr, load1V_ptr, pickV_bool, unV_not, lenV_slice, capV_slice, Int.toNat_natCast, Nat.mul_one, hcell, byteV]
      have hci := canon1_eq up b
      generalize hn : ((b.toNat : Nat) : Int) = m at *
      refine ⟨fun vs H' => vs = [.int .u8 (canonI up m)] ∧ H' = H1, ?_, ?_⟩
      · refine ⟨fun vs H' => vs = [.bool (up && (decide (97 ≤ m) && decide (m ≤ 122)))] ∧ H' = H1, ?_, ?_⟩
        · cases up <;> simp only [Fld_ptr, add_mk, Nat.zero_add, List.getElem?_toArray, List.getElem?_cons_succ, List.getElem?_cons_zero, Get_some, Br_true, Br_false, nth_zero, nth_one, nth_two, extractV_tuple, fieldAddrV_ptr, nilV_ptr, load1V_ptr, pickV_bool, unV_not, lenV_slice, capV_slice, arithV_add, arithV_sub, arithV_eql, arithV_neq, arithV_lss, arithV_leq, arithV_gtr, arithV_geq, intConvV_int, Bool.false_eq_true, if_false, if_true]
          · simp
          · refine Br_intro (fun h1 => ?_) (fun h1 => ?_) <;> simp [h1]
        · rintro _ H1 ⟨rfl, rfl⟩
          simp only [Fld_ptr, add_mk, Nat.zero_add, List.getElem?_toArray, List.getElem?_cons_succ, List.getElem?_cons_zero, Get_some, Br_true, Br_false, nth_zero, nth_one, nth_two, extractV_tuple, fieldAddrV_ptr, nilV_ptr, load1V_ptr, pickV_bool, unV_not, lenV_slice, capV_slice]
          refine Br_intro (fun h1 => ?_) (fun h1 => ?_)
          · have h1' : 97 ≤ m ∧ m ≤ 122 := by simp at h1; omega
            have e3 : IntKind.u8.wrap (m - 32) = m - 32 := wrap_u8 (by omega) (by omega)
            simp only [arithV_add, arithV_sub, arithV_eql, arithV_neq, arithV_lss, arithV_leq, arithV_gtr, arithV_geq, intConvV_int, Fld_ptr, add_mk, Nat.zero_add, List.getElem?_toArray, List.getElem?_cons_succ, List.getElem?_cons_zero, Get_some, Br_true, Br_false, nth_zero, nth_one, nth_two, extractV_tuple, fieldAddrV_ptr, nilV_ptr, load1V_ptr, pickV_bool, unV_not, lenV_slice, capV_slice, e3, canonI, h1, if_true, and_self]
          · refine ⟨fun vs H' => vs = [.bool (!up && (decide (65 ≤ m) && decide (m ≤ 90)))] ∧ H' = H1, ?_, ?_⟩
            · cases up <;> simp only [Fld_ptr, add_mk, Nat.zero_add, List.getElem?_toArray, List.getElem?_cons_succ, List.getElem?_cons_zero, Get_some, Br_true, Br_false, nth_zero, nth_one, nth_two, extractV_tuple, fieldAddrV_ptr, nilV_ptr, load1V_ptr, pickV_bool, unV_not, lenV_slice, capV_slice, arithV_add, arithV_sub, arithV_eql, arithV_neq, arithV_lss, arithV_leq, arithV_gtr, arithV_geq, intConvV_int, Bool.false_eq_true, if_false, if_true, Bool.not_true, Bool.not_false]
              · refine Br_intro (fun h1 => ?_) (fun h1 => ?_) <;> simp [h1]
              · simp
            · rintro _ H1 ⟨rfl, rfl⟩
              simp only [Fld_ptr, add_mk, Nat.zero_add, List.getElem?_toArray, List.getElem?_cons_succ, List.getElem?_cons_zero, Get_some, Br_true, Br_false, nth_zero, nth_one, nth_two, extractV_tuple, fieldAddrV_ptr, nilV_ptr, load1V_ptr, pickV_bool, unV_not, lenV_slice, capV_slice]
              refine Br_intro (fun h2 => ?_) (fun h2 => ?_)
              · have h2' : 65 ≤ m ∧ m ≤ 90 := by simp at h2; omega
                have e3 : IntKind.u8.wrap (m + 32) = m + 32 := wrap_u8 (by omega) (by omega)
                simp only [arithV_add, arithV_sub, arithV_eql, arithV_neq, arithV_lss, arithV_leq, arithV_gtr, arithV_geq, intConvV_int, Fld_ptr, add_mk, Nat.zero_add, List.getElem?_toArray, List.getElem?_cons_succ, List.getElem?_cons_zero, Get_some, Br_true, Br_false, nth_zero, nth_one, nth_two, extractV_tuple, fieldAddrV_ptr, nilV_ptr, load1V_ptr, pickV_bool, unV_not, lenV_slice, capV_slice, e3, canonI, h1, h2, if_true, Bool.false_eq_true, if_false, and_self]
              · simp only [Fld_ptr, add_mk, Nat.zero_add, List.getElem?_toArray, List.getElem?_cons_succ, List.getElem?_cons_zero, Get_some, Br_true, Br_false, nth_zero, nth_one, nth_two, extractV_tuple, fieldAddrV_ptr, nilV_ptr, load1V_ptr, pickV_bool, unV_not, lenV_slice, capV_slice, canonI, h1, h2, Bool.false_eq_true, if_false, and_self]
      · rintro _ H1 ⟨rfl, rfl⟩
        simp only [Fld_ptr, add_mk, Nat.zero_add, List.getElem?_toArray, List.getElem?_cons_succ, List.getElem?_cons_zero, Get_some, Br_true, Br_false, nth_zero, nth_one, nth_two, extractV_tuple, fieldAddrV_ptr, nilV_ptr, load1V_ptr, pickV_bool, unV_not, lenV_slice, capV_slice]
        rw [hci]
        refine Store_of hg1 (by simp; omega) rfl fun H2 hg2 f2 z2 => ?_
        have b45 : (((canon1 up b).toNat : Int) == 45) = (canon1 up b == 45) := byte_beq _ 45
        simp only [arithV_add, arithV_sub, arithV_eql, arithV_neq, arithV_lss, arithV_leq, arithV_gtr, arithV_geq, intConvV_int, Fld_ptr, add_mk, Nat.zero_add, List.getElem?_toArray, List.getElem?_cons_succ, List.getElem?_cons_zero, Get_some, Br_true, Br_false, nth_zero, nth_one, nth_two, extractV_tuple, fieldAddrV_ptr, nilV_ptr, load1V_ptr, pickV_bool, unV_not, lenV_slice, capV_slice, b45, e1]
        refine ⟨_, by omega, i + 1, canon1 up b == 45, d ++ [canon1 up b], key.drop (i + 1), rfl, rfl, hlt', ?_, by simp [hd], rfl, ?_, f1.trans f2, by omega⟩
        · rw [hcan, hr2, canonG]; simp
        · rw [hg2]
          have : (putAt cs o (d.map byteV)).setIfInBounds (o + i) (.int .u8 (canon1 up b).toNat) = putAt cs o ((d ++ [canon1 up b]).map byteV) := by
            rw [List.map_append, ← putAt_append]
            simp only [List.map_cons, List.map_nil, putAt, List.length_map, hd]
            rfl
          rw [this]
    · have hik : i = key.length := by
        simp only [decide_eq_false_iff_not] at hlt
        omega
      have hrn : r = [] := by rw [hr, hik, List.drop_length]
      rw [hrn] at hcan
      simp only [canonG, List.append_nil] at hcan
      have hx : IsBytes H1 (.slice (some ⟨g, o, none⟩) key.length c) (canonG true key) := by
        have hcl := canonG_length true key
        refine .inl ⟨g, o, c, by rw [hcl], by rw [hcl]; exact hc, fun j hj => ?_⟩
        rw [hcl] at hj
        rw [cellH_of hg1, putAt_get _ _ _ _ (by simp; omega), if_pos ⟨by omega, by simp; omega⟩, ← hcan]
        simp
      simp only [hx.str, Get_some]
      exact ⟨rfl, by rw [hcan]; exact hg1, f1, z1⟩
end Go.Cps

/-
  What the bodies of some functions of the program come to, at heap level, each proved of the program itself.
  Conditions: none. Written by gen.py.
-/
namespace Go.Cps
open Go Go.Proofs
set_option maxRecDepth 100000

/-- bytes.makeASCIISet -/
def c180 (a0 : Value) (H : Heap) (R : Value → Heap → Prop) : Prop :=
  New (.cells (Array.replicate 256 (.bool false)) 269 (0, 0)) H fun x2 H =>
  Loop [(.int .i64 0)] H fun K1 vs2 H =>
  Get (lenStrV a0) fun x8 =>
  Get (arithV .lss .i64 (nth vs2 0) x8) fun x9 =>
  Br x9 (
  Get (strIndexV a0 (nth vs2 0)) fun x14 =>
  Get (arithV .geq .u8 x14 (.int .u8 128)) fun x16 =>
  Br x16 (
  Get (loadNV 256 x2 H) fun x17 =>
  Get (storeNV 256 x2 x17 H) fun H =>
  Get (loadNV 256 x2 H) fun r2 =>
  R (.tuple #[r2, (.bool false)]) H) (
  Get (arrAddrV 256 1 x2 x14) fun x19 =>
  Get (store1V x19 (.bool true) H) fun H =>
  Get (arithV .add .i64 (nth vs2 0) (.int .i64 1)) fun x11 =>
  K1 [x11] H)) (
  Get (loadNV 256 x2 H) fun x20 =>
  Get (storeNV 256 x2 x20 H) fun H =>
  Get (loadNV 256 x2 H) fun r2 =>
  R (.tuple #[r2, (.bool true)]) H)
def p180 : Plan := .seq (.leaf []) (.seq (.seq (.leaf []) (.block (.loop [4] (.seq (.seq (.leaf []) (.cond (.leaf []) (.leaf []))) (.seq (.block (.seq (.leaf []) (.seq (.seq (.leaf []) (.cond (.seq (.leaf []) (.leaf [])) (.leaf []))) (.leaf [])))) (.leaf [])))))) (.seq (.leaf []) (.leaf [])))
theorem s180 {a0 : Value} {H : Heap} {R : Value → Heap → Prop} (h : c180 a0 H R) : CallsH Tryz.prog 180 #[a0] H R :=
  callsH_of_eq p180 (fn := Tryz.f180) (c := Tryz.f180.body.getD .skip) (args := [a0]) Tryz.func180 (by kernel_rfl) mixed (by kernel_rfl) (by kernel_rfl) (by kernel_rfl) h

/-- bytes.trimLeftASCII -/
def c181 (a0 a1 : Value) (H : Heap) (R : Value → Heap → Prop) : Prop :=
  Join (fun K1 =>
  Loop [a0] H fun K2 vs3 H =>
  Get (lenV (nth vs3 0)) fun x6 =>
  Get (arithV .gtr .i64 x6 (.int .i64 0)) fun x7 =>
  Br x7 (
  Get (elemAddrV 1 (nth vs3 0) (.int .i64 0)) fun x10 =>
  Get (load1V x10 H) fun x11 =>
  CallsH Tryz.prog 186 #[a1, x11] H fun x12 H =>
  Get (unV .not x12) fun x13 =>
  Br x13 (
  K1 [(nth vs3 0)] H) (
  Get (sliceV 1 (nth vs3 0) (some (.int .i64 1)) none none) fun x15 =>
  K2 [x15] H)) (
  K1 [(nth vs3 0)] H)) fun vs4 H =>
  Get (lenV (nth vs4 0)) fun x17 =>
  Get (arithV .eql .i64 x17 (.int .i64 0)) fun x18 =>
  Br x18 (
  R (.slice none 0 0) H) (
  R (nth vs4 0) H)
def p181 : Plan := .seq (.leaf []) (.join [0] (.block (.loop [0] (.seq (.seq (.leaf []) (.cond (.leaf []) (.leaf []))) (.block (.seq (.seq (.leaf []) (.cond (.leaf []) (.leaf []))) (.leaf [])))))) (.seq (.seq (.leaf []) (.cond (.seq (.leaf []) (.leaf [])) (.leaf []))) (.seq (.leaf []) (.leaf []))))
theorem s181 {a0 a1 : Value} {H : Heap} {R : Value → Heap → Prop} (h : c181 a0 a1 H R) : CallsH Tryz.prog 181 #[a0, a1] H R :=
  callsH_of_eq p181 (fn := Tryz.f181) (c := Tryz.f181.body.getD .skip) (args := [a0, a1]) Tryz.func181 (by kernel_rfl) mixed (by kernel_rfl) (by kernel_rfl) (by kernel_rfl) h

/-- (*bytes.asciiSet).contains -/
def c186 (a0 a1 : Value) (H : Heap) (R : Value → Heap → Prop) : Prop :=
  Get (nilV a0) fun x7 =>
  Get (arrAddrV 256 1 x7 a1) fun x8 =>
  Get (load1V x8 H) fun x9 =>
  R x9 H
def p186 : Plan := .seq (.leaf []) (.seq (.leaf []) (.leaf []))
theorem s186 {a0 a1 : Value} {H : Heap} {R : Value → Heap → Prop} (h : c186 a0 a1 H R) : CallsH Tryz.prog 186 #[a0, a1] H R :=
  callsH_of_eq p186 (fn := Tryz.f186) (c := Tryz.f186.body.getD .skip) (args := [a0, a1]) Tryz.func186 (by kernel_rfl) mixed (by kernel_rfl) (by kernel_rfl) (by kernel_rfl) h

end Go.Cps
