/-
  A part of the proof (its texts: L43, L16, L17): each text says below what it proves.
  Conditions: each contract's own.
-/
import Derived.Test.YtfajmapajpfocaaGreatDoorE13
import Derived.Test.YtfajmapajpfocaaGreatDoorE15
import Derived.Test.YtfajmapajpfocaaGreatDoorE19
set_option linter.all false
/-
  readMIMEHeader: the lines of a header, made a map.
  Conditions: the lines are good ones, and few.
-/
namespace Go.Cps
open Go Go.Proofs

theorem makeStrs_of {n : Nat} {H : Heap} {K : Value → Heap → Prop} (hn : n ≤ 1000) (hK : ∀ H', Frm [] H H' → H'.size = H.size + 1 → (∃ cells : Array Value, H'[H.size]? = some (.cells cells 9 (0, 0)) ∧ cells.size = n) → K (.slice (some ⟨H.size, 0, none⟩) n n) H') :
    MakeSlice 9 1 16 #[(.string ⟨#[]⟩)] (.int .i64 n) (.int .i64 n) H K := by
  refine ⟨_, _, n, n, rfl, rfl, Nat.le_refl _, by omega, by omega, ?_⟩
  exact hK _ (Frm.push _ _ _) (by simp) ⟨_, push_same _ _, by simp⟩

theorem TR.new {S : Stk} {tr : Nat} {buf : Value} {H H' : Heap} {X : List Nat} (h : TR S tr buf H) (f : Frm X H H') (hx : tr ∉ X) : TR S tr buf H' := f.get h hx

theorem RdAt.ids_lt {S : Stk} {s : St} {H : Heap} (h : RdAt S s H) : ∀ x ∈ S.ids, x < H.size := by
  intro x hx
  simp only [Stk.ids, List.mem_cons, List.not_mem_nil, or_false] at hx
  rcases hx with rfl | rfl | rfl | rfl
  · exact lt_of_some h.hb
  · exact lt_of_some h.hbf
  · exact lt_of_some h.hst
  · exact lt_of_some h.hbr

theorem Ents.lt {H : Heap} {m N : Nat} {E : List Ent} (h : Ents H m N E) : ∀ x ∈ Ents.blks m E, x < H.size := by
  intro x hx
  simp only [Ents.blks, List.mem_cons, List.mem_map] at hx
  rcases hx with rfl | ⟨e, he, rfl⟩
  · obtain ⟨es, c, h0, _⟩ := h.map
    exact lt_of_some h0
  · obtain ⟨cs, h0, _⟩ := h.strs e he
    exact lt_of_some h0

theorem Frm.up {S X : List Nat} {H0 a b : Heap} (h : Frm S H0 a) (f : Frm X a b) (hX : ∀ x ∈ X, x ∈ S ∨ H0.size ≤ x) : Frm S H0 b :=
  ⟨Nat.le_trans h.size f.size, fun k hk hn => by
    rw [f.same k (Nat.lt_of_lt_of_le hk h.size) (fun hm => by
      rcases hX k hm with h1 | h1
      · exact hn h1
      · omega), h.same k hk hn]⟩

/-- the state between two lines -/
structure HdAt (S : Stk) (tr : Nat) (B : Nat) (H : Heap) (m N : Nat) (E : List Ent) (k : Option Nat) (st : Value) (n : Nat) (sb : Option Nat) (s : St) : Prop where
  rd : RdAt S s H
  tr_ : ∃ tbuf, TR S tr tbuf H ∧ OwnE H k tbuf
  ents : Ents H m N E
  left : Left H E st n sb
  full : Full4 H
  base : B ≤ H.size
  trB : tr < B
  idB : ∀ x ∈ S.ids, x < B
  vB : ∀ x, blk S.v = some x → x < B
  blkB : ∀ x ∈ Ents.blks m E, B ≤ x ∧ k ≠ some x
  sbB : ∀ b, sb = some b → B ≤ b ∧ b < H.size ∧ k ≠ some b ∧ b ≠ m
  kB : ∀ g, k = some g → B ≤ g ∧ g < H.size
  htr : tr ∉ S.ids
  hvt : blk S.v ≠ some tr
  tr0 : tr ≠ 0
  four : 4 ∉ S.ids ∧ 4 ≠ tr ∧ 4 < B

theorem HdAt.ents_frm {S : Stk} {tr B : Nat} {H H' : Heap} {m N : Nat} {E : List Ent} {k : Option Nat} {st : Value} {n : Nat} {sb : Option Nat} {s : St} {X : List Nat} (h : HdAt S tr B H m N E k st n sb s) (f : Frm X H H') (hX : ∀ x ∈ X, x < B ∨ k = some x ∨ H.size ≤ x) : Ents H' m N E ∧ Left H' E st n sb := by
  refine ⟨h.ents.frm f fun x hx hm => ?_, h.left.frm f fun b hb hm => ?_⟩
  · obtain ⟨h1, h2⟩ := h.blkB x hx
    have h3 := h.ents.lt x hx
    rcases hX x hm with h4 | h4 | h4
    · omega
    · exact h2 h4
    · omega
  · obtain ⟨h1, h2, h3, _⟩ := h.sbB b hb
    rcases hX b hm with h4 | h4 | h4
    · omega
    · exact h3 h4
    · omega
end Go.Cps

/-
  Close of a Writer; Write of no parts.
  Conditions: the boundary is one that SetBoundary takes.
-/
namespace Go.Cps
open Go Go.Proofs

theorem meth58 : methodRes Tryz.prog 58 "Write" = some 209 := by kernel_rfl
theorem body209 : hasBody Tryz.prog 209 = true := by kernel_rfl

theorem close_core {wr b : Nat} {k : Option Nat} {bd l : List UInt8} {last : Value} {H : Heap} {R : Value → Heap → Prop} (h : WrAt wr (.iface 58 (.pointer (some ⟨b, 0, none⟩))) bd last H) (hb : BufAt b k l H) (hl : l.length + bd.length + 8 < 2 ^ 40)
    (hR : ∀ k' H', BufAt b k' (l ++ ([13, 10, 45, 45] ++ bd ++ [45, 45, 13, 10])) H' → Frm (b :: k.toList) H H' → (k' = k ∨ ∃ g, k' = some g ∧ H.size ≤ g) → R .nilIface H') :
    Get (cellH H ⟨wr, 0, none⟩) fun x26 =>
    Get (cellH H ⟨wr, 1, none⟩) fun x30 =>
    Get (strV .add (.string ⟨#[13, 10, 45, 45]⟩) x30) fun x31 =>
    Get (strV .add x31 (.string ⟨#[45, 45, 13, 10]⟩)) fun x32 =>
    ToBytes 5 x32 H fun x33 H =>
    (cellH H ⟨wr, 0, none⟩ = some x26 ∧ True) ∧
    Get (nilV x26) fun _ =>
    Invoke Tryz.prog "Write" x26 #[x33] H fun x36 H =>
    Get (extractV x36 0) fun _ =>
    Get (extractV x36 1) fun x38 =>
    R x38 H := by
  have e1 : strV .add (.string ⟨#[13, 10, 45, 45]⟩) (strVal bd) = some (strVal ([13, 10, 45, 45] ++ bd)) := strV_add (a := [13, 10, 45, 45]) (b := bd) (by simp; omega)
  have e2 : strV .add (strVal ([13, 10, 45, 45] ++ bd)) (.string ⟨#[45, 45, 13, 10]⟩) = some (strVal ([13, 10, 45, 45] ++ bd ++ [45, 45, 13, 10])) := strV_add (a := [13, 10, 45, 45] ++ bd) (b := [45, 45, 13, 10]) (by simp; omega)
  simp only [Fld_ptr, add_mk, Nat.zero_add, List.getElem?_toArray, List.getElem?_cons_succ, List.getElem?_cons_zero, Get_some, Br_true, Br_false, nth_zero, nth_one, nth_two, extractV_tuple, fieldAddrV_ptr, nilV_ptr, load1V_ptr, pickV_bool, unV_not, lenV_slice, capV_slice, cellH_of h, e1, e2]
  refine toBytes_of fun c H1 hc hr f1 z1 => ?_
  have h1 : WrAt wr (.iface 58 (.pointer (some ⟨b, 0, none⟩))) bd last H1 := f1.get h (by simp)
  have hb1 := hb.frm f1 (by simp) (by simp)
  have hx := hr.bytes (o := 0) (c := c) (n := ([13, 10, 45, 45] ++ bd ++ [45, 45, 13, 10]).length) (by simp) hc
  rw [List.drop_zero, List.take_length] at hx
  have hbs : b < H.size := by obtain ⟨_, _, hb, _⟩ := hb; exact lt_of_some hb
  refine ⟨⟨by rw [cellH_of h1]; rfl, trivial⟩, ?_⟩
  simp only [nilV_iface, Get_some]
  refine invoke_of 209 meth58 body209 ?_
  refine (bufWrite_ok hb1 hx (fun y hy => by simp [blk] at hy; omega) (by simp; omega)).mono ?_
  rintro x H2 ⟨rfl, k', hb2, f2, hk⟩
  simp only [Fld_ptr, add_mk, Nat.zero_add, List.getElem?_toArray, List.getElem?_cons_succ, List.getElem?_cons_zero, Get_some, Br_true, Br_false, nth_zero, nth_one, nth_two, extractV_tuple, fieldAddrV_ptr, nilV_ptr, load1V_ptr, pickV_bool, unV_not, lenV_slice, capV_slice]
  refine hR k' H2 hb2 ((f1.mono (by simp)).trans f2) ?_
  rcases hk with rfl | ⟨g, rfl, hg⟩
  · exact .inl rfl
  · exact .inr ⟨g, rfl, by omega⟩

theorem close_nil {wr b : Nat} {k : Option Nat} {bd l : List UInt8} {H : Heap} (h : WrAt wr (.iface 58 (.pointer (some ⟨b, 0, none⟩))) bd (.pointer none) H) (hb : BufAt b k l H) (hl : l.length + bd.length + 8 < 2 ^ 40) :
    CallsH Tryz.prog 35 #[.pointer (some ⟨wr, 0, none⟩)] H fun x H' => x = .nilIface ∧ ∃ k', BufAt b k' (l ++ ([13, 10, 45, 45] ++ bd ++ [45, 45, 13, 10])) H' ∧ Frm (b :: k.toList) H H' ∧ (k' = k ∨ ∃ g, k' = some g ∧ H.size ≤ g) := by
  apply s35
  unfold c35
  refine Join_direct ?_
  simp only [Fld_ptr, add_mk, Nat.zero_add, List.getElem?_toArray, List.getElem?_cons_succ, List.getElem?_cons_zero, Get_some, Br_true, Br_false, nth_zero, nth_one, nth_two, extractV_tuple, fieldAddrV_ptr, nilV_ptr, load1V_ptr, pickV_bool, unV_not, lenV_slice, capV_slice, cellH_of h, nilV2_neq_ptr, Option.isNone_none, Bool.not_true]
  have := close_core (R := fun x H' => x = .nilIface ∧ ∃ k', BufAt b k' (l ++ ([13, 10, 45, 45] ++ bd ++ [45, 45, 13, 10])) H' ∧ Frm (b :: k.toList) H H' ∧ (k' = k ∨ ∃ g, k' = some g ∧ H.size ≤ g)) h hb hl fun k' H' h1 h2 h3 => ⟨rfl, k', h1, h2, h3⟩
  simp only [Fld_ptr, add_mk, Nat.zero_add, List.getElem?_toArray, List.getElem?_cons_succ, List.getElem?_cons_zero, Get_some, Br_true, Br_false, nth_zero, nth_one, nth_two, extractV_tuple, fieldAddrV_ptr, nilV_ptr, load1V_ptr, pickV_bool, unV_not, lenV_slice, capV_slice, cellH_of h] at this
  exact this

end Go.Cps

/-
  spec.letter, spec.within, spec.Boundary; the statement FnNone over any heap whose io.EOF is an error of errors.New.
  Conditions: each contract's own.
-/
namespace Go.Cps
open Go Go.Proofs

theorem letter_ok {c : Int} {H : Heap} : CallsH Tryz.prog 28 #[.int .u8 c] H fun x H' => x = .bool (alnum c) ∧ H' = H := by
  apply s28
  unfold c28
  refine ⟨fun vs H' => vs = [.bool (alnum c)] ∧ H' = H, ?_, ?_⟩
  · simp only [Fld_ptr, add_mk, Nat.zero_add, List.getElem?_toArray, List.getElem?_cons_succ, List.getElem?_cons_zero, Get_some, Br_true, Br_false, nth_zero, nth_one, nth_two, extractV_tuple, fieldAddrV_ptr, nilV_ptr, load1V_ptr, pickV_bool, unV_not, lenV_slice, capV_slice, arithV_add, arithV_sub, arithV_eql, arithV_neq, arithV_lss, arithV_leq, arithV_gtr, arithV_geq, intConvV_int]
    refine Br_intro (fun h1 => ?_) (fun h1 => ?_) <;> simp only [Fld_ptr, add_mk, Nat.zero_add, List.getElem?_toArray, List.getElem?_cons_succ, List.getElem?_cons_zero, Get_some, Br_true, Br_false, nth_zero, nth_one, nth_two, extractV_tuple, fieldAddrV_ptr, nilV_ptr, load1V_ptr, pickV_bool, unV_not, lenV_slice, capV_slice, Bool.false_eq_true, if_false, if_true] <;> repeat' (first | refine Br_intro (fun h2 => ?_) (fun h2 => ?_) | simp only [Fld_ptr, add_mk, Nat.zero_add, List.getElem?_toArray, List.getElem?_cons_succ, List.getElem?_cons_zero, Get_some, Br_true, Br_false, nth_zero, nth_one, nth_two, extractV_tuple, fieldAddrV_ptr, nilV_ptr, load1V_ptr, pickV_bool, unV_not, lenV_slice, capV_slice, arithV_add, arithV_sub, arithV_eql, arithV_neq, arithV_lss, arithV_leq, arithV_gtr, arithV_geq, intConvV_int, Bool.false_eq_true, if_false, if_true])
    all_goals (simp only [decide_eq_true_eq, decide_eq_false_iff_not] at *; try simp only [List.cons.injEq, Value.bool.injEq, and_true]; rw [Bool.eq_iff_iff]; simp only [alnum, Bool.or_eq_true, Bool.and_eq_true, decide_eq_true_eq, true_iff, false_iff, eq_self, Bool.false_eq_true]; omega)
  · rintro _ H' ⟨rfl, rfl⟩
    simp only [Fld_ptr, add_mk, Nat.zero_add, List.getElem?_toArray, List.getElem?_cons_succ, List.getElem?_cons_zero, Get_some, Br_true, Br_false, nth_zero, nth_one, nth_two, extractV_tuple, fieldAddrV_ptr, nilV_ptr, load1V_ptr, pickV_bool, unV_not, lenV_slice, capV_slice, and_self]

theorem strIndex_of {l : List UInt8} {i : Nat} (h : i < l.length) : strIndexV (strVal l) (.int .i64 i) = some (byteV l[i]) := by
  have hs : i < (⟨l.toArray⟩ : ByteArray).size := by rw [bstr_size]; exact h
  have e : (⟨l.toArray⟩ : ByteArray)[i]? = some l[i] := by
    rw [getElem?_pos (⟨l.toArray⟩ : ByteArray) i hs]
    rfl
  simp [strIndexV, strVal, e, byteV]
theorem lenStr_of (l : List UInt8) : lenStrV (strVal l) = some (.int .i64 l.length) := by simp [strVal, bstr_size]

theorem within_ok {l : List UInt8} {b : UInt8} {H : Heap} (hl : l.length < 2 ^ 40) : CallsH Tryz.prog 29 #[strVal l, byteV b] H fun x H' => x = .bool (l.contains b) ∧ H' = H := by
  apply s29
  unfold c29
  refine ⟨fun n vs H' => ∃ i : Nat, vs = [.int .i64 i] ∧ n = l.length - i ∧ i ≤ l.length ∧ H' = H ∧ (l.take i).contains b = false, ⟨_, 0, rfl, rfl, Nat.zero_le _, rfl, by simp⟩, ?_⟩
  rintro n vs _ ⟨i, rfl, rfl, hi, rfl, hc⟩
  simp only [lenStr_of, Fld_ptr, add_mk, Nat.zero_add, List.getElem?_toArray, List.getElem?_cons_succ, List.getElem?_cons_zero, Get_some, Br_true, Br_false, nth_zero, nth_one, nth_two, extractV_tuple, fieldAddrV_ptr, nilV_ptr, load1V_ptr, pickV_bool, unV_not, lenV_slice, capV_slice, arithV_add, arithV_sub, arithV_eql, arithV_neq, arithV_lss, arithV_leq, arithV_gtr, arithV_geq, intConvV_int]
  by_cases hlt : i < l.length
  · have hd : decide ((i : Int) < (l.length : Int)) = true := by simp; exact hlt
    have hd2 : (l.take (i + 1)).contains b = (l[i] == b) := by
      rw [List.take_succ_eq_append_getElem hlt]
      simp only [List.contains_append, hc, Bool.false_or, List.contains_cons, List.contains_nil, Bool.or_false]
      rw [Bool.eq_iff_iff, beq_iff_eq, beq_iff_eq]
      exact eq_comm
    have e1 : IntKind.i64.wrap ((i : Int) + 1) = ((i + 1 : Nat) : Int) := by rw [wrap_i64 (by omega) (by omega)]; omega
    simp only [hd, Fld_ptr, add_mk, Nat.zero_add, List.getElem?_toArray, List.getElem?_cons_succ, List.getElem?_cons_zero, Get_some, Br_true, Br_false, nth_zero, nth_one, nth_two, extractV_tuple, fieldAddrV_ptr, nilV_ptr, load1V_ptr, pickV_bool, unV_not, lenV_slice, capV_slice, strIndex_of hlt, byteV, arithV_add, arithV_sub, arithV_eql, arithV_neq, arithV_lss, arithV_leq, arithV_gtr, arithV_geq, intConvV_int, byte_beq, e1]
    refine Br_intro (fun h1 => ?_) (fun h1 => ?_)
    · refine ⟨?_, trivial⟩
      have : l.contains b = true := by
        rw [List.contains_iff_mem]
        rw [beq_iff_eq] at h1
        rw [← h1]
        exact List.getElem_mem hlt
      rw [this]
    · exact ⟨_, by omega, i + 1, rfl, rfl, hlt, trivial, by rw [hd2, h1]⟩
  · have hd : decide ((i : Int) < (l.length : Int)) = false := by simp; omega
    simp only [hd, Fld_ptr, add_mk, Nat.zero_add, List.getElem?_toArray, List.getElem?_cons_succ, List.getElem?_cons_zero, Get_some, Br_true, Br_false, nth_zero, nth_one, nth_two, extractV_tuple, fieldAddrV_ptr, nilV_ptr, load1V_ptr, pickV_bool, unV_not, lenV_slice, capV_slice]
    rw [List.take_of_length_le (by omega)] at hc
    rw [hc]
    exact ⟨rfl, trivial⟩

def bspec : List UInt8 := [39, 40, 41, 43, 95, 44, 45, 46, 47, 58, 61, 63, 32]
theorem bspec_eq (b : UInt8) : bspec.contains b = (punct b.toNat || b == 32) := by
  have h39 : (((b.toNat : Nat) : Int) == 39) = (b == 39) := byte_beq b 39
  have h40 : (((b.toNat : Nat) : Int) == 40) = (b == 40) := byte_beq b 40
  have h41 : (((b.toNat : Nat) : Int) == 41) = (b == 41) := byte_beq b 41
  have h43 : (((b.toNat : Nat) : Int) == 43) = (b == 43) := byte_beq b 43
  have h95 : (((b.toNat : Nat) : Int) == 95) = (b == 95) := byte_beq b 95
  have h44 : (((b.toNat : Nat) : Int) == 44) = (b == 44) := byte_beq b 44
  have h45 : (((b.toNat : Nat) : Int) == 45) = (b == 45) := byte_beq b 45
  have h46 : (((b.toNat : Nat) : Int) == 46) = (b == 46) := byte_beq b 46
  have h47 : (((b.toNat : Nat) : Int) == 47) = (b == 47) := byte_beq b 47
  have h58 : (((b.toNat : Nat) : Int) == 58) = (b == 58) := byte_beq b 58
  have h61 : (((b.toNat : Nat) : Int) == 61) = (b == 61) := byte_beq b 61
  have h63 : (((b.toNat : Nat) : Int) == 63) = (b == 63) := byte_beq b 63
  simp only [bspec, List.contains_cons, List.contains_nil, punct, h39, h40, h41, h43, h95, h44, h45, h46, h47, h58, h61, h63, Bool.or_false, Bool.or_assoc]

def okBd (l : List UInt8) : Bool := l.all bchar && decide (0 < l.length) && decide (l.length ≤ 70) && (l[l.length - 1]? != some 32)
theorem okBd_iff {l : List UInt8} (h : okBd l = true) : BdOk l := by
  simp only [okBd, Bool.and_eq_true, List.all_eq_true, decide_eq_true_eq, bne_iff_ne] at h
  exact ⟨h.1.1.1, h.1.1.2, h.1.2, h.2⟩

theorem boundary_ok {l : List UInt8} {H : Heap} (hl : l.length < 2 ^ 40) : CallsH Tryz.prog 9 #[strVal l] H fun x H' => x = .bool (okBd l) ∧ H' = H := by
  apply s9
  unfold c9
  refine ⟨fun n vs H' => ∃ i : Nat, vs = [.int .i64 i] ∧ n = l.length - i ∧ i ≤ l.length ∧ H' = H ∧ (l.take i).all bchar = true, ⟨_, 0, rfl, rfl, Nat.zero_le _, rfl, by simp⟩, ?_⟩
  rintro n vs H ⟨i, rfl, rfl, hi, rfl, hc⟩
  simp only [lenStr_of, Fld_ptr, add_mk, Nat.zero_add, List.getElem?_toArray, List.getElem?_cons_succ, List.getElem?_cons_zero, Get_some, Br_true, Br_false, nth_zero, nth_one, nth_two, extractV_tuple, fieldAddrV_ptr, nilV_ptr, load1V_ptr, pickV_bool, unV_not, lenV_slice, capV_slice, arithV_add, arithV_sub, arithV_eql, arithV_neq, arithV_lss, arithV_leq, arithV_gtr, arithV_geq, intConvV_int]
  by_cases hlt : i < l.length
  · have hd : decide ((i : Int) < (l.length : Int)) = true := by simp; exact hlt
    have hd2 : (l.take (i + 1)).all bchar = bchar l[i] := by
      rw [List.take_succ_eq_append_getElem hlt, List.all_append, hc]; simp
    have e1 : IntKind.i64.wrap ((i : Int) + 1) = ((i + 1 : Nat) : Int) := by rw [wrap_i64 (by omega) (by omega)]; omega
    simp only [hd, Fld_ptr, add_mk, Nat.zero_add, List.getElem?_toArray, List.getElem?_cons_succ, List.getElem?_cons_zero, Get_some, Br_true, Br_false, nth_zero, nth_one, nth_two, extractV_tuple, fieldAddrV_ptr, nilV_ptr, load1V_ptr, pickV_bool, unV_not, lenV_slice, capV_slice, strIndex_of hlt, e1]
    refine ⟨fun vs H' => vs = [.bool (!bchar l[i])] ∧ H' = H, ?_, ?_⟩
    · rw [byteV]
      refine letter_ok.mono ?_
      rintro x H' ⟨rfl, rfl⟩
      simp only [Fld_ptr, add_mk, Nat.zero_add, List.getElem?_toArray, List.getElem?_cons_succ, List.getElem?_cons_zero, Get_some, Br_true, Br_false, nth_zero, nth_one, nth_two, extractV_tuple, fieldAddrV_ptr, nilV_ptr, load1V_ptr, pickV_bool, unV_not, lenV_slice, capV_slice]
      refine Br_intro (fun h1 => ?_) (fun h1 => ?_)
      · refine (within_ok (l := bspec) (b := l[i]) (by decide)).mono ?_
        rintro x H' ⟨rfl, rfl⟩
        simp only [Fld_ptr, add_mk, Nat.zero_add, List.getElem?_toArray, List.getElem?_cons_succ, List.getElem?_cons_zero, Get_some, Br_true, Br_false, nth_zero, nth_one, nth_two, extractV_tuple, fieldAddrV_ptr, nilV_ptr, load1V_ptr, pickV_bool, unV_not, lenV_slice, capV_slice, if_true, and_true]
        simp only [Bool.not_eq_true'] at h1
        rw [bspec_eq, bchar, h1, Bool.false_or]
      · simp only [Fld_ptr, add_mk, Nat.zero_add, List.getElem?_toArray, List.getElem?_cons_succ, List.getElem?_cons_zero, Get_some, Br_true, Br_false, nth_zero, nth_one, nth_two, extractV_tuple, fieldAddrV_ptr, nilV_ptr, load1V_ptr, pickV_bool, unV_not, lenV_slice, capV_slice, Bool.false_eq_true, if_false, and_true]
        simp only [Bool.not_eq_false'] at h1
        rw [bchar, h1, Bool.true_or, Bool.true_or]; rfl
    · rintro _ H' ⟨rfl, rfl⟩
      simp only [Fld_ptr, add_mk, Nat.zero_add, List.getElem?_toArray, List.getElem?_cons_succ, List.getElem?_cons_zero, Get_some, Br_true, Br_false, nth_zero, nth_one, nth_two, extractV_tuple, fieldAddrV_ptr, nilV_ptr, load1V_ptr, pickV_bool, unV_not, lenV_slice, capV_slice]
      refine Br_intro (fun h1 => ?_) (fun h1 => ?_)
      · refine ⟨?_, trivial⟩
        have : okBd l = false := by
          rw [← Bool.not_eq_true]
          intro hok
          have := (okBd_iff hok).chars _ (List.getElem_mem hlt)
          rw [this] at h1
          cases h1
        rw [this]
      · simp only [Bool.not_eq_false'] at h1
        exact ⟨_, by omega, i + 1, rfl, rfl, hlt, trivial, by rw [hd2, h1]⟩
  · have hd : decide ((i : Int) < (l.length : Int)) = false := by simp; omega
    simp only [hd, Fld_ptr, add_mk, Nat.zero_add, List.getElem?_toArray, List.getElem?_cons_succ, List.getElem?_cons_zero, Get_some, Br_true, Br_false, nth_zero, nth_one, nth_two, extractV_tuple, fieldAddrV_ptr, nilV_ptr, load1V_ptr, pickV_bool, unV_not, lenV_slice, capV_slice]
    rw [List.take_of_length_le (by omega)] at hc
    refine ⟨fun vs H' => vs = [.bool (okBd l)] ∧ H' = H, ?_, ?_⟩
    · refine Br_intro (fun h1 => ?_) (fun h1 => ?_)
      · have h1' : 0 < l.length := by simpa using h1
        simp only [Fld_ptr, add_mk, Nat.zero_add, List.getElem?_toArray, List.getElem?_cons_succ, List.getElem?_cons_zero, Get_some, Br_true, Br_false, nth_zero, nth_one, nth_two, extractV_tuple, fieldAddrV_ptr, nilV_ptr, load1V_ptr, pickV_bool, unV_not, lenV_slice, capV_slice, if_true]
        refine Br_intro (fun h2 => ?_) (fun h2 => ?_)
        · have h2' : l.length ≤ 70 := by simp at h2; omega
          have e2 : IntKind.i64.wrap ((l.length : Int) - 1) = ((l.length - 1 : Nat) : Int) := by rw [wrap_i64 (by omega) (by omega)]; omega
          simp only [e2, strIndex_of (show l.length - 1 < l.length by omega), Fld_ptr, add_mk, Nat.zero_add, List.getElem?_toArray, List.getElem?_cons_succ, List.getElem?_cons_zero, Get_some, Br_true, Br_false, nth_zero, nth_one, nth_two, extractV_tuple, fieldAddrV_ptr, nilV_ptr, load1V_ptr, pickV_bool, unV_not, lenV_slice, capV_slice, byteV, arithV_add, arithV_sub, arithV_eql, arithV_neq, arithV_lss, arithV_leq, arithV_gtr, arithV_geq, intConvV_int, if_true, and_true, List.cons.injEq, Value.bool.injEq]
          have e3 : (((l[l.length - 1]'(by omega)).toNat : Int) == 32) = ((l[l.length - 1]'(by omega)) == 32) := byte_beq _ 32
          rw [okBd, hc, List.getElem?_eq_getElem (by omega : l.length - 1 < l.length)]
          simp only [h1', h2', decide_true, Bool.true_and, bne, e3]
          rfl
        · have h2' : ¬ l.length ≤ 70 := by simp at h2; omega
          simp [okBd, h2']
      · have h1' : l.length = 0 := by simp only [decide_eq_false_iff_not] at h1; omega
        simp only [Fld_ptr, add_mk, Nat.zero_add, List.getElem?_toArray, List.getElem?_cons_succ, List.getElem?_cons_zero, Get_some, Br_true, Br_false, nth_zero, nth_one, nth_two, extractV_tuple, fieldAddrV_ptr, nilV_ptr, load1V_ptr, pickV_bool, unV_not, lenV_slice, capV_slice, Bool.false_eq_true, if_false]
        simp [okBd, h1']
    · rintro _ H' ⟨rfl, rfl⟩
      simp only [Fld_ptr, add_mk, Nat.zero_add, List.getElem?_toArray, List.getElem?_cons_succ, List.getElem?_cons_zero, Get_some, Br_true, Br_false, nth_zero, nth_one, nth_two, extractV_tuple, fieldAddrV_ptr, nilV_ptr, load1V_ptr, pickV_bool, unV_not, lenV_slice, capV_slice, and_self]

theorem bd_no_nl {l : List UInt8} (h : BdOk l) : 10 ∉ l := by
  intro hm
  have := h.chars 10 hm
  simp [bchar, alnum, punct] at this

end Go.Cps
