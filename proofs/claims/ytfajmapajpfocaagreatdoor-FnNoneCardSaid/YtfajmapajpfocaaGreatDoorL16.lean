/-
  Close of a Writer; Write of no parts.
  Conditions: the boundary is one that SetBoundary takes.
-/
import Derived.Test.YtfajmapajpfocaaGreatDoorL15
set_option linter.all false
namespace Go.Cps
open Go Go.Proofs

theorem meth58 : methodRes Tryz.prog 58 "Write" = some 209 := by kernel_rfl
theorem body209 : hasBody Tryz.prog 209 = true := by kernel_rfl

theorem close_core {wr b : Nat} {k : Option Nat} {bd l : List UInt8} {last : Value} {H : Heap} {R : Value → Heap → Prop} (h : WrAt wr (.iface 58 (.pointer (some ⟨b, 0, none⟩))) bd last H) (hb : BufAt b k l H) (hl : l.length + bd.length + 8 < 2 ^ 40)
    (hR : ∀ k' H', BufAt b k' (l ++ ([13, 10, 45, 45] ++ bd ++ [45, 45, 13, 10])) H' → Frm (b :: k.toList) H H' → (k' = k ∨ ∃ g, k' = some g ∧ H.size ≤ g) → R .nilIface H') :
    Get (cellH H ⟨wr, 0, none⟩) fun x26 =>
    Get (cellH H ⟨wr, 1, none⟩) fun x30 =>
    Get (strV .add (.string ⟨#[13, 10, 45, 45]⟩) x30) fun x31 =>
    Get (strV .add x31 (.string ⟨#[45, 45, 13, 10]⟩)) fun x32 =>
    ToBytes 5 x32 H fun x33 H =>
    (cellH H ⟨wr, 0, none⟩ = some x26 ∧ True) ∧
    Get (nilV x26) fun _ =>
    Invoke Tryz.prog "Write" x26 #[x33] H fun x36 H =>
    Get (extractV x36 0) fun _ =>
    Get (extractV x36 1) fun x38 =>
    R x38 H := by
  have e1 : strV .add (.string ⟨#[13, 10, 45, 45]⟩) (strVal bd) = some (strVal ([13, 10, 45, 45] ++ bd)) := strV_add (a := [13, 10, 45, 45]) (b := bd) (by simp; omega)
  have e2 : strV .add (strVal ([13, 10, 45, 45] ++ bd)) (.string ⟨#[45, 45, 13, 10]⟩) = some (strVal ([13, 10, 45, 45] ++ bd ++ [45, 45, 13, 10])) := strV_add (a := [13, 10, 45, 45] ++ bd) (b := [45, 45, 13, 10]) (by simp; omega)
  simp only [Fld_ptr, add_mk, Nat.zero_add, List.getElem?_toArray, List.getElem?_cons_succ, List.getElem?_cons_zero, Get_some, Br_true, Br_false, nth_zero, nth_one, nth_two, extractV_tuple, fieldAddrV_ptr, nilV_ptr, load1V_ptr, pickV_bool, unV_not, lenV_slice, capV_slice, cellH_of h, e1, e2]
  refine toBytes_of fun c H1 hc hr f1 z1 => ?_
  have h1 : WrAt wr (.iface 58 (.pointer (some ⟨b, 0, none⟩))) bd last H1 := f1.get h (by simp)
  have hb1 := hb.frm f1 (by simp) (by simp)
  have hx := hr.bytes (o := 0) (c := c) (n := ([13, 10, 45, 45] ++ bd ++ [45, 45, 13, 10]).length) (by simp) hc
  rw [List.drop_zero, List.take_length] at hx
  have hbs : b < H.size := by obtain ⟨_, _, hb, _⟩ := hb; exact lt_of_some hb
  refine ⟨⟨by rw [cellH_of h1]; rfl, trivial⟩, ?_⟩
  simp only [nilV_iface, Get_some]
  refine invoke_of 209 meth58 body209 ?_
  refine (bufWrite_ok hb1 hx (fun y hy => by simp [blk] at hy; omega) (by simp; omega)).mono ?_
  rintro x H2 ⟨rfl, k', hb2, f2, hk⟩
  simp only [Fld_ptr, add_mk, Nat.zero_add, List.getElem?_toArray, List.getElem?_cons_succ, List.getElem?_cons_zero, Get_some, Br_true, Br_false, nth_zero, nth_one, nth_two, extractV_tuple, fieldAddrV_ptr, nilV_ptr, load1V_ptr, pickV_bool, unV_not, lenV_slice, capV_slice]
  refine hR k' H2 hb2 ((f1.mono (by simp)).trans f2) ?_
  rcases hk with rfl | ⟨g, rfl, hg⟩
  · exact .inl rfl
  · exact .inr ⟨g, rfl, by omega⟩

theorem close_nil {wr b : Nat} {k : Option Nat} {bd l : List UInt8} {H : Heap} (h : WrAt wr (.iface 58 (.pointer (some ⟨b, 0, none⟩))) bd (.pointer none) H) (hb : BufAt b k l H) (hl : l.length + bd.length + 8 < 2 ^ 40) :
    CallsH Tryz.prog 35 #[.pointer (some ⟨wr, 0, none⟩)] H fun x H' => x = .nilIface ∧ ∃ k', BufAt b k' (l ++ ([13, 10, 45, 45] ++ bd ++ [45, 45, 13, 10])) H' ∧ Frm (b :: k.toList) H H' ∧ (k' = k ∨ ∃ g, k' = some g ∧ H.size ≤ g) := by
  apply s35
  unfold c35
  refine Join_direct ?_
  simp only [Fld_ptr, add_mk, Nat.zero_add, List.getElem?_toArray, List.getElem?_cons_succ, List.getElem?_cons_zero, Get_some, Br_true, Br_false, nth_zero, nth_one, nth_two, extractV_tuple, fieldAddrV_ptr, nilV_ptr, load1V_ptr, pickV_bool, unV_not, lenV_slice, capV_slice, cellH_of h, nilV2_neq_ptr, Option.isNone_none, Bool.not_true]
  have := close_core (R := fun x H' => x = .nilIface ∧ ∃ k', BufAt b k' (l ++ ([13, 10, 45, 45] ++ bd ++ [45, 45, 13, 10])) H' ∧ Frm (b :: k.toList) H H' ∧ (k' = k ∨ ∃ g, k' = some g ∧ H.size ≤ g)) h hb hl fun k' H' h1 h2 h3 => ⟨rfl, k', h1, h2, h3⟩
  simp only [Fld_ptr, add_mk, Nat.zero_add, List.getElem?_toArray, List.getElem?_cons_succ, List.getElem?_cons_zero, Get_some, Br_true, Br_false, nth_zero, nth_one, nth_two, extractV_tuple, fieldAddrV_ptr, nilV_ptr, load1V_ptr, pickV_bool, unV_not, lenV_slice, capV_slice, cellH_of h] at this
  exact this

theorem write_none {bd : List UInt8} {H : Heap} (hb : BdOk bd) :
    CallsH Tryz.prog 10 #[strVal bd, .slice none 0 0] H fun x H' => ∃ v, x = .tuple #[v, .bool true] ∧ IsBytes H' v ([13, 10, 45, 45] ++ bd ++ [45, 45, 13, 10]) ∧ Frm [] H H' := by
  have hlen := hb.len
  apply s10
  simp only [c10, New, Fld_ptr, add_mk, Nat.zero_add, List.getElem?_toArray, List.getElem?_cons_succ, List.getElem?_cons_zero, Get_some, Br_true, Br_false, nth_zero, nth_one, nth_two, extractV_tuple, fieldAddrV_ptr, nilV_ptr, load1V_ptr, pickV_bool, unV_not, lenV_slice, capV_slice]
  generalize hH1 : H.push (.cells #[(.slice none 0 0), (.int .i64 0), (.int .i8 0)] 55 (0, 0)) = H1
  have f1 : Frm [] H H1 := by rw [← hH1]; exact Frm.push _ _ _
  have b1 : BufAt H.size none [] H1 := ⟨_, 0, by rw [← hH1]; exact push_same _ _, rfl, rfl⟩
  have z1 : H1.size = H.size + 1 := by rw [← hH1]; simp
  refine (newWriter_ok rfl).mono ?_
  rintro x H2 ⟨rfl, rfl⟩
  have f2 : Frm [] H1 (H1.push (.cells #[.iface 58 (.pointer (some ⟨H.size, 0, none⟩)), strVal [], .pointer none] 105 (0, 0))) := Frm.push _ _ _
  have b2 := b1.frm f2 (by simp) (by simp)
  have w2 : WrAt H1.size (.iface 58 (.pointer (some ⟨H.size, 0, none⟩))) [] (.pointer none) (H1.push (.cells #[.iface 58 (.pointer (some ⟨H.size, 0, none⟩)), strVal [], .pointer none] 105 (0, 0))) := push_same _ _
  refine (setBoundary_ok w2 hb).mono ?_
  rintro x H3 ⟨rfl, w3, f3⟩
  have b3 := b2.frm f3 (by simp; omega) (by simp)
  have f13 : Frm [] H H3 := ⟨by have := f2.size; have := f3.size; omega, fun i hi _ => by rw [f3.same i (by have := f2.size; omega) (by simp; omega), (f1.trans f2).same i hi (by simp)]⟩
  simp only [nilV2_neq_nil, Fld_ptr, add_mk, Nat.zero_add, List.getElem?_toArray, List.getElem?_cons_succ, List.getElem?_cons_zero, Get_some, Br_true, Br_false, nth_zero, nth_one, nth_two, extractV_tuple, fieldAddrV_ptr, nilV_ptr, load1V_ptr, pickV_bool, unV_not, lenV_slice, capV_slice]
  refine ⟨fun n vs H' => vs = [.int .i64 0] ∧ H' = H3, ⟨0, rfl, rfl⟩, ?_⟩
  rintro n vs _ ⟨rfl, rfl⟩
  have d0 : decide ((0 : Int) < ((0 : Nat) : Int)) = false := by decide
  simp only [Fld_ptr, add_mk, Nat.zero_add, List.getElem?_toArray, List.getElem?_cons_succ, List.getElem?_cons_zero, Get_some, Br_true, Br_false, nth_zero, nth_one, nth_two, extractV_tuple, fieldAddrV_ptr, nilV_ptr, load1V_ptr, pickV_bool, unV_not, lenV_slice, capV_slice, arithV_add, arithV_sub, arithV_eql, arithV_neq, arithV_lss, arithV_leq, arithV_gtr, arithV_geq, intConvV_int, d0]
  refine (close_nil w3 b3 (by simp; omega)).mono ?_
  rintro x H4 ⟨rfl, k', b4, f4, hk⟩
  refine (bufBytes_ok b4).mono ?_
  rintro x H5 ⟨hx, hblk, rfl⟩
  simp only [nilV2_eql_nil, Fld_ptr, add_mk, Nat.zero_add, List.getElem?_toArray, List.getElem?_cons_succ, List.getElem?_cons_zero, Get_some, Br_true, Br_false, nth_zero, nth_one, nth_two, extractV_tuple, fieldAddrV_ptr, nilV_ptr, load1V_ptr, pickV_bool, unV_not, lenV_slice, capV_slice]
  refine ⟨x, rfl, by simpa using hx, Nat.le_trans f13.size f4.size, fun i hi _ => ?_⟩
  rw [f4.same i (by have := f13.size; omega) (by simp; omega), f13.same i hi (by simp)]
end Go.Cps
