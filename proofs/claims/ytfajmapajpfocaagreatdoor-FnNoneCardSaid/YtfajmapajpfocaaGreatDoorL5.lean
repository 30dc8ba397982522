/-
  The stack of readers under a multipart Reader: bufio.Reader over the sticky reader over bytes.Reader; its state; sticky Read; fill.
  Conditions: each contract's own.
-/
import Derived.Test.YtfajmapajpfocaaGreatDoorL4
set_option linter.all false
namespace Go.Cps
open Go Go.Proofs

/-- bytes m laid over buf from o on -/
def spl (buf : List UInt8) (o : Nat) (m : List UInt8) : List UInt8 := buf.take o ++ m ++ buf.drop (o + m.length)
theorem spl_nil (buf : List UInt8) (o : Nat) : spl buf o [] = buf := by simp [spl]
theorem spl_length {buf : List UInt8} {o : Nat} {m : List UInt8} (h : o + m.length ≤ buf.length) : (spl buf o m).length = buf.length := by
  simp [spl]; omega
theorem spl_take {buf : List UInt8} {o : Nat} {m : List UInt8} (h : o + m.length ≤ buf.length) : (spl buf o m).take (o + m.length) = buf.take o ++ m := by
  rw [spl, List.take_left']
  simp; omega
theorem putAt_spl {buf : List UInt8} {o : Nat} {m : List UInt8} (h : o + m.length ≤ buf.length) : putAt (buf.map byteV).toArray o (m.map byteV) = ((spl buf o m).map byteV).toArray := by
  apply Array.ext_getElem?
  intro i
  rw [putAt_get _ _ _ _ (by simpa using h)]
  simp only [List.length_map, List.getElem?_toArray, List.getElem?_map, spl]
  have hl : (buf.take o).length = o := by simp; omega
  by_cases h1 : i < o
  · rw [if_neg (by omega), List.append_assoc, List.getElem?_append_left (by omega), List.getElem?_take, if_pos h1]
  · by_cases h2 : i < o + m.length
    · rw [if_pos ⟨by omega, h2⟩, List.append_assoc, List.getElem?_append_right (by omega), hl, List.getElem?_append_left (by omega)]
    · rw [if_neg (by omega), List.getElem?_append_right (by simp; omega), List.getElem?_drop]
      congr 2
      simp; omega

/-- what does not change of a stack of readers -/
structure Stk where
  b : Nat
  bf : Nat
  st : Nat
  br : Nat
  tb : TypeId
  tbf : TypeId
  ts : TypeId
  tr : TypeId
  v : Value
  l : List UInt8
  Et : TypeId
  Ev : Value
/-- what does -/
structure St where
  buf : List UInt8
  r : Nat
  w : Nat
  pos : Nat
  err : Bool
  serr : Bool
  lb : Int
  lr : Int
  pv : Value
def Stk.er (S : Stk) (e : Bool) : Value := if e then .iface S.Et S.Ev else .nilIface
def Stk.ids (S : Stk) : List Nat := [S.b, S.bf, S.st, S.br]
def bufCells (S : Stk) (s : St) : Array Value := #[.slice (some ⟨S.bf, 0, none⟩) 4096 4096, .iface 123 (.pointer (some ⟨S.st, 0, none⟩)), .int .i64 s.r, .int .i64 s.w, S.er s.err, .int .i64 s.lb, .int .i64 s.lr]
structure RdAt (S : Stk) (s : St) (H : Heap) : Prop where
  hb : H[S.b]? = some (.cells (bufCells S s) S.tb (0, 0))
  hbf : H[S.bf]? = some (.cells (s.buf.map byteV).toArray S.tbf (0, 0))
  hst : H[S.st]? = some (.cells #[.iface 128 (.pointer (some ⟨S.br, 0, none⟩)), S.er s.serr] S.ts (0, 0))
  hbr : H[S.br]? = some (.cells #[S.v, .int .i64 s.pos, s.pv] S.tr (0, 0))
  hv : IsBytes H S.v S.l
  hE : EOFat H (.iface S.Et S.Ev)
  blen : s.buf.length = 4096
  rw : s.r ≤ s.w
  w4 : s.w ≤ 4096
  pl : s.pos ≤ S.l.length
  he : s.err = true → s.pos = S.l.length
  hs : s.serr = true → s.pos = S.l.length
  small : S.l.length < 2 ^ 62
  d0 : 0 ∉ S.ids
  d1 : S.ids.Nodup
  d2 : ∀ x, blk S.v = some x → x ∉ S.ids
def St.rest (S : Stk) (s : St) : List UInt8 := (s.buf.take s.w).drop s.r ++ S.l.drop s.pos

theorem RdAt.ne {S : Stk} {s : St} {H : Heap} (h : RdAt S s H) : S.b ≠ S.bf ∧ S.b ≠ S.st ∧ S.b ≠ S.br ∧ S.bf ≠ S.st ∧ S.bf ≠ S.br ∧ S.st ≠ S.br := by
  have := h.d1
  simp only [Stk.ids, List.nodup_cons, List.mem_cons, not_or, List.not_mem_nil, not_false_eq_true, and_true, List.nodup_nil] at this
  omega
theorem RdAt.frm {S : Stk} {s : St} {H H' : Heap} {X : List Nat} (h : RdAt S s H) (f : Frm X H H') (hx : ∀ x ∈ S.ids, x ∉ X) (hvx : ∀ x, blk S.v = some x → x ∉ X) (h0 : 0 ∉ X) : RdAt S s H' :=
  { h with hb := f.get h.hb (hx _ (by simp [Stk.ids])), hbf := f.get h.hbf (hx _ (by simp [Stk.ids])), hst := f.get h.hst (hx _ (by simp [Stk.ids])), hbr := f.get h.hbr (hx _ (by simp [Stk.ids])), hv := h.hv.frm f hvx, hE := h.hE.frm f h0 }
theorem RdAt.bytes {S : Stk} {s : St} {H : Heap} (h : RdAt S s H) : IsBytes H (.slice (some ⟨S.bf, 0, none⟩) 4096 4096) s.buf := by
  refine .inl ⟨S.bf, 0, 4096, by rw [h.blen], by rw [h.blen]; exact Nat.le_refl _, fun j hj => ?_⟩
  rw [cellH_of h.hbf]
  simp

/-- a slice of the buffer, from i to j -/
theorem RdAt.part {S : Stk} {s : St} {H : Heap} (h : RdAt S s H) {i j : Nat} (h1 : i ≤ j) (h2 : j ≤ 4096) : ∃ u, (∀ k k', sliceV 1 (.slice (some ⟨S.bf, 0, none⟩) 4096 4096) (some (.int k i)) (some (.int k' j)) none = some u) ∧ IsBytes H u ((s.buf.take j).drop i) := by
  have e := h.bytes.sub (lo := i) (hi := j) h1 (by rw [h.blen]; exact h2)
  refine ⟨_, fun k k' => sliceV_of h1 h2 k k', ?_⟩
  simpa [apply_ite] using e

theorem invoke_of {P : Program} {name : String} {t : TypeId} {x : Value} {args : Array Value} {H : Heap} {K : Value → Heap → Prop} (f : FuncId) (h1 : methodRes P t name = some f) (h2 : hasBody P f = true) (h : CallsH P f (#[x] ++ args) H K) : Invoke P name (.iface t x) args H K :=
  ⟨t, x, f, rfl, h1, h2, h⟩
theorem meth128 : methodRes Tryz.prog 128 "Read" = some 220 := by kernel_rfl
theorem meth123 : methodRes Tryz.prog 123 "Read" = some 218 := by kernel_rfl
theorem body220 : hasBody Tryz.prog 220 = true := by kernel_rfl
theorem body218 : hasBody Tryz.prog 218 = true := by kernel_rfl

@[simp] theorem er_true (S : Stk) : S.er true = .iface S.Et S.Ev := rfl
@[simp] theorem er_false (S : Stk) : S.er false = .nilIface := rfl
theorem isOne_er (S : Stk) (e : Bool) : isOne (S.er e) = true := by cases e <;> rfl
theorem neq_er (S : Stk) (e : Bool) : nilV2 .neq .nilIface (S.er e) = some (.bool e) := by cases e <;> rfl

/- the sticky reader's Read, into the buffer from w on -/
theorem sticky_ok {S : Stk} {s : St} {H : Heap} {dc : Nat} (h : RdAt S s H) (hw : s.w < 4096) :
    CallsH Tryz.prog 218 #[.pointer (some ⟨S.st, 0, none⟩), .slice (some ⟨S.bf, s.w, none⟩) (4096 - s.w) dc] H fun x H' => ∃ n pv, n = min (S.l.length - s.pos) (4096 - s.w) ∧
      x = .tuple #[.int .i64 n, S.er (decide (s.pos = S.l.length))] ∧
      RdAt S { s with buf := spl s.buf s.w ((S.l.drop s.pos).take n), pos := s.pos + n, serr := decide (s.pos = S.l.length), pv := pv } H' ∧ Frm S.ids H H' ∧ H'.size = H.size := by
  obtain ⟨n1, n2, n3, n4, n5, n6⟩ := h.ne
  apply s218
  simp only [c218, Fld_ptr, add_mk, Nat.zero_add, List.getElem?_toArray, List.getElem?_cons_succ, List.getElem?_cons_zero, Get_some, Br_true, Br_false, nth_zero, nth_one, nth_two, extractV_tuple, fieldAddrV_ptr, nilV_ptr, load1V_ptr, pickV_bool, unV_not, lenV_slice, capV_slice, cellH_of h.hst, neq_er]
  refine Br_intro (fun hs => ?_) (fun hs => ?_)
  · have hp := h.hs hs
    refine ⟨0, s.pv, by omega, by simp [hs, hp], ?_, Frm.refl _ _, trivial⟩
    simp only [List.take_zero, spl_nil, Nat.add_zero, hp, decide_true]
    rw [← hp]
    rw [show ({ s with serr := true } : St) = s by rw [← hs]]
    exact h
  · by_cases hp : s.pos = S.l.length
    · refine invoke_of 220 meth128 body220 ?_
      refine (bread_end h.hbr h.hv (by omega) h.hE).mono ?_
      rintro x H' ⟨rfl, rfl⟩
      simp only [Fld_ptr, add_mk, Nat.zero_add, List.getElem?_toArray, List.getElem?_cons_succ, List.getElem?_cons_zero, Get_some, Br_true, Br_false, nth_zero, nth_one, nth_two, extractV_tuple, fieldAddrV_ptr, nilV_ptr, load1V_ptr, pickV_bool, unV_not, lenV_slice, capV_slice]
      refine Store_of h.hst (by simp) (isOne_er S true) fun H1 hb1 f1 z1 => ?_
      simp only [List.setIfInBounds_toArray, List.set_cons_succ, List.set_cons_zero] at hb1
      simp only [Fld_ptr, add_mk, Nat.zero_add, List.getElem?_toArray, List.getElem?_cons_succ, List.getElem?_cons_zero, Get_some, Br_true, Br_false, nth_zero, nth_one, nth_two, extractV_tuple, fieldAddrV_ptr, nilV_ptr, load1V_ptr, pickV_bool, unV_not, lenV_slice, capV_slice, cellH_of hb1]
      refine ⟨0, s.pv, by omega, by simp [hp], ?_, f1.mono (by simp [Stk.ids]), z1⟩
      simp only [List.take_zero, spl_nil, Nat.add_zero, hp, decide_true]
      rw [← hp]
      exact { h with hb := f1.get h.hb (by simpa using n2), hbf := f1.get h.hbf (by simpa using n4), hst := hb1, hbr := f1.get h.hbr (by simpa using n6.symm), hv := h.hv.frm f1 (fun x hx => by have := h.d2 x hx; simp [Stk.ids] at this ⊢; omega), hE := h.hE.frm f1 (by have := h.d0; simp [Stk.ids] at this ⊢; omega), hs := fun _ => hp }
    · have hlt : s.pos < S.l.length := by have := h.pl; omega
      refine invoke_of 220 meth128 body220 ?_
      refine (bread_some h.hbr h.hv hlt h.small h.hbf (by simp [h.blen]; omega) (fun e => n5 e.symm) (fun x hx => by have := h.d2 x hx; simp [Stk.ids] at this; omega)).mono ?_
      rintro x H' ⟨rfl, hbr', hbf', f, z⟩
      simp only [Fld_ptr, add_mk, Nat.zero_add, List.getElem?_toArray, List.getElem?_cons_succ, List.getElem?_cons_zero, Get_some, Br_true, Br_false, nth_zero, nth_one, nth_two, extractV_tuple, fieldAddrV_ptr, nilV_ptr, load1V_ptr, pickV_bool, unV_not, lenV_slice, capV_slice]
      have hst' := f.get h.hst (by simp; omega)
      refine Store_of hst' (by simp) (isOne_er S false) fun H1 hb1 f1 z1 => ?_
      simp only [List.setIfInBounds_toArray, List.set_cons_succ, List.set_cons_zero] at hb1
      simp only [Fld_ptr, add_mk, Nat.zero_add, List.getElem?_toArray, List.getElem?_cons_succ, List.getElem?_cons_zero, Get_some, Br_true, Br_false, nth_zero, nth_one, nth_two, extractV_tuple, fieldAddrV_ptr, nilV_ptr, load1V_ptr, pickV_bool, unV_not, lenV_slice, capV_slice, cellH_of hb1]
      have hm : ((S.l.drop s.pos).take (min (S.l.length - s.pos) (4096 - s.w))).length = min (S.l.length - s.pos) (4096 - s.w) := by simp
      have ff : Frm S.ids H H1 := (f.mono (by simp [Stk.ids])).trans (f1.mono (by simp [Stk.ids]))
      rw [putAt_spl (by rw [hm, h.blen]; omega)] at hbf'
      refine ⟨_, .int .i64 (-1), rfl, by simp [hp], ?_, ff, by omega⟩
      have hd : decide (s.pos = S.l.length) = false := by simpa using hp
      rw [hd]
      exact { h with hb := f1.get (f.get h.hb (by simp; omega)) (by simpa using n2), hbf := f1.get hbf' (by simpa using n4), hst := hb1, hbr := f1.get hbr' (by simpa using n6.symm), hv := h.hv.frm ff (fun x hx => h.d2 x hx), hE := h.hE.frm ff h.d0, blen := (spl_length (by rw [hm, h.blen]; omega)).trans h.blen, pl := by simp only []; omega, he := fun e => absurd (h.he e) hp, hs := fun e => by simp at e }
end Go.Cps
