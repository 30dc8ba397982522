/-
  A range over a string of ASCII; SetBoundary of a boundary that is taken.
  Conditions: each contract's own.
-/
import Derived.Test.YtfajmapajpfocaaGreatDoorL14
import Derived.Laws.RangeString
set_option linter.all false
namespace Go.Cps
open Go Go.Proofs

theorem ExecV.eq' {P : Program} {s : Sem Value} {H H' : Heap} {K : Value → Heap → Prop} {v : Value} (h : ∀ w, w.heap = H → ∃ w', s.run P w = .ok v w' ∧ Same w w' ∧ w'.heap = H') : ExecV P s H K = K v H' := by
  apply propext
  unfold ExecV
  constructor
  · intro hh
    have h1 := hh (at_ H) rfl
    obtain ⟨w', h2, _, h3⟩ := h (at_ H) rfl
    generalize s.run P (at_ H) = q at *
    subst h2
    rw [← h3]
    exact h1.2
  · intro hk w hw
    obtain ⟨w', h2, hs, h3⟩ := h w hw
    generalize s.run P w = q at *
    subst h2
    exact ⟨hs, by rw [h3]; exact hk⟩

theorem und9 : Tryz.prog.underlying 9 = some .string := by kernel_rfl
theorem range_str {s : ByteArray} {H : Heap} {K : Value → Heap → Prop} : ExecV Tryz.prog (Instr.range 9 (.string s)) H K = K (.pointer (some ⟨H.size, 0, none⟩)) (H.push (.stringIter s 0)) := by
  apply ExecV.eq'
  intro w hw
  subst hw
  exact ⟨_, run_range_string w 9 s und9, ⟨rfl, rfl, rfl⟩, rfl⟩

theorem next_str {s : ByteArray} {pos r : Nat} {H : Heap} {K : Value → Heap → Prop} (hr : H[r]? = some (.stringIter s pos)) (h : pos < s.size) (ha : (s[pos]'h).toNat < 128) :
    ExecV Tryz.prog (Instr.next (.pointer (some ⟨r, 0, none⟩)) true 0) H K = K (.tuple #[.bool true, .int .i64 pos, .int .i32 (s[pos]'h).toNat]) (upd H r (.stringIter s (pos + 1))) := by
  apply ExecV.eq'
  intro w hw
  subst hw
  refine ⟨{ w with heap := upd w.heap r (.stringIter s (pos + 1)) }, ?_, ⟨rfl, rfl, rfl⟩, rfl⟩
  simp only [Instr.next, getObj, setObj, Sem.run_bind, Sem.run, hr, Result.andThen, h, if_true, decode_ascii s pos h ha]
  simp [goInt, Sem.run, hr, upd, lt_of_some hr]
theorem next_end {s : ByteArray} {pos r : Nat} {H : Heap} {K : Value → Heap → Prop} (hr : H[r]? = some (.stringIter s pos)) (h : ¬ pos < s.size) :
    ExecV Tryz.prog (Instr.next (.pointer (some ⟨r, 0, none⟩)) true 0) H K = K (.tuple #[.bool false]) H := by
  apply ExecV.eq
  intro w hw
  subst hw
  simp [Instr.next, getObj, Sem.run, hr, h]

def alnum (n : Int) : Bool := (65 ≤ n && n ≤ 90) || (97 ≤ n && n ≤ 122) || (48 ≤ n && n ≤ 57)
def punct (n : Int) : Bool := n == 39 || n == 40 || n == 41 || n == 43 || n == 95 || n == 44 || n == 45 || n == 46 || n == 47 || n == 58 || n == 61 || n == 63
def bchar (b : UInt8) : Bool := alnum b.toNat || punct b.toNat || b == 32
structure BdOk (l : List UInt8) : Prop where
  chars : ∀ b ∈ l, bchar b = true
  pos : 0 < l.length
  len : l.length ≤ 70
  last : l[l.length - 1]? ≠ some 32

theorem bchar_ascii {b : UInt8} (h : bchar b = true) : b.toNat < 128 := by
  simp only [bchar, alnum, punct, Bool.or_eq_true, Bool.and_eq_true, decide_eq_true_eq, beq_iff_eq] at h
  rcases h with (h | h) | h
  · omega
  · omega
  · subst h; decide

/-- a Writer's block -/
def WrAt (wr : Nat) (w : Value) (bd : List UInt8) (last : Value) (H : Heap) : Prop := H[wr]? = some (.cells #[w, strVal bd, last] 105 (0, 0))

theorem newWriter_ok {w : Value} {H : Heap} (hw : isOne w = true) : CallsH Tryz.prog 30 #[w] H fun x H' => x = .pointer (some ⟨H.size, 0, none⟩) ∧ H' = H.push (.cells #[w, strVal [], .pointer none] 105 (0, 0)) := by
  apply s30
  have e : fillV #[(0, 1), (1, 1), (2, 1)] #[.nilIface, (.string ⟨#[]⟩), (.pointer none)] [(0, w), (1, (.string ⟨#[]⟩))] = some #[w, .string ⟨#[]⟩, .pointer none] := by
    rw [fillV_cons hw rfl (by simp), fillV_cons rfl rfl (by simp), fillV_nil]; rfl
  simp only [c30, e, Option.map_some, Get_some, New, Value.cells]
  exact ⟨trivial, rfl⟩

theorem setBoundary_ok {wr : Nat} {w : Value} {bd0 bd : List UInt8} {H : Heap} (h : WrAt wr w bd0 (.pointer none) H) (hb : BdOk bd) :
    CallsH Tryz.prog 31 #[.pointer (some ⟨wr, 0, none⟩), strVal bd] H fun x H' => x = .nilIface ∧ WrAt wr w bd (.pointer none) H' ∧ Frm [wr] H H' := by
  have hpos := hb.pos
  have hlen := hb.len
  have hsz : (⟨bd.toArray⟩ : ByteArray).size = bd.length := bstr_size bd
  apply s31
  have hl : lenStrV (strVal bd) = some (.int .i64 bd.length) := by simp [strVal, bstr_size]
  simp only [c31, Fld_ptr, add_mk, Nat.zero_add, List.getElem?_toArray, List.getElem?_cons_succ, List.getElem?_cons_zero, Get_some, Br_true, Br_false, nth_zero, nth_one, nth_two, extractV_tuple, fieldAddrV_ptr, nilV_ptr, load1V_ptr, pickV_bool, unV_not, lenV_slice, capV_slice, arithV_add, arithV_sub, arithV_eql, arithV_neq, arithV_lss, arithV_leq, arithV_gtr, arithV_geq, intConvV_int, cellH_of h, nilV2_neq_ptr, Option.isNone_none, Bool.not_true, hl]
  refine Join_direct ?_
  have d1 : decide ((bd.length : Int) < 1) = false := by simp; omega
  have d2 : decide ((bd.length : Int) > 70) = false := by simp; omega
  have e1 : IntKind.i64.wrap ((bd.length : Int) - 1) = (bd.length : Int) - 1 := wrap_i64 (by omega) (by omega)
  simp only [Fld_ptr, add_mk, Nat.zero_add, List.getElem?_toArray, List.getElem?_cons_succ, List.getElem?_cons_zero, Get_some, Br_true, Br_false, nth_zero, nth_one, nth_two, extractV_tuple, fieldAddrV_ptr, nilV_ptr, load1V_ptr, pickV_bool, unV_not, lenV_slice, capV_slice, arithV_add, arithV_sub, arithV_eql, arithV_neq, arithV_lss, arithV_leq, arithV_gtr, arithV_geq, intConvV_int, d1, d2, Bool.false_eq_true, if_false, e1]
  rw [strVal, range_str]
  have h0 : (H.push (.stringIter ⟨bd.toArray⟩ 0))[wr]? = some (.cells #[w, strVal bd0, .pointer none] 105 (0, 0)) := push_old h
  refine ⟨fun n vs H' => ∃ pos, vs = [] ∧ n = bd.length - pos ∧ pos ≤ bd.length ∧ H'[H.size]? = some (.stringIter ⟨bd.toArray⟩ pos) ∧ H'[wr]? = some (.cells #[w, strVal bd0, .pointer none] 105 (0, 0)) ∧ Frm [] H H',
    ⟨_, 0, rfl, rfl, Nat.zero_le _, push_same _ _, h0, Frm.push _ _ _⟩, ?_⟩
  rintro n vs H1 ⟨pos, rfl, rfl, hp, hit, hw1, f1⟩
  by_cases hlt : pos < bd.length
  · have hbp : (⟨bd.toArray⟩ : ByteArray)[pos]'(by rw [hsz]; exact hlt) = bd[pos] := rfl
    have hch := hb.chars _ (List.getElem_mem hlt)
    rw [next_str hit (by rw [hsz]; exact hlt) (by rw [hbp]; exact bchar_ascii hch), hbp]
    generalize hH2 : upd H1 H.size (.stringIter ⟨bd.toArray⟩ (pos + 1)) = H2
    have f2 : Frm [H.size] H1 H2 := by rw [← hH2]; exact Frm.upd _ (by simp)
    have hit2 : H2[H.size]? = some (.stringIter ⟨bd.toArray⟩ (pos + 1)) := by rw [← hH2]; exact upd_same (lt_of_some hit)
    have hne : wr ≠ H.size := by have := lt_of_some h; omega
    have hw2 := f2.get hw1 (by simpa using hne)
    have f12 : Frm [] H H2 := ⟨Nat.le_trans f1.size f2.size, fun k hk hn => by rw [f2.same k (Nat.lt_of_lt_of_le hk f1.size) (by simp; omega), f1.same k hk hn]⟩
    have hround : ∃ m, m < bd.length - pos ∧ ∃ pos', True ∧ m = bd.length - pos' ∧ pos' ≤ bd.length ∧ H2[H.size]? = some (.stringIter ⟨bd.toArray⟩ pos') ∧ H2[wr]? = some (.cells #[w, strVal bd0, .pointer none] 105 (0, 0)) ∧ Frm [] H H2 :=
      ⟨_, by omega, pos + 1, trivial, rfl, hlt, hit2, hw2, f12⟩
    generalize hcv : ((bd[pos].toNat : Nat) : Int) = c
    simp only [Fld_ptr, add_mk, Nat.zero_add, List.getElem?_toArray, List.getElem?_cons_succ, List.getElem?_cons_zero, Get_some, Br_true, Br_false, nth_zero, nth_one, nth_two, extractV_tuple, fieldAddrV_ptr, nilV_ptr, load1V_ptr, pickV_bool, unV_not, lenV_slice, capV_slice, arithV_add, arithV_sub, arithV_eql, arithV_neq, arithV_lss, arithV_leq, arithV_gtr, arithV_geq, intConvV_int]
    refine ⟨fun vs H' => vs = [.bool (alnum c)] ∧ H' = H2, ?_, ?_⟩
    · refine Br_intro (fun h1 => ?_) (fun h1 => ?_) <;> simp only [Fld_ptr, add_mk, Nat.zero_add, List.getElem?_toArray, List.getElem?_cons_succ, List.getElem?_cons_zero, Get_some, Br_true, Br_false, nth_zero, nth_one, nth_two, extractV_tuple, fieldAddrV_ptr, nilV_ptr, load1V_ptr, pickV_bool, unV_not, lenV_slice, capV_slice, Bool.false_eq_true, if_false, if_true] <;> repeat' (first | refine Br_intro (fun h2 => ?_) (fun h2 => ?_) | simp only [Fld_ptr, add_mk, Nat.zero_add, List.getElem?_toArray, List.getElem?_cons_succ, List.getElem?_cons_zero, Get_some, Br_true, Br_false, nth_zero, nth_one, nth_two, extractV_tuple, fieldAddrV_ptr, nilV_ptr, load1V_ptr, pickV_bool, unV_not, lenV_slice, capV_slice, arithV_add, arithV_sub, arithV_eql, arithV_neq, arithV_lss, arithV_leq, arithV_gtr, arithV_geq, intConvV_int, Bool.false_eq_true, if_false, if_true])
      all_goals (simp only [decide_eq_true_eq, decide_eq_false_iff_not] at *; try simp only [List.cons.injEq, Value.bool.injEq, and_true]; rw [Bool.eq_iff_iff]; simp only [alnum, Bool.or_eq_true, Bool.and_eq_true, decide_eq_true_eq, true_iff, false_iff, eq_self, Bool.false_eq_true]; omega)
    · rintro _ H2 ⟨rfl, rfl⟩
      simp only [Fld_ptr, add_mk, Nat.zero_add, List.getElem?_toArray, List.getElem?_cons_succ, List.getElem?_cons_zero, Get_some, Br_true, Br_false, nth_zero, nth_one, nth_two, extractV_tuple, fieldAddrV_ptr, nilV_ptr, load1V_ptr, pickV_bool, unV_not, lenV_slice, capV_slice]
      refine Br_intro (fun h1 => hround) (fun h1 => ?_)
      refine ⟨fun _ _ => False, ?_, fun _ _ h => h.elim⟩
      refine ⟨fun vs H' => vs = [.bool (punct c)] ∧ H' = H2, ?_, ?_⟩
      · simp only [Fld_ptr, add_mk, Nat.zero_add, List.getElem?_toArray, List.getElem?_cons_succ, List.getElem?_cons_zero, Get_some, Br_true, Br_false, nth_zero, nth_one, nth_two, extractV_tuple, fieldAddrV_ptr, nilV_ptr, load1V_ptr, pickV_bool, unV_not, lenV_slice, capV_slice, arithV_add, arithV_sub, arithV_eql, arithV_neq, arithV_lss, arithV_leq, arithV_gtr, arithV_geq, intConvV_int]
        repeat' (first | refine Br_intro (fun h2 => ?_) (fun h2 => ?_) | simp only [Fld_ptr, add_mk, Nat.zero_add, List.getElem?_toArray, List.getElem?_cons_succ, List.getElem?_cons_zero, Get_some, Br_true, Br_false, nth_zero, nth_one, nth_two, extractV_tuple, fieldAddrV_ptr, nilV_ptr, load1V_ptr, pickV_bool, unV_not, lenV_slice, capV_slice, arithV_add, arithV_sub, arithV_eql, arithV_neq, arithV_lss, arithV_leq, arithV_gtr, arithV_geq, intConvV_int])
        all_goals (try simp only [beq_iff_eq, beq_eq_false_iff_ne] at *; try simp only [List.cons.injEq, Value.bool.injEq, and_true]; rw [Bool.eq_iff_iff]; simp only [punct, Bool.or_eq_true, beq_iff_eq]; omega)
      · rintro _ H2 ⟨rfl, rfl⟩
        simp only [Fld_ptr, add_mk, Nat.zero_add, List.getElem?_toArray, List.getElem?_cons_succ, List.getElem?_cons_zero, Get_some, Br_true, Br_false, nth_zero, nth_one, nth_two, extractV_tuple, fieldAddrV_ptr, nilV_ptr, load1V_ptr, pickV_bool, unV_not, lenV_slice, capV_slice]
        refine Br_intro (fun h2 => hround) (fun h2 => ?_)
        have hc32 : c = 32 := by
          simp only [bchar, Bool.or_eq_true, beq_iff_eq, hcv, h1, h2, Bool.false_eq_true, false_or] at hch
          rw [← hcv, hch]; rfl
        have hne2 : pos ≠ bd.length - 1 := by
          intro e
          apply hb.last
          rw [← e, List.getElem?_eq_getElem hlt]
          congr 1
          apply UInt8.toNat_inj.1
          have : (32 : UInt8).toNat = 32 := rfl
          omega
        have d3 : ((pos : Int) != (bd.length : Int) - 1) = true := by simp; omega
        simp only [arithV_add, arithV_sub, arithV_eql, arithV_neq, arithV_lss, arithV_leq, arithV_gtr, arithV_geq, intConvV_int, Fld_ptr, add_mk, Nat.zero_add, List.getElem?_toArray, List.getElem?_cons_succ, List.getElem?_cons_zero, Get_some, Br_true, Br_false, nth_zero, nth_one, nth_two, extractV_tuple, fieldAddrV_ptr, nilV_ptr, load1V_ptr, pickV_bool, unV_not, lenV_slice, capV_slice, hc32, beq_self_eq_true, d3]
        exact hround
  · rw [next_end hit (by rw [hsz]; exact hlt)]
    simp only [Fld_ptr, add_mk, Nat.zero_add, List.getElem?_toArray, List.getElem?_cons_succ, List.getElem?_cons_zero, Get_some, Br_true, Br_false, nth_zero, nth_one, nth_two, extractV_tuple, fieldAddrV_ptr, nilV_ptr, load1V_ptr, pickV_bool, unV_not, lenV_slice, capV_slice]
    refine Store_of hw1 (by simp) rfl fun H2 hb2 f2 z2 => ?_
    simp only [List.setIfInBounds_toArray, List.set_cons_succ, List.set_cons_zero] at hb2
    exact ⟨trivial, hb2, (f1.mono (by simp)).trans f2⟩
end Go.Cps
