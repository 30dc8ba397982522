/-
  A part of the proof: readMIMEHeader: the lines of a header, made a map. Close of a Writer; Write of no parts. spec.letter, spec.within, spec.Boundary; the statement FnNone over any heap whose io.EOF is an error of errors.New. readMIMEHeader: the loop over the lines.
  Conditions: each contract's own.
-/
import Derived.Test.YtfajmapajpfocaaGreatDoorF13
import Derived.Test.YtfajmapajpfocaaGreatDoorF15
import Derived.Test.YtfajmapajpfocaaGreatDoorF21
set_option linter.all false
namespace Go.Cps
open Go Go.Proofs
theorem makeStrs_of {n : Nat} {H : Heap} {K : Value → Heap → Prop} (hn : n ≤ 1000) (hK : ∀ H', Frm [] H H' → H'.size = H.size + 1 → (∃ cells : Array Value, H'[H.size]? = some (.cells cells 9 (0, 0)) ∧ cells.size = n) → K (.slice (some ⟨H.size, 0, none⟩) n n) H') :
    MakeSlice 9 1 16 #[(.string ⟨#[]⟩)] (.int .i64 n) (.int .i64 n) H K := by
  refine ⟨_, _, n, n, rfl, rfl, Nat.le_refl _, by omega, by omega, ?_⟩
  exact hK _ (Frm.push _ _ _) (by simp) ⟨_, push_same _ _, by simp⟩
theorem RdAt.ids_lt {S : Stk} {s : St} {H : Heap} (h : RdAt S s H) : ∀ x ∈ S.ids, x < H.size := by
  intro x hx
  simp only [Stk.ids, List.mem_cons, List.not_mem_nil, or_false] at hx
  rcases hx with rfl | rfl | rfl | rfl
  · exact lt_of_some h.hb
  · exact lt_of_some h.hbf
  · exact lt_of_some h.hst
  · exact lt_of_some h.hbr
theorem Ents.lt {H : Heap} {m N : Nat} {E : List Ent} (h : Ents H m N E) : ∀ x ∈ Ents.blks m E, x < H.size := by
  intro x hx
  simp only [Ents.blks, List.mem_cons, List.mem_map] at hx
  rcases hx with rfl | ⟨e, he, rfl⟩
  · obtain ⟨es, c, h0, _⟩ := h.map
    exact lt_of_some h0
  · obtain ⟨cs, h0, _⟩ := h.strs e he
    exact lt_of_some h0
theorem Frm.up {S X : List Nat} {H0 a b : Heap} (h : Frm S H0 a) (f : Frm X a b) (hX : ∀ x ∈ X, x ∈ S ∨ H0.size ≤ x) : Frm S H0 b :=
  ⟨Nat.le_trans h.size f.size, fun k hk hn => by
    rw [f.same k (Nat.lt_of_lt_of_le hk h.size) (fun hm => by
      rcases hX k hm with h1 | h1
      · exact hn h1
      · omega), h.same k hk hn]⟩
structure HdAt (S : Stk) (tr : Nat) (B : Nat) (H : Heap) (m N : Nat) (E : List Ent) (k : Option Nat) (st : Value) (n : Nat) (sb : Option Nat) (s : St) : Prop where
  rd : RdAt S s H
  tr_ : ∃ tbuf, TR S tr tbuf H ∧ OwnE H k tbuf
  ents : Ents H m N E
  left : Left H E st n sb
  full : Full4 H
  base : B ≤ H.size
  trB : tr < B
  idB : ∀ x ∈ S.ids, x < B
  vB : ∀ x, blk S.v = some x → x < B
  blkB : ∀ x ∈ Ents.blks m E, B ≤ x ∧ k ≠ some x
  sbB : ∀ b, sb = some b → B ≤ b ∧ b < H.size ∧ k ≠ some b ∧ b ≠ m
  kB : ∀ g, k = some g → B ≤ g ∧ g < H.size
  htr : tr ∉ S.ids
  hvt : blk S.v ≠ some tr
  tr0 : tr ≠ 0
  four : 4 ∉ S.ids ∧ 4 ≠ tr ∧ 4 < B
theorem HdAt.ents_frm {S : Stk} {tr B : Nat} {H H' : Heap} {m N : Nat} {E : List Ent} {k : Option Nat} {st : Value} {n : Nat} {sb : Option Nat} {s : St} {X : List Nat} (h : HdAt S tr B H m N E k st n sb s) (f : Frm X H H') (hX : ∀ x ∈ X, x < B ∨ k = some x ∨ H.size ≤ x) : Ents H' m N E ∧ Left H' E st n sb := by
  refine ⟨h.ents.frm f fun x hx hm => ?_, h.left.frm f fun b hb hm => ?_⟩
  · obtain ⟨h1, h2⟩ := h.blkB x hx
    have h3 := h.ents.lt x hx
    rcases hX x hm with h4 | h4 | h4
    · omega
    · exact h2 h4
    · omega
  · obtain ⟨h1, h2, h3, _⟩ := h.sbB b hb
    rcases hX b hm with h4 | h4 | h4
    · omega
    · exact h3 h4
    · omega
end Go.Cps
namespace Go.Cps
open Go Go.Proofs
theorem meth58 : methodRes Tryz.prog 58 "Write" = some 209 := by kernel_rfl
theorem body209 : hasBody Tryz.prog 209 = true := by kernel_rfl
theorem close_core {wr b : Nat} {k : Option Nat} {bd l : List UInt8} {last : Value} {H : Heap} {R : Value → Heap → Prop} (h : WrAt wr (.iface 58 (.pointer (some ⟨b, 0, none⟩))) bd last H) (hb : BufAt b k l H) (hl : l.length + bd.length + 8 < 2 ^ 40)
    (hR : ∀ k' H', BufAt b k' (l ++ ([13, 10, 45, 45] ++ bd ++ [45, 45, 13, 10])) H' → Frm (b :: k.toList) H H' → (k' = k ∨ ∃ g, k' = some g ∧ H.size ≤ g) → R .nilIface H') :
    Get (cellH H ⟨wr, 0, none⟩) fun x26 =>
    Get (cellH H ⟨wr, 1, none⟩) fun x30 =>
    Get (strV .add (.string ⟨#[13, 10, 45, 45]⟩) x30) fun x31 =>
    Get (strV .add x31 (.string ⟨#[45, 45, 13, 10]⟩)) fun x32 =>
    ToBytes 5 x32 H fun x33 H =>
    (cellH H ⟨wr, 0, none⟩ = some x26 ∧ True) ∧
    Get (nilV x26) fun _ =>
    Invoke Tryz.prog "Write" x26 #[x33] H fun x36 H =>
    Get (extractV x36 0) fun _ =>
    Get (extractV x36 1) fun x38 =>
    R x38 H := by
  have e1 : strV .add (.string ⟨#[13, 10, 45, 45]⟩) (strVal bd) = some (strVal ([13, 10, 45, 45] ++ bd)) := strV_add (a := [13, 10, 45, 45]) (b := bd) (by simp; omega)
  have e2 : strV .add (strVal ([13, 10, 45, 45] ++ bd)) (.string ⟨#[45, 45, 13, 10]⟩) = some (strVal ([13, 10, 45, 45] ++ bd ++ [45, 45, 13, 10])) := strV_add (a := [13, 10, 45, 45] ++ bd) (b := [45, 45, 13, 10]) (by simp; omega)
  simp only [Q0, Q1, Q2, Q3, Q4, Q5, Q6, Q7, Q8, Q9, Qa, Qb, Qc, Qd, Qe, Qf, Qg, Qh, Qi, Qj, cellH_of h, e1, e2]
  refine toBytes_of fun c H1 hc hr f1 z1 => ?_
  have h1 : WrAt wr (.iface 58 (.pointer (some ⟨b, 0, none⟩))) bd last H1 := f1.get h (by simp)
  have hb1 := hb.frm f1 (by simp) (by simp)
  have hx := hr.bytes (o := 0) (c := c) (n := ([13, 10, 45, 45] ++ bd ++ [45, 45, 13, 10]).length) (by simp) hc
  rw [List.drop_zero, List.take_length] at hx
  have hbs : b < H.size := by obtain ⟨_, _, hb, _⟩ := hb; exact lt_of_some hb
  refine ⟨⟨by rw [cellH_of h1]; rfl, trivial⟩, ?_⟩
  simp only [nilV_iface, Q6]
  refine invoke_of 209 meth58 body209 ?_
  refine (bufWrite_ok hb1 hx (fun y hy => by simp [blk] at hy; omega) (by simp; omega)).mono ?_
  rintro x H2 ⟨rfl, k', hb2, f2, hk⟩
  simp only [Q0, Q1, Q2, Q3, Q4, Q5, Q6, Q7, Q8, Q9, Qa, Qb, Qc, Qd, Qe, Qf, Qg, Qh, Qi, Qj]
  refine hR k' H2 hb2 ((f1.mono (by simp)).trans f2) ?_
  rcases hk with rfl | ⟨g, rfl, hg⟩
  · exact .inl rfl
  · exact .inr ⟨g, rfl, by omega⟩
theorem close_nil {wr b : Nat} {k : Option Nat} {bd l : List UInt8} {H : Heap} (h : WrAt wr (.iface 58 (.pointer (some ⟨b, 0, none⟩))) bd (.pointer none) H) (hb : BufAt b k l H) (hl : l.length + bd.length + 8 < 2 ^ 40) :
    CallsH Tryz.prog 35 #[.pointer (some ⟨wr, 0, none⟩)] H fun x H' => x = .nilIface ∧ ∃ k', BufAt b k' (l ++ ([13, 10, 45, 45] ++ bd ++ [45, 45, 13, 10])) H' ∧ Frm (b :: k.toList) H H' ∧ (k' = k ∨ ∃ g, k' = some g ∧ H.size ≤ g) := by
  apply s35
  unfold c35
  refine Join_direct ?_
  simp only [Q0, Q1, Q2, Q3, Q4, Q5, Q6, Q7, Q8, Q9, Qa, Qb, Qc, Qd, Qe, Qf, Qg, Qh, Qi, Qj, cellH_of h, nilV2_neq_ptr, Option.isNone_none, Bool.not_true]
  have := close_core (R := fun x H' => x = .nilIface ∧ ∃ k', BufAt b k' (l ++ ([13, 10, 45, 45] ++ bd ++ [45, 45, 13, 10])) H' ∧ Frm (b :: k.toList) H H' ∧ (k' = k ∨ ∃ g, k' = some g ∧ H.size ≤ g)) h hb hl fun k' H' h1 h2 h3 => ⟨rfl, k', h1, h2, h3⟩
  simp only [Q0, Q1, Q2, Q3, Q4, Q5, Q6, Q7, Q8, Q9, Qa, Qb, Qc, Qd, Qe, Qf, Qg, Qh, Qi, Qj, cellH_of h] at this
  exact this
end Go.Cps
namespace Go.Cps
open Go Go.Proofs
theorem letter_ok {c : Int} {H : Heap} : CallsH Tryz.prog 28 #[.int .u8 c] H fun x H' => x = .bool (alnum c) ∧ H' = H := by
  apply s28
  unfold c28
  refine ⟨fun vs H' => vs = [.bool (alnum c)] ∧ H' = H, ?_, ?_⟩
  · simp only [Q0, Q1, Q2, Q3, Q4, Q5, Q6, Q7, Q8, Q9, Qa, Qb, Qc, Qd, Qe, Qf, Qg, Qh, Qi, Qj, Qk, Ql, Qm, Qn, Qo, Qp, Qq, Qr, Qs]
    refine Br_intro (fun h1 => ?_) (fun h1 => ?_) <;> simp only [Q0, Q1, Q2, Q3, Q4, Q5, Q6, Q7, Q8, Q9, Qa, Qb, Qc, Qd, Qe, Qf, Qg, Qh, Qi, Qj, Bool.false_eq_true, if_false, if_true] <;> repeat' (first | refine Br_intro (fun h2 => ?_) (fun h2 => ?_) | simp only [Q0, Q1, Q2, Q3, Q4, Q5, Q6, Q7, Q8, Q9, Qa, Qb, Qc, Qd, Qe, Qf, Qg, Qh, Qi, Qj, Qk, Ql, Qm, Qn, Qo, Qp, Qq, Qr, Qs, Bool.false_eq_true, if_false, if_true])
    all_goals (simp only [decide_eq_true_eq, decide_eq_false_iff_not] at *; try simp only [List.cons.injEq, Value.bool.injEq, and_true]; rw [Bool.eq_iff_iff]; simp only [alnum, Bool.or_eq_true, Bool.and_eq_true, decide_eq_true_eq, true_iff, false_iff, eq_self, Bool.false_eq_true]; omega)
  · rintro _ H' ⟨rfl, rfl⟩
    simp only [Q0, Q1, Q2, Q3, Q4, Q5, Q6, Q7, Q8, Q9, Qa, Qb, Qc, Qd, Qe, Qf, Qg, Qh, Qi, Qj, and_self]
theorem strIndex_of {l : List UInt8} {i : Nat} (h : i < l.length) : strIndexV (strVal l) (.int .i64 i) = some (byteV l[i]) := by
  have hs : i < (⟨l.toArray⟩ : ByteArray).size := by rw [bstr_size]; exact h
  have e : (⟨l.toArray⟩ : ByteArray)[i]? = some l[i] := by
    rw [getElem?_pos (⟨l.toArray⟩ : ByteArray) i hs]
    rfl
  simp [strIndexV, strVal, e, byteV]
theorem lenStr_of (l : List UInt8) : lenStrV (strVal l) = some (.int .i64 l.length) := by simp [strVal, bstr_size]
theorem within_ok {l : List UInt8} {b : UInt8} {H : Heap} (hl : l.length < 2 ^ 40) : CallsH Tryz.prog 29 #[strVal l, byteV b] H fun x H' => x = .bool (l.contains b) ∧ H' = H := by
  apply s29
  unfold c29
  refine ⟨fun n vs H' => ∃ i : Nat, vs = [.int .i64 i] ∧ n = l.length - i ∧ i ≤ l.length ∧ H' = H ∧ (l.take i).contains b = false, ⟨_, 0, rfl, rfl, Nat.zero_le _, rfl, by simp⟩, ?_⟩
  rintro n vs _ ⟨i, rfl, rfl, hi, rfl, hc⟩
  simp only [lenStr_of, Q0, Q1, Q2, Q3, Q4, Q5, Q6, Q7, Q8, Q9, Qa, Qb, Qc, Qd, Qe, Qf, Qg, Qh, Qi, Qj, Qk, Ql, Qm, Qn, Qo, Qp, Qq, Qr, Qs]
  by_cases hlt : i < l.length
  · have hd : decide ((i : Int) < (l.length : Int)) = true := by simp; exact hlt
    have hd2 : (l.take (i + 1)).contains b = (l[i] == b) := by
      rw [List.take_succ_eq_append_getElem hlt]
      simp only [List.contains_append, hc, Bool.false_or, List.contains_cons, List.contains_nil, Bool.or_false]
      rw [Bool.eq_iff_iff, beq_iff_eq, beq_iff_eq]
      exact eq_comm
    have e1 : IntKind.i64.wrap ((i : Int) + 1) = ((i + 1 : Nat) : Int) := by rw [wrap_i64 (by omega) (by omega)]; omega
    simp only [hd, Q0, Q1, Q2, Q3, Q4, Q5, Q6, Q7, Q8, Q9, Qa, Qb, Qc, Qd, Qe, Qf, Qg, Qh, Qi, Qj, strIndex_of hlt, byteV, Qk, Ql, Qm, Qn, Qo, Qp, Qq, Qr, Qs, byte_beq, e1]
    refine Br_intro (fun h1 => ?_) (fun h1 => ?_)
    · refine ⟨?_, trivial⟩
      have : l.contains b = true := by
        rw [List.contains_iff_mem]
        rw [beq_iff_eq] at h1
        rw [← h1]
        exact List.getElem_mem hlt
      rw [this]
    · exact ⟨_, by omega, i + 1, rfl, rfl, hlt, trivial, by rw [hd2, h1]⟩
  · have hd : decide ((i : Int) < (l.length : Int)) = false := by simp; omega
    simp only [hd, Q0, Q1, Q2, Q3, Q4, Q5, Q6, Q7, Q8, Q9, Qa, Qb, Qc, Qd, Qe, Qf, Qg, Qh, Qi, Qj]
    rw [List.take_of_length_le (by omega)] at hc
    rw [hc]
    exact ⟨rfl, trivial⟩
def bspec : List UInt8 := [39, 40, 41, 43, 95, 44, 45, 46, 47, 58, 61, 63, 32]
theorem bspec_eq (b : UInt8) : bspec.contains b = (punct b.toNat || b == 32) := by
  have h39 : (((b.toNat : Nat) : Int) == 39) = (b == 39) := byte_beq b 39
  have h40 : (((b.toNat : Nat) : Int) == 40) = (b == 40) := byte_beq b 40
  have h41 : (((b.toNat : Nat) : Int) == 41) = (b == 41) := byte_beq b 41
  have h43 : (((b.toNat : Nat) : Int) == 43) = (b == 43) := byte_beq b 43
  have h95 : (((b.toNat : Nat) : Int) == 95) = (b == 95) := byte_beq b 95
  have h44 : (((b.toNat : Nat) : Int) == 44) = (b == 44) := byte_beq b 44
  have h45 : (((b.toNat : Nat) : Int) == 45) = (b == 45) := byte_beq b 45
  have h46 : (((b.toNat : Nat) : Int) == 46) = (b == 46) := byte_beq b 46
  have h47 : (((b.toNat : Nat) : Int) == 47) = (b == 47) := byte_beq b 47
  have h58 : (((b.toNat : Nat) : Int) == 58) = (b == 58) := byte_beq b 58
  have h61 : (((b.toNat : Nat) : Int) == 61) = (b == 61) := byte_beq b 61
  have h63 : (((b.toNat : Nat) : Int) == 63) = (b == 63) := byte_beq b 63
  simp only [bspec, List.contains_cons, List.contains_nil, punct, h39, h40, h41, h43, h95, h44, h45, h46, h47, h58, h61, h63, Bool.or_false, Bool.or_assoc]
def okBd (l : List UInt8) : Bool := l.all bchar && decide (0 < l.length) && decide (l.length ≤ 70) && (l[l.length - 1]? != some 32)
theorem okBd_iff {l : List UInt8} (h : okBd l = true) : BdOk l := by
  simp only [okBd, Bool.and_eq_true, List.all_eq_true, decide_eq_true_eq, bne_iff_ne] at h
  exact ⟨h.1.1.1, h.1.1.2, h.1.2, h.2⟩
theorem boundary_ok {l : List UInt8} {H : Heap} (hl : l.length < 2 ^ 40) : CallsH Tryz.prog 9 #[strVal l] H fun x H' => x = .bool (okBd l) ∧ H' = H := by
  apply s9
  unfold c9
  refine ⟨fun n vs H' => ∃ i : Nat, vs = [.int .i64 i] ∧ n = l.length - i ∧ i ≤ l.length ∧ H' = H ∧ (l.take i).all bchar = true, ⟨_, 0, rfl, rfl, Nat.zero_le _, rfl, by simp⟩, ?_⟩
  rintro n vs H ⟨i, rfl, rfl, hi, rfl, hc⟩
  simp only [lenStr_of, Q0, Q1, Q2, Q3, Q4, Q5, Q6, Q7, Q8, Q9, Qa, Qb, Qc, Qd, Qe, Qf, Qg, Qh, Qi, Qj, Qk, Ql, Qm, Qn, Qo, Qp, Qq, Qr, Qs]
  by_cases hlt : i < l.length
  · have hd : decide ((i : Int) < (l.length : Int)) = true := by simp; exact hlt
    have hd2 : (l.take (i + 1)).all bchar = bchar l[i] := by
      rw [List.take_succ_eq_append_getElem hlt, List.all_append, hc]; simp
    have e1 : IntKind.i64.wrap ((i : Int) + 1) = ((i + 1 : Nat) : Int) := by rw [wrap_i64 (by omega) (by omega)]; omega
    simp only [hd, Q0, Q1, Q2, Q3, Q4, Q5, Q6, Q7, Q8, Q9, Qa, Qb, Qc, Qd, Qe, Qf, Qg, Qh, Qi, Qj, strIndex_of hlt, e1]
    refine ⟨fun vs H' => vs = [.bool (!bchar l[i])] ∧ H' = H, ?_, ?_⟩
    · rw [byteV]
      refine letter_ok.mono ?_
      rintro x H' ⟨rfl, rfl⟩
      simp only [Q0, Q1, Q2, Q3, Q4, Q5, Q6, Q7, Q8, Q9, Qa, Qb, Qc, Qd, Qe, Qf, Qg, Qh, Qi, Qj]
      refine Br_intro (fun h1 => ?_) (fun h1 => ?_)
      · refine (within_ok (l := bspec) (b := l[i]) (by decide)).mono ?_
        rintro x H' ⟨rfl, rfl⟩
        simp only [Q0, Q1, Q2, Q3, Q4, Q5, Q6, Q7, Q8, Q9, Qa, Qb, Qc, Qd, Qe, Qf, Qg, Qh, Qi, Qj, if_true, and_true]
        simp only [Bool.not_eq_true'] at h1
        rw [bspec_eq, bchar, h1, Bool.false_or]
      · simp only [Q0, Q1, Q2, Q3, Q4, Q5, Q6, Q7, Q8, Q9, Qa, Qb, Qc, Qd, Qe, Qf, Qg, Qh, Qi, Qj, Bool.false_eq_true, if_false, and_true]
        simp only [Bool.not_eq_false'] at h1
        rw [bchar, h1, Bool.true_or, Bool.true_or]; rfl
    · rintro _ H' ⟨rfl, rfl⟩
      simp only [Q0, Q1, Q2, Q3, Q4, Q5, Q6, Q7, Q8, Q9, Qa, Qb, Qc, Qd, Qe, Qf, Qg, Qh, Qi, Qj]
      refine Br_intro (fun h1 => ?_) (fun h1 => ?_)
      · refine ⟨?_, trivial⟩
        have : okBd l = false := by
          rw [← Bool.not_eq_true]
          intro hok
          have := (okBd_iff hok).chars _ (List.getElem_mem hlt)
          rw [this] at h1
          cases h1
        rw [this]
      · simp only [Bool.not_eq_false'] at h1
        exact ⟨_, by omega, i + 1, rfl, rfl, hlt, trivial, by rw [hd2, h1]⟩
  · have hd : decide ((i : Int) < (l.length : Int)) = false := by simp; omega
    simp only [hd, Q0, Q1, Q2, Q3, Q4, Q5, Q6, Q7, Q8, Q9, Qa, Qb, Qc, Qd, Qe, Qf, Qg, Qh, Qi, Qj]
    rw [List.take_of_length_le (by omega)] at hc
    refine ⟨fun vs H' => vs = [.bool (okBd l)] ∧ H' = H, ?_, ?_⟩
    · refine Br_intro (fun h1 => ?_) (fun h1 => ?_)
      · have h1' : 0 < l.length := by simpa using h1
        simp only [Q0, Q1, Q2, Q3, Q4, Q5, Q6, Q7, Q8, Q9, Qa, Qb, Qc, Qd, Qe, Qf, Qg, Qh, Qi, Qj, if_true]
        refine Br_intro (fun h2 => ?_) (fun h2 => ?_)
        · have h2' : l.length ≤ 70 := by simp at h2; omega
          have e2 : IntKind.i64.wrap ((l.length : Int) - 1) = ((l.length - 1 : Nat) : Int) := by rw [wrap_i64 (by omega) (by omega)]; omega
          simp only [e2, strIndex_of (show l.length - 1 < l.length by omega), Q0, Q1, Q2, Q3, Q4, Q5, Q6, Q7, Q8, Q9, Qa, Qb, Qc, Qd, Qe, Qf, Qg, Qh, Qi, Qj, byteV, Qk, Ql, Qm, Qn, Qo, Qp, Qq, Qr, Qs, if_true, and_true, List.cons.injEq, Value.bool.injEq]
          have e3 : (((l[l.length - 1]'(by omega)).toNat : Int) == 32) = ((l[l.length - 1]'(by omega)) == 32) := byte_beq _ 32
          rw [okBd, hc, List.getElem?_eq_getElem (by omega : l.length - 1 < l.length)]
          simp only [h1', h2', decide_true, Bool.true_and, bne, e3]
          rfl
        · have h2' : ¬ l.length ≤ 70 := by simp at h2; omega
          simp [okBd, h2']
      · have h1' : l.length = 0 := by simp only [decide_eq_false_iff_not] at h1; omega
        simp only [Q0, Q1, Q2, Q3, Q4, Q5, Q6, Q7, Q8, Q9, Qa, Qb, Qc, Qd, Qe, Qf, Qg, Qh, Qi, Qj, Bool.false_eq_true, if_false]
        simp [okBd, h1']
    · rintro _ H' ⟨rfl, rfl⟩
      simp only [Q0, Q1, Q2, Q3, Q4, Q5, Q6, Q7, Q8, Q9, Qa, Qb, Qc, Qd, Qe, Qf, Qg, Qh, Qi, Qj, and_self]
theorem bd_no_nl {l : List UInt8} (h : BdOk l) : 10 ∉ l := by
  intro hm
  have := h.chars 10 hm
  simp [bchar, alnum, punct] at this
end Go.Cps
namespace Go.Cps
open Go Go.Proofs
theorem readHeader_ok {S : Stk} {s : St} {H : Heap} {tr : Nat} {ls : List (List UInt8 × List UInt8)} {q : List UInt8} (ht : TR S tr (.slice none 0 0) H) (htr : tr ∉ S.ids) (h : RdAt S s H) (h4 : Full4 H) (h40 : 4 ∉ S.ids ∧ 4 ≠ tr) (hvt : blk S.v ≠ some tr) (htr0 : tr ≠ 0) (hvs : ∀ x, blk S.v = some x → x < H.size) (hct : S.tbf = 5)
    (hr : s.rest S = linesText ls ++ 13 :: 10 :: q) (hls : ∀ kv ∈ ls, LineOk kv) (hn : ls.length ≤ 110) :
    CallsH Tryz.prog 164 #[.pointer (some ⟨tr, 0, none⟩), .int .i64 10485760, .int .i64 10000] H fun x H' => ∃ m N E s', x = .tuple #[.map (some m), .nilIface] ∧ Ents H' m N E ∧ E.map Ent.hd = hdrOf ls ∧ RdAt S s' H' ∧ s'.rest S = q ∧ Frm (tr :: S.ids) H H' ∧ (∀ x ∈ Ents.blks m E, H.size ≤ x) := by
  have d0 : decide ((10485760 : Int) < 0) = false := by decide
  have htl := lt_of_some ht
  have hidl := h.ids_lt
  have h4l : 4 < H.size := by obtain ⟨tt, v, t, f, h0⟩ := h4; exact lt_of_some h0
  apply s164
  simp only [c164, Qk, Ql, Qm, Qn, Qo, Qp, Qq, Qr, Qs, Q0, Q1, Q2, Q3, Q4, Q5, Q6, Q7, Q8, Q9, Qa, Qb, Qc, Qd, Qe, Qf, Qg, Qh, Qi, Qj, d0]
  refine (upcoming_ok ht htr h).mono ?_
  rintro x H1 ⟨n0, s1, rfl, hn0, h1, hr1, f1⟩
  have ht1 : TR S tr (.slice none 0 0) H1 := f1.get ht htr
  have h41 : Full4 H1 := by obtain ⟨tt, v, t, f, h0⟩ := h4; exact ⟨tt, v, t, f, f1.get h0 h40.1⟩
  refine ⟨fun vs H2 => ∃ (st : Value) (n : Nat) (sb : Option Nat), vs = [st, .int .i64 n] ∧ n ≤ 1000 ∧ Left H2 [] st n sb ∧ Frm [] H1 H2 ∧ ∀ b, sb = some b → H1.size ≤ b ∧ b < H2.size, ?_, ?_⟩
  · simp only [Qk, Ql, Qm, Qn, Qo, Qp, Qq, Qr, Qs, Q0, Q1, Q2, Q3, Q4, Q5, Q6, Q7, Q8, Q9, Qa, Qb, Qc, Qd, Qe, Qf, Qg, Qh, Qi, Qj]
    refine Br_intro (fun hh => ?_) (fun hh => ?_)
    · refine Join_direct ?_
      have d1 : decide ((n0 : Int) > 1000) = false := by simp; omega
      simp only [Qk, Ql, Qm, Qn, Qo, Qp, Qq, Qr, Qs, Q0, Q1, Q2, Q3, Q4, Q5, Q6, Q7, Q8, Q9, Qa, Qb, Qc, Qd, Qe, Qf, Qg, Qh, Qi, Qj, d1]
      refine makeStrs_of hn0 fun H2 f2 z2 hcl => ?_
      obtain ⟨cells, hc, hcs⟩ := hcl
      refine ⟨_, n0, some H1.size, rfl, hn0, ⟨_, rfl, .inr ⟨H1.size, 0, rfl, rfl, ⟨cells, hc, by omega⟩, by simp⟩⟩, f2, ?_⟩
      intro b hb; cases hb; omega
    · have hz : n0 = 0 := by simp at hh; omega
      subst hz
      exact ⟨_, 0, none, rfl, by omega, ⟨none, rfl, .inl rfl⟩, Frm.refl _ _, by simp⟩
  rintro _ H2 ⟨st, n, sb, rfl, hn2, hL2, f2, hsb2⟩
  simp only [Q0, Q1, Q2, Q3, Q4, Q5, Q6, Q7, Q8, Q9, Qa, Qb, Qc, Qd, Qe, Qf, Qg, Qh, Qi, Qj, NewMapH]
  have f3 : Frm [] H2 (H2.push (.map #[] 0)) := Frm.push _ _ _
  have hm3 := mapAt_new H2
  have z3 : (H2.push (.map #[] 0)).size = H2.size + 1 := by simp
  generalize H2.push (.map #[] 0) = H3 at *
  have f13 : Frm [] H1 H3 := f2.trans f3
  have h3 : RdAt S s1 H3 := h1.frm f13 (by simp) (by simp) (by simp)
  have ht3 : TR S tr (.slice none 0 0) H3 := f13.get ht1 (by simp)
  obtain ⟨c0, r0, hc0, hlw, hc32, hc9⟩ := behind_head ls q hls
  have hrest1 : s1.rest S = c0 :: r0 := by rw [hr1, hr, hc0]
  simp only [Q0, Q1, Q2, Q3, Q4, Q5, Q6, Q7, Q8, Q9, Qa, Qb, Qc, Qd, Qe, Qf, Qg, Qh, Qi, Qj, cellH_of ht3]
  refine (peek_ok h3 (n := 1) (by omega)).mono ?_
  rintro x H4 ⟨u, s4, rfl, hpk⟩
  have hlt1 : ¬ (s1.rest S).length < 1 := by rw [hrest1]; simp
  have hub := hpk.bytes
  rw [hrest1] at hub
  have hub' : IsBytes H4 u [c0] := by simpa using hub
  obtain ⟨a0, ha0, hca0⟩ := elem_at hub' (i := 0) (by simp) (by simp)
  rw [show ((0 : Nat) : Int) = 0 from rfl] at ha0
  simp only [Q0, Q1, Q2, Q3, Q4, Q5, Q6, Q7, Q8, Q9, Qa, Qb, Qc, Qd, Qe, Qf, Qg, Qh, Qi, Qj, decide_eq_false hlt1]
  refine ⟨fun vs H' => vs = [.bool false] ∧ H' = H4, ?_, ?_⟩
  · have e1 : nilV2 .eql .nilIface (S.er false) = some (.bool true) := rfl
    have hb32 : (((c0.toNat : Nat) : Int) == 32) = false := by
      have := byte_beq c0 32
      rw [show ((32 : UInt8).toNat : Int) = 32 from rfl] at this
      rw [this]; simpa using hc32
    have hb9 : (((c0.toNat : Nat) : Int) == 9) = false := by
      have := byte_beq c0 9
      rw [show ((9 : UInt8).toNat : Int) = 9 from rfl] at this
      rw [this]; simpa using hc9
    simp only [e1, Q0, Q1, Q2, Q3, Q4, Q5, Q6, Q7, Q8, Q9, Qa, Qb, Qc, Qd, Qe, Qf, Qg, Qh, Qi, Qj, ha0, hca0, List.getElem_cons_zero, byteV, Qk, Ql, Qm, Qn, Qo, Qp, Qq, Qr, Qs, hb32, hb9, Bool.false_eq_true, if_false, if_true, and_self]
  rintro _ H4 ⟨rfl, rfl⟩
  simp only [Q0, Q1, Q2, Q3, Q4, Q5, Q6, Q7, Q8, Q9, Qa, Qb, Qc, Qd, Qe, Qf, Qg, Qh, Qi, Qj]
  have f4 := hpk.frm
  have hsz3 : H.size ≤ H1.size := f1.size
  have hsz13 := f13.size
  have hsz4 := f4.size
  have hm4 : MapAt H4 H2.size [] := hm3.frm f4 (fun hm => by have := hidl _ hm; have := f2.size; omega)
  have hL4 : Left H4 [] st n sb := (hL2.frm f3 (by simp)).frm f4 (fun b hb hm => by have := hidl _ hm; have := (hsb2 b hb).1; omega)
  have ht4 : TR S tr (.slice none 0 0) H4 := f4.get ht3 htr
  have f14 : Frm (tr :: S.ids) H H4 := ((f1.mono (fun x hx => by simp [hx])).trans (f13.mono (by simp))).trans (f4.mono (fun x hx => by simp [hx]))
  refine ⟨fun μ vs H5 => ∃ done todo k st n sb E s5 mem, ls = done ++ todo ∧ μ = todo.length ∧ vs = [.int .i64 mem, .int .i64 (10000 - (done.length : Int)), st] ∧ 10485760 - 1300 * (done.length : Int) ≤ mem ∧ mem ≤ 10485760 ∧ HdAt S tr H.size H5 H2.size done.length E k st n sb s5 ∧ s5.rest S = linesText todo ++ 13 :: 10 :: q ∧ E.map Ent.hd = hdrOf done ∧ Frm (tr :: S.ids) H H5,
    ⟨_, [], ls, none, st, n, sb, [], s4, 10485760, rfl, rfl, by simp, by simp, by simp, ?_, by rw [hpk.rest, hr1, hr], rfl, f14⟩, ?_⟩
  · refine { rd := hpk.rd, tr_ := ⟨_, ht4, rfl⟩, ents := ⟨hm4, by simp, List.Pairwise.nil, by simp⟩, left := hL4, full := ?_, base := f14.size, trB := htl, idB := hidl, vB := hvs, blkB := ?_, sbB := ?_, kB := by simp, htr := htr, hvt := hvt, tr0 := htr0, four := ⟨h40.1, h40.2, h4l⟩ }
    · obtain ⟨tt, v, t, f, h0⟩ := h41
      exact ⟨tt, v, t, f, f4.get (f13.get h0 (by simp)) h40.1⟩
    · intro x hx
      simp only [Ents.blks, List.map_nil, List.mem_singleton] at hx
      subst hx
      exact ⟨by have := f2.size; omega, by simp⟩
    · intro b hb
      have h5 := hsb2 b hb
      exact ⟨by omega, by omega, by simp, by omega⟩
  rintro μ vs H5 ⟨done, todo, k, st, n, sb, E, s5, mem, hdt, rfl, rfl, hmem1, hmem2, hD, hr5, hhd, f5⟩
  clear hL4 hm4 ht4 hub hub' hca0 ha0 hL2 hsb2 hm3 ht3 ht1 h3 h1 hpk f14 f4 f13 f2 f3 f1 z3 hsz13 hsz4 hsz3
  have hdl : done.length + todo.length = ls.length := by rw [hdt]; simp
  obtain ⟨tbuf, ht5, ho5⟩ := hD.tr_
  cases todo with
  | nil =>
    simp only [Q0, Q1, Q2, Q3, Q4, Q5, Q6, Q7, Q8, Q9, Qa, Qb, Qc, Qd, Qe, Qf, Qg, Qh, Qi, Qj]
    refine (contBlank_ok (lim := mem) ht5 hD.rd hD.full hD.four.1 hr5 (by simp at hdl; omega)).mono ?_
    rintro x H6 ⟨u, s6, rfl, h6, hu, hr6, f6, z6⟩
    have e0 : (((0 : Nat) : Int) == 0) = true := by decide
    simp only [Q0, Q1, Q2, Q3, Q4, Q5, Q6, Q7, Q8, Q9, Qa, Qb, Qc, Qd, Qe, Qf, Qg, Qh, Qi, Qj, Qk, Ql, Qm, Qn, Qo, Qp, Qq, Qr, Qs, hu.len, List.length_nil, e0]
    obtain ⟨hE6, _⟩ := hD.ents_frm f6 (fun x hx => .inl (hD.idB x hx))
    refine ⟨H2.size, done.length, E, s6, rfl, hE6, ?_, h6, hr6, f5.trans (f6.mono (fun x hx => by simp [hx])), fun x hx => (hD.blkB x hx).1⟩
    rw [hhd, hdt, List.append_nil]
  | cons kv todo =>
    have hkv : LineOk kv := hls kv (by rw [hdt]; simp)
    obtain ⟨c1, r1, hc1, hlw1, _, _⟩ := behind_head todo q (fun kv' hh => hls kv' (by rw [hdt]; simp [hh]))
    have hr5' : s5.rest S = lineOf kv ++ 13 :: 10 :: c1 :: r1 := by
      rw [hr5, ← hc1]; simp [linesText]
    have hlen := hkv.len
    have hlol : (lineOf kv).length = kv.1.length + kv.2.length + 2 := by simp [lineOf]; omega
    simp only [List.length_cons] at hdl
    have hlim : (10000 : Int) ≤ mem := by omega
    simp only [Q0, Q1, Q2, Q3, Q4, Q5, Q6, Q7, Q8, Q9, Qa, Qb, Qc, Qd, Qe, Qf, Qg, Qh, Qi, Qj]
    refine (contLine_ok (k := k) (p := lineOf kv) (c := c1) (q := r1) ht5 ho5 hD.htr (fun g hg hm => ?_) hD.rd hD.full hD.four.1 hD.hvt (fun g hg hv => ?_) hD.tr0 (fun g hg => ?_) hr5' hkv.no_nl (by omega) (by simp [lineOf]) hlw1 hlim (by omega)).mono ?_
    · have := (hD.kB g hg).1
      rcases List.mem_cons.1 hm with rfl | hm
      · have := hD.trB; omega
      · have := hD.idB g hm; omega
    · have := (hD.kB g hg).1
      have := hD.vB g hv
      omega
    · have := (hD.kB g hg).1
      omega
    rintro x H6 ⟨u, s6, k', rfl, hc6, f6, hk'⟩
    obtain ⟨hE6, hL6⟩ := hD.ents_frm f6 (fun x hx => by
      simp only [List.cons_append, List.mem_cons, List.mem_append, Option.mem_toList] at hx
      rcases hx with rfl | hx | hx
      · exact .inl hD.trB
      · exact .inr (.inl hx)
      · exact .inl (hD.idB x hx))
    have hb6 := hc6.bytes
    rw [trimB_line hkv] at hb6
    have hne6 : ((((kv.1 ++ 58 :: valTail kv.2).length : Nat) : Int) == 0) = false := by rw [beq_eq_false_iff_ne]; simp; omega
    simp only [Q0, Q1, Q2, Q3, Q4, Q5, Q6, Q7, Q8, Q9, Qa, Qb, Qc, Qd, Qe, Qf, Qg, Qh, Qi, Qj, Qk, Ql, Qm, Qn, Qo, Qp, Qq, Qr, Qs, hb6.len, hne6]
    rw [trimB_line hkv] at hc6
    have hsz56 := f6.size
    have hbase := hD.base
    have hkB6 : ∀ g, k' = some g → H.size ≤ g ∧ g < H6.size := by
      intro g hg
      obtain ⟨tb, _, hoe⟩ := hc6.tr_
      rw [hg] at hoe
      obtain ⟨_, cells, _, hgc, _⟩ := hoe
      refine ⟨?_, lt_of_some hgc⟩
      rcases hk' with e | ⟨g', e, hge⟩
      · exact (hD.kB g (by rw [← e, hg])).1
      · rw [hg] at e; cases e; omega
    have hblk6 : ∀ x ∈ Ents.blks H2.size E, H.size ≤ x ∧ k' ≠ some x := by
      intro x hx
      refine ⟨(hD.blkB x hx).1, fun e => ?_⟩
      rcases hk' with e2 | ⟨g', e2, hge⟩
      · exact (hD.blkB x hx).2 (by rw [← e2, e])
      · rw [e] at e2; cases e2
        have := hD.ents.lt x hx
        omega
    have hsb6 : ∀ b, sb = some b → H.size ≤ b ∧ b < H6.size ∧ k' ≠ some b ∧ b ≠ H2.size := by
      intro b hb
      obtain ⟨g1, g2, g3, g4⟩ := hD.sbB b hb
      refine ⟨g1, by omega, fun e => ?_, g4⟩
      rcases hk' with e2 | ⟨g', e2, hge⟩
      · exact g3 (by rw [← e2, e])
      · rw [e] at e2; cases e2
        omega
    have hfull6 : Full4 H6 := by
      obtain ⟨tt, v, t, f, h0⟩ := hD.full
      refine ⟨tt, v, t, f, f6.get h0 (fun hm => ?_)⟩
      simp only [List.cons_append, List.mem_cons, List.mem_append, Option.mem_toList] at hm
      rcases hm with hm | hm | hm
      · exact hD.four.2.1 hm
      · have := (hD.kB 4 hm).1; have := hD.four.2.2; omega
      · exact hD.four.1 hm
    have hD6 : ∀ {H7 : Heap} {s7 : St} {tb : Value} {X : List Nat}, RdAt S s7 H7 → TR S tr tb H7 → OwnE H7 k' tb → Frm X H6 H7 → (∀ x ∈ X, x < H.size ∧ x ∉ [4] ∨ k' = some x) → HdAt S tr H.size H7 H2.size done.length E k' st n sb s7 := by
      intro H7 s7 tb X a1 a2 a3 a4 a5
      have hX : ∀ x ∈ X, x < H.size ∨ k' = some x := fun x hx => by
        rcases a5 x hx with h | h
        · exact .inl h.1
        · exact .inr h
      refine { rd := a1, tr_ := ⟨tb, a2, a3⟩, ents := hE6.frm a4 ?_, left := hL6.frm a4 ?_, full := ?_, base := by have := a4.size; omega, trB := hD.trB, idB := hD.idB, vB := hD.vB, blkB := hblk6, sbB := fun b hb => ?_, kB := fun g hg => ?_, htr := hD.htr, hvt := hD.hvt, tr0 := hD.tr0, four := hD.four }
      · intro x hx hm
        obtain ⟨g1, g2⟩ := hblk6 x hx
        rcases hX x hm with h | h
        · omega
        · exact g2 h
      · intro b hb hm
        obtain ⟨g1, g2, g3, _⟩ := hsb6 b hb
        rcases hX b hm with h | h
        · omega
        · exact g3 h
      · obtain ⟨tt, v, t, f, h0⟩ := hfull6
        refine ⟨tt, v, t, f, a4.get h0 (fun hm => ?_)⟩
        rcases a5 4 hm with h | h
        · exact h.2 (by simp)
        · have := (hkB6 4 h).1; have := hD.four.2.2; omega
      · obtain ⟨g1, g2, g3, g4⟩ := hsb6 b hb
        exact ⟨g1, by have := a4.size; omega, g3, g4⟩
      · obtain ⟨g1, g2⟩ := hkB6 g hg
        exact ⟨g1, by have := a4.size; omega⟩
    have hvl := valTail_len kv.2
    refine keyCut_ok hc6 hD.htr (fun g hg => ?_) hkv.key hkv.toks (by omega) hct fun z s7 H7 h7 hr7 hz7 ht7 hbz f7 => ?_
    · obtain ⟨g1, g2⟩ := hkB6 g hg
      refine ⟨fun hm => ?_, fun hv => ?_, ?_⟩
      · rcases List.mem_cons.1 hm with rfl | hm
        · have := hD.trB; omega
        · have := hD.idB g hm; omega
      · have := hD.vB g hv; omega
      · omega
    obtain ⟨tb7, ht7, ho7⟩ := ht7
    have hD7 : HdAt S tr H.size H7 H2.size done.length E k' st n sb s7 := hD6 h7 ht7 ho7 f7 (fun x hx => by
      simp only [List.mem_append, Option.mem_toList] at hx
      rcases hx with hx | hx
      · exact .inr hx
      · exact .inl ⟨hD.idB x hx, fun e => by rw [List.mem_singleton] at e; exact hD.four.1 (by rw [← e]; exact hx)⟩)
    refine valLoop_ok hz7 (valTail_print hkv.val) (by omega) ?_
    have em : IntKind.i64.wrap (10000 - (done.length : Int) - 1) = 10000 - ((done.length + 1 : Nat) : Int) := by rw [wrap_i64 (by omega) (by omega)]; omega
    have dm : decide ((10000 - ((done.length + 1 : Nat) : Int)) < 0) = false := by simp; omega
    simp only [Qk, Ql, Qm, Qn, Qo, Qp, Qq, Qr, Qs, Q0, Q1, Q2, Q3, Q4, Q5, Q6, Q7, Q8, Q9, Qa, Qb, Qc, Qd, Qe, Qf, Qg, Qh, Qi, Qj, em, dm]
    refine (trimLeft_ok hz7 (fun x hx => ?_) (by omega)).mono ?_
    · rcases hbz with e | e
      · rw [hx] at e
        cases e
        exact lt_of_some h7.hbf
      · rw [hx] at e
        exact (hD7.kB x e.symm).2
    rintro y H8 ⟨hy, f8⟩
    rw [valTail_drop hkv.val] at hy
    obtain ⟨hE8, hL8⟩ := hD7.ents_frm f8 (by simp)
    have h8 : RdAt S s7 H8 := h7.frm f8 (by simp) (by simp) (by simp)
    have ht8 : TR S tr tb7 H8 := f8.get ht7 (by simp)
    have ho8 := ho7.frm f8 (by simp)
    have estr : Value.string ⟨kv.2.toArray⟩ = strVal kv.2 := rfl
    simp only [hy.str, Q6, estr]
    rw [lookup_of und106 hE8.map]
    have hsz8 := f8.size
    have hsz7 := f7.size
    have step : ∀ {H9 : Heap} {E' : List Ent} {st' : Value} {n' : Nat} {X : List Nat}, Ents H9 H2.size (done.length + 1) E' → Left H9 E' st' n' sb → Frm X H8 H9 → (∀ x ∈ X, x ∈ Ents.blks H2.size E ∨ sb = some x) → (∀ x ∈ Ents.blks H2.size E', x ∈ Ents.blks H2.size E ∨ sb = some x ∨ H8.size ≤ x) →
        HdAt S tr H.size H9 H2.size (done.length + 1) E' k' st' n' sb s7 ∧ Frm (tr :: S.ids) H H9 := by
      intro H9 E' st' n' X a1 a2 a3 a4 a5
      have hXB : ∀ x ∈ X, H.size ≤ x ∧ k' ≠ some x := fun x hx => by
        rcases a4 x hx with h | h
        · exact hblk6 x h
        · exact ⟨(hsb6 x h).1, (hsb6 x h).2.2.1⟩
      have hnX : ∀ x, x < H.size → x ∉ X := fun x hx hm => by have := (hXB x hm).1; omega
      refine ⟨{ rd := h8.frm a3 (fun x hx => hnX x (hD.idB x hx)) (fun x hx => hnX x (hD.vB x hx)) (hnX 0 (by omega)), tr_ := ⟨tb7, a3.get ht8 (hnX _ hD.trB), ho8.frm a3 (fun g hg hm => (hXB g hm).2 hg)⟩, ents := a1, left := a2, full := ?_, base := by have := a3.size; omega, trB := hD.trB, idB := hD.idB, vB := hD.vB, blkB := fun x hx => ?_, sbB := fun b hb => ?_, kB := fun g hg => ?_, htr := hD.htr, hvt := hD.hvt, tr0 := hD.tr0, four := hD.four }, ?_⟩
      · obtain ⟨tt, v, t, f, h0⟩ := hD7.full
        exact ⟨tt, v, t, f, a3.get (f8.get h0 (by simp)) (hnX 4 hD.four.2.2)⟩
      · rcases a5 x hx with h | h | h
        · exact hblk6 x h
        · exact ⟨(hsb6 x h).1, (hsb6 x h).2.2.1⟩
        · refine ⟨by omega, fun e => ?_⟩
          have := (hkB6 x e).2
          omega
      · obtain ⟨g1, g2, g3, g4⟩ := hsb6 b hb
        exact ⟨g1, by have := a3.size; omega, g3, g4⟩
      · obtain ⟨g1, g2⟩ := hkB6 g hg
        exact ⟨g1, by have := a3.size; omega⟩
      · refine (((f5.up f6 (fun x hx => ?_)).up f7 (fun x hx => ?_)).up f8 (by simp)).up a3 (fun x hx => .inr (hXB x hx).1)
        · simp only [List.cons_append, List.mem_cons, List.mem_append, Option.mem_toList] at hx ⊢
          rcases hx with hx | hx | hx
          · exact .inl (.inl hx)
          · exact .inr (hD.kB x hx).1
          · exact .inl (.inr hx)
        · simp only [List.mem_append, Option.mem_toList, List.mem_cons] at hx ⊢
          rcases hx with hx | hx
          · exact .inr (hkB6 x hx).1
          · exact .inl (.inr hx)
    have hnx : nilV2 .eql (.slice none 0 0) ((getE (canonG true kv.1) (E.map Ent.pair)).getD (.slice none 0 0)) = some (.bool (getE (canonG true kv.1) (E.map Ent.pair)).isNone) := by
      cases hg : getE (canonG true kv.1) (E.map Ent.pair) with
      | none => rfl
      | some u =>
        obtain ⟨A, e, B, _, _, rfl, _, _⟩ := getE_some hg
        rfl
    have hcl := canonG_length true kv.1
    refine ⟨fun vs H' => H' = H8 ∧ ∃ mem2 : Int, vs = [.int .i64 mem2] ∧ mem - 1201 ≤ mem2 - (kv.1.length : Int) * 0 ∧ mem2 ≤ mem ∧ mem - 200 - (kv.1.length : Int) ≤ mem2, ?_, ?_⟩
    · simp only [hnx, Q0, Q1, Q2, Q3, Q4, Q5, Q6, Q7, Q8, Q9, Qa, Qb, Qc, Qd, Qe, Qf, Qg, Qh, Qi, Qj]
      refine Br_intro (fun hh => ?_) (fun hh => ?_)
      · have e1 : IntKind.i64.wrap (mem - ((kv.1.length : Nat) : Int)) = mem - (kv.1.length : Int) := wrap_i64 (by omega) (by omega)
        have e2 : IntKind.i64.wrap (mem - (kv.1.length : Int) - 200) = mem - (kv.1.length : Int) - 200 := wrap_i64 (by omega) (by omega)
        simp only [lenStr_of, hcl, Q0, Q1, Q2, Q3, Q4, Q5, Q6, Q7, Q8, Q9, Qa, Qb, Qc, Qd, Qe, Qf, Qg, Qh, Qi, Qj, Qk, Ql, Qm, Qn, Qo, Qp, Qq, Qr, Qs, e1, e2]
        exact ⟨trivial, _, rfl, by omega, by omega, by omega⟩
      · exact ⟨trivial, _, rfl, by omega, by omega, by omega⟩
    rintro _ H8 ⟨rfl, mem2, rfl, _, hm1, hm2⟩
    have e3 : IntKind.i64.wrap (mem2 - ((kv.2.length : Nat) : Int)) = mem2 - (kv.2.length : Int) := wrap_i64 (by omega) (by omega)
    have d3 : decide (mem2 - (kv.2.length : Int) < 0) = false := by simp; omega
    simp only [lenStr_of, Q0, Q1, Q2, Q3, Q4, Q5, Q6, Q7, Q8, Q9, Qa, Qb, Qc, Qd, Qe, Qf, Qg, Qh, Qi, Qj, Qk, Ql, Qm, Qn, Qo, Qp, Qq, Qr, Qs, e3, d3]
    refine ⟨fun vs H9 => ∃ st' n' E', vs = [st'] ∧ HdAt S tr H.size H9 H2.size (done.length + 1) E' k' st' n' sb s7 ∧ Frm (tr :: S.ids) H H9 ∧ E'.map Ent.hd = addH (canonG true kv.1) kv.2 (E.map Ent.hd), ?_, ?_⟩
    · refine Join_direct ?_
      simp only [hnx, Q0, Q1, Q2, Q3, Q4, Q5, Q6, Q7, Q8, Q9, Qa, Qb, Qc, Qd, Qe, Qf, Qg, Qh, Qi, Qj]
      obtain ⟨a8, rfl, hl8⟩ := hL8
      have hL8 : Left H8 E (.slice a8 n n) n sb := ⟨a8, rfl, hl8⟩
      have happ : ∀ {K : Heap → Prop}, (∀ E' H', Ents H' H2.size (done.length + 1) E' → E'.map Ent.hd = addH (canonG true kv.1) kv.2 (E.map Ent.hd) → Left H' E' (.slice a8 n n) n sb → Frm (Ents.blks H2.size E) H8 H' → (∀ x ∈ Ents.blks H2.size E', x ∈ Ents.blks H2.size E ∨ H8.size ≤ x) → K H') → _ := fun {K} => appStr_ok (K := K) hE8 hL8 (fun b hb => by have := (hsb6 b hb).2.1; omega) (by omega)
      refine Br_intro (fun hh => ?_) (fun hh => ?_)
      · simp only [Q0, Q1, Q2, Q3, Q4, Q5, Q6, Q7, Q8, Q9, Qa, Qb, Qc, Qd, Qe, Qf, Qg, Qh, Qi, Qj, Qk, Ql, Qm, Qn, Qo, Qp, Qq, Qr, Qs, if_true]
        refine Br_intro (fun hn0 => ?_) (fun hn0 => ?_)
        · refine cutStr_ok hE8 hL8 (by simp at hn0; omega) (by simpa using hh) (fun e => (hsb6 _ e).2.2.2 rfl) fun E' st' H9 g1 g2 g3 g4 g5 g6 => ?_
          obtain ⟨q1, q2⟩ := step g1 g3 g4 (fun x hx => by
            rcases List.mem_cons.1 hx with rfl | hx
            · exact .inl (by simp [Ents.blks])
            · exact .inr (by simpa using hx)) (fun x hx => by
            rcases g6 x hx with h | h
            · exact .inl h
            · exact .inr (.inl h))
          exact ⟨st', n - 1, E', rfl, q1, q2, g2⟩
        · refine happ fun E' H9 g1 g2 g3 g4 g6 => ?_
          obtain ⟨q1, q2⟩ := step g1 g3 g4 (fun x hx => .inl hx) (fun x hx => by
            rcases g6 x hx with h | h
            · exact .inl h
            · exact .inr (.inr h))
          exact ⟨_, n, E', rfl, q1, q2, g2⟩
      · simp only [Q0, Q1, Q2, Q3, Q4, Q5, Q6, Q7, Q8, Q9, Qa, Qb, Qc, Qd, Qe, Qf, Qg, Qh, Qi, Qj, Qk, Ql, Qm, Qn, Qo, Qp, Qq, Qr, Qs, Bool.false_eq_true, if_false]
        refine happ fun E' H9 g1 g2 g3 g4 g6 => ?_
        obtain ⟨q1, q2⟩ := step g1 g3 g4 (fun x hx => .inl hx) (fun x hx => by
          rcases g6 x hx with h | h
          · exact .inl h
          · exact .inr (.inr h))
        exact ⟨_, n, E', rfl, q1, q2, g2⟩
    rintro _ H9 ⟨st', n', E', rfl, hD9, f9, hhd9⟩
    simp only [nilV2_neq_nil, Q0, Q1, Q2, Q3, Q4, Q5, Q6, Q7, Q8, Q9, Qa, Qb, Qc, Qd, Qe, Qf, Qg, Qh, Qi, Qj]
    refine ⟨todo.length, by simp, done ++ [kv], todo, k', st', n', sb, E', s7, mem2 - (kv.2.length : Int), by rw [hdt]; simp, rfl, ?_, ?_, by omega, ?_, ?_, ?_, f9⟩
    · simp
    · simp; omega
    · simpa using hD9
    · rw [hr7, ← hc1]
    · rw [hhd9, hhd, hdrOf, hdrOf, hdrFrom_snoc]
end Go.Cps
